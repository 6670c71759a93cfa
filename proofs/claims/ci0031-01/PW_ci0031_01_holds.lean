import PyProof.Rows.All
import Wide.All
import OpenK.AllK
import Wide.FinOn
import KE.KOpsOwn
import KE.KDictLaws
import KE.KTryDeepN
import KE.KRevIter
import KE.KNestM
import KE.KxAffix
import Lean
import PySem.Challenge.RW_ci0031_01
/- ci0031-01. The texts of the proof, one after the other: N1..N8 a model whose delegating yields bear no cleanup mark, and why it may stand for the given one; M the walks of the plain functions; N9..NS rec, iter_match and their readers; NT..NW the plain law; NX..O9 the law's walk; P the end. -/
section
open PySem
set_option Elab.async false
set_option maxRecDepth 100000
set_option maxHeartbeats 2000000
namespace Mine
/-- what a delegating turn stands on -/
def yfIt : Code → Option Value
  | .builtin id ⟨it :: _, _⟩ => if id = "proto.yield_from" then some it else none
  | _ => none
def chk (it : Value) (t : Sem Fin) : Sem Fin := match it with
  | .ref a => .load a none fun o => if o.genNumber?.isSome = true then t else .unsupported "delegate"
  | _ => .unsupported "delegate"
/-- the same tree, its yields without the cleanup mark -/
def calmT (it : Value) : Sem Fin → Sem Fin
  | .pure a => .pure a
  | .raise e => .raise e
  | .unsupported w => .unsupported w
  | .finish e => .finish e
  | .rule t k => .rule t fun x => calmT it (k x)
  | .at p k => .at p fun x => calmT it (k x)
  | .load a p k => .load a p fun x => calmT it (k x)
  | .update a p f k => .update a p f fun x => calmT it (k x)
  | .alloc o k => .alloc o fun x => calmT it (k x)
  | .loadIfAlive a k => .loadIfAlive a fun x => calmT it (k x)
  | .point l k => .point l fun x => calmT it (k x)
  | .register a k => .register a fun x => calmT it (k x)
  | .fresh k => .fresh fun x => calmT it (k x)
  | .ask k => .ask fun x => calmT it (k x)
  | .choose s n k => .choose s n fun x => calmT it (k x)
  | .os q l k => .os q l fun x => calmT it (k x)
  | .call c m g l k => .call c m g l fun x => calmT it (k x)
  | .handled o k => .handled o fun x => calmT it (k x)
  | .newGen c k => .newGen c fun x => calmT it (k x)
  | .genState g k => .genState g fun x => calmT it (k x)
  | .resume g r l k => .resume g r l fun x => calmT it (k x)
  | .yield v g l k => if g = true then chk it (.yield v false l fun x => calmT it (k x)) else .yield v g l fun x => calmT it (k x)
  | .stack k => .stack fun x => calmT it (k x)
  | .fork c k => .fork c fun x => calmT it (k x)
  | .thread k => .thread fun x => calmT it (k x)
  | .await a t d l k => .await a t d l fun x => calmT it (k x)
def EE (c : Code) (t : Sem Fin) : Sem Fin := match yfIt c with
  | some it => calmT it t
  | none => t
def TR (c : Code) (t t' : Sem Fin) : Prop := t' = t ∨ t' = EE c t
theorem TR.refl (c : Code) (t : Sem Fin) : TR c t t := .inl rfl
theorem EE_some {c : Code} {it : Value} (h : yfIt c = some it) (t : Sem Fin) : EE c t = calmT it t := by unfold EE; rw [h]
theorem EE_none {c : Code} (h : yfIt c = none) (t : Sem Fin) : EE c t = t := by unfold EE; rw [h]
section
variable {c : Code} {t' : Sem Fin}
theorem TR.pure {a : Fin} (h : TR c (.pure a) t') : t' = .pure a := by
  rcases h with rfl | rfl
  · rfl
  · cases q : yfIt c with
    | none => rw [EE_none q]
    | some it => rw [EE_some q]; rfl
theorem TR.raise {a : Value} (h : TR c (.raise a) t') : t' = .raise a := by
  rcases h with rfl | rfl
  · rfl
  · cases q : yfIt c with
    | none => rw [EE_none q]
    | some it => rw [EE_some q]; rfl
theorem TR.unsupported {a : String} (h : TR c (.unsupported a) t') : t' = .unsupported a := by
  rcases h with rfl | rfl
  · rfl
  · cases q : yfIt c with
    | none => rw [EE_none q]
    | some it => rw [EE_some q]; rfl
theorem TR.finish {a : Ending} (h : TR c (.finish a) t') : t' = .finish a := by
  rcases h with rfl | rfl
  · rfl
  · cases q : yfIt c with
    | none => rw [EE_none q]
    | some it => rw [EE_some q]; rfl
theorem TR.rule {tag : String} {k : Unit → Sem Fin} (h : TR c (Sem.rule tag k) t') : ∃ k', t' = Sem.rule tag k' ∧ ∀ x, TR c (k x) (k' x) := by
  rcases h with rfl | rfl
  · exact ⟨k, rfl, fun x => .inl rfl⟩
  · cases q : yfIt c with
    | none => exact ⟨k, EE_none q _, fun x => .inl rfl⟩
    | some it => exact ⟨fun x => calmT it (k x), EE_some q _, fun x => .inr (EE_some q _).symm⟩
theorem TR.at {p : Pos} {k : Unit → Sem Fin} (h : TR c (Sem.at p k) t') : ∃ k', t' = Sem.at p k' ∧ ∀ x, TR c (k x) (k' x) := by
  rcases h with rfl | rfl
  · exact ⟨k, rfl, fun x => .inl rfl⟩
  · cases q : yfIt c with
    | none => exact ⟨k, EE_none q _, fun x => .inl rfl⟩
    | some it => exact ⟨fun x => calmT it (k x), EE_some q _, fun x => .inr (EE_some q _).symm⟩
theorem TR.load {a : Addr} {q : Option Value} {k : Obj → Sem Fin} (h : TR c (Sem.load a q k) t') : ∃ k', t' = Sem.load a q k' ∧ ∀ x, TR c (k x) (k' x) := by
  rcases h with rfl | rfl
  · exact ⟨k, rfl, fun x => .inl rfl⟩
  · cases q : yfIt c with
    | none => exact ⟨k, EE_none q _, fun x => .inl rfl⟩
    | some it => exact ⟨fun x => calmT it (k x), EE_some q _, fun x => .inr (EE_some q _).symm⟩
theorem TR.update {a : Addr} {q : Option Value} {f : Obj → Obj} {k : Unit → Sem Fin} (h : TR c (Sem.update a q f k) t') : ∃ k', t' = Sem.update a q f k' ∧ ∀ x, TR c (k x) (k' x) := by
  rcases h with rfl | rfl
  · exact ⟨k, rfl, fun x => .inl rfl⟩
  · cases q : yfIt c with
    | none => exact ⟨k, EE_none q _, fun x => .inl rfl⟩
    | some it => exact ⟨fun x => calmT it (k x), EE_some q _, fun x => .inr (EE_some q _).symm⟩
theorem TR.alloc {o : Obj} {k : Addr → Sem Fin} (h : TR c (Sem.alloc o k) t') : ∃ k', t' = Sem.alloc o k' ∧ ∀ x, TR c (k x) (k' x) := by
  rcases h with rfl | rfl
  · exact ⟨k, rfl, fun x => .inl rfl⟩
  · cases q : yfIt c with
    | none => exact ⟨k, EE_none q _, fun x => .inl rfl⟩
    | some it => exact ⟨fun x => calmT it (k x), EE_some q _, fun x => .inr (EE_some q _).symm⟩
theorem TR.loadIfAlive {a : Addr} {k : Option Obj → Sem Fin} (h : TR c (Sem.loadIfAlive a k) t') : ∃ k', t' = Sem.loadIfAlive a k' ∧ ∀ x, TR c (k x) (k' x) := by
  rcases h with rfl | rfl
  · exact ⟨k, rfl, fun x => .inl rfl⟩
  · cases q : yfIt c with
    | none => exact ⟨k, EE_none q _, fun x => .inl rfl⟩
    | some it => exact ⟨fun x => calmT it (k x), EE_some q _, fun x => .inr (EE_some q _).symm⟩
theorem TR.point {l : List Value} {k : Unit → Sem Fin} (h : TR c (Sem.point l k) t') : ∃ k', t' = Sem.point l k' ∧ ∀ x, TR c (k x) (k' x) := by
  rcases h with rfl | rfl
  · exact ⟨k, rfl, fun x => .inl rfl⟩
  · cases q : yfIt c with
    | none => exact ⟨k, EE_none q _, fun x => .inl rfl⟩
    | some it => exact ⟨fun x => calmT it (k x), EE_some q _, fun x => .inr (EE_some q _).symm⟩
theorem TR.register {a : Addr} {k : Unit → Sem Fin} (h : TR c (Sem.register a k) t') : ∃ k', t' = Sem.register a k' ∧ ∀ x, TR c (k x) (k' x) := by
  rcases h with rfl | rfl
  · exact ⟨k, rfl, fun x => .inl rfl⟩
  · cases q : yfIt c with
    | none => exact ⟨k, EE_none q _, fun x => .inl rfl⟩
    | some it => exact ⟨fun x => calmT it (k x), EE_some q _, fun x => .inr (EE_some q _).symm⟩
theorem TR.fresh {k : Tok → Sem Fin} (h : TR c (Sem.fresh  k) t') : ∃ k', t' = Sem.fresh  k' ∧ ∀ x, TR c (k x) (k' x) := by
  rcases h with rfl | rfl
  · exact ⟨k, rfl, fun x => .inl rfl⟩
  · cases q : yfIt c with
    | none => exact ⟨k, EE_none q _, fun x => .inl rfl⟩
    | some it => exact ⟨fun x => calmT it (k x), EE_some q _, fun x => .inr (EE_some q _).symm⟩
theorem TR.ask {k : Setting → Sem Fin} (h : TR c (Sem.ask  k) t') : ∃ k', t' = Sem.ask  k' ∧ ∀ x, TR c (k x) (k' x) := by
  rcases h with rfl | rfl
  · exact ⟨k, rfl, fun x => .inl rfl⟩
  · cases q : yfIt c with
    | none => exact ⟨k, EE_none q _, fun x => .inl rfl⟩
    | some it => exact ⟨fun x => calmT it (k x), EE_some q _, fun x => .inr (EE_some q _).symm⟩
theorem TR.choose {src : Source} {n : Nat} {k : Nat → Sem Fin} (h : TR c (Sem.choose src n k) t') : ∃ k', t' = Sem.choose src n k' ∧ ∀ x, TR c (k x) (k' x) := by
  rcases h with rfl | rfl
  · exact ⟨k, rfl, fun x => .inl rfl⟩
  · cases q : yfIt c with
    | none => exact ⟨k, EE_none q _, fun x => .inl rfl⟩
    | some it => exact ⟨fun x => calmT it (k x), EE_some q _, fun x => .inr (EE_some q _).symm⟩
theorem TR.os {q : OsRequest} {l : List Value} {k : OsReply → Sem Fin} (h : TR c (Sem.os q l k) t') : ∃ k', t' = Sem.os q l k' ∧ ∀ x, TR c (k x) (k' x) := by
  rcases h with rfl | rfl
  · exact ⟨k, rfl, fun x => .inl rfl⟩
  · cases q : yfIt c with
    | none => exact ⟨k, EE_none q _, fun x => .inl rfl⟩
    | some it => exact ⟨fun x => calmT it (k x), EE_some q _, fun x => .inr (EE_some q _).symm⟩
theorem TR.call {c' : Code} {hd : Option Value} {g : Bool} {l : List Value} {k : Result → Sem Fin} (h : TR c (Sem.call c' hd g l k) t') : ∃ k', t' = Sem.call c' hd g l k' ∧ ∀ x, TR c (k x) (k' x) := by
  rcases h with rfl | rfl
  · exact ⟨k, rfl, fun x => .inl rfl⟩
  · cases q : yfIt c with
    | none => exact ⟨k, EE_none q _, fun x => .inl rfl⟩
    | some it => exact ⟨fun x => calmT it (k x), EE_some q _, fun x => .inr (EE_some q _).symm⟩
theorem TR.handled {o : Bool} {k : Option Value → Sem Fin} (h : TR c (Sem.handled o k) t') : ∃ k', t' = Sem.handled o k' ∧ ∀ x, TR c (k x) (k' x) := by
  rcases h with rfl | rfl
  · exact ⟨k, rfl, fun x => .inl rfl⟩
  · cases q : yfIt c with
    | none => exact ⟨k, EE_none q _, fun x => .inl rfl⟩
    | some it => exact ⟨fun x => calmT it (k x), EE_some q _, fun x => .inr (EE_some q _).symm⟩
theorem TR.newGen {c' : Code} {k : Nat → Sem Fin} (h : TR c (Sem.newGen c' k) t') : ∃ k', t' = Sem.newGen c' k' ∧ ∀ x, TR c (k x) (k' x) := by
  rcases h with rfl | rfl
  · exact ⟨k, rfl, fun x => .inl rfl⟩
  · cases q : yfIt c with
    | none => exact ⟨k, EE_none q _, fun x => .inl rfl⟩
    | some it => exact ⟨fun x => calmT it (k x), EE_some q _, fun x => .inr (EE_some q _).symm⟩
theorem TR.genState {g : Nat} {k : GenStatus × Option (List (Code × Pos)) → Sem Fin} (h : TR c (Sem.genState g k) t') : ∃ k', t' = Sem.genState g k' ∧ ∀ x, TR c (k x) (k' x) := by
  rcases h with rfl | rfl
  · exact ⟨k, rfl, fun x => .inl rfl⟩
  · cases q : yfIt c with
    | none => exact ⟨k, EE_none q _, fun x => .inl rfl⟩
    | some it => exact ⟨fun x => calmT it (k x), EE_some q _, fun x => .inr (EE_some q _).symm⟩
theorem TR.resume {g : Nat} {r : Resume} {l : List Value} {k : GenResult → Sem Fin} (h : TR c (Sem.resume g r l k) t') : ∃ k', t' = Sem.resume g r l k' ∧ ∀ x, TR c (k x) (k' x) := by
  rcases h with rfl | rfl
  · exact ⟨k, rfl, fun x => .inl rfl⟩
  · cases q : yfIt c with
    | none => exact ⟨k, EE_none q _, fun x => .inl rfl⟩
    | some it => exact ⟨fun x => calmT it (k x), EE_some q _, fun x => .inr (EE_some q _).symm⟩
theorem TR.stack {k : List (Code × Pos) → Sem Fin} (h : TR c (Sem.stack  k) t') : ∃ k', t' = Sem.stack  k' ∧ ∀ x, TR c (k x) (k' x) := by
  rcases h with rfl | rfl
  · exact ⟨k, rfl, fun x => .inl rfl⟩
  · cases q : yfIt c with
    | none => exact ⟨k, EE_none q _, fun x => .inl rfl⟩
    | some it => exact ⟨fun x => calmT it (k x), EE_some q _, fun x => .inr (EE_some q _).symm⟩
theorem TR.thread {k : Nat → Sem Fin} (h : TR c (Sem.thread  k) t') : ∃ k', t' = Sem.thread  k' ∧ ∀ x, TR c (k x) (k' x) := by
  rcases h with rfl | rfl
  · exact ⟨k, rfl, fun x => .inl rfl⟩
  · cases q : yfIt c with
    | none => exact ⟨k, EE_none q _, fun x => .inl rfl⟩
    | some it => exact ⟨fun x => calmT it (k x), EE_some q _, fun x => .inr (EE_some q _).symm⟩
theorem TR.fork {c' : Code} {k : Nat → Sem Fin} (h : TR c (Sem.fork c' k) t') : ∃ k', t' = Sem.fork c' k' ∧ ∀ x, TR c (k x) (k' x) := by
  rcases h with rfl | rfl
  · exact ⟨k, rfl, fun x => .inl rfl⟩
  · cases q : yfIt c with
    | none => exact ⟨k, EE_none q _, fun x => .inl rfl⟩
    | some it => exact ⟨fun x => calmT it (k x), EE_some q _, fun x => .inr (EE_some q _).symm⟩
theorem TR.yieldF {v : Value} {l : List Value} {k : Resume → Sem Fin} (h : TR c (.yield v false l k) t') : ∃ k', t' = .yield v false l k' ∧ ∀ x, TR c (k x) (k' x) := by
  rcases h with rfl | rfl
  · exact ⟨k, rfl, fun x => .inl rfl⟩
  · cases q : yfIt c with
    | none => exact ⟨k, EE_none q _, fun x => .inl rfl⟩
    | some it => exact ⟨fun x => calmT it (k x), EE_some q _, fun x => .inr (EE_some q _).symm⟩
end
inductive FR : Frame → Frame → Prop
  | ret {k k' : Result → Sem Fin} {h g l c p kp} : (∀ r, TR c (k r) (k' r)) → FR (.ret k h g l c p kp) (.ret k' h g l c p kp)
  | gen {g} {k k' : GenResult → Sem Fin} {l c p} : (∀ r, TR c (k r) (k' r)) → FR (.gen g k l c p) (.gen g k' l c p)
inductive FRs : List Frame → List Frame → Prop
  | nil : FRs [] []
  | cons {F F' fs fs'} : FR F F' → FRs fs fs' → FRs (F :: fs) (F' :: fs')
inductive GR : GenState → GenState → Prop
  | same (x) : GR x x
  | susp {k k' : Resume → Sem Fin} {l c p fs fs' cl} : (∀ r, TR c (k r) (k' r)) → FRs fs fs' → GR (.suspended k l c p fs cl) (.suspended k' l c p fs' cl)
inductive ER : End → End → Prop
  | ret (r) : ER (.ret r) (.ret r)
  | susp {v g l c p fs fs'} {k k' : Resume → Sem Fin} : (∀ r, TR c (k r) (k' r)) → FRs fs fs' → ER (.susp v g l k c p fs) (.susp v g l k' c p fs')
theorem FR.refl : ∀ F, FR F F
  | .ret .. => .ret fun _ => .inl rfl
  | .gen .. => .gen fun _ => .inl rfl
theorem FRs.refl : ∀ fs, FRs fs fs
  | [] => .nil
  | F :: fs => .cons (.refl F) (.refl fs)
theorem FRs.append {a a' b b'} (x : FRs a a') (y : FRs b b') : FRs (a ++ b) (a' ++ b') := by
  induction x with
  | nil => exact y
  | cons h _ ih => exact .cons h ih
theorem FR.guarded {F F'} (h : FR F F') : F'.guarded = F.guarded := by cases h <;> rfl
theorem FR.where_ {F F'} (h : FR F F') : F'.where_ = F.where_ := by cases h <;> rfl
theorem FR.marks {F F'} (h : FR F F') (x) : F'.marks x = F.marks x := by cases h <;> rfl
theorem FRs.any {a a'} (x : FRs a a') : a'.any Frame.guarded = a.any Frame.guarded := by
  induction x with
  | nil => rfl
  | cons h _ ih => simp only [List.any_cons, h.guarded, ih]
theorem FRs.wheres {a a'} (x : FRs a a') : a'.map Frame.where_ = a.map Frame.where_ := by
  induction x with
  | nil => rfl
  | cons h _ ih => simp only [List.map_cons, h.where_, ih]
theorem FRs.marksOver {a a'} (x : FRs a a') (m) : marksOver a' m = marksOver a m := by
  induction x with
  | nil => rfl
  | cons h _ ih => rw [marksOver_cons, marksOver_cons, ih, h.marks]
theorem FRs.goHandled {a a'} (x : FRs a a') : ∀ b, topHandled.go b a' = topHandled.go b a := by
  induction x with
  | nil => intro b; rfl
  | cons h _ ih =>
    intro b
    cases h with
    | gen _ => cases b <;> exact ih false
    | @ret k k' h g l c p kp _ =>
      cases b with
      | true => exact ih true
      | false =>
        cases h with
        | none => exact ih false
        | some e => simp only [topHandled.go]; split <;> first | exact ih true | rfl
theorem FRs.split {a a'} (x : FRs a a') : (splitAtGen a = none ∧ splitAtGen a' = none) ∨
    ∃ pre pre' g k k' c p rest rest', splitAtGen a = some (pre, (g, k, c, p), rest) ∧ splitAtGen a' = some (pre', (g, k', c, p), rest') ∧ FRs pre pre' ∧ FRs rest rest' ∧ ∀ r, TR c (k r) (k' r) := by
  induction x with
  | nil => exact .inl ⟨rfl, rfl⟩
  | cons h hs ih =>
    cases h with
    | gen hk => exact .inr ⟨[], [], _, _, _, _, _, _, _, rfl, rfl, .nil, hs, hk⟩
    | ret hk =>
      rcases ih with ⟨e, e'⟩ | ⟨pre, pre', g, k, k', c, p, rest, rest', e, e', r1, r2, r3⟩
      · exact .inl ⟨by rw [splitAtGen_ret, e]; rfl, by rw [splitAtGen_ret, e']; rfl⟩
      · exact .inr ⟨_, _, g, k, k', c, p, rest, rest', by rw [splitAtGen_ret, e]; rfl, by rw [splitAtGen_ret, e']; rfl, .cons (.ret hk) r1, r2, r3⟩
theorem FRs.over {a a'} (x : FRs a a') (Γ : Ctx) : Γ.over a' = Γ.over a := by
  unfold Ctx.over
  rcases x.split with ⟨e, e'⟩ | ⟨pre, pre', g, k, k', c, p, rest, rest', e, e', r1, r2, r3⟩
  · simp only [e, e', x.marksOver, x.wheres]
  · have h : topHandled pre' = topHandled pre := r1.goHandled false
    simp only [e, e', x.marksOver, x.wheres, h]
theorem ER.quiet {e e'} (h : ER e e') : e'.quiet = e.quiet := by
  cases h with
  | ret r => rfl
  | susp _ hf => simp only [End.quiet, hf.any]
theorem ER.result {e e'} (h : ER e e') : e'.result = e.result := by cases h <;> rfl
theorem ER.genState {e e'} (h : ER e e') : GR e.genState e'.genState := by
  cases h with
  | ret r => exact .same _
  | susp hk hf => simp only [End.genState, hf.any]; exact .susp hk hf
inductive OR : Option GenState → Option GenState → Prop
  | none : OR none none
  | some {x y} : GR x y → OR (some x) (some y)
structure SR (s s' : Shared) : Prop where
  heap : s'.heap = s.heap
  drawn : s'.drawn = s.drawn
  toks : s'.toks = s.toks
  os : s'.os = s.os
  size : s'.gens.size = s.gens.size
  gens : ∀ i : Nat, OR (s.gens[i]?) (s'.gens[i]?)
theorem OR.refl : ∀ x, OR x x
  | .none => .none
  | .some x => .some (.same x)
theorem SR.refl (s : Shared) : SR s s := ⟨rfl, rfl, rfl, rfl, rfl, fun _ => .refl _⟩
theorem SR.setGen {s s' : Shared} (h : SR s s') (g : Nat) {x y : GenState} (hx : GR x y) : SR (s.setGen g x) (s'.setGen g y) := by
  refine ⟨h.heap, h.drawn, h.toks, h.os, by simp [Shared.setGen, h.size], fun i => ?_⟩
  simp only [Shared.setGen, Array.getElem?_setIfInBounds, h.size]
  split
  · split
    · exact .some hx
    · exact .none
  · exact h.gens i
theorem SR.pushGen {s s' : Shared} (h : SR s s') (x : GenState) : SR { s with gens := s.gens.push x } { s' with gens := s'.gens.push x } := by
  refine ⟨h.heap, h.drawn, h.toks, h.os, by simp [h.size], fun i => ?_⟩
  simp only [Array.getElem?_push, h.size]
  split
  · exact .some (.same x)
  · exact h.gens i
theorem GR.seen {x y} (h : GR x y) : y.seen = x.seen := by
  cases h with
  | same => rfl
  | susp _ hf => simp only [GenState.seen, hf.wheres]
end Mine
end
section
open PySem
set_option Elab.async false
set_option maxRecDepth 100000
set_option maxHeartbeats 2000000
namespace Mine
/-- a model with the yields of the delegating turns unmarked -/
def calmM (M : Model) : Model := ⟨fun c => EE c (M.den c), M.prog, M.w⟩
theorem denR (M : Model) (c : Code) : TR c (M.den c) ((calmM M).den c) := .inr rfl
theorem SR.withHeap {s s' : Shared} (h : SR s s') (x : Heap) : SR { s with heap := x } { s' with heap := x } := ⟨rfl, h.drawn, h.toks, h.os, h.size, h.gens⟩
theorem orGet {x y : Option GenState} {a : GenState} (h : OR x y) (e : x = some a) : ∃ b, y = some b ∧ GR a b := by
  cases h with
  | none => cases e
  | some hr => cases e; exact ⟨_, rfl, hr⟩
theorem quiet_tail {v g l k c p fs F} (h : (End.susp v g l k c p (fs ++ F)).quiet = true) : (End.susp v g l k c p fs).quiet = true ∧ F.any Frame.guarded = false := by
  simp only [End.quiet, List.any_append, Bool.not_eq_true', Bool.or_eq_false_iff] at h ⊢
  exact ⟨⟨h.1, h.2.1⟩, h.2.2⟩
theorem lift_runs {M : Model} {Γ : Ctx} {p : Pos} {t : Sem Fin} {fs : List Frame} {s s₂ : Shared} {e : End} (h : Runs M Γ p t fs s e s₂) : e.quiet = true → ∀ {t' fs' s'}, TR Γ.code t t' → FRs fs fs' → SR s s' →
    ∃ e' s₂', Runs (calmM M) Γ p t' fs' s' e' s₂' ∧ ER e e' ∧ SR s₂ s₂' := by
  induction h with
  | done => intro _ t' fs' s' ht hf hs; cases hf; rw [ht.pure]; exact ⟨_, _, .done, .ret _, hs⟩
  | raise => intro _ t' fs' s' ht hf hs; cases hf; rw [ht.raise]; exact ⟨_, _, .raise, .ret _, hs⟩
  | again hq _ ih =>
    intro hqt t' fs' s' ht hf hs; cases hf; rw [ht.pure]
    obtain ⟨e', s₂', h1, h2, h3⟩ := ih hqt (denR M _) .nil hs
    exact ⟨_, _, .again hq h1, h2, h3⟩
  | rule _ ih => intro hqt t' fs' s' ht hf hs; cases hf; obtain ⟨k', rfl, hk⟩ := ht.rule; obtain ⟨e', s₂', h1, h2, h3⟩ := ih hqt (hk _) .nil hs; exact ⟨_, _, .rule h1, h2, h3⟩
  | «at» _ ih => intro hqt t' fs' s' ht hf hs; cases hf; obtain ⟨k', rfl, hk⟩ := ht.at; obtain ⟨e', s₂', h1, h2, h3⟩ := ih hqt (hk _) .nil hs; exact ⟨_, _, .at h1, h2, h3⟩
  | load ho _ ih => intro hqt t' fs' s' ht hf hs; cases hf; obtain ⟨k', rfl, hk⟩ := ht.load; obtain ⟨e', s₂', h1, h2, h3⟩ := ih hqt (hk _) .nil hs; exact ⟨_, _, .load (by rw [hs.heap]; exact ho) h1, h2, h3⟩
  | update ho _ ih =>
    intro hqt t' fs' s' ht hf hs; cases hf; obtain ⟨k', rfl, hk⟩ := ht.update
    obtain ⟨e', s₂', h1, h2, h3⟩ := ih hqt (hk _) .nil (hs.withHeap _)
    exact ⟨_, _, .update (by rw [hs.heap]; exact ho) (by rw [hs.heap]; exact h1), h2, h3⟩
  | loadIfAlive _ ih => intro hqt t' fs' s' ht hf hs; cases hf; obtain ⟨k', rfl, hk⟩ := ht.loadIfAlive; obtain ⟨e', s₂', h1, h2, h3⟩ := ih hqt (hk _) .nil hs; exact ⟨_, _, .loadIfAlive (by rw [hs.heap]; exact h1), h2, h3⟩
  | point _ ih => intro hqt t' fs' s' ht hf hs; cases hf; obtain ⟨k', rfl, hk⟩ := ht.point; obtain ⟨e', s₂', h1, h2, h3⟩ := ih hqt (hk _) .nil hs; exact ⟨_, _, .point h1, h2, h3⟩
  | alloc _ ih =>
    intro hqt t' fs' s' ht hf hs; cases hf; obtain ⟨k', rfl, hk⟩ := ht.alloc
    obtain ⟨e', s₂', h1, h2, h3⟩ := ih hqt (hk _) .nil (hs.withHeap _)
    exact ⟨_, _, .alloc (by rw [hs.heap]; exact h1), h2, h3⟩
  | fresh _ ih =>
    intro hqt t' fs' s' ht hf hs; cases hf; obtain ⟨k', rfl, hk⟩ := ht.fresh
    obtain ⟨e', s₂', h1, h2, h3⟩ := ih (s' := { s' with toks := s'.toks + 1 }) hqt (hk _) .nil ⟨hs.heap, hs.drawn, by rw [hs.toks], hs.os, hs.size, hs.gens⟩
    exact ⟨_, _, .fresh (by rw [hs.toks] at h1 ⊢; exact h1), h2, h3⟩
  | ask _ ih => intro hqt t' fs' s' ht hf hs; cases hf; obtain ⟨k', rfl, hk⟩ := ht.ask; obtain ⟨e', s₂', h1, h2, h3⟩ := ih hqt (hk _) .nil hs; exact ⟨_, _, .ask h1, h2, h3⟩
  | choose hn _ ih =>
    intro hqt t' fs' s' ht hf hs; cases hf; obtain ⟨k', rfl, hk⟩ := ht.choose
    obtain ⟨e', s₂', h1, h2, h3⟩ := ih (s' := { s' with drawn := s'.drawn.bump _ }) hqt (hk _) .nil ⟨hs.heap, by rw [hs.drawn], hs.toks, hs.os, hs.size, hs.gens⟩
    exact ⟨_, _, .choose hn (by rw [hs.drawn] at h1 ⊢; exact h1), h2, h3⟩
  | os _ ih =>
    intro hqt t' fs' s' ht hf hs; cases hf; obtain ⟨k', rfl, hk⟩ := ht.os
    obtain ⟨e', s₂', h1, h2, h3⟩ := ih (s' := { s' with os := (Os.step s'.os _).1 }) hqt (hk _) .nil ⟨hs.heap, hs.drawn, hs.toks, by rw [hs.os], hs.size, hs.gens⟩
    exact ⟨_, _, .os (by rw [hs.os] at h1 ⊢; exact h1), h2, h3⟩
  | handled _ ih => intro hqt t' fs' s' ht hf hs; cases hf; obtain ⟨k', rfl, hk⟩ := ht.handled; obtain ⟨e', s₂', h1, h2, h3⟩ := ih hqt (hk _) .nil hs; exact ⟨_, _, .handled h1, h2, h3⟩
  | genState hg _ ih =>
    intro hqt t' fs' s' ht hf hs; cases hf; obtain ⟨k', rfl, hk⟩ := ht.genState
    obtain ⟨y, hy, hr⟩ := orGet (hs.gens _) hg
    obtain ⟨e', s₂', h1, h2, h3⟩ := ih hqt (hk _) .nil hs
    exact ⟨_, _, .genState hy (by rw [hr.seen]; exact h1), h2, h3⟩
  | stack _ ih => intro hqt t' fs' s' ht hf hs; cases hf; obtain ⟨k', rfl, hk⟩ := ht.stack; obtain ⟨e', s₂', h1, h2, h3⟩ := ih hqt (hk _) .nil hs; exact ⟨_, _, .stack h1, h2, h3⟩
  | thread _ ih => intro hqt t' fs' s' ht hf hs; cases hf; obtain ⟨k', rfl, hk⟩ := ht.thread; obtain ⟨e', s₂', h1, h2, h3⟩ := ih hqt (hk _) .nil hs; exact ⟨_, _, .thread h1, h2, h3⟩
  | newGen _ ih =>
    intro hqt t' fs' s' ht hf hs; cases hf; obtain ⟨k', rfl, hk⟩ := ht.newGen
    obtain ⟨e', s₂', h1, h2, h3⟩ := ih hqt (hk _) .nil (hs.pushGen _)
    exact ⟨_, _, .newGen (by rw [hs.size]; exact h1), h2, h3⟩
  | call _ _ ih₁ ih₂ =>
    intro hqt t' fs' s' ht hf hs; cases hf; obtain ⟨k', rfl, hk⟩ := ht.call
    obtain ⟨e', s₂', h1, h2, h3⟩ := ih₁ rfl (denR M _) .nil hs
    cases h2
    obtain ⟨e'', s₃', h4, h5, h6⟩ := ih₂ hqt (hk _) .nil h3
    exact ⟨_, _, .call h1 h4, h5, h6⟩
  | callSusp _ ih =>
    intro hqt t' fs' s' ht hf hs; cases hf; obtain ⟨k', rfl, hk⟩ := ht.call
    obtain ⟨e', s₂', h1, h2, h3⟩ := ih (quiet_tail hqt).1 (denR M _) .nil hs
    cases h2 with
    | susp hk' hf' => exact ⟨_, _, .callSusp h1, .susp hk' (hf'.append (.cons (.ret hk) .nil)), h3⟩
  | @yield Γ p v g l k s =>
    intro hqt t' fs' s' ht hf hs; cases hf
    cases g with
    | true => simp [End.quiet] at hqt
    | false =>
      obtain ⟨k', rfl, hk⟩ := ht.yieldF
      exact ⟨_, _, .yield, .susp hk .nil, hs⟩
  | resumeFresh hg _ hq _ ih₁ ih₂ =>
    intro hqt t' fs' s' ht hf hs; cases hf; obtain ⟨k', rfl, hk⟩ := ht.resume
    obtain ⟨y, hy, hr⟩ := orGet (hs.gens _) hg
    cases hr
    obtain ⟨e', s₂', h1, h2, h3⟩ := ih₁ hq (denR M _) .nil (hs.setGen _ (.same .running))
    obtain ⟨e'', s₃', h4, h5, h6⟩ := ih₂ hqt (hk _) .nil (h3.setGen _ h2.genState)
    exact ⟨_, _, .resumeFresh hy h1 (h2.quiet.trans hq) (by rw [h2.result]; exact h4), h5, h6⟩
  | @resumeSuspended Γ p g r l k s k₀ l₀ c₀ p₀ fs cl e₁ s₁ e s₂ hg _ hq _ ih₁ ih₂ =>
    intro hqt t' fs' s' ht hf hs; cases hf; obtain ⟨k', rfl, hk⟩ := ht.resume
    obtain ⟨y, hy, hr⟩ := orGet (hs.gens _) hg
    have key : ∃ k₁ fs₁, y = .suspended k₁ l₀ c₀ p₀ fs₁ cl ∧ (∀ r, TR c₀ (k₀ r) (k₁ r)) ∧ FRs fs fs₁ := by
      cases hr with
      | same => exact ⟨_, _, rfl, fun r => .inl rfl, .refl _⟩
      | susp a b => exact ⟨_, _, rfl, a, b⟩
    obtain ⟨k₁, fs₁, rfl, hk₁, hf₁⟩ := key
    obtain ⟨e', s₂', h1, h2, h3⟩ := ih₁ hq (hk₁ _) hf₁ (hs.setGen _ (.same .running))
    obtain ⟨e'', s₃', h4, h5, h6⟩ := ih₂ hqt (hk _) .nil (h3.setGen _ h2.genState)
    exact ⟨_, _, .resumeSuspended hy h1 (h2.quiet.trans hq) (by rw [h2.result]; exact h4), h5, h6⟩
  | resumeJustStarted hg hv _ ih =>
    intro hqt t' fs' s' ht hf hs; cases hf; obtain ⟨k', rfl, hk⟩ := ht.resume
    obtain ⟨y, hy, hr⟩ := orGet (hs.gens _) hg
    cases hr
    obtain ⟨e'', s₃', h4, h5, h6⟩ := ih hqt (hk _) .nil hs
    exact ⟨_, _, .resumeJustStarted hy hv h4, h5, h6⟩
  | resumeThrowFresh hg _ ih =>
    intro hqt t' fs' s' ht hf hs; cases hf; obtain ⟨k', rfl, hk⟩ := ht.resume
    obtain ⟨y, hy, hr⟩ := orGet (hs.gens _) hg
    cases hr
    obtain ⟨e'', s₃', h4, h5, h6⟩ := ih hqt (hk _) .nil (hs.setGen _ (.same .finished))
    exact ⟨_, _, .resumeThrowFresh hy h4, h5, h6⟩
  | resumeRunning hg _ ih =>
    intro hqt t' fs' s' ht hf hs; cases hf; obtain ⟨k', rfl, hk⟩ := ht.resume
    obtain ⟨y, hy, hr⟩ := orGet (hs.gens _) hg
    cases hr
    obtain ⟨e'', s₃', h4, h5, h6⟩ := ih hqt (hk _) .nil hs
    exact ⟨_, _, .resumeRunning hy h4, h5, h6⟩
  | resumeFinished hg _ ih =>
    intro hqt t' fs' s' ht hf hs; cases hf; obtain ⟨k', rfl, hk⟩ := ht.resume
    obtain ⟨y, hy, hr⟩ := orGet (hs.gens _) hg
    cases hr
    obtain ⟨e'', s₃', h4, h5, h6⟩ := ih hqt (hk _) .nil hs
    exact ⟨_, _, .resumeFinished hy h4, h5, h6⟩
  | segRet _ _ ih₁ ih₂ =>
    intro hqt t' fs' s' ht hf hs
    have ho := hf.over
    cases hf with
    | cons hF hfs =>
    cases hF with
    | ret hk =>
    obtain ⟨e', s₂', h1, h2, h3⟩ := ih₁ rfl ht .nil hs
    cases h2
    obtain ⟨e'', s₃', h4, h5, h6⟩ := ih₂ hqt (hk _) hfs h3
    exact ⟨_, _, .segRet (by rw [ho]; exact h1) h4, h5, h6⟩
  | segGen _ _ ih₁ ih₂ =>
    intro hqt t' fs' s' ht hf hs
    have ho := hf.over
    cases hf with
    | cons hF hfs =>
    cases hF with
    | gen hk =>
    obtain ⟨e', s₂', h1, h2, h3⟩ := ih₁ rfl ht .nil hs
    cases h2
    obtain ⟨e'', s₃', h4, h5, h6⟩ := ih₂ hqt (hk _) hfs (h3.setGen _ (.same .finished))
    exact ⟨_, _, .segGen (by rw [ho]; exact h1) h4, h5, h6⟩
  | segSuspOut hn _ ih =>
    intro hqt t' fs' s' ht hf hs
    obtain ⟨e', s₂', h1, h2, h3⟩ := ih (quiet_tail hqt).1 ht .nil hs
    have hn' : splitAtGen fs' = none := by
      rcases hf.split with ⟨_, e2⟩ | ⟨_, _, _, _, _, _, _, _, _, e1, _⟩
      · exact e2
      · rw [hn] at e1; cases e1
    have ho := hf.over
    cases h2 with
    | susp hk' hf' =>
    have hf0 := hf
    cases hf with
    | cons hF hfs => exact ⟨_, _, .segSuspOut hn' (by rw [ho]; exact h1), .susp hk' (hf'.append hf0), h3⟩
  | @segSuspGen Γ p t F fs pre₀ g₁ k₁ c₁ p₁ rest₁ s v g₀ l₀ k₀ c₀ p₀ fs₀ s₁ e s₂ hn _ hq _ ih₁ ih₂ =>
    intro hqt t' fs' s' ht hf hs
    obtain ⟨e', s₂', h1, h2, h3⟩ := ih₁ (quiet_tail hq).1 ht .nil hs
    have ho := hf.over
    rcases hf.split with ⟨e1, _⟩ | ⟨pre, pre', g, k, k', c, p, rest, rest', e1, e2, r1, r2, r3⟩
    · rw [hn] at e1; cases e1
    · rw [hn] at e1; cases e1
      cases h2 with
      | susp hk' hf' =>
      have hER := ER.susp (v := v) (g := g₀) (l := l₀) (c := c₀) (p := p₀) hk' (hf'.append r1)
      obtain ⟨e'', s₃', h4, h5, h6⟩ := ih₂ hqt (r3 _) r2 (h3.setGen _ hER.genState)
      cases hf with
      | cons hF hfs => exact ⟨_, _, .segSuspGen e2 (by rw [ho]; exact h1) (hER.quiet.trans hq) h4, h5, h6⟩
end Mine
end
section
open PySem
set_option Elab.async false
set_option maxRecDepth 100000
set_option maxHeartbeats 2000000
namespace Mine
section
variable {M : Model} {Γ : Ctx}
theorem lift_returns {p : Pos} {s s' s₁ : Shared} {r : Result} (h : Returns M Γ p s r s₁) (hs : SR s s') : ∃ s₁', Returns (calmM M) Γ p s' r s₁' ∧ SR s₁ s₁' := by
  obtain ⟨e', s₁', h1, h2, h3⟩ := lift_runs h rfl (denR M _) .nil hs
  cases h2
  exact ⟨s₁', h1, h3⟩
theorem lift_wakes {p : Pos} {s s' s₁ : Shared} {g : Nat} {r : Resume} {res : GenResult} (h : Wakes M Γ p g r s res s₁) (hs : SR s s') : ∃ s₁', Wakes (calmM M) Γ p g r s' res s₁' ∧ SR s₁ s₁' := by
  unfold Wakes at h
  cases hg : s.gens[g]? with
  | none => rw [hg] at h; exact h.elim
  | some x =>
    rw [hg] at h
    obtain ⟨y, hy, hr⟩ := orGet (hs.gens g) hg
    cases x with
    | fresh c =>
      cases hr
      cases r with
      | throw x =>
        obtain ⟨rfl, rfl⟩ := h
        exact ⟨_, by unfold Wakes; rw [hy]; exact ⟨rfl, rfl⟩, hs.setGen _ (.same .finished)⟩
      | send v =>
        by_cases hv : v = .none
        · subst hv
          obtain ⟨e₁, s₂, h₁, hq, rfl, rfl⟩ := h
          obtain ⟨e', s₂', h1, h2, h3⟩ := lift_runs h₁ hq (denR M _) .nil (hs.setGen _ (.same .running))
          exact ⟨_, by unfold Wakes; rw [hy]; exact ⟨e', s₂', h1, h2.quiet.trans hq, h2.result.symm, rfl⟩, h3.setGen _ h2.genState⟩
        · have : res = .justStarted ∧ s₁ = s := by cases v <;> first | exact absurd rfl hv | exact h
          obtain ⟨rfl, rfl⟩ := this
          exact ⟨_, by unfold Wakes; rw [hy]; cases v <;> first | exact absurd rfl hv | exact ⟨rfl, rfl⟩, hs⟩
    | suspended k₀ l₀ c₀ p₀ fs cl =>
      obtain ⟨e₁, s₂, h₁, hq, rfl, rfl⟩ := h
      have key : ∃ k₁ fs₁, y = .suspended k₁ l₀ c₀ p₀ fs₁ cl ∧ (∀ r, TR c₀ (k₀ r) (k₁ r)) ∧ FRs fs fs₁ := by
        cases hr with
        | same => exact ⟨_, _, rfl, fun r => .inl rfl, .refl _⟩
        | susp a b => exact ⟨_, _, rfl, a, b⟩
      obtain ⟨k₁, fs₁, rfl, hk₁, hf₁⟩ := key
      obtain ⟨e', s₂', h1, h2, h3⟩ := lift_runs h₁ hq (hk₁ _) hf₁ (hs.setGen _ (.same .running))
      exact ⟨_, by unfold Wakes; rw [hy]; exact ⟨e', s₂', h1, h2.quiet.trans hq, h2.result.symm, rfl⟩, h3.setGen _ h2.genState⟩
    | running => cases hr; obtain ⟨rfl, rfl⟩ := h; exact ⟨_, by unfold Wakes; rw [hy]; exact ⟨rfl, rfl⟩, hs⟩
    | finished => cases hr; obtain ⟨rfl, rfl⟩ := h; exact ⟨_, by unfold Wakes; rw [hy]; exact ⟨rfl, rfl⟩, hs⟩
theorem lift_wp {α : Type} {t : Sem α} : ∀ {Q : α → Pos → Shared → Prop} {E : Value → Pos → Shared → Prop} {p : Pos} {s s' : Shared}, Sem.wp M Γ t Q E p s → SR s s' →
    Sem.wp (calmM M) Γ t (fun a p s₁' => ∃ s₁, SR s₁ s₁' ∧ Q a p s₁) (fun a p s₁' => ∃ s₁, SR s₁ s₁' ∧ E a p s₁) p s' := by
  induction t with
  | pure a => intro Q E p s s' h hs; exact ⟨s, hs, h⟩
  | raise a => intro Q E p s s' h hs; exact ⟨s, hs, h⟩
  | unsupported w => intro Q E p s s' h hs; exact h.elim
  | finish w => intro Q E p s s' h hs; exact h.elim
  | rule tag k ih => intro Q E p s s' h hs; exact ih () h hs
  | «at» q k ih => intro Q E p s s' h hs; exact ih () h hs
  | load a q k ih => intro Q E p s s' h hs; obtain ⟨o, ho, h⟩ := h; exact ⟨o, by rw [hs.heap]; exact ho, ih o h hs⟩
  | update a q f k ih =>
    intro Q E p s s' h hs; obtain ⟨ho, h⟩ := h
    refine ⟨by rw [hs.heap]; exact ho, ?_⟩
    have := ih () h (hs.withHeap _)
    rw [hs.heap]; exact this
  | alloc o k ih => intro Q E p s s' h hs; have := ih _ h (hs.withHeap _); show Sem.wp _ _ (k s'.heap.objs.size) _ _ _ { s' with heap := s'.heap.push o }; rw [hs.heap]; exact this
  | loadIfAlive a k ih => intro Q E p s s' h hs; show Sem.wp _ _ (k (s'.heap.get? a)) _ _ _ _; rw [hs.heap]; exact ih _ h hs
  | point l k ih => intro Q E p s s' h hs; exact ih () h hs
  | register a k ih => intro Q E p s s' h hs; exact h.elim
  | fresh k ih =>
    intro Q E p s s' h hs
    show Sem.wp _ _ (k s'.toks) _ _ _ { s' with toks := s'.toks + 1 }
    have := ih _ h (s' := { s' with toks := s'.toks + 1 }) ⟨hs.heap, hs.drawn, by rw [hs.toks], hs.os, hs.size, hs.gens⟩
    rw [hs.toks] at this ⊢; exact this
  | ask k ih => intro Q E p s s' h hs; exact ih _ h hs
  | choose src n k ih =>
    intro Q E p s s' h hs; obtain ⟨hn, h⟩ := h
    refine ⟨hn, ?_⟩
    have := ih _ h (s' := { s' with drawn := s'.drawn.bump src }) ⟨hs.heap, by rw [hs.drawn], hs.toks, hs.os, hs.size, hs.gens⟩
    rw [hs.drawn] at this ⊢; exact this
  | os q l k ih =>
    intro Q E p s s' h hs
    have := ih _ h (s' := { s' with os := (Os.step s'.os q).1 }) ⟨hs.heap, hs.drawn, hs.toks, by rw [hs.os], hs.size, hs.gens⟩
    show Sem.wp _ _ (k (Os.step s'.os q).2) _ _ _ { s' with os := (Os.step s'.os q).1 }
    rw [hs.os] at this ⊢; exact this
  | call c hd g l k ih =>
    intro Q E p s s' h hs; obtain ⟨r, s₁, h₁, h₂⟩ := h
    obtain ⟨s₁', h1, h2⟩ := lift_returns h₁ hs
    exact ⟨r, s₁', h1, ih r h₂ h2⟩
  | handled o k ih => intro Q E p s s' h hs; exact ih _ h hs
  | newGen c k ih => intro Q E p s s' h hs; have := ih _ h (hs.pushGen _); show Sem.wp _ _ (k s'.gens.size) _ _ _ { s' with gens := s'.gens.push (.fresh c) }; rw [hs.size]; exact this
  | genState g k ih =>
    intro Q E p s s' h hs; obtain ⟨x, hx, h⟩ := h
    obtain ⟨y, hy, hr⟩ := orGet (hs.gens g) hx
    refine ⟨y, hy, ?_⟩
    rw [hr.seen]; exact ih _ h hs
  | resume g r l k ih =>
    intro Q E p s s' h hs; obtain ⟨res, s₁, h₁, h₂⟩ := h
    obtain ⟨s₁', h1, h2⟩ := lift_wakes h₁ hs
    exact ⟨res, s₁', h1, ih res h₂ h2⟩
  | yield v g l k ih => intro Q E p s s' h hs; exact h.elim
  | stack k ih => intro Q E p s s' h hs; exact ih _ h hs
  | fork c k ih => intro Q E p s s' h hs; exact h.elim
  | thread k ih => intro Q E p s s' h hs; exact ih _ h hs
  | await a f d l k ih => intro Q E p s s' h hs; exact h.elim
end
def GStable (x : GenState) : Prop := ∀ y, GR x y → y = x
def Stable (s : Shared) : Prop := ∀ (i : Nat) (x : GenState), s.gens[i]? = some x → GStable x
theorem Stable.eq {s s' : Shared} (h : Stable s) (hs : SR s s') : s' = s := by
  have hg : s'.gens = s.gens := by
    apply Array.ext_getElem?
    intro i
    have := hs.gens i
    cases q : s.gens[i]? with
    | none => rw [q] at this; generalize s'.gens[i]? = z at this; cases this; rfl
    | some x =>
      obtain ⟨y, hy, hr⟩ := orGet this q
      rw [hy, h i x q y hr]
  obtain ⟨h1, g1, d1, t1, o1⟩ := s
  obtain ⟨h2, g2, d2, t2, o2⟩ := s'
  obtain ⟨a, b, c, d, _, _⟩ := hs
  simp only at a b c d hg
  subst a b c d hg
  rfl
theorem lift_any {M : Model} {α : Type} {A : Around} {t : Sem α} {Q : α → Shared → Prop} {E : Value → Shared → Prop} {s : Shared} (h : wpAny M A t (fun a s₁ => Q a s₁ ∧ Stable s₁) (fun e s₁ => E e s₁ ∧ Stable s₁) s) : wpAny (calmM M) A t Q E s := fun Γ p hΓ => by
  have := lift_wp (h Γ p hΓ) (SR.refl s)
  refine Sem.wp_mono _ Γ _ (fun a p' s' h' => ?_) (fun e p' s' h' => ?_) _ _ this
  · obtain ⟨s₁, h1, h2, h3⟩ := h'
    rw [h3.eq h1]; exact h2
  · obtain ⟨s₁, h1, h2, h3⟩ := h'
    rw [h3.eq h1]; exact h2
theorem lift_code {M : Model} {A : Around} {c : Code} {R : Result → Shared → Prop} {s : Shared} (h : codeAny M A c (fun r s₁ => R r s₁ ∧ Stable s₁) s) : codeAny (calmM M) A c R s := fun Γ p hc hΓ => by
  obtain ⟨r, s₁, h1, h2, h3⟩ := h Γ p hc hΓ
  obtain ⟨s₁', h4, h5⟩ := lift_returns h1 (SR.refl s)
  exact ⟨r, s₁', h4, by rw [h3.eq h5]; exact h2⟩
end Mine
end
section
open PySem
set_option Elab.async false
set_option maxRecDepth 100000
set_option maxHeartbeats 2000000
namespace Mine
inductive GW : GenState → GenState → Prop
  | same (x) : GW x x
  | susp {k k' : Resume → Sem Fin} {l c p fs fs' cl cl'} : (∀ r, TR c (k r) (k' r)) → FRs fs fs' → GW (.suspended k l c p fs cl) (.suspended k' l c p fs' cl')
inductive OW : Option GenState → Option GenState → Prop
  | none : OW none none
  | some {x y} : GW x y → OW (some x) (some y)
structure SW (s s' : Shared) : Prop where
  heap : s'.heap = s.heap
  drawn : s'.drawn = s.drawn
  toks : s'.toks = s.toks
  os : s'.os = s.os
  size : s'.gens.size = s.gens.size
  gens : ∀ i : Nat, OW (s.gens[i]?) (s'.gens[i]?)
theorem OW.refl : ∀ x, OW x x
  | .none => .none
  | .some x => .some (.same x)
theorem SW.refl (s : Shared) : SW s s := ⟨rfl, rfl, rfl, rfl, rfl, fun _ => .refl _⟩
theorem owGet {x y : Option GenState} {a : GenState} (h : OW x y) (e : x = some a) : ∃ b, y = some b ∧ GW a b := by
  cases h with
  | none => cases e
  | some hr => cases e; exact ⟨_, rfl, hr⟩
theorem owNone {x y : Option GenState} (h : OW x y) (e : x = none) : y = none := by
  cases h with
  | none => rfl
  | some hr => cases e
theorem gwSet {g g' : Array GenState} (hz : g'.size = g.size) (h : ∀ i : Nat, OW (g[i]?) (g'[i]?)) (n : Nat) {x y : GenState} (hx : GW x y) : (g'.setIfInBounds n y).size = (g.setIfInBounds n x).size ∧ ∀ i : Nat, OW ((g.setIfInBounds n x)[i]?) ((g'.setIfInBounds n y)[i]?) := by
  refine ⟨by simp [hz], fun i => ?_⟩
  simp only [Array.getElem?_setIfInBounds, hz]
  split
  · split
    · exact .some hx
    · exact .none
  · exact h i
theorem gwPush {g g' : Array GenState} (hz : g'.size = g.size) (h : ∀ i : Nat, OW (g[i]?) (g'[i]?)) (x : GenState) : (g'.push x).size = (g.push x).size ∧ ∀ i : Nat, OW ((g.push x)[i]?) ((g'.push x)[i]?) := by
  refine ⟨by simp [hz], fun i => ?_⟩
  simp only [Array.getElem?_push, hz]
  split
  · exact .some (.same x)
  · exact h i
structure ThR (t t' : Thread) : Prop where
  cur : TR t.code t.cur t'.cur
  code : t'.code = t.code
  pos : t'.pos = t.pos
  stack : FRs t.stack t'.stack
inductive StR : Step → Step → Prop
  | go {s s' t t'} : SW s s' → ThR t t' → StR (.go s t) (.go s' t')
  | halt {s s'} (o) : o.ends = false → StR (.halt o s) (.halt o s')
  | fin {s s'} (o) : SW s s' → StR (finish o s) (finish o s')
def marked : Sem Fin → Bool
  | .yield _ g _ _ => g
  | _ => false
theorem step_sim {M : Model} {s s' : Shared} {t t' : Thread} (hs : SW s s') (ht : ThR t t') (hm : marked t.cur = false) : StR (step M.den M.prog M.w s t) (step (calmM M).den (calmM M).prog (calmM M).w s' t') := by
  obtain ⟨heap, gens, drawn, toks, os⟩ := s
  obtain ⟨heap', gens', drawn', toks', os'⟩ := s'
  obtain ⟨cur, code, pos, stack⟩ := t
  obtain ⟨cur', code', pos', stack'⟩ := t'
  obtain ⟨hc, h2, h3, hf⟩ := ht
  have hs0 := hs
  obtain ⟨e1, e2, e3, e4, hz, hg⟩ := hs
  simp only at hc h2 h3 hf e1 e2 e3 e4 hz hg hm
  subst h2 h3 e1 e2 e3 e4
  have same : ∀ {h d t o}, SW ⟨h, gens, d, t, o⟩ ⟨h, gens', d, t, o⟩ := ⟨rfl, rfl, rfl, rfl, hz, hg⟩
  have setG : ∀ {h d t o} n {x y}, GW x y → SW ⟨h, gens.setIfInBounds n x, d, t, o⟩ ⟨h, gens'.setIfInBounds n y, d, t, o⟩ := by
    intro h d t o n x y hx
    exact ⟨rfl, rfl, rfl, rfl, (gwSet hz hg n hx).1, (gwSet hz hg n hx).2⟩
  cases cur with
  | pure a =>
    rw [hc.pure]
    cases a with
    | again c =>
      refine .go same ⟨denR M c, rfl, rfl, ?_⟩
      simp only
      cases hf with
      | nil => cases code' <;> cases c <;> exact .nil
      | cons hF hfs =>
        cases hF with
        | gen hk => cases code' <;> cases c <;> exact .cons (.gen hk) hfs
        | ret hk =>
          cases code' <;> cases c <;> first | exact .cons (.ret hk) hfs
    | done f =>
      cases hf with
      | nil => exact .fin _ same
      | cons hF hfs =>
        cases hF with
        | ret hk => exact .go same ⟨hk _, rfl, rfl, hfs⟩
        | gen hk => exact .go (setG _ (.same _)) ⟨hk _, rfl, rfl, hfs⟩
  | raise e =>
    rw [hc.raise]
    cases hf with
    | nil => exact .fin _ same
    | cons hF hfs =>
      cases hF with
      | ret hk => exact .go same ⟨hk _, rfl, rfl, hfs⟩
      | gen hk => exact .go (setG _ (.same _)) ⟨hk _, rfl, rfl, hfs⟩
  | unsupported w => rw [hc.unsupported]; exact .halt _ rfl
  | finish e => rw [hc.finish]; exact .fin (.ended e) same
  | rule tag k => obtain ⟨k', rfl, hk⟩ := hc.rule; exact .go same ⟨hk _, rfl, rfl, hf⟩
  | «at» p k => obtain ⟨k', rfl, hk⟩ := hc.at; exact .go same ⟨hk _, rfl, rfl, hf⟩
  | load a q k =>
    obtain ⟨k', rfl, hk⟩ := hc.load
    simp only [step]
    split
    · exact .go same ⟨hk _, rfl, rfl, hf⟩
    · exact .halt _ rfl
  | update a q f k =>
    obtain ⟨k', rfl, hk⟩ := hc.update
    simp only [step]
    split
    · exact .go same ⟨hk _, rfl, rfl, hf⟩
    · exact .halt _ rfl
  | alloc o k => obtain ⟨k', rfl, hk⟩ := hc.alloc; exact .go same ⟨hk _, rfl, rfl, hf⟩
  | loadIfAlive a k => obtain ⟨k', rfl, hk⟩ := hc.loadIfAlive; exact .go same ⟨hk _, rfl, rfl, hf⟩
  | point l k => obtain ⟨k', rfl, hk⟩ := hc.point; exact .go same ⟨hk _, rfl, rfl, hf⟩
  | register a k => obtain ⟨k', rfl, hk⟩ := hc.register; exact .halt _ rfl
  | fresh k => obtain ⟨k', rfl, hk⟩ := hc.fresh; exact .go same ⟨hk _, rfl, rfl, hf⟩
  | ask k => obtain ⟨k', rfl, hk⟩ := hc.ask; exact .go same ⟨hk _, rfl, rfl, hf⟩
  | choose src n k =>
    obtain ⟨k', rfl, hk⟩ := hc.choose
    simp only [step]
    split
    · exact .halt _ rfl
    · exact .go same ⟨hk _, rfl, rfl, hf⟩
  | os q l k => obtain ⟨k', rfl, hk⟩ := hc.os; exact .go same ⟨hk _, rfl, rfl, hf⟩
  | call c h g l k => obtain ⟨k', rfl, hk⟩ := hc.call; exact .go same ⟨denR M c, rfl, rfl, .cons (.ret hk) hf⟩
  | handled own k =>
    obtain ⟨k', rfl, hk⟩ := hc.handled
    cases own with
    | false =>
      refine .go same ⟨?_, rfl, rfl, hf⟩
      show TR _ (k (topHandled stack)) (k' (topHandled stack'))
      rw [show topHandled stack' = topHandled stack from hf.goHandled false]
      exact hk _
    | true =>
      simp only [step, if_true]
      rcases hf.split with ⟨a, b⟩ | ⟨pre, pre', g, kk, kk', c, p, rest, rest', a, b, r1, r2, r3⟩
      · simp only [a, b]
        refine .go same ⟨?_, rfl, rfl, hf⟩
        show TR _ (k (topHandled stack)) (k' (topHandled stack'))
        rw [show topHandled stack' = topHandled stack from hf.goHandled false]
        exact hk _
      · simp only [a, b]
        refine .go same ⟨?_, rfl, rfl, hf⟩
        show TR _ (k (topHandled pre)) (k' (topHandled pre'))
        rw [show topHandled pre' = topHandled pre from r1.goHandled false]
        exact hk _
  | genState g k =>
    obtain ⟨k', rfl, hk⟩ := hc.genState
    simp only [step]
    cases q : gens[g]? with
    | none => rw [owNone (hg g) q]; exact .halt _ rfl
    | some x =>
      obtain ⟨y, hy, hr⟩ := owGet (hg g) q
      rw [hy]
      cases hr with
      | same => exact .go same ⟨hk _, rfl, rfl, hf⟩
      | susp a b =>
        refine .go same ⟨?_, rfl, rfl, hf⟩
        simp only [b.wheres]
        exact hk _
  | stack k =>
    obtain ⟨k', rfl, hk⟩ := hc.stack
    refine .go same ⟨?_, rfl, rfl, hf⟩
    simp only [hf.wheres]
    exact hk _
  | newGen c k =>
    obtain ⟨k', rfl, hk⟩ := hc.newGen
    refine .go ⟨rfl, rfl, rfl, rfl, (gwPush hz hg _).1, (gwPush hz hg _).2⟩ ⟨?_, rfl, rfl, hf⟩
    simp only [hz]
    exact hk _
  | resume g r l k =>
    obtain ⟨k', rfl, hk⟩ := hc.resume
    simp only [step]
    cases q : gens[g]? with
    | none => rw [owNone (hg g) q]; exact .halt _ rfl
    | some x =>
      obtain ⟨y, hy, hr⟩ := owGet (hg g) q
      rw [hy]
      cases hr with
      | susp a b => exact .go (setG _ (.same _)) ⟨a _, rfl, rfl, b.append (.cons (.gen hk) hf)⟩
      | same =>
        cases x with
        | fresh c =>
          simp only
          split
          · exact .go (setG _ (.same _)) ⟨denR M c, rfl, rfl, .cons (.gen hk) hf⟩
          · exact .go same ⟨hk _, rfl, rfl, hf⟩
          · exact .go (setG _ (.same _)) ⟨hk _, rfl, rfl, hf⟩
        | suspended kk l' c p fs cl => exact .go (setG _ (.same _)) ⟨.inl rfl, rfl, rfl, (FRs.refl fs).append (.cons (.gen hk) hf)⟩
        | running => exact .go same ⟨hk _, rfl, rfl, hf⟩
        | finished => exact .go same ⟨hk _, rfl, rfl, hf⟩
  | yield v g l k =>
    have hgf : g = false := hm
    subst hgf
    obtain ⟨k', rfl, hk⟩ := hc.yieldF
    simp only [step]
    rcases hf.split with ⟨a, b⟩ | ⟨pre, pre', g, kk, kk', c, p, rest, rest', a, b, r1, r2, r3⟩
    · rw [a, b]; exact .halt _ rfl
    · rw [a, b]; exact .go (setG _ (.susp hk r1)) ⟨r3 _, rfl, rfl, r2⟩
  | thread k => obtain ⟨k', rfl, hk⟩ := hc.thread; exact .go same ⟨hk _, rfl, rfl, hf⟩
  | fork c k => obtain ⟨k', rfl, hk⟩ := hc.fork; exact .halt _ rfl
  | await a f d l k =>
    have : ∃ k', cur' = .await a f d l k' := by
      rcases hc with rfl | rfl
      · exact ⟨_, rfl⟩
      · cases q : yfIt code' with
        | none => exact ⟨_, EE_none q _⟩
        | some it => exact ⟨_, EE_some q _⟩
    obtain ⟨k', rfl⟩ := this
    exact .halt _ rfl
end Mine
end
section
open PySem
set_option Elab.async false
set_option maxRecDepth 100000
set_option maxHeartbeats 2000000
namespace Mine
section
variable (den : Code → Sem PySem.Fin) (prog : Program) (w : World)
theorem moves_yield (pr : Profile) (s : Shared) (v : Value) (g : Bool) (l : List Value) (k : Resume → Sem PySem.Fin) (code : Code) (pos : Pos) (stack : List Frame) : (Config.single s ⟨.yield v g l k, code, pos, stack⟩).moves pr = [.run 0] := by
  simp_all [Config.moves, Config.single, movesFrom, Thread.moves, Thread.atomic, Thread.rests, Thread.tells]
theorem pick_yield (s : Shared) (v : Value) (g : Bool) (l : List Value) (k : Resume → Sem PySem.Fin) (code : Code) (pos : Pos) (stack : List Frame) (hr : s.heap.life.registered = []) :
    (Config.single s ⟨.yield v g l k, code, pos, stack⟩).pick w = .ok (.run 0, .single s ⟨.yield v g l k, code, pos, stack⟩) := by
  have h1 : (Config.single s ⟨.yield v g l k, code, pos, stack⟩).collect? w.params = none := by
    simp [Config.collect?, Config.single, (nothing_to_collect _ _ _ s _ hr).1]
  have h2 : (Config.single s ⟨.yield v g l k, code, pos, stack⟩).collectable = [] := by
    simp [Config.collectable, Config.single, (nothing_to_collect w.params _ _ s _ hr).2]
  simp only [Config.pick, h1, h2, Config.pickThread, moves_yield]
  cases w.params.lifetimes <;> simp
theorem lifeStep_hush (others : List Value) (s : Shared) {v : Value} {l : List Value} {k : Resume → Sem PySem.Fin} {code : Code} {pos : Pos} {stack fs rest : List Frame} {b : Nat × (GenResult → Sem PySem.Fin) × Code × Pos} {a : Addr} {o : Obj} (hz : s.asleep)
    (hy : yfIt code = some (.ref a)) (ho : s.heap.get? a = some o) (hn : o.genNumber?.isSome = true) (hsp : splitAtGen stack = some (fs, b, rest)) (hg : fs.any Frame.guarded = false) :
    lifeStep den prog w others s ⟨.yield v true l k, code, pos, stack⟩ = step den prog w s ⟨.yield v true l k, code, pos, stack⟩ := by
  obtain ⟨hr, hc⟩ := hz
  obtain ⟨n, hn⟩ := Option.isSome_iff_exists.1 hn
  have hcode : ∃ rest kw, code = .builtin "proto.yield_from" ⟨.ref a :: rest, kw⟩ := by
    unfold yfIt at hy
    split at hy
    · split at hy
      · rename_i e; cases hy; subst e; exact ⟨_, _, rfl⟩
      · cases hy
    · cases hy
  obtain ⟨r, kw, rfl⟩ := hcode
  have hsh : closingShows s fs (.builtin "proto.yield_from" ⟨.ref a :: r, kw⟩) true = false := by
    simp [closingShows, hg, delegateShows, ho, hn, hr]
  simp [lifeStep, Thread.special, Thread.atCollectorCode, Thread.atItsEnd, Thread.yieldsInsideHandler, collectorTurn?, hsp, hsh, stepCounting, hc]
theorem run_yield (s : Shared) (v : Value) (g : Bool) (l : List Value) (k : Resume → Sem PySem.Fin) (code : Code) (pos : Pos) (stack : List Frame)
    (hl : ∀ others, lifeStep den prog w others s ⟨.yield v g l k, code, pos, stack⟩ = step den prog w s ⟨.yield v g l k, code, pos, stack⟩) :
    (Config.single s ⟨.yield v g l k, code, pos, stack⟩).run den prog w 0 = (step den prog w s ⟨.yield v g l k, code, pos, stack⟩).lift := by
  simp only [Config.run, Config.single]
  first
    | rfl
    | (simp [hl, others_single, frozenBadly, ThreadState.insideWrite]; split <;> simp_all [Step.lift, Config.single]; done)
    | (simp [hl, others_single, frozenBadly, ThreadState.insideWrite]; split <;> simp_all [Step.lift, Config.single] <;> split <;> simp; done)
    | (simp [hl, others_single, frozenBadly, ThreadState.insideWrite, Thread.finalizes]; split <;> simp_all [Step.lift, Config.single]; done)
    | (simp [hl, others_single, frozenBadly, ThreadState.insideWrite, Thread.finalizes]; split <;> simp_all [Step.lift, Config.single] <;> split <;> simp; done)
theorem sstep_hush (s : Shared) {v : Value} {l : List Value} {k : Resume → Sem PySem.Fin} {code : Code} {pos : Pos} {stack fs rest : List Frame} {b : Nat × (GenResult → Sem PySem.Fin) × Code × Pos} {a : Addr} {o : Obj} (hz : s.asleep)
    (hy : yfIt code = some (.ref a)) (ho : s.heap.get? a = some o) (hn : o.genNumber?.isSome = true) (hsp : splitAtGen stack = some (fs, b, rest)) (hg : fs.any Frame.guarded = false) :
    sstep den prog w (.single s ⟨.yield v true l k, code, pos, stack⟩) = (step den prog w s ⟨.yield v true l k, code, pos, stack⟩).lift := by
  have hl := fun others => lifeStep_hush den prog w others s (v := v) (l := l) (k := k) (pos := pos) hz hy ho hn hsp hg
  simp only [sstep, pick_yield w s _ _ _ _ _ _ _ hz.1, Config.move, run_yield den prog w s _ _ _ _ _ _ _ hl]
end
end Mine
end
section
open PySem
set_option Elab.async false
set_option maxRecDepth 100000
set_option maxHeartbeats 2000000
namespace Mine
theorem calm_back {t t' : Thread} (ht : ThR t t') (hm : marked t.cur = false) (h : t'.calm = true) : t.calm = true := by
  obtain ⟨cur, code, pos, stack⟩ := t
  obtain ⟨cur', code', pos', stack'⟩ := t'
  obtain ⟨hc, h2, h3, hf⟩ := ht
  simp only at hc h2 h3 hf hm
  subst h2 h3
  cases cur with
  | pure a => rw [hc.pure] at h; exact h
  | raise e => rw [hc.raise] at h; exact h
  | unsupported w => rw [hc.unsupported] at h; exact h
  | finish e => rw [hc.finish] at h; exact h
  | rule tag k => obtain ⟨k', rfl, hk⟩ := hc.rule; exact h
  | «at» p k => obtain ⟨k', rfl, hk⟩ := hc.at; exact h
  | load a q k => obtain ⟨k', rfl, hk⟩ := hc.load; exact h
  | update a q f k => obtain ⟨k', rfl, hk⟩ := hc.update; exact h
  | alloc o k => obtain ⟨k', rfl, hk⟩ := hc.alloc; exact h
  | loadIfAlive a k => obtain ⟨k', rfl, hk⟩ := hc.loadIfAlive; exact h
  | point l k => obtain ⟨k', rfl, hk⟩ := hc.point; exact h
  | register a k => obtain ⟨k', rfl, hk⟩ := hc.register; exact h
  | fresh k => obtain ⟨k', rfl, hk⟩ := hc.fresh; exact h
  | ask k => obtain ⟨k', rfl, hk⟩ := hc.ask; exact h
  | choose src n k => obtain ⟨k', rfl, hk⟩ := hc.choose; exact h
  | os q l k => obtain ⟨k', rfl, hk⟩ := hc.os; exact h
  | call c hd g l k => obtain ⟨k', rfl, hk⟩ := hc.call; exact h
  | handled own k => obtain ⟨k', rfl, hk⟩ := hc.handled; exact h
  | genState g k => obtain ⟨k', rfl, hk⟩ := hc.genState; exact h
  | stack k => obtain ⟨k', rfl, hk⟩ := hc.stack; exact h
  | newGen c k => obtain ⟨k', rfl, hk⟩ := hc.newGen; exact h
  | resume g r l k => obtain ⟨k', rfl, hk⟩ := hc.resume; exact h
  | thread k => obtain ⟨k', rfl, hk⟩ := hc.thread; exact h
  | fork c k => obtain ⟨k', rfl, hk⟩ := hc.fork; exact h
  | await a f d l k =>
    have : ∃ k', cur' = .await a f d l k' := by
      rcases hc with rfl | rfl
      · exact ⟨_, rfl⟩
      · cases q : yfIt code' with
        | none => exact ⟨_, EE_none q _⟩
        | some it => exact ⟨_, EE_some q _⟩
    obtain ⟨k', rfl⟩ := this
    exact h
  | yield v g l k =>
    have hgf : g = false := hm
    subst hgf
    obtain ⟨k', rfl, hk⟩ := hc.yieldF
    simp only [Thread.calm, Thread.atCollectorCode, Thread.atExit, Thread.yieldsInsideHandler] at h ⊢
    rcases hf.split with ⟨a, b⟩ | ⟨pre, pre', g, kk, kk', c, p, rest, rest', a, b, r1, r2, r3⟩
    · rw [a]; rw [b] at h; exact h
    · rw [a]; rw [b] at h
      simp only [r1.any] at h
      exact h
theorem noSusp_back {s s' : Shared} (h : SW s s') (hn : ∀ x ∈ s'.gens, x.isSuspended = false) : leftWithCleanup s.gens = false := by
  unfold leftWithCleanup
  rw [Array.any_eq_false]
  intro i hi
  have := h.gens i
  rw [Array.getElem?_eq_getElem hi] at this
  obtain ⟨y, hy, hr⟩ := owGet this rfl
  have hy' := hn y (Array.mem_of_getElem? hy)
  generalize s.gens[i] = x at hr
  cases hr with
  | same =>
    cases y <;> first | (simp [GenState.isSuspended] at hy'; done) | simp
  | susp a b => simp [GenState.isSuspended] at hy'
theorem sw_asleep {s s' : Shared} {t t' : Thread} {den : Code → Sem PySem.Fin} {prog : Program} {w : World} (h : step den prog w s t = .go s' t') (hz : s.asleep) : s'.asleep := by
  simp only [Shared.asleep, step_life den prog w s s' t t' h]; exact hz
theorem sched_sim {M : Model} : ∀ (n : Nat) (s s' : Shared) (t t' : Thread) (o : Outcome) (s₁' : Shared), runN (calmM M).den M.prog M.w n s' t' = .halted o s₁' → (∀ k s₂ t₂, runN (calmM M).den M.prog M.w k s' t' = .running s₂ t₂ → t₂.calm = true) → o.ends = true →
    SW s s' → ThR t t' → s.asleep → (∀ x ∈ s₁'.gens, x.isSuspended = false) → ∃ m s₁, schedN M.den M.prog M.w m (.single s t) = .halted o s₁ ∧ SW s₁ s₁' := by
  intro n
  induction n using Nat.strongRecOn with
  | _ n IH =>
  intro s s' t t' o s₁' hrun hcalm ho hs ht hz hfin
  cases n with
  | zero => cases hrun
  | succ n =>
  cases hm : marked t.cur with
  | false =>
    have hc := calm_back ht hm (hcalm 0 s' t' rfl)
    have hsim := step_sim (M := M) hs ht hm
    simp only [runN] at hrun
    generalize hS : step M.den M.prog M.w s t = S at hsim
    have hS' : step (calmM M).den M.prog M.w s' t' = step (calmM M).den (calmM M).prog (calmM M).w s' t' := rfl
    rw [hS'] at hrun
    generalize hT : step (calmM M).den (calmM M).prog (calmM M).w s' t' = S' at hsim hrun
    cases hsim with
    | @go s₂ s₂' t₂ t₂' a b =>
      have hone : sstep M.den M.prog M.w (.single s t) = .go (.single s₂ t₂) := by
        rcases sstep_single M.den M.prog M.w s t hc hz with e | e
        · rw [e, hS]; rfl
        · rw [hS] at e; cases e
      obtain ⟨m, s₁, h1, h2⟩ := IH n (Nat.lt_succ_self n) s₂ s₂' t₂ t₂' o s₁' hrun (fun k s₃ t₃ hk => hcalm (k + 1) s₃ t₃ (by simp only [runN]; rw [hS', hT]; exact hk)) ho a b (sw_asleep hS hz) hfin
      exact ⟨m + 1, s₁, by simp only [schedN, hone]; exact h1, h2⟩
    | halt o' hne =>
      cases hrun
      rw [hne] at ho; cases ho
    | @fin s₂ s₂' o' a =>
      unfold finish at hrun
      cases hl' : leftWithCleanup s₂'.gens with
      | true => rw [hl'] at hrun; simp only [if_true] at hrun; cases hrun; cases ho
      | false =>
        rw [hl'] at hrun
        simp only [Bool.false_eq_true, if_false] at hrun
        cases hrun
        have hl := noSusp_back a hfin
        have hfo : finish o s₂ = .halt o s₂ := by unfold finish; rw [hl]; rfl
        rw [hfo] at hS
        rcases sstep_single M.den M.prog M.w s t hc hz with e | e
        · exact ⟨1, s₂, by simp only [schedN, e, hS]; rfl, a⟩
        · rw [hS] at e; cases e; cases ho
  | true =>
    obtain ⟨cur, code, pos, stack⟩ := t
    obtain ⟨cur', code', pos', stack'⟩ := t'
    obtain ⟨hc, h2, h3, hf⟩ := ht
    simp only at hc h2 h3 hf hm
    subst h2 h3
    cases cur with
    | yield v g l k =>
      have hg1 : g = true := hm
      subst hg1
      have hloud : ∀ c p st, Thread.calm ⟨.yield v true l k, c, p, st⟩ = false := fun c p st => by simp [Thread.calm, Thread.yieldsInsideHandler]
      have hc0 := hcalm 0 _ _ rfl
      rcases hc with rfl | rfl
      · rw [hloud] at hc0; cases hc0
      · cases q : yfIt code' with
        | none => rw [EE_none q, hloud] at hc0; cases hc0
        | some it =>
          rw [EE_some q] at hrun hcalm
          have hE : calmT it (.yield v true l k) = chk it (.yield v false l fun x => calmT it (k x)) := rfl
          rw [hE] at hrun hcalm
          cases it with
          | ref a =>
            simp only [chk] at hrun hcalm
            simp only [runN, step] at hrun
            cases hh : s'.heap.get? a with
            | none => rw [hh] at hrun; cases hrun; cases ho
            | some ob =>
              rw [hh] at hrun
              simp only at hrun
              cases hgn : ob.genNumber?.isSome with
              | false =>
                rw [hgn] at hrun
                simp only [Bool.false_eq_true, if_false] at hrun
                cases n with
                | zero => cases hrun
                | succ n => simp only [runN, step] at hrun; cases hrun; cases ho
              | true =>
                rw [hgn] at hrun
                simp only [if_true] at hrun
                have hstep : runN (calmM M).den M.prog M.w 1 s' ⟨.load a none fun o => if o.genNumber?.isSome = true then .yield v false l fun x => calmT (.ref a) (k x) else .unsupported "delegate", code', pos', stack'⟩ = .running s' ⟨.yield v false l fun x => calmT (.ref a) (k x), code', pos', stack'⟩ := by
                  simp only [runN, step, hh, hgn, if_true]
                have hc1 := hcalm 1 _ _ hstep
                cases n with
                | zero => cases hrun
                | succ n =>
                  simp only [runN, step] at hrun
                  rcases hf.split with ⟨e1, e2⟩ | ⟨pre, pre', g, kk, kk', c, p, rest, rest', e1, e2, r1, r2, r3⟩
                  · rw [e2] at hrun; cases hrun; cases ho
                  · rw [e2] at hrun
                    simp only at hrun
                    have hng : pre'.any Frame.guarded = false := by
                      simp only [Thread.calm, Thread.yieldsInsideHandler, e2] at hc1
                      cases z : pre'.any Frame.guarded with
                      | false => rfl
                      | true => rw [z] at hc1; simp at hc1
                    have hng0 : pre.any Frame.guarded = false := by rw [← r1.any]; exact hng
                    have hone := sstep_hush M.den M.prog M.w s (v := v) (l := l) (k := k) (pos := pos') hz q (by rw [← hs.heap]; exact hh) hgn e1 hng0
                    have hst : step M.den M.prog M.w s ⟨.yield v true l k, code', pos', stack⟩ = .go ⟨s.heap, s.gens.setIfInBounds g (.suspended k l code' pos' pre true), s.drawn, s.toks, s.os⟩ ⟨kk (.yielded v), c, p, rest⟩ := by
                      simp only [step, e1, Bool.true_or]
                    rw [hst] at hone
                    have hset := gwSet hs.size hs.gens g (GW.susp (l := l) (p := pos') (cl := true) (cl' := (false || pre'.any Frame.guarded)) (c := code') (k := k) (k' := fun x => calmT (.ref a) (k x)) (fun r => .inr (EE_some q _).symm) r1)
                    obtain ⟨m, s₁, h1, h2⟩ := IH n (by omega) _ _ ⟨kk (.yielded v), c, p, rest⟩ ⟨kk' (.yielded v), c, p, rest'⟩ o s₁' hrun (fun k₂ s₃ t₃ hk => hcalm (k₂ + 2) s₃ t₃ (by
                        simp only [runN, step, hh, hgn, if_true, e2]; exact hk)) ho
                      (⟨hs.heap, hs.drawn, hs.toks, hs.os, hset.1, hset.2⟩ : SW ⟨s.heap, s.gens.setIfInBounds g (.suspended k l code' pos' pre true), s.drawn, s.toks, s.os⟩ ⟨s'.heap, s'.gens.setIfInBounds g (.suspended (fun x => calmT (.ref a) (k x)) l code' pos' pre' (false || pre'.any Frame.guarded)), s'.drawn, s'.toks, s'.os⟩) ⟨r3 _, rfl, rfl, r2⟩ hz hfin
                    exact ⟨m + 1, s₁, by simp only [schedN, hone]; exact h1, h2⟩
          | _ =>
            simp only [chk] at hrun
            simp only [runN, step] at hrun
            cases hrun; cases ho
    | _ => cases hm
end Mine
end
section
open PySem PySem.W PySem.Calls PyProof.Rows
set_option Elab.async false
set_option maxRecDepth 100000
set_option maxHeartbeats 2000000
namespace Mine
theorem noSusp_forget {s s' : Shared} (h : s.forget = s'.forget) (hn : ∀ x ∈ s'.gens, x.isSuspended = false) : ∀ x ∈ s.gens, x.isSuspended = false := by
  intro x hx
  obtain ⟨i, hi, rfl⟩ := Array.mem_iff_getElem.1 hx
  have hg : s.gens.map GenState.forget = s'.gens.map GenState.forget := congrArg Shared.gens h
  have h1 : (s.gens.map GenState.forget)[i]? = some (s.gens[i].forget) := by simp [hi]
  rw [hg] at h1
  simp only [Array.getElem?_map, Option.map_eq_some_iff] at h1
  obtain ⟨y, hy, he⟩ := h1
  have := hn y (Array.mem_of_getElem? hy)
  revert he
  cases s.gens[i] <;> cases y <;> simp_all [GenState.forget, GenState.isSuspended]
/-- the real machine comes to the end that the calmed model has -/
theorem thread_ends_calm {prog : Program} {w : World} {t : Sem PySem.Fin} {s : Shared} {R : Result → Shared → Prop} (hreg : s.asleep)
    (h : wpAny (calmM (model prog w)) callerA t (fun fin s' => ∃ f, fin = .done f ∧ (R (.ok f) s' ∧ ∀ x ∈ s'.gens, x.isSuspended = false)) (fun e s' => R (.error e) s' ∧ ∀ x ∈ s'.gens, x.isSuspended = false) s) :
    ∃ n r s' s'', schedN (denote table) prog w n (.single s ⟨t, .builtin "claim.caller" {}, default, []⟩) = .halted (outcomeOf r) s' ∧ s'.heap = s''.heap ∧ s'.os = s''.os ∧ s'.drawn = s''.drawn ∧ s'.toks = s''.toks ∧ s''.heap.life = s.heap.life ∧ R r s'' := by
  have h' : Sem.wp (calmM (model prog w)) ⟨.builtin "claim.caller" {}, none, none, [], none⟩ t (Sem.finPost (calmM (model prog w)) ⟨.builtin "claim.caller" {}, none, none, [], none⟩ fun r s' => (R r s' ∧ ∀ x ∈ s'.gens, x.isSuspended = false) ∧ leftWithCleanup s'.gens = false)
      (fun e _ s' => (R (.error e) s' ∧ ∀ x ∈ s'.gens, x.isSuspended = false) ∧ leftWithCleanup s'.gens = false) default s :=
    wp_of_wpAny_done (R := fun r s' => (R r s' ∧ ∀ x ∈ s'.gens, x.isSuspended = false) ∧ leftWithCleanup s'.gens = false) caller_in (wpAny_mono h (fun fin s' ⟨f, e, a, b⟩ => ⟨f, e, ⟨a, b⟩, Shared.NoSusp.noCleanup b⟩) fun e s' ⟨a, b⟩ => ⟨⟨a, b⟩, Shared.NoSusp.noCleanup b⟩) default
  obtain ⟨n, r, s₂, hn, hR, hS⟩ := (wp_iff_halts t (fun r s' => R r s' ∧ ∀ x ∈ s'.gens, x.isSuspended = false) default s).mp h'
  obtain ⟨s₃, hr, hf, hc⟩ := runNI_real _ _ _ hn (outcomeOf_ends r)
  obtain ⟨m, s₁, h1, h2⟩ := sched_sim (M := model prog w) n s s ⟨t, .builtin "claim.caller" {}, default, []⟩ ⟨t, .builtin "claim.caller" {}, default, []⟩ (outcomeOf r) s₃ hr hc (outcomeOf_ends r) (SW.refl s) ⟨.inl rfl, rfl, rfl, .nil⟩ hreg (noSusp_forget hf hS)
  obtain ⟨a, b, c, d, e⟩ := Shared.forget_eq hf
  exact ⟨m, r, s₁, s₂, h1, h2.heap.symm.trans a, h2.os.symm.trans (by first | exact e | exact d | exact c | exact b), h2.drawn.symm.trans (by first | exact b | exact c | exact d), h2.toks.symm.trans (by first | exact c | exact d | exact b), by rw [← a]; exact runN_life _ _ _ hr, hR⟩

/-- the walk's goal, in the calmed model -/
def GoodC (c : ClaimW) (cl : Str → Option Addr) (mean : ExcName → Option Value) (args : List WData) (s₁ : Shared) (res : Result) (s' : Shared) : Prop :=
  GoodWG c cl mean args s₁ res s' ∧ ∀ x ∈ s'.gens, x.isSuspended = false
theorem callFrom_calm {c : ClaimW} {tree : List Value → Sem PySem.Fin} {w : World} {s : Shared} {free : Addr → Prop} {gens : Prop} {kept : Heap → Prop} (hz : s.asleep) (hgens : s.gens = #[])
    (hspec : ∀ args, c.pre args = true → WData.layableAll args = true → ∀ ord : List DictEntry → List DictEntry, (∀ l, (ord l).Perm l) →
      ∃ vs s₁, layAllW c.records (classAt s.heap) w.params ord args s = some (vs, s₁) ∧
        wpAny (calmM (model c.prog w)) callerA (tree vs) (fun fin s' => ∃ f, fin = .done f ∧ ((c.Ends s args vs s₁ (.ok f) s' ∧ s'.os = s.os ∧ kept s'.heap) ∧ ∀ x ∈ s'.gens, x.isSuspended = false))
          (fun e s' => (c.Ends s args vs s₁ (.error e) s' ∧ s'.os = s.os ∧ kept s'.heap) ∧ ∀ x ∈ s'.gens, x.isSuspended = false) s₁) :
    c.CallFrom (fun vs => ⟨tree vs, .builtin "claim.caller" {}, default, []⟩) w free gens kept s := by
  intro args hpre hlay ord hord
  obtain ⟨vs, s₁, hlaid, hcode⟩ := hspec args hpre hlay ord hord
  have hal := layAllW_rest _ _ _ hlaid
  obtain ⟨m, r, s', s'', hsched, eh, eo, _, _, hlife, hcase, hos, hkp⟩ := thread_ends_calm (prog := c.prog) (w := w) (t := tree vs) (s := s₁) (R := fun r s' => c.Ends s args vs s₁ r s' ∧ s'.os = s.os ∧ kept s'.heap) (Shared.asleep_of_life hal.2.2.2 hz) hcode
  have hcase := hcase.congr eh
  rw [← eh] at hkp
  refine ⟨vs, s₁, hlaid, m, _, s', hsched, ?_, (fun _ i x hx => by rw [hgens] at hx; simp at hx), hkp, by rw [eh, hlife, hal.2.2.2], Shared.rest_eq (eo.trans hos)⟩
  rcases hcase with ⟨v, rfl, d1, d2, d3, d4, d5⟩ | ⟨e, ob, cls, rfl, d1, d2, d3, d4, d5⟩
  · exact .inl ⟨v, rfl, d1, d2, d3, fun b o y _ => d4 b o y, d5⟩
  · exact .inr ⟨e, ob, cls, rfl, d1, d2, d3, d4, fun b o y _ => d5 b o y⟩
abbrev WalkC (q : Program) (loose : List Str) (XP : (Str → Option Value) → Heap → Prop) (YP : World → Heap → Prop) (r : RowW) (d : DefRec) (kwd : List (Str × Expr)) (run : Value → List Value → Sem Value) : Prop :=
  ∀ (w : World) (s₀ s₁ : Shared) (mg mb : Str → Option Value), Ground q loose r.records XP w s₀ mg mb s₁.heap → YP w s₁.heap → ∀ (a : Addr) (o : Obj) (pm cd doc dV kV : Value), s₁.heap.get? a = some o →
    o.data = .func { docDef d.name d.params d.body d.scope pm cd doc with defaults := dV, kwdefaults := kV } → s₁.heap.CodeRec cd d.name → Dflts mg s₁.heap d.params kwd dV kV → mg d.name = some (.ref a) → s₁.gens = #[] →
    ∀ (args : List WData) (vals : List Value) (as : List Addr), r.claim.pre args = true → WData.layableAll args = true → ReadsAllW r.records (classAt s₀.heap) s₁.heap vals args as → WellAll w.params s₁.heap vals args → (∀ a ∈ as, (a == sysModules) = false) →
      wpAny (calmM (model r.prog w)) callerA (run (.ref a) vals) (fun v s' => GoodC r.claim (classAt s₀.heap) (ExcName.means s₀.heap) args s₁ (.ok (.ret v)) s')
        (fun e s' => GoodC r.claim (classAt s₀.heap) (ExcName.means s₀.heap) args s₁ (.error e) s') s₁
theorem tree_calm {prog : Program} {name : Str} (vs : List Value) (w : World) (s : Shared) (mg : Str → Option Value) (f : Value) (Q : PySem.Fin → Shared → Prop) (E : Value → Shared → Prop) (hg : s.heap.Ns mainGlobals mg) (hf : mg name = some f)
    (h : wpAny (calmM (model prog w)) callerA (PySem.call f vs) (fun v s' => Q (.done (.ret v)) s') E s) :
    wpAny (calmM (model prog w)) callerA (do match ← nsGet mainNs name with
      | some f => do ret (← PySem.call f vs)
      | none => unsupported "claim.caller:no-such-global") Q E s :=
  wpAny_bind (wpAny_nsGet hg (by rw [hf]; exact wpAny_bind (wpAny_mono h (fun _ _ x => wpAny_pure x) fun _ _ x => x)))
theorem PySem.W.holds_open {r : OpenRow} {q : Program} {loose : List Str} {Xt : Shared → Bool} {XP : (Str → Option Value) → Heap → Prop} {α : Type} {Yf : Shared → α} {Ya : World → α} {YP : World → Heap → Prop} {d : DefRec} {kwd : List (Str × Expr)} {N : Nat}
    (left : LeftO r.prog q loose Xt Yf Ya N) (hY : ∀ w s, Yf s = Ya w → YP w s.heap) (hYk : ∀ w h h', YP w h → (∀ b o, h.get? b = some o → h'.get? b = some o) → YP w h')
    (hX : ∀ s, Xt s = true → XP (s.heap.nsMap mainGlobals) s.heap) (hXk : ∀ mg h h', XP mg h → (∀ b o, h.get? b = some o → h'.get? b = some o) → XP mg h')
    (hdef : defOf q r.name = some (d, kwd)) (hp : r.prog.theDef r.name = some (d.params, d.body, d.scope)) (hk : kwWritten? d.params.kwonlyargs d.params.kw_defaults = some kwd) (hRf : ∀ s, Xt s = true → RecFacts r.records s.heap) (hwr : (!r.writes || r.records.isEmpty) = true)
    (k1 : r.wellSaid = true) (ok : (chainsOk q && opensWell r.prog && (frees r.toRowW && r.within.isEmpty)) = true) (hb : r.prog.bare) (hw : r.toRowW.promised)
    (call : WalkC q loose XP YP r.toRowW d kwd fun f vs => PySem.call f vs) : r.Holds := by
  obtain ⟨ok, k5⟩ := Bool.and_eq_true_iff.mp ok
  obtain ⟨hch, o1⟩ := Bool.and_eq_true_iff.mp ok
  obtain ⟨k5, k6⟩ := Bool.and_eq_true_iff.mp k5
  obtain ⟨hsame, hu, ha, hap, hm⟩ := frees_parts k5
  refine ⟨k1, hw, ⟨hb, o1, by show r.toRowW.makers.map _ = []; rw [hm]; rfl⟩, hw.witness, fun w => ⟨(left.behind hX hch w).1, fun s' hs' => ?_⟩⟩
  obtain ⟨s₀, hf, hg0, s, hT, hz, hgens, hg, G00, y⟩ := (left.behind (XP := fun mg h => XP mg h ∧ RecFacts r.records h) (fun s hs => ⟨hX s hs, hRf s hs⟩) hch w).2 s' hs'
  have G0 : Ground q loose [] XP w s (s.heap.nsMap mainGlobals) (s.heap.nsMap builtinsNs) s.heap := ⟨G00.T, G00.B, G00.D, G00.TE, G00.TD, G00.W, G00.X.1, G00.cls, G00.has, G00.apart, G00.once, G00.K⟩
  have RF := G00.X.2
  have hT' := hT
  refine ⟨s₀, hf, hg0, s, hT, fun n hn => ?_, RF.1, RF.2.1, ?_⟩
  · obtain rfl : n = r.name := by split at hn <;> simp_all
    exact pinned_of_view hg G0 hdef hp hk
  have hgens : s.gens = #[] := Array.eq_empty_of_size_eq_zero (beq_iff_eq.mp hgens)
  have G : Ground q loose r.records XP w s _ _ s.heap := RF.ground G0
  refine callFrom_calm (c := r.toRowW.claim) hz hgens fun args hpre hlay ord hord => ?_
  obtain ⟨⟨vs, s₁⟩, hlaid⟩ := Option.isSome_iff_exists.mp (layAllW_isSome (P := w.params) (ord := ord) G.has args r.args s (pre_splitW hpre).1)
  have keeps := layAllW_keeps _ _ _ hlaid
  have hal := layAllW_rest _ _ _ hlaid
  obtain ⟨as, hrd, hin, hold⟩ := reads_layAllW hord _ _ _ hlaid hlay s₁.heap (fun _ _ e => e)
  have L : Laid r.records w s s₁ args vs as := ⟨⟨ord, hord, hlaid⟩, hrd, hin, hold, keeps, hal.1.trans hgens, hal.2.2.1⟩
  have G₁ := G.keeps hXk keeps
  obtain ⟨a, o, pm, cd, doc, dV, kV, h1, h2, h3, h4, h5⟩ := G₁.fn hdef
  have h := call w s s₁ _ _ G₁ (hYk _ _ _ (hY w s y) keeps) a o pm cd doc dV kV h2 h3 h4 h5 (defOf_name hdef ▸ h1) L.gens args vs as hpre hlay L.reads L.well (L.low G.low)
  have hi := ident_freeW hu ha hap
  have hwi : r.toRowW.claim.within = [] := List.isEmpty_iff.mp k6
  exact ⟨vs, s₁, hlaid, tree_calm vs w s₁ _ (.ref a) _ _ G₁.T.g h1 (wpAny_mono h (fun v s' g => ⟨_, rfl, have z := g.1.laid (c := r.toRowW.claim) hsame hwi hi L; ⟨⟨z.1, z.2.1, fun q => ⟨namesKept_of hT' hg _ keeps g.1.2.1.old, noTable hwr q⟩⟩, g.2⟩⟩)
    fun e s' g => have z := g.1.laid (c := r.toRowW.claim) hsame hwi hi L; ⟨⟨z.1, z.2.1, fun q => ⟨namesKept_of hT' hg _ keeps g.1.2.1.old, noTable hwr q⟩⟩, g.2⟩)⟩
end Mine
end
section
open PySem PySem.W PySem.Calls PyProof.Rows
set_option Elab.async false
namespace Mine
set_option maxRecDepth 100000 in
set_option maxHeartbeats 8000000 in
open_top hd for PySem.Challenge.rw_ci0031_01
end Mine
end
section
open PySem PySem.W PySem.W.X PyProof.Rows PySem.Calls
set_option Elab.async false
set_option maxRecDepth 100000
set_option maxHeartbeats 8000000
namespace Mine
abbrev PR : Program := PySem.Challenge.pw_ci0031_01
noncomputable abbrev KK (w : World) : Frag := hd.heap_39 w.params

def topSt (i : Nat) : Stmt := (PR.main.body[i]?).getD (.Pass default)
def stBody : Stmt → List Stmt
  | .FunctionDef _ _ b _ _ _ _ _ _ _ => b
  | .ClassDef _ _ _ b _ _ _ _ _ _ _ => b
  | _ => []
def stScope : Stmt → Scope
  | .FunctionDef _ _ _ _ _ _ sc _ _ _ => sc
  | _ => default
def stArgs : Stmt → Arguments
  | .FunctionDef _ a _ _ _ _ _ _ _ _ => a
  | _ => default
def nth (l : List Stmt) (i : Nat) : Stmt := (l[i]?).getD (.Pass default)
def fdOf (st : Stmt) (nm q : Str) (pm : Value) (code : Addr) : FuncData :=
  fnOf nm q (stArgs st) (stBody st) (stScope st) .none .none .none pm none (.ref code) .none
def fnObj (fd : FuncData) : Obj := ⟨.type "function", none, .func fd, #[]⟩

structure Cx (w : World) (h : Heap) : Prop where
  X : (KK w).In h
  G : ∃ mg mb, h.Ns mainGlobals mg ∧ h.Ns builtinsNs mb ∧ (∀ x : Str, x ≠ "__name__" → mb x = bootBuiltins x)
  nl : h.NoLimit
theorem Cx.keeps {w : World} {h h' : Heap} (c : Cx w h) (k : ∀ b o, h.get? b = some o → h'.get? b = some o) : Cx w h' :=
  ⟨c.X.keeps k, let ⟨mg, mb, a, b, d⟩ := c.G; ⟨mg, mb, a.keeps k, b.keeps k, d⟩, c.nl.keeps k⟩

structure Ok (A : Around) (d : Nat) : Prop where
  depth : A.depth + d ≤ 600
  units : A.units + 20 * d ≤ 5000
  hd : A.handled = none
abbrev A1 : Around := { handled := none, depth := 600, frames := none, guards := none, units := 5000 }

section
variable {w : World} {A : Around} {E : Value → Shared → Prop} {s : Shared} {h₀ : Heap} {L a : Addr} {m : Str → Option Value} {cn : Str} {cs : Scope} {cd : Value}

theorem nmK {x : Str} {pos : Pos} {v : Value} {Q : Value → Shared → Prop} (c : Cx w h₀) (F : Fr h₀ L s.heap m) (e : nsIn (KK w) mainGlobals x = some (some v)) (h : Q v s)
    (hk : cs.kind = .function := by rfl) (hx : (envOf cn cs L a cd).kindOf x = some .globalImplicit := by rfl) (hd : (x == ("__debug__" : Str)) = false := by decide) :
    wpAny (model PR w) A (eval (.Name x pos) (envOf cn cs L a cd)) Q E s :=
  let ⟨_, _, g, _, _⟩ := c.G
  ld_global_at F g (mg_of c.X g e) h hk hx hd
theorem nmB {x : Str} {pos : Pos} {v : Value} {Q : Value → Shared → Prop} (c : Cx w h₀) (F : Fr h₀ L s.heap m) (e : nsIn (KK w) mainGlobals x = some none) (hv : bootBuiltins x = some v) (hn : x ≠ "__name__") (h : Q v s)
    (hk : cs.kind = .function := by rfl) (hx : (envOf cn cs L a cd).kindOf x = some .globalImplicit := by rfl) (hd : (x == ("__debug__" : Str)) = false := by decide) :
    wpAny (model PR w) A (eval (.Name x pos) (envOf cn cs L a cd)) Q E s :=
  let ⟨_, _, g, b, mbe⟩ := c.G
  ld_builtin_at F g (mg_none_of c.X g e) b ((mbe x hn).trans hv) h hk hx hd

theorem call_fn {R : Result → Shared → Prop} {f : Addr} {st : Stmt} {nm q : Str} {code : Addr} {args : Args} {binds : List (Str × Value)} (c : Cx w s.heap) (hroom : A.depth < recursionLimit)
    (ho : ∃ pm, (KK w).lookup f = some (fnObj (fdOf st nm q pm code))) (hcd : codeIn (KK w) (.ref code) q = true)
    (hbind : ∀ pm, bindArgs (fdOf st nm q pm code) args = pure binds)
    (h : ∀ h₁, Fr s.heap s.heap.objs.size h₁ (fun y => binds.reverse.lookup y) →
      wpAny (model PR w) (A.deeper (envOf q (stScope st) s.heap.objs.size f (.ref code))) (execs (stBody st) (envOf q (stScope st) s.heap.objs.size f (.ref code)))
        (fun fl s' => R (.ok (.ret (match fl with | .ret v => v | _ => .none))) s')
        (fun e s' => wpAny (model PR w) (A.deeper (envOf q (stScope st) s.heap.objs.size f (.ref code))) (leaving (envOf q (stScope st) s.heap.objs.size f (.ref code)) e) (fun _ s'' => R (.error e) s'') (fun e' s'' => R (.error e') s'') s')
        { s with heap := h₁, toks := s.toks + binds.length })
    (hcell : ∀ x ∈ (stScope st).names, x.2 ≠ .cell := by decide) (hloc : ∀ x ∈ binds, (stScope st).names.lookup x.1 = some .local := by exact locs (by rfl))
    (hco : (stScope st).isCoroutine = false := by rfl) (hgen : (stScope st).isGenerator = false := by rfl) (hk : (stScope st).kind = .function := by rfl) :
    codeAny (model PR w) A (.call (.ref f) args) R s := by
  obtain ⟨pm, ho⟩ := ho
  refine codeAny_call_def (fd := fdOf st nm q pm code) (body := stBody st) (binds := binds) hroom (c.X _ _ ho) rfl c.nl (codeRec_of c.X hcd) rfl (.of_eq (hbind pm)) hcell hloc (fun h₁ hns hk₁ => ?_) hco hgen hk
  exact h h₁ ⟨hns, hk₁, Nat.le_refl _⟩
theorem call_fnR {R : Result → Shared → Prop} {f : Addr} {st : Stmt} {nm q : Str} {code : Addr} {args : Args} {binds : List (Str × Value)} (c : Cx w s.heap) (hroom : A.depth < recursionLimit)
    (ho : ∃ pm, (KK w).lookup f = some (fnObj (fdOf st nm q pm code))) (hcd : codeIn (KK w) (.ref code) q = true)
    (hbind : ∀ pm, bindArgs (fdOf st nm q pm code) args = pure binds)
    (h : ∀ h₁, Fr s.heap s.heap.objs.size h₁ (fun y => binds.reverse.lookup y) →
      wpAny (model PR w) (A.deeper (envOf q (stScope st) s.heap.objs.size f (.ref code))) (execs (stBody st) (envOf q (stScope st) s.heap.objs.size f (.ref code)))
        (fun fl s' => R (.ok (.ret (match fl with | .ret v => v | _ => .none))) s') (fun _ _ => False) { s with heap := h₁, toks := s.toks + binds.length })
    (hcell : ∀ x ∈ (stScope st).names, x.2 ≠ .cell := by decide) (hloc : ∀ x ∈ binds, (stScope st).names.lookup x.1 = some .local := by exact locs (by rfl))
    (hco : (stScope st).isCoroutine = false := by rfl) (hgen : (stScope st).isGenerator = false := by rfl) (hk : (stScope st).kind = .function := by rfl) :
    codeAny (model PR w) A (.call (.ref f) args) R s :=
  call_fn c hroom ho hcd hbind (fun h₁ F => wpAny_mono (h h₁ F) (fun _ _ x => x) fun _ _ x => x.elim) hcell hloc hco hgen hk
theorem Ok.deeper {d : Nat} (o : Ok A (d + 1)) (env : Env) : Ok (A.deeper env) d :=
  ⟨by have := o.depth; simp only [Around.deeper]; omega, by have := o.units; simp only [Around.deeper]; omega, o.hd⟩
theorem Ok.in1 {d : Nat} (o : Ok A (d + 1)) : Ok A.in1 d :=
  ⟨by have := o.depth; simp only [Around.in1]; omega, by have := o.units; simp only [Around.in1]; omega, o.hd⟩
theorem Ok.le {d d' : Nat} (o : Ok A d) (h : d' ≤ d) : Ok A d' := ⟨by have := o.depth; omega, by have := o.units; omega, o.hd⟩
theorem Ok.room {d : Nat} (o : Ok A d) : A.depth < recursionLimit := by have := o.depth; simp only [recursionLimit]; omega
theorem Ok.cl {d : Nat} (o : Ok A d) : A.units < cLine := by have := o.units; simp only [cLine]; omega
theorem Ok.one {d : Nat} (o : Ok A d) {α : Type} {M : Model} {t : Sem α} {Q : α → Shared → Prop} (h : wpAny M A1 t Q E s) : wpAny M A t Q E s := fun Γ p hΓ =>
  h Γ p ⟨hΓ.1.trans o.hd, Nat.le_trans hΓ.2.1 (by have := o.depth; show _ ≤ 600; omega), (fun _ q => by cases q), (fun _ q => by cases q), Nat.le_trans hΓ.2.2.2.2 (by have := o.units; show _ ≤ 5000; omega)⟩
theorem Ok.oneC {d : Nat} (o : Ok A d) {M : Model} {c : Code} {R : Result → Shared → Prop} (h : codeAny M A1 c R s) : codeAny M A c R s := fun Γ p hc hΓ =>
  h Γ p hc ⟨hΓ.1.trans o.hd, Nat.le_trans hΓ.2.1 (by have := o.depth; show _ ≤ 600; omega), (fun _ q => by cases q), (fun _ q => by cases q), Nat.le_trans hΓ.2.2.2.2 (by have := o.units; show _ ≤ 5000; omega)⟩
end
end Mine
end
section
open PySem PySem.W PySem.W.X PyProof.Rows PySem.Calls
set_option Elab.async false
set_option maxRecDepth 100000
set_option maxHeartbeats 8000000
namespace Mine
section
variable {w : World} {A : Around} {E : Value → Shared → Prop} {s : Shared}
theorem number_spec {R : Result → Shared → Prop} {S : Addr} {vs : List Value} {ns : List Int} {p : Int} {t : Tok} (c : Cx w s.heap) (ok : Ok A 5) (hS : s.heap.IsList S vs.toArray) (hI : IntsAre vs ns)
    (hn : vs.length < 2 ^ 20) (h0 : 0 ≤ p) (h1 : p < 2 ^ 20)
    (h : ∀ h' tk t', (∀ b o, s.heap.get? b = some o → h'.get? b = some o) → R (.ok (.ret (.int (ns.getD p.toNat 0) t'))) { s with heap := h', toks := tk }) :
    codeAny (model PR w) A (.call (.ref 93) ⟨[.ref S, .int p t], []⟩) R s := by
  refine call_fnR (st := topSt 3) (nm := "_law_number") (q := "_law_number") (code := 92) (binds := [("script", .ref S), ("place", .int p t)]) c ok.room ⟨_, rfl⟩ (by kernel_rfl) (fun pm => by kernel_rfl) (fun h₁ F => ?_)
  refine wpAny_execs_cons (wpAny_Return_some (wpAny_IfExp (wpAny_isTrue_Compare1 ?_)))
  refine ld F rfl ?_
  refine wpAny_Call_NameR (nmB c F (by kernel_rfl) (v := .builtin "len") (by kernel_rfl) (by decide +kernel) ?_)
  refine Calls.callWith_builtin rfl (evalArgs_plain (spliced_cons (ld F rfl (spliced_nil ?_))))
  have hS' : h₁.IsList S vs.toArray := hS.at fun o e => F.keep _ _ e
  refine call_len_list hS' (by simp; omega) ?_
  refine wpAny_lt_int (wpAny_truthy_bool ?_)
  have hlen := hI.length
  split
  · rename_i hlt
    simp at hlt
    refine Subscript_ (ld F rfl (ld F rfl ?_))
    obtain ⟨v, hv⟩ : ∃ v, vs[p.toNat]? = some v := ⟨_, List.getElem?_eq_getElem (by omega)⟩
    refine item_list (x := v) hS' h0 (by omega) (by simpa using hv) ?_
    obtain ⟨n, t', rfl, e⟩ := hI.at _ _ hv
    have e' : ns.getD p.toNat 0 = n := by rw [List.getD_eq_getElem?_getD, e]; rfl
    have := h h₁ (s.toks + 4) t' F.keep
    rw [e'] at this
    exact this
  · rename_i hlt
    simp at hlt
    refine wpAny_Constant_int ?_
    have e : ns.getD p.toNat 0 = 0 := by simp [List.getD_eq_getElem?_getD, List.getElem?_eq_none (show ns.length ≤ p.toNat by omega)]
    have := h h₁ (s.toks + 5) (s.toks + 4) F.keep
    rw [e] at this
    exact this
end
end Mine
end
section
open PySem PySem.W PySem.W.X PyProof.Rows PySem.Calls
set_option Elab.async false
set_option maxRecDepth 100000
set_option maxHeartbeats 8000000
namespace Mine
abbrev nodeO (dx d : Addr) (c : Value) : Obj := ⟨.ref 40, some dx, .plain, #[some (.ref d), some c]⟩
structure NewNode (h h' : Heap) (a dx d : Addr) : Prop where
  keeps : ∀ b o, h.get? b = some o → h'.get? b = some o
  at_ : h'.get? a = some (nodeO dx d .none)
  xd : h'.get? dx = some emptyDict
  dd : h'.get? d = some emptyDict
  fa : h.get? a = none
  fx : h.get? dx = none
  fd : h.get? d = none
  n1 : a ≠ dx
  n2 : a ≠ d
  n3 : dx ≠ d
  big : 1 < d
def NodeK (s : Shared) (Q : Value → Shared → Prop) : Prop := ∀ h' tk a dx d, NewNode s.heap h' a dx d → Q (.ref a) { s with heap := h', toks := tk }
theorem mem_keeps {h₀ h : Heap} {news : List (Addr × Obj)} (D : Mem h₀ h [] news) : ∀ b o, h₀.get? b = some o → h.get? b = some o := fun b o e => D.keep b o e (by simp [away])
theorem nodeK_use {s : Shared} {Q : Value → Shared → Prop} {h' : Heap} {tk : Nat} {a dx d f : Addr} {od of oa ox : Obj} (h : NodeK s Q) (D : Mem s.heap h' [] [(d, od), (f, of), (a, oa), (dx, ox)])
    (e1 : od = emptyDict) (e2 : oa = nodeO dx d .none) (e3 : ox = emptyDict) : Q (.ref a) { s with heap := h', toks := tk } := by
  subst e1 e2 e3
  have o := D.ord
  simp only [List.map_cons, List.map_nil, List.pairwise_cons, List.mem_cons, List.not_mem_nil, or_false, forall_eq_or_imp, forall_eq] at o
  have n := D.nw
  exact h _ _ _ _ _ ⟨mem_keeps D, (n _ (.tail _ (.tail _ (.head _)))).1, (n _ (.tail _ (.tail _ (.tail _ (.head _))))).1, (n _ (.head _)).1, (n _ (.tail _ (.tail _ (.head _)))).2, (n _ (.tail _ (.tail _ (.tail _ (.head _))))).2, (n _ (.head _)).2,
    Nat.ne_of_gt o.2.2.1, Nat.ne_of_lt o.1.2.1, Nat.ne_of_lt o.1.2.2, Nat.lt_of_le_of_lt (Nat.lt_of_le_of_lt (Nat.zero_le _) o.2.2.1) o.1.2.1⟩
section
local macro_rules | `(tactic| x_close) => `(tactic| (refine nodeK_use (by assumption) (by assumption) ?_ ?_ ?_ <;> kernel_rfl))
theorem node_new {w : World} {Q : Value → Shared → Prop} {E : Value → Shared → Prop} {s : Shared} (X : (hd.heap_39 w.params).In s.heap) (h : NodeK s Q) :
    wpAny (model PR w) A1 (call (.ref 40) [] []) Q E s := by
  x_run
end
abbrev matO (dx : Addr) : Obj := ⟨.ref 82, some dx, .plain, #[]⟩
structure NewMat (h h' : Heap) (x xx a dx d : Addr) : Prop where
  keeps : ∀ b o, h.get? b = some o → h'.get? b = some o
  at_ : h'.get? a = some (nodeO dx d .none)
  xd : h'.get? dx = some emptyDict
  dd : h'.get? d = some emptyDict
  mat : h'.get? x = some (matO xx)
  dict : ∃ hs tk n, h'.get? xx = some (dictOf [⟨hs, .str "_root" tk, .ref a⟩] n)
  fa : h.get? a = none
  fx : h.get? dx = none
  fd : h.get? d = none
  fm : h.get? x = none
  fxx : h.get? xx = none
  nd : [x, xx, a, dx, d].Nodup
  big : 1 < d
def MatK (s : Shared) (Q : Value → Shared → Prop) : Prop := ∀ h' tk x xx a dx d, NewMat s.heap h' x xx a dx d → Q (.ref x) { s with heap := h', toks := tk }
theorem matK_use {s : Shared} {Q : Value → Shared → Prop} {h' : Heap} {tk : Nat} {x xx f1 a dx f2 d : Addr} {od of2 oa ox of1 om omx : Obj} (h : MatK s Q)
    (D : Mem s.heap h' [] [(d, od), (f2, of2), (a, oa), (dx, ox), (f1, of1), (x, om), (xx, omx)])
    (e1 : od = emptyDict) (e2 : oa = nodeO dx d .none) (e3 : ox = emptyDict) (e4 : om = matO xx) (e5 : ∃ hs tk n, omx = dictOf [⟨hs, .str "_root" tk, .ref a⟩] n) : Q (.ref x) { s with heap := h', toks := tk } := by
  obtain ⟨hs, tk', n', e5⟩ := e5
  subst e1 e2 e3 e4 e5
  have o := D.ord
  simp only [List.map_cons, List.map_nil, List.pairwise_cons, List.mem_cons, List.not_mem_nil, or_false, forall_eq_or_imp, forall_eq] at o
  have n := D.nw
  have na := n (a, nodeO dx d .none) (by simp)
  have nx := n (dx, emptyDict) (by simp)
  have nd := n (d, emptyDict) (by simp)
  have nm := n (x, matO xx) (by simp)
  have nxx := n (xx, dictOf [⟨hs, .str "_root" tk', .ref a⟩] n') (by simp)
  refine h _ _ x xx a dx d ⟨mem_keeps D, na.1, nx.1, nd.1, nm.1, ⟨_, _, _, nxx.1⟩, na.2, nx.2, nd.2, nm.2, nxx.2, ?_, Nat.lt_of_le_of_lt (Nat.lt_of_le_of_lt (Nat.zero_le _) o.2.2.1.1) o.1.2.1⟩
  have nn : [d, f2, a, dx, f1, x, xx].Nodup := D.ord.imp (fun h => Nat.ne_of_gt h)
  simp only [List.nodup_cons, List.mem_cons, List.not_mem_nil, or_false, not_or, not_false_eq_true, List.nodup_nil, and_true] at nn ⊢
  grind
section
local macro_rules | `(tactic| x_close) => `(tactic| (refine matK_use (by assumption) (by assumption) ?_ ?_ ?_ ?_ (by exact ⟨_, _, _, rfl⟩) <;> kernel_rfl))
theorem mat_new {w : World} {Q : Value → Shared → Prop} {E : Value → Shared → Prop} {s : Shared} (X : (hd.heap_39 w.params).In s.heap) (h : MatK s Q) :
    wpAny (model PR w) A1 (call (.ref 82) [] []) Q E s := by
  x_run
end
end Mine
end
section
open PySem PySem.W PySem.W.X PyProof.Rows PySem.Calls
set_option Elab.async false
set_option maxRecDepth 100000
set_option maxHeartbeats 8000000
namespace Mine
section
variable {w : World} {A : Around} {E : Value → Shared → Prop} {s : Shared} {env : Env}

theorem for_W {R : Result → Shared → Prop} {x : Str} {px : Pos} {body : List Stmt} {I : Addr} {fp wr : List Addr} {n : Nat} {P : Nat → Value → Prop} {St : Nat → Heap → Prop}
    (W : Walks PR w A I fp wr n P St) (J : Nat → Shared → Prop)
    (trans : ∀ i s₁ h' tk, J i s₁ → (∀ b o, b ∉ wr → s₁.heap.get? b = some o → h'.get? b = some o) → J i { s₁ with heap := h', toks := tk })
    (turn : ∀ i v s₁, i < n → P i v → J i s₁ → St (i + 1) s₁.heap → wpAny (model PR w) A (storeName env x v) (fun _ s₂ => wpAny (model PR w) A (execs body env) (fun f s₃ => match f with
          | .next | .cont => J (i + 1) s₃ ∧ St (i + 1) s₃.heap
          | .brk => R (.ok .next) s₃
          | .ret v => R (.ok (.ret v)) s₃) (notedBy (model PR w) A env fun e s' => R (.error e) s') s₂) (notedBy (model PR w) A env fun e s' => R (.error e) s') s₁)
    (done : ∀ s₁, J n s₁ → R (.ok .next) s₁) (h0 : J 0 s) (hs : St 0 s.heap) : codeAny (model PR w) A (.forLoop (.Name x px) (.ref I) body [] env) R s := by
  refine codeAny_forLoop (fun k s' => ∃ i, k = n + 1 - i ∧ i ≤ n ∧ J i s' ∧ St i s'.heap) ?_ (n + 1) ⟨0, rfl, Nat.zero_le _, h0, hs⟩
  rintro k s' ⟨i, rfl, hi, hJ, hS⟩
  by_cases hlt : i < n
  · refine W.item i s' _ _ hlt hS fun v h' tk hP hS' hk => ?_
    refine wpAny_assign_Name (wpAny_mono (turn i v _ hlt hP (trans i s' h' tk hJ hk) hS') (fun _ s₂ h₂ => wpAny_mono h₂ (fun f s₃ h₃ => ?_) fun _ _ e => e) fun _ _ e => e)
    cases f with
    | next => exact ⟨n + 1 - (i + 1), by omega, i + 1, rfl, hlt, h₃⟩
    | cont => exact ⟨n + 1 - (i + 1), by omega, i + 1, rfl, hlt, h₃⟩
    | brk => exact h₃
    | ret v => exact h₃
  · have hin : i = n := by omega
    subst hin
    refine W.done s' _ _ hS fun h' tk hk => wpAny_execs_nil (done _ (trans _ s' h' tk hJ hk))

/-- the levels that `_law_levels` draws -/
def lvGo (W : List Str) : Nat → Int → List Str × Int
  | 0, r => ([], r)
  | k + 1, r => (W.getD (r.fmod W.length).toNat "" :: (lvGo W k (r.fdiv W.length)).1, (lvGo W k (r.fdiv W.length)).2)
abbrev sv (l : List (Str × Tok)) : List Value := l.map fun p => Value.str p.1 p.2
theorem lvGo_step (W : List Str) : ∀ (k : Nat) (r : Int), lvGo W (k + 1) r = ((lvGo W k r).1 ++ [W.getD ((lvGo W k r).2.fmod W.length).toNat ""], (lvGo W k r).2.fdiv W.length)
  | 0, r => rfl
  | k + 1, r => by
    rw [lvGo, lvGo_step W k (r.fdiv W.length), lvGo]
    simp
theorem lvGo_len (W : List Str) : ∀ (k : Nat) (r : Int), (lvGo W k r).1.length = k
  | 0, r => rfl
  | k + 1, r => by rw [lvGo, List.length_cons, lvGo_len W k]
abbrev tupO (vs : List Value) : Obj := { cls := .type "tuple", data := .seq vs.toArray }
theorem frNew {h₀ h : Heap} {L : Addr} {m : Str → Option Value} (F : Fr h₀ L h m) : h₀.get? h.objs.size = none := by
  cases q : h₀.get? h.objs.size with
  | none => rfl
  | some o' => exact absurd (Heap.lt_size (F.keep _ _ q)) (Nat.lt_irrefl _)
theorem frUp {h₀ h h' : Heap} {L : Addr} {m : Str → Option Value} (F : Fr h₀ L h m) (k : ∀ b o, h.get? b = some o → h'.get? b = some o) : Fr h₀ L h' m :=
  ⟨F.ns.keeps k, fun b o e => k b o (F.keep b o e), F.above⟩
/-- one object of the call's own changes -/
theorem frOwn {h₀ h h' : Heap} {L l : Addr} {m : Str → Option Value} (F : Fr h₀ L h m) (hs : Heap.SameBut l h h') (h1 : l ≠ L) (h2 : h₀.get? l = none) : Fr h₀ L h' m :=
  ⟨F.ns.sameBut hs (Ne.symm h1), fun b o e => (hs.2 b (fun z => by rw [z, h2] at e; cases e)).trans (F.keep b o e), F.above⟩

theorem stS {cn : Str} {cs : Scope} {L a : Addr} {cd : Value} {h₀ : Heap} {m : Str → Option Value} {x : Str} {v : Value} {Q : Unit → Shared → Prop} (F : Fr h₀ L s.heap m)
    (h : ∀ h', Fr h₀ L h' (fun y => if y = x then some v else m y) → Heap.SameBut L s.heap h' → Q () { s with heap := h', toks := s.toks + 1 })
    (hk : cs.kind = .function := by rfl) (hl : (envOf cn cs L a cd).kindOf x = some .local := by rfl) :
    wpAny (model PR w) A (storeName (envOf cn cs L a cd) x v) Q E s :=
  wpAny_storeName_local hl F.ns (fun h' hn hs => h h' (F.set hn hs) hs) (by show (cs.kind == .class || (cs.kind == .module && L != mainGlobals)) = false; rw [hk]; rfl)
theorem newL {vs : List Value} {Q : Value → Shared → Prop} (h : Q (.ref s.heap.objs.size) { s with heap := s.heap.push { cls := .type "list", data := .seq vs.toArray } }) (hsz : vs.length ≤ sizeLine := by size_fits) :
    wpAny (model PR w) A (newList vs) Q E s := wpAny_newObj_type h (by show vs.toArray.size ≤ sizeLine; rw [List.size_toArray]; exact hsz)
theorem newT {vs : List Value} {Q : Value → Shared → Prop} (h : Q (.ref s.heap.objs.size) { s with heap := s.heap.push (tupO vs) }) (hsz : vs.length ≤ sizeLine := by size_fits) :
    wpAny (model PR w) A (newTuple vs) Q E s := wpAny_newObj_type h (by show vs.toArray.size ≤ sizeLine; rw [List.size_toArray]; exact hsz)

theorem frBut {h₀ h h' : Heap} {L I : Addr} {m : Str → Option Value} (F : Fr h₀ L h m) (k : ∀ b o, b ≠ I → h.get? b = some o → h'.get? b = some o) (h1 : L ≠ I) (h2 : h₀.get? I = none) : Fr h₀ L h' m :=
  ⟨F.ns.at' fun o e => k L o h1 e, fun b o e => k b o (fun z => by rw [z, h2] at e; cases e) (F.keep b o e), F.above⟩
theorem frNone {h₀ h : Heap} {L I : Addr} {m : Str → Option Value} (F : Fr h₀ L h m) (hI : h.get? I = none) : h₀.get? I = none := by
  cases q : h₀.get? I with
  | none => rfl
  | some o => rw [F.keep _ _ q] at hI; cases hI
theorem mo {m : Str → Option Value} {x y : Str} {u v : Value} (h : y ≠ x) (e : m y = some u) : (if y = x then some v else m y) = some u := by rw [if_neg h]; exact e
theorem neOf {h : Heap} {a b : Addr} {o : Obj} (h1 : h.get? a = some o) (h2 : h.get? b = none) : a ≠ b := fun e => by rw [e, h2] at h1; cases h1
theorem plainNe {h : Heap} {a b : Addr} {xs : Array Value} (h1 : PlainL h a xs) (h2 : h.get? b = none) : a ≠ b := let ⟨_, _, e, _⟩ := h1; neOf e h2
theorem nsNe {h : Heap} {a b : Addr} {m : Str → Option Value} (h1 : h.Ns a m) (h2 : h.get? b = none) : a ≠ b := let ⟨_, _, _, e, _⟩ := h1; neOf e h2
theorem plainAt {h h' : Heap} {a : Addr} {its : Array Value} (x : PlainL h a its) (e : ∀ o, h.get? a = some o → h'.get? a = some o) : PlainL h' a its := let ⟨o, n, g, r⟩ := x; ⟨o, n, e _ g, r⟩

theorem lenT {t : Addr} {items : Array Value} {n : Int} {Q : Value → Shared → Prop} (ht : IsTup s.heap t items) (e : (items.size : Int) = n) (hfit : n < 2 ^ 63)
    (h : Q (.int n (s.toks + 1)) { s with toks := s.toks + 1 + 1 }) : wpAny (model PR w) A (call (.builtin "len") [.ref t]) Q E s := by
  subst e; exact PyProof.Rows.len_tuple ht hfit h
theorem lenLst {t : Addr} {items : Array Value} {n : Int} {Q : Value → Shared → Prop} (ht : s.heap.IsList t items) (e : (items.size : Int) = n) (hfit : n < 2 ^ 63)
    (h : Q (.int n (s.toks + 1)) { s with toks := s.toks + 1 + 1 }) : wpAny (model PR w) A (call (.builtin "len") [.ref t]) Q E s := by
  subst e; exact call_len_list ht hfit h
/-- `for x in range(n)`, its turns raise nothing -/
theorem for_range {R : Result → Shared → Prop} {x : Str} {px : Pos} {body : List Stmt} {t : Tok} {k : Int} (n : Nat) (hkn : k = n) (hn : 0 < n) (hn' : n < 2 ^ 40) (hh : A.handled = none) (J : Nat → Shared → Prop)
    (h : ∀ I, s.heap.get? I = none →
      (∀ h' tk, (∀ b o, s.heap.get? b = some o → h'.get? b = some o) → J 0 { s with heap := h', toks := tk }) ∧
      (∀ i s₁ h' tk, J i s₁ → (∀ b o, b ≠ I → s₁.heap.get? b = some o → h'.get? b = some o) → J i { s₁ with heap := h', toks := tk }) ∧
      (∀ i v s₁, i < n → J i s₁ → wpAny (model PR w) A (storeName env x (.int (i : Nat) v)) (fun _ s₂ => wpAny (model PR w) A (execs body env) (fun f s₃ => match f with
          | .next | .cont => J (i + 1) s₃ ∧ (∀ o, s₁.heap.get? I = some o → s₃.heap.get? I = some o)
          | .brk => R (.ok .next) s₃
          | .ret v => R (.ok (.ret v)) s₃) (fun _ _ => False) s₂) (fun _ _ => False) s₁) ∧
      (∀ s₁, J n s₁ → R (.ok .next) s₁)) :
    wpAny (model PR w) A (call (.type "range") [.int k t]) (fun xv s₁ => wpAny (model PR w) A (pyIter xv) (fun it s₂ => codeAny (model PR w) A (.forLoop (.Name x px) it body [] env) R s₂) E s₁) E s := by
  subst hkn
  refine call_range_1 ?_
  refine wpAny_pyIter_range (IsRange.new _ _ _ _ _ _ _) (small_one (by omega) (by omega) (by omega) (by omega)) ?_
  dsimp only
  rw [rangeSize_one, if_pos (by omega)]
  have hI0 : s.heap.get? (s.heap.push { cls := .type "range", data := .fields #[.int 0 s.toks, .int n t, .int 1 (s.toks + 1)] }).objs.size = none := Heap.get?_none_of_le (by simp [Heap.push])
  have hat : ∀ ob : Obj, ob.isFreed = false → ((s.heap.push { cls := .type "range", data := .fields #[.int 0 s.toks, .int n t, .int 1 (s.toks + 1)] }).push ob).get? (s.heap.push { cls := .type "range", data := .fields #[.int 0 s.toks, .int n t, .int 1 (s.toks + 1)] }).objs.size = some ob := fun ob hf => Heap.get?_push_size _ hf
  have hkp : ∀ (ob : Obj) b o, s.heap.get? b = some o → ((s.heap.push { cls := .type "range", data := .fields #[.int 0 s.toks, .int n t, .int 1 (s.toks + 1)] }).push ob).get? b = some o := fun ob b o e => Heap.get?_push_of_some _ (Heap.get?_push_of_some _ e)
  generalize (s.heap.push { cls := .type "range", data := .fields #[.int 0 s.toks, .int n t, .int 1 (s.toks + 1)] }).objs.size = I at *
  obtain ⟨h1, h2, h3, h4⟩ := h I hI0
  refine for_W (Walks.range hh I 0 1 n) J (fun i s₁ h' tk j k => h2 i s₁ h' tk j fun b o hb e => k b o (by simpa using hb) e) ?_ h4 (h1 _ _ (hkp _)) ?_
  · rintro i v s₁ hi ⟨tv, rfl⟩ hJ hS
    have := h3 i tv s₁ hi hJ
    simp only [Int.zero_add, Int.mul_one] at hS ⊢
    refine wpAny_mono this (fun _ s₂ h₂ => wpAny_mono h₂ (fun f s₃ h₃ => ?_) fun _ _ e => e.elim) fun _ _ e => e.elim
    cases f with
    | next => exact ⟨h₃.1, h₃.2 _ hS⟩
    | cont => exact ⟨h₃.1, h₃.2 _ hS⟩
    | brk => exact h₃
    | ret v => exact h₃
  · show IsRangeIter _ I _ _ _
    simpa using hat _ rfl
theorem levels_spec {R : Result → Shared → Prop} {tw : Addr} {W : List (Str × Tok)} (hW : W.length = 5) {number : Int} {t : Tok} (c : Cx w s.heap) (ok : Ok A 8) (ht : IsTup s.heap tw (sv W).toArray)
    (h : ∀ h' tk r l tr LL, (∀ b o, s.heap.get? b = some o → h'.get? b = some o) → LL.map (·.1) = (lvGo (W.map (·.1)) (1 + number.fmod 3).toNat (number.fdiv 3)).1 →
      h'.get? r = some (tupO [.ref l, .int (lvGo (W.map (·.1)) (1 + number.fmod 3).toNat (number.fdiv 3)).2 tr]) → PlainL h' l (sv LL).toArray → s.heap.get? r = none → s.heap.get? l = none → r ≠ l →
      R (.ok (.ret (.ref r))) { s with heap := h', toks := tk }) :
    codeAny (model PR w) A (.call (.ref 100) ⟨[.int number t, .ref tw], []⟩) R s := by
  have hm0 : 0 ≤ number.fmod 3 := Int.fmod_nonneg_of_pos _ (by decide)
  have hm1 : number.fmod 3 < 3 := Int.fmod_lt_of_pos _ (by decide)
  obtain ⟨n, hn⟩ : ∃ n : Nat, 1 + number.fmod 3 = n := ⟨(1 + number.fmod 3).toNat, by omega⟩
  have hnn : (1 + number.fmod 3).toNat = n := by omega
  simp only [hnn] at h
  have hk5 : (W.map (·.1)).length = 5 := by simpa using hW
  have hW5 : ((W.map (·.1)).length : Int) = 5 := by omega
  have hsz : ((sv W).toArray.size : Int) = 5 := by simp [hW]
  have hdraw : ∀ r : Int, ∃ x, W[(r.fmod 5).toNat]? = some x ∧ 0 ≤ r.fmod 5 ∧ r.fmod 5 < 5 := fun r => by
    have hr0 : 0 ≤ r.fmod 5 := Int.fmod_nonneg_of_pos _ (by decide)
    have hr1 : r.fmod 5 < 5 := Int.fmod_lt_of_pos _ (by decide)
    exact ⟨_, List.getElem?_eq_getElem (by omega), hr0, hr1⟩
  refine call_fnR (st := topSt 4) (nm := "_law_levels") (q := "_law_levels") (code := 99) (binds := [("number", .int number t), ("words", .ref tw)]) c ok.room ⟨_, rfl⟩ (by kernel_rfl) (fun pm => by kernel_rfl) (fun h₁ F => ?_)
  refine wpAny_execs_cons (wpAny_Assign_Name (List_ (spliced_nil (newL ?_ (by size_fits)))))
  have hl0 := frNew F
  have hlL : h₁.objs.size ≠ s.heap.objs.size := Nat.ne_of_gt F.ns.lt
  refine stS (F.push _) (fun h₂ F₂ S₂ => ?_)
  have P₂ : PlainL h₂ h₁.objs.size (sv []).toArray := ⟨_, _, S₂.extBut _ _ hlL (Heap.get?_push_size _ rfl), rfl, rfl, rfl⟩
  generalize hl : h₁.objs.size = l at *
  refine wpAny_execs_cons (wpAny_Assign_Name (wpAny_BinOp (ld F₂ rfl (wpAny_Constant_int (floordiv_int (by decide) ?_)))))
  refine stS F₂ (fun h₃ F₃ S₃ => ?_)
  have P₃ := P₂.extBut S₃.extBut hlL
  refine wpAny_execs_cons (wpAny_For ?_)
  refine wpAny_Call_NameR (nmB c F₃ (by kernel_rfl) (v := .type "range") (by kernel_rfl) (by decide +kernel) ?_)
  refine callWith_type1 (spliced_cons (wpAny_BinOp (wpAny_Constant_int (wpAny_BinOp (ld F₃ rfl (wpAny_Constant_int (mod_int' (by decide) (add_int (spliced_nil ?_)))))))))
  refine for_range n hn (by omega) (by omega) ok.hd (fun i s₁ => ∃ h tk m LL, s₁ = { s with heap := h, toks := tk } ∧ Fr s.heap s.heap.objs.size h m ∧ m "words" = some (.ref tw) ∧ m "levels" = some (.ref l) ∧
      (∃ tr, m "rest" = some (.int (lvGo (W.map (·.1)) i (number.fdiv 3)).2 tr)) ∧ PlainL h l (sv LL).toArray ∧ LL.map (·.1) = (lvGo (W.map (·.1)) i (number.fdiv 3)).1) (fun I hI => ⟨?_, ?_, ?_, ?_⟩)
  · intro h' tk k
    exact ⟨h', tk, _, [], rfl, frUp F₃ k, rfl, rfl, ⟨_, rfl⟩, P₃.keeps k, rfl⟩
  · rintro i s₁ h' tk' ⟨h, tk, m, LL, rfl, Fi, m1, m2, ⟨tr, m3⟩, Pi, e⟩ hk
    exact ⟨h', tk', m, LL, rfl, frBut Fi hk (nsNe F₃.ns hI) (frNone F₃ hI), m1, m2, ⟨tr, m3⟩, plainAt Pi fun o q => hk _ o (plainNe P₃ hI) q, e⟩
  · rintro i v s₁ hi ⟨h, tk, m, LL, rfl, Fi, m1, m2, ⟨tr, m3⟩, Pi, e⟩
    refine stS Fi (fun h₄ F₄ S₄ => ?_)
    have P₄ := Pi.extBut S₄.extBut hlL
    have ht₄ : IsTup h₄ tw (sv W).toArray := ht.keeps F₄.keep
    refine wpAny_execs_cons (wpAny_Expr_any ?_)
    refine wpAny_Call_append rfl rfl rfl rfl ?_
    refine ld F₄ (mo (by decide) m2) ⟨l, _, rfl, P₄, ?_⟩
    refine Subscript_ (ld F₄ (mo (by decide) m1) (wpAny_BinOp (ld F₄ (mo (by decide) m3) ?_)))
    refine wpAny_Call_NameR (nmB c F₄ (by kernel_rfl) (v := .builtin "len") (by kernel_rfl) (by decide +kernel) ?_)
    refine Calls.callWith_builtin rfl (evalArgs_plain (spliced_cons (ld F₄ (mo (by decide) m1) (spliced_nil ?_))))
    refine lenT ht₄ hsz (by decide) ?_
    refine mod_int' (by decide) ?_
    have hd := hdraw (lvGo (W.map (·.1)) i (number.fdiv 3)).2
    cases hd with
    | intro x hd =>
    have hx := hd.1
    have hr0 := hd.2.1
    have hr1 := hd.2.2
    refine item_tupleT (j := ((lvGo (W.map (·.1)) i (number.fdiv 3)).2.fmod 5).toNat) (x := .str x.1 x.2) ht₄ (by omega) (by omega) (by simp [seqIndex?, hW]; omega) (by simp [hx]) ?_
    refine list_append_plainL P₄ (fun h₅ P₅ S₅ => ?_) (by have := congrArg List.length e; rw [lvGo_len, List.length_map] at this; simp only [List.size_toArray, List.length_map, sizeLine_eq]; omega)
    have F₅ := frOwn F₄ S₅ hlL hl0
    refine wpAny_execs_cons (wpAny_Assign_Name (wpAny_BinOp (ld F₅ (mo (by decide) m3) ?_)))
    refine wpAny_Call_NameR (nmB c F₅ (by kernel_rfl) (v := .builtin "len") (by kernel_rfl) (by decide +kernel) ?_)
    refine Calls.callWith_builtin rfl (evalArgs_plain (spliced_cons (ld F₅ (mo (by decide) m1) (spliced_nil ?_))))
    refine lenT (ht.keeps F₅.keep) hsz (by decide) ?_
    refine floordiv_int (by decide) ?_
    refine stS F₅ (fun h₆ F₆ S₆ => ?_)
    refine wpAny_execs_nil ?_
    dsimp only
    constructor
    · have e3 : (lvGo (W.map (·.1)) (i + 1) (number.fdiv 3)).2 = (lvGo (W.map (·.1)) i (number.fdiv 3)).2.fdiv 5 := by rw [lvGo_step, hW5]
      refine ⟨h₆, _, _, LL ++ [x], rfl, F₆, m1, m2, ⟨_, by rw [e3]; rfl⟩, ?_, ?_⟩
      · have := P₅.extBut S₆.extBut hlL
        simpa using this
      · rw [lvGo_step, List.map_append, e, hW5]
        congr 1
        simp [List.getD_eq_getElem?_getD, hx]
    · intro o q
      have hIL := nsNe F₃.ns hI
      have hIl := plainNe P₃ hI
      exact S₆.extBut _ _ (Ne.symm hIL) (S₅.extBut _ _ (Ne.symm hIl) (S₄.extBut _ _ (Ne.symm hIL) q))
  · rintro s₁ ⟨h', tk, m, LL, rfl, Fi, m1, m2, ⟨tr, m3⟩, Pi, e⟩
    refine wpAny_execs_cons (wpAny_Return_some (Tuple_ (spliced_cons (ld Fi m2 (spliced_cons (ld Fi m3 (spliced_nil ?_)))))))
    refine newT ?_ (by size_fits)
    exact h _ _ _ _ _ LL (fun b o q => Heap.get?_push_of_some _ (Fi.keep b o q)) e (Heap.get?_push_size _ rfl) (Pi.keeps fun b o q => Heap.get?_push_of_some _ q) (frNew Fi) hl0 (Nat.ne_of_gt Pi.lt)
end
end Mine
end
section
open PySem PySem.W PySem.W.X PyProof.Rows PySem.Calls
set_option Elab.async false
set_option maxRecDepth 100000
set_option maxHeartbeats 8000000
namespace Mine
section
variable {w : World} {A : Around} {E : Value → Shared → Prop} {s : Shared} {env : Env}
theorem setLast {l : Addr} {items : Array Value} {t : Tok} {v : Value} {Q : Unit → Shared → Prop} (hl : PlainL s.heap l items) (hn : 0 < items.size)
    (hQ : ∀ h', PlainL h' l (items.setIfInBounds (items.size - 1) v) → Heap.SameBut l s.heap h' → Q () { s with heap := h' }) :
    wpAny (model PR w) A (setItem (.ref l) (.int (-1) t) v) Q E s := by
  obtain ⟨o, ne, ho, hc, hdn, hd⟩ := id hl
  have hT := hl.isList.typeIs
  unfold setItem
  refine wpAny_holding ?_
  refine wpAny_bind (wpAny_sequenceKey hT (by decide) ?_)
  refine wpAny_bind (wpAny_callSpecial?_slot (name := Str.ofString "__setitem__") hT slot_list_setitem
    (wpAny_call_entry slot_list_setitem hT entry_list_setitem ?_ (args_list_setitem _ _ _)))
  show wpAny _ _ (Builtin.List.listSubscript? (.int (-1) t) >>= _) _ _ s
  refine wpAny_bind (wpAny_listSubscript_int (fitsIndex_neg (by decide) (by decide)) ?_)
  show wpAny _ _ ((Builtin.List.listItems (.ref l) >>= fun xs => pure ((seqIndex? (Int.negSucc 0) xs.size).bind fun i => xs[i]?.map (i, ·))) >>= _) _ _ s
  refine wpAny_bind (wpAny_bind ?_)
  show wpAny _ _ (seqItems? (.ref l) >>= _) _ _ s
  refine wpAny_bind (wpAny_seqItems ho hd (wpAny_pure (wpAny_pure ?_)))
  have hx : items[items.size - 1]? = some items[items.size - 1] := Array.getElem?_eq_getElem (by omega)
  have hi : seqIndex? (Int.negSucc 0) items.size = some (items.size - 1) := by
    rw [seqIndex_neg (by decide) (by omega)]; congr 1; omega
  rw [hi]
  simp only [Option.bind_some, hx, Option.map_some]
  show wpAny _ _ (setSeqItemAt l (items.size - 1) v >>= _) _ _ s
  obtain ⟨n', hd'⟩ := Obj.data_mapSeq hd (·.setIfInBounds (items.size - 1) v)
  refine wpAny_bind (wpAny_setSeqItemAt ho hd ?_)
  have hfin : PlainL (s.heap.update l (Obj.mapSeq (·.setIfInBounds (items.size - 1) v))) l (items.setIfInBounds (items.size - 1) v) := by
    refine ⟨_, n', Heap.get?_update_self _ ho (Obj.isFreed_of_seq hd'), (Obj.cls_mapSeq ..).trans hc, ?_, hd'⟩
    obtain ⟨c, d, dt, sl⟩ := o
    subst hd
    exact hdn
  first
    | exact wpAny_bind (wpAny_pure (wpAny_pure ⟨.none, rfl, wpAny_pure (hQ _ hfin (Heap.SameBut.update ..))⟩))
    | exact wpAny_pure ⟨.none, rfl, wpAny_pure (hQ _ hfin (Heap.SameBut.update ..))⟩

abbrev WF : List Str := ["a", "b", "+", "", "$s"]
/-- the levels of the filter that `_law_filter` makes of a number -/
def flOf (number : Int) : List Str :=
  let p := lvGo WF (1 + number.fmod 3).toNat (number.fdiv 3)
  if p.2.fmod 4 = 0 then p.1 ++ [("#" : Str)] else if p.2.fmod 4 = 1 then p.1.dropLast ++ [("#" : Str)] else p.1
def keyOf (fl : List Str) : Str := Txt.join "/" fl

theorem cStr {x : Str} {k : Nat} {pos : Pos} {Q : Value → Shared → Prop} (h : ∀ t, Q (.str x t) { s with toks := s.toks + 1 }) : wpAny (model PR w) A (eval (.Constant (.str x) k pos) env) Q E s := wpAny_Constant_str (h _)
theorem lvGo_mem (W : List Str) : ∀ (k : Nat) (r : Int) (x : Str), x ∈ (lvGo W k r).1 → x ∈ W ∨ x = ""
  | 0, r, x, h => nomatch h
  | k + 1, r, x, h => by
    rw [lvGo] at h
    rcases List.mem_cons.1 h with rfl | h
    · rw [List.getD_eq_getElem?_getD]
      cases q : W[(r.fmod W.length).toNat]? with
      | none => exact .inr rfl
      | some y => exact .inl (List.mem_of_getElem? q)
    · exact lvGo_mem W k _ x h
theorem weight_le {ys : List Str} {m : Nat} (h : ∀ x ∈ ys, x.length ≤ m) : (ys.map (·.length)).sum ≤ m * ys.length := by
  induction ys with
  | nil => simp
  | cons y ys ih =>
    have := h y (.head _)
    have := ih fun x hx => h x (.tail _ hx)
    simp only [List.map_cons, List.sum_cons, List.length_cons, Nat.mul_succ]
    omega
theorem flOf_short (number : Int) : (flOf number).length ≤ 4 ∧ ∀ x ∈ flOf number, x ∈ WF ∨ x = "#" := by
  have hm1 : number.fmod 3 < 3 := Int.fmod_lt_of_pos _ (by decide)
  have hl : (lvGo WF (1 + number.fmod 3).toNat (number.fdiv 3)).1.length ≤ 3 := by rw [lvGo_len]; omega
  have hx := lvGo_mem WF (1 + number.fmod 3).toNat (number.fdiv 3)
  have he : ("" : Str) ∈ WF := by decide
  unfold flOf
  dsimp only
  split
  · refine ⟨by simp; omega, fun x h => ?_⟩
    rcases List.mem_append.1 h with h | h
    · rcases hx x h with h | rfl
      · exact .inl h
      · exact .inl he
    · exact .inr (by simpa using h)
  · split
    · refine ⟨by simp; omega, fun x h => ?_⟩
      rcases List.mem_append.1 h with h | h
      · rcases hx x (List.dropLast_subset _ h) with h | rfl
        · exact .inl h
        · exact .inl he
      · exact .inr (by simpa using h)
    · refine ⟨by omega, fun x h => ?_⟩
      rcases hx x h with h | rfl
      · exact .inl h
      · exact .inl he

theorem filter_spec {R : Result → Shared → Prop} {number : Int} {t : Tok} (c : Cx w s.heap) (ok : Ok A 10)
    (h : ∀ h' tk t', (∀ b o, s.heap.get? b = some o → h'.get? b = some o) → R (.ok (.ret (.str (keyOf (flOf number)) t'))) { s with heap := h', toks := tk }) :
    codeAny (model PR w) A (.call (.ref 107) ⟨[.int number t], []⟩) R s := by
  refine call_fnR (st := topSt 5) (nm := "_law_filter") (q := "_law_filter") (code := 106) (binds := [("number", .int number t)]) c ok.room ⟨_, rfl⟩ (by kernel_rfl) (fun pm => by kernel_rfl) (fun h₁ F => ?_)
  refine wpAny_execs_cons (wpAny_Assign_stores ?_ rfl rfl)
  refine wpAny_Call_NameR (nmK c F (by kernel_rfl) (v := .ref 100) ?_)
  refine callWith_K c.X rfl ?_
  refine spliced_cons (ld F rfl (spliced_cons (Tuple_ (k := 0) ?_)))
  refine spliced_cons (wpAny_Constant_str (k := 0) (pos := default) (spliced_cons (wpAny_Constant_str (k := 0) (pos := default) (spliced_cons (wpAny_Constant_str (k := 0) (pos := default) (spliced_cons (wpAny_Constant_str (k := 0) (pos := default) (spliced_cons (wpAny_Constant_str (k := 0) (pos := default) (spliced_nil ?_))))))))))
  refine newT (spliced_nil ?_) (by size_fits)
  dsimp only
  generalize htk : s.toks + [((Str.ofString "number"), Value.int number t)].length = tk0
  have F₁ := F.push (tupO [.str "a" tk0, .str "b" (tk0 + 1), .str "+" (tk0 + 1 + 1), .str "" (tk0 + 1 + 1 + 1), .str "$s" (tk0 + 1 + 1 + 1 + 1)])
  refine ⟨(c.keeps F₁.keep).X, wpAny_call (levels_spec (W := [("a", tk0), ("b", tk0 + 1), ("+", tk0 + 1 + 1), ("", tk0 + 1 + 1 + 1), ("$s", tk0 + 1 + 1 + 1 + 1)]) rfl (c.keeps F₁.keep) ((ok.deeper _).le (by decide))
    ⟨_, Heap.get?_push_size _ rfl, rfl, _, rfl⟩ (fun h₂ tk r l tr LL k e hr P₂ hr0 hl0 hrl => ?_))⟩
  have F₂ := frUp F₁ k
  dsimp only at F₂ ⊢
  show wpAny _ _ (assign (.Tuple _ 0 _) _ _) _ _ _
  refine wpAny_assign_Tuple ok.hd ⟨_, hr, rfl, _, rfl⟩ rfl rfl (fun h₃ x₃ => ?_)
  have F₃ := F₂.extBut x₃ (Nat.le_refl _)
  have P₃ : PlainL h₃ l (sv LL).toArray := P₂.extBut x₃ (Nat.ne_of_lt P₂.lt)
  refine assignInOrder_cons (wpAny_assign_Name (stS F₃ (fun h₄ F₄ S₄ => ?_)))
  refine assignInOrder_cons (wpAny_assign_Name (stS F₄ (fun h₅ F₅ S₅ => ?_)))
  refine assignInOrder_nil ?_
  dsimp only
  have hlL : l ≠ s.heap.objs.size := Ne.symm (nsNe F₁.ns hl0)
  have hl0' := frNone F₁ hl0
  have P₅ := (P₃.extBut S₄.extBut hlL).extBut S₅.extBut hlL
  have he : LL.map (·.1) = (lvGo WF (1 + number.fmod 3).toNat (number.fdiv 3)).1 := e
  have hLen : LL.length = (1 + number.fmod 3).toNat := by have := congrArg List.length he; rwa [lvGo_len, List.length_map] at this
  have hm0 : 0 ≤ number.fmod 3 := Int.fmod_nonneg_of_pos _ (by decide)
  have hm1 : number.fmod 3 < 3 := Int.fmod_lt_of_pos _ (by decide)
  change Fr s.heap s.heap.objs.size h₅ (fun y => if y = "rest" then some (.int (lvGo WF (1 + number.fmod 3).toNat (number.fdiv 3)).2 tr) else if y = "levels" then some (.ref l) else _) at F₅
  -- the end, for any levels
  have fin : ∀ (LL : List (Str × Tok)) (h₆ : Heap) (tk₆ : Tok) m₆, LL.map (·.1) = flOf number → PlainL h₆ l (sv LL).toArray → Fr s.heap s.heap.objs.size h₆ m₆ → m₆ "levels" = some (.ref l) →
      wpAny (model PR w) (A.deeper (envOf "_law_filter" (stScope (topSt 5)) s.heap.objs.size 107 (.ref 106))) (execs [nth (stBody (topSt 5)) 3] (envOf "_law_filter" (stScope (topSt 5)) s.heap.objs.size 107 (.ref 106)))
        (fun fl s' => R (.ok (.ret (match fl with | .ret v => v | _ => .none))) s') (fun _ _ => False) { s with heap := h₆, toks := tk₆ } := by
    intro LL h₆ tk₆ m₆ hLL P₆ F₆ hm
    refine wpAny_execs_cons (wpAny_Return_some ?_)
    refine wpAny_Call_method (T := "str") (id := "str.join") rfl rfl rfl PySem.F.plainAttrs_str PySem.F.slot_str_join rfl ?_
    refine cStr fun t₁ => ⟨typeIs_str _ _ _, fun a e => (by cases e), ?_⟩
    refine Calls.callWith_builtin rfl (evalArgs_plain (spliced_cons (ld F₆ hm (spliced_nil ?_))))
    have hsh := flOf_short number
    have hw : ((flOf number).map (·.length)).sum ≤ 2 * (flOf number).length := weight_le fun x hx => by
      rcases hsh.2 x hx with h | rfl
      · exact (show ∀ x ∈ WF, x.length ≤ 2 by decide) x h
      · decide
    refine SC.join P₆.isList hLL (joinOk_of_weight (by omega) (by decide)) fun t' k => ?_
    exact h _ _ _ F₆.keep
  refine wpAny_execs_cons (wpAny_If (wpAny_isTrue_Compare1 ?_))
  refine wpAny_BinOp (ld F₅ rfl (wpAny_Constant_int (mod_int' (by decide) (wpAny_Constant_int (eq_int (wpAny_truthy_bool ?_))))))
  have second : ∀ (h₆ : Heap) (tk₆ : Tok) (LL : List (Str × Tok)), PlainL h₆ l (sv LL).toArray → Fr s.heap s.heap.objs.size h₆ (fun y => if y = "rest" then some (.int (lvGo WF (1 + number.fmod 3).toNat (number.fdiv 3)).2 tr) else if y = "levels" then some (.ref l) else List.lookup y [("number", Value.int number t)]) →
      (((lvGo WF (1 + number.fmod 3).toNat (number.fdiv 3)).2.fmod 4 = 1 → 0 < LL.length ∧ LL.dropLast.map (·.1) ++ [("#" : Str)] = flOf number) ∧ ((lvGo WF (1 + number.fmod 3).toNat (number.fdiv 3)).2.fmod 4 ≠ 1 → LL.map (·.1) = flOf number)) →
      wpAny (model PR w) (A.deeper (envOf "_law_filter" (stScope (topSt 5)) s.heap.objs.size 107 (.ref 106))) (execs [nth (stBody (topSt 5)) 2, nth (stBody (topSt 5)) 3] (envOf "_law_filter" (stScope (topSt 5)) s.heap.objs.size 107 (.ref 106)))
        (fun fl s' => R (.ok (.ret (match fl with | .ret v => v | _ => .none))) s') (fun _ _ => False) { s with heap := h₆, toks := tk₆ } := by
    intro h₆ tk₆ LL P₆ F₆ hc
    refine wpAny_execs_cons (wpAny_If (wpAny_isTrue_Compare1 ?_))
    refine wpAny_BinOp (ld F₆ rfl (wpAny_Constant_int (mod_int' (by decide) (wpAny_Constant_int (eq_int (wpAny_truthy_bool ?_))))))
    split
    · rename_i hb
      have hb : (lvGo WF (1 + number.fmod 3).toNat (number.fdiv 3)).2.fmod 4 = 1 := by simpa using hb
      have hc := hc.1 hb
      refine wpAny_execs_cons (wpAny_Assign_Subscript (cStr fun t₁ => ld F₆ rfl (wpAny_UnaryOp (wpAny_Constant_int (neg_int (setLast P₆ (by simpa using hc.1) fun h₇ P₇ S₇ => ?_))))))
      refine wpAny_execs_nil (fin (LL.dropLast ++ [(("#" : Str), t₁)]) h₇ _ _ (by rw [List.map_append]; exact hc.2) ?_ (frOwn F₆ S₇ hlL hl0') rfl)
      have : (sv (LL.dropLast ++ [(("#" : Str), t₁)])).toArray = (sv LL).toArray.setIfInBounds ((sv LL).toArray.size - 1) (.str "#" t₁) := by
        have h1 : LL ≠ [] := by intro z; rw [z] at hc; exact absurd hc.1 (by decide)
        obtain ⟨L', x, rfl⟩ := List.eq_nil_or_concat LL |>.resolve_left h1
        simp
      rw [this]; exact P₇
    · rename_i hb
      have hb : (lvGo WF (1 + number.fmod 3).toNat (number.fdiv 3)).2.fmod 4 ≠ 1 := by simpa using hb
      exact wpAny_execs_nil (fin LL h₆ _ _ (hc.2 hb) P₆ F₆ rfl)
  split
  · rename_i hb
    have hb : (lvGo WF (1 + number.fmod 3).toNat (number.fdiv 3)).2.fmod 4 = 0 := by simpa using hb
    refine wpAny_execs_cons (wpAny_Expr_any (wpAny_Call_append rfl rfl rfl rfl (ld F₅ rfl ⟨l, _, rfl, P₅, ?_⟩)))
    refine cStr fun t₁ => list_append_plainL P₅ (fun h₆ P₆ S₆ => ?_) (by simp only [List.size_toArray, List.length_map, sizeLine_eq]; omega)
    refine wpAny_execs_nil (second h₆ _ (LL ++ [(("#" : Str), t₁)]) (by simpa using P₆) (frOwn F₅ S₆ hlL hl0') ⟨fun z => by omega, fun _ => ?_⟩)
    rw [List.map_append, he, flOf]
    simp [hb]
  · rename_i hb
    have hb : (lvGo WF (1 + number.fmod 3).toNat (number.fdiv 3)).2.fmod 4 ≠ 0 := by simpa using hb
    refine wpAny_execs_nil (second h₅ _ LL P₅ F₅ ⟨fun z => ⟨by omega, ?_⟩, fun z => ?_⟩)
    · rw [List.map_dropLast, he, flOf]; simp [z]
    · rw [he, flOf]; simp [z, hb]
end
end Mine
end
section
open PySem PySem.W PySem.W.X PyProof.Rows PySem.Calls
set_option Elab.async false
set_option maxRecDepth 100000
set_option maxHeartbeats 8000000
namespace Mine
abbrev Path := List Str
abbrev UU : List Str := ["a", "b", "+", "", "$s", "#"]
structure TM where
  nd : Path → Option Addr
  dd : Path → Addr
  dx : Path → Addr
structure Trie (w : World) (Out : Addr → Prop) (h : Heap) (T : TM) (root : Addr) (C : Path → Value) : Prop where
  root : T.nd [] = some root
  node : ∀ p a, T.nd p = some a → h.get? a = some (nodeO (T.dx p) (T.dd p) (C p))
  xd : ∀ p a, T.nd p = some a → h.get? (T.dx p) = some emptyDict
  kids : ∀ p a, T.nd p = some a → ∃ kvs, h.DictOf (strKind PR w) (T.dd p) kvs ∧ ∀ k, valueAt kvs k = (T.nd (p ++ [k])).map Value.ref
  up : ∀ p k, T.nd p = none → T.nd (p ++ [k]) = none
  univ : ∀ p a, T.nd p = some a → ∀ k ∈ p, k ∈ UU
  cn : ∀ p, T.nd p = none → C p = .none
  inj : ∀ p q a, T.nd p = some a → T.nd q = some a → p = q
  dinj : ∀ p q a b, T.nd p = some a → T.nd q = some b → T.dd p = T.dd q → p = q
  xdis : ∀ p q a b, T.nd p = some a → T.nd q = some b → T.dx p ≠ T.dd q
  big : ∀ p a, T.nd p = some a → 1 < T.dd p
  out : ∀ p a, T.nd p = some a → ¬ Out a ∧ ¬ Out (T.dd p) ∧ ¬ Out (T.dx p)

section
variable {w : World} {Out Out' : Addr → Prop} {h h' h₂ : Heap} {T : TM} {root : Addr} {C : Path → Value}
theorem trieNone (X : Trie w Out h T root C) : ∀ (q p : Path), T.nd p = none → T.nd (p ++ q) = none
  | [], p, e => by rw [List.append_nil]; exact e
  | l :: r, p, e => by rw [show p ++ l :: r = p ++ [l] ++ r by simp]; exact trieNone X r _ (X.up _ _ e)
theorem trieKeep (X : Trie w Out h T root C) (k : ∀ b o, ¬ Out b → h.get? b = some o → h'.get? b = some o) : Trie w Out h' T root C :=
  ⟨X.root, fun p a e => k _ _ (X.out p a e).1 (X.node p a e), fun p a e => k _ _ (X.out p a e).2.2 (X.xd p a e),
    fun p a e => let ⟨kvs, ⟨o, es, ep, ho, r⟩, v⟩ := X.kids p a e; ⟨kvs, ⟨o, es, ep, k _ _ (X.out p a e).2.1 ho, r⟩, v⟩, X.up, X.univ, X.cn, X.inj, X.dinj, X.xdis, X.big, X.out⟩
theorem dictThere {d : Addr} {kvs : List (Str × Value)} (x : h.DictOf (strKind PR w) d kvs) : ∃ o, h.get? d = some o ∧ o.cls = .type "dict" := let ⟨o, _, _, ho, hc, _⟩ := x; ⟨o, ho, hc.1⟩
theorem trieOut (X : Trie w Out h T root C) (k : ∀ b, Out' b → Out b ∨ ∀ o, h.get? b = some o → o.cls ≠ .ref 40 ∧ o.cls ≠ .type "dict") : Trie w Out' h T root C := by
  refine ⟨X.root, X.node, X.xd, X.kids, X.up, X.univ, X.cn, X.inj, X.dinj, X.xdis, X.big, fun p a e => ⟨fun z => ?_, fun z => ?_, fun z => ?_⟩⟩
  · rcases k _ z with z | z
    · exact (X.out p a e).1 z
    · exact (z _ (X.node p a e)).1 rfl
  · obtain ⟨kvs, hd, _⟩ := X.kids p a e
    obtain ⟨o, ho, hc⟩ := dictThere hd
    rcases k _ z with z | z
    · exact (X.out p a e).2.1 z
    · exact (z _ ho).2 hc
  · rcases k _ z with z | z
    · exact (X.out p a e).2.2 z
    · exact (z _ (X.xd p a e)).2 rfl
theorem lenSub : ∀ (l₂ l₁ : List Str), l₁.Nodup → (∀ k ∈ l₁, k ∈ l₂) → l₁.length ≤ l₂.length
  | [], l₁, _, h => by
    cases l₁ with
    | nil => exact Nat.le_refl _
    | cons x r => exact nomatch h x (.head _)
  | y :: l₂, l₁, hn, h => by
    by_cases hy : y ∈ l₁
    · have := lenSub l₂ (l₁.erase y) (hn.erase _) (fun k hk => by
        have hk' := (List.Nodup.mem_erase_iff hn).1 hk
        rcases List.mem_cons.1 (h k hk'.2) with z | z
        · exact absurd z hk'.1
        · exact z)
      rw [List.length_erase_of_mem hy] at this
      simp only [List.length_cons]; omega
    · have := lenSub l₂ l₁ hn (fun k hk => by
        rcases List.mem_cons.1 (h k hk) with z | z
        · subst z; exact absurd hk hy
        · exact z)
      simp only [List.length_cons]; omega
theorem shortKids {kvs : List (Str × Value)} {p : Path} (X : Trie w Out h T root C) (hn : (kvs.map (·.1)).Nodup) (hkv : ∀ k, valueAt kvs k = (T.nd (p ++ [k])).map Value.ref) : kvs.length ≤ 6 := by
  have hsub : ∀ k ∈ kvs.map (·.1), k ∈ UU := by
    intro k hk
    obtain ⟨kv, hm, rfl⟩ := List.mem_map.1 hk
    have hx : valueAt kvs kv.1 ≠ none := by
      unfold valueAt
      rw [Ne, Option.map_eq_none_iff, List.find?_eq_none]
      intro z; exact z kv hm (by simp)
    rw [hkv] at hx
    cases q : T.nd (p ++ [kv.1]) with
    | none => rw [q] at hx; exact absurd rfl hx
    | some a => exact X.univ _ _ q _ (by simp)
  have := lenSub _ _ hn hsub
  simpa using this
/-- the node is no dictionary -/
theorem trieApart (X : Trie w Out h T root C) {p q : Path} {a b : Addr} (hp : T.nd p = some a) (hq : T.nd q = some b) : a ≠ T.dd q ∧ a ≠ T.dx q := by
  constructor
  · intro z
    obtain ⟨kvs, hd, _⟩ := X.kids q b hq
    obtain ⟨o, ho, hc⟩ := dictThere hd
    rw [← z, X.node p a hp] at ho
    cases ho; cases hc
  · intro z
    have := X.xd q b hq
    rw [← z, X.node p a hp] at this
    cases this
def updC (C : Path → Value) (p : Path) (v : Value) : Path → Value := fun q => if q = p then v else C q
theorem trieSet (X : Trie w Out h T root C) {p : Path} {a : Addr} {v : Value} (hp : T.nd p = some a) (hs : Heap.SameBut a h h') (ha : h'.get? a = some (nodeO (T.dx p) (T.dd p) v)) : Trie w Out h' T root (updC C p v) := by
  refine ⟨X.root, fun q b e => ?_, fun q b e => (hs.2 _ (Ne.symm (trieApart X hp e).2)).trans (X.xd q b e), fun q b e => ?_, X.up, X.univ, fun q e => ?_, X.inj, X.dinj, X.xdis, X.big, X.out⟩
  · unfold updC
    by_cases z : q = p
    · subst z
      rw [hp] at e; cases e
      rw [if_pos rfl]; exact ha
    · rw [if_neg z]
      refine (hs.2 _ fun y => ?_).trans (X.node q b e)
      subst y
      exact z (X.inj q p _ e hp)
  · obtain ⟨kvs, hd, hv⟩ := X.kids q b e
    exact ⟨kvs, hd.sameBut hs (Ne.symm (trieApart X hp e).1), hv⟩
  · unfold updC
    rw [if_neg]
    · exact X.cn q e
    · intro z; subst z; rw [hp] at e; cases e
theorem valueAt_stored (kvs : List (Str × Value)) (k k' : Str) (v : Value) : valueAt (stored kvs k v) k' = if k' = k then some v else valueAt kvs k' := by
  unfold valueAt stored
  by_cases hany : (kvs.any fun kv => decide (kv.1 = k)) = true
  · rw [if_pos hany]
    induction kvs with
    | nil => cases hany
    | cons kv r ih =>
      simp only [List.map_cons, List.find?_cons]
      by_cases h1 : kv.1 = k
      · subst h1
        simp only [if_true]
        by_cases h2 : kv.1 = k'
        · subst h2; simp
        · simp only [decide_eq_true_eq, h2, decide_false, Ne.symm h2, if_false, Bool.false_eq_true]
          clear ih hany
          induction r with
          | nil => rfl
          | cons kv' r ih =>
            simp only [List.map_cons, List.find?_cons]
            by_cases h3 : kv'.1 = kv.1
            · simp only [h3, if_true, decide_eq_true_eq, h2, decide_false]; exact ih
            · simp only [h3, if_false]
              split <;> first | rfl | exact ih
      · simp only [h1, if_false]
        by_cases h2 : kv.1 = k'
        · have : k' ≠ k := fun z => h1 (h2.trans z)
          simp [h2, this]
        · simp only [h2, decide_false]
          exact ih (by simpa [h1] using hany)
  · rw [if_neg hany]
    rw [List.find?_append]
    by_cases h1 : k' = k
    · subst h1
      have : (kvs.find? fun kv => decide (kv.1 = k')) = none := by
        rw [List.find?_eq_none]
        intro x hx hd
        exact hany (List.any_eq_true.2 ⟨x, hx, hd⟩)
      rw [this]; simp
    · simp only [h1, if_false]
      cases kvs.find? (fun kv => decide (kv.1 = k')) with
      | some x => rfl
      | none => simp [List.find?_cons, Ne.symm h1]
theorem valueAt_without (kvs : List (Str × Value)) (k k' : Str) : valueAt (without kvs k) k' = if k' = k then none else valueAt kvs k' := by
  unfold valueAt without
  rw [List.find?_filter]
  by_cases h : k' = k
  · subst h
    simp only [if_true, Option.map_eq_none_iff, List.find?_eq_none]
    intro x _
    by_cases z : x.1 = k' <;> simp [z]
  · rw [if_neg h]
    congr 1
    congr 1
    funext x
    by_cases z : x.1 = k'
    · simp [z, h]
    · simp [z]
theorem snoc_ne {p : Path} {k : Str} : p ++ [k] ≠ p := fun z => by have := congrArg List.length z; simp at this
theorem snoc_inj {p q : Path} {k l : Str} : p ++ [k] = q ++ [l] ↔ p = q ∧ k = l := by
  constructor
  · intro z
    have := List.append_inj' z rfl
    exact ⟨this.1, by simpa using this.2⟩
  · rintro ⟨rfl, rfl⟩; rfl

def addT (T : TM) (p : Path) (a dx d : Addr) : TM := ⟨fun q => if q = p then some a else T.nd q, fun q => if q = p then d else T.dd q, fun q => if q = p then dx else T.dx q⟩
/-- a new child -/
theorem trieAdd (X : Trie w Out h T root C) {p : Path} {k : Str} {b a dx d : Addr} {kvs : List (Str × Value)} (hp : T.nd p = some b) (hk : T.nd (p ++ [k]) = none) (hu : k ∈ UU) (N : NewNode h h' a dx d)
    (hkv : ∀ k, valueAt kvs k = (T.nd (p ++ [k])).map Value.ref) (hd : h₂.DictOf (strKind PR w) (T.dd p) (stored kvs k (.ref a))) (hs : Heap.SameBut (T.dd p) h' h₂) (ho : ∀ b, Out b → ∃ o, h.get? b = some o) :
    Trie w Out h₂ (addT T (p ++ [k]) a dx d) root C := by
  obtain ⟨od, hod, _⟩ := dictThere (X.kids p b hp).choose_spec.1
  have nx : ∀ {x : Addr}, h.get? x = none → x ≠ T.dd p := fun e z => by rw [z, hod] at e; cases e
  have old : ∀ {x : Addr} {o : Obj}, h.get? x = some o → x ≠ T.dd p → h₂.get? x = some o := fun e z => (hs.2 _ z).trans (N.keeps _ _ e)
  have new : ∀ {x : Addr} {o : Obj}, h.get? x = none → h'.get? x = some o → h₂.get? x = some o := fun e z => (hs.2 _ (nx e)).trans z
  have hrt : ([] : Path) ≠ p ++ [k] := fun z => by have := congrArg List.length z; simp at this
  have nn : ∀ {q : Path} {c x : Addr}, T.nd q = some c → h.get? x = none → x ≠ c ∧ x ≠ T.dd q ∧ x ≠ T.dx q := fun {q c x} e z => by
    refine ⟨fun y => ?_, fun y => ?_, fun y => ?_⟩
    · rw [y, X.node q c e] at z; cases z
    · obtain ⟨o, ho, _⟩ := dictThere (X.kids q c e).choose_spec.1
      rw [y, ho] at z; cases z
    · rw [y, X.xd q c e] at z; cases z
  have far : ∀ l, T.nd (p ++ [k] ++ [l]) = none := fun l => X.up _ _ hk
  unfold addT
  constructor
  · dsimp only; rw [if_neg hrt]; exact X.root
  · intro q c e
    dsimp only at e ⊢
    split at e
    · rename_i z
      cases e
      rw [if_pos z, if_pos z, z, X.cn _ hk]
      exact new N.fa N.at_
    · rename_i z
      rw [if_neg z, if_neg z]
      exact old (X.node q c e) (trieApart X e hp).1
  · intro q c e
    dsimp only at e ⊢
    split at e
    · rename_i z
      rw [if_pos z]; exact new N.fx N.xd
    · rename_i z
      rw [if_neg z]; exact old (X.xd q c e) (X.xdis q p c b e hp)
  · intro q c e
    dsimp only at e ⊢
    split at e
    · rename_i z
      subst z
      rw [if_pos rfl]
      refine ⟨[], ⟨_, _, _, new N.fd N.dd, ⟨rfl, rfl, rfl⟩, rfl, fun _ he => by simp at he, Pairs.nil, List.nodup_nil⟩, fun l => ?_⟩
      rw [if_neg snoc_ne]
      rw [far l]; rfl
    · rename_i z
      rw [if_neg z]
      by_cases y : q = p
      · subst y
        refine ⟨_, hd, fun l => ?_⟩
        rw [valueAt_stored, hkv]
        by_cases x : l = k
        · subst x; simp
        · have : q ++ [l] ≠ q ++ [k] := fun z => x (snoc_inj.1 z).2
          rw [if_neg x, if_neg this]
      · obtain ⟨kvs', hd', hv'⟩ := X.kids q c e
        refine ⟨kvs', ?_, fun l => ?_⟩
        · obtain ⟨o, es, ep, ho', r⟩ := hd'
          exact ⟨o, es, ep, old ho' (fun z => y (X.dinj q p c b e hp z)), r⟩
        · have : q ++ [l] ≠ p ++ [k] := fun z => y (snoc_inj.1 z).1
          rw [if_neg this]; exact hv' l
  · intro q l e
    dsimp only at e ⊢
    split at e
    · cases e
    · rename_i z
      rw [if_neg]
      · exact X.up q l e
      · intro y
        obtain ⟨rfl, rfl⟩ := snoc_inj.1 y
        rw [hp] at e; cases e
  · intro q c e
    dsimp only at e
    split at e
    · rename_i z
      subst z
      intro l hl
      rcases List.mem_append.1 hl with hl | hl
      · exact X.univ p b hp l hl
      · have : l = k := by simpa using hl
        subst this; exact hu
    · exact X.univ q c e
  · intro q e
    dsimp only at e
    split at e
    · cases e
    · exact X.cn q e
  · intro q q' c e e'
    dsimp only at e e'
    split at e <;> split at e'
    · rename_i z z'; rw [z, z']
    · cases e; exact absurd rfl (nn e' N.fa).1
    · cases e'; exact absurd rfl (nn e N.fa).1
    · exact X.inj q q' c e e'
  · intro q q' c c' e e' z
    dsimp only at e e' z
    split at e <;> split at e'
    · rename_i z z'; rw [z, z']
    · rename_i y y'
      rw [if_pos y, if_neg y'] at z
      exact absurd z (nn e' N.fd).2.1
    · rename_i y y'
      rw [if_neg y, if_pos y'] at z
      exact absurd z.symm (nn e N.fd).2.1
    · rename_i y y'
      rw [if_neg y, if_neg y'] at z
      exact X.dinj q q' c c' e e' z
  · intro q q' c c' e e' z
    dsimp only at e e' z
    split at e <;> split at e'
    · rename_i y y'
      rw [if_pos y, if_pos y'] at z; exact N.n3 z
    · rename_i y y'
      rw [if_pos y, if_neg y'] at z
      exact absurd z (nn e' N.fx).2.1
    · rename_i y y'
      rw [if_neg y, if_pos y'] at z
      exact absurd z.symm (nn e N.fd).2.2
    · rename_i y y'
      rw [if_neg y, if_neg y'] at z
      exact X.xdis q q' c c' e e' z
  · intro q c e
    dsimp only at e ⊢
    split at e
    · rename_i z; rw [if_pos z]; exact N.big
    · rename_i z; rw [if_neg z]; exact X.big q c e
  · intro q c e
    dsimp only at e
    have no : ∀ {x}, h.get? x = none → ¬ Out x := fun e z => by obtain ⟨o, ho⟩ := ho _ z; rw [e] at ho; cases ho
    split at e
    · rename_i z
      cases e
      dsimp only
      rw [if_pos z, if_pos z]
      exact ⟨no N.fa, no N.fd, no N.fx⟩
    · rename_i z
      dsimp only
      rw [if_neg z, if_neg z]
      exact X.out q c e
def delT (T : TM) (p : Path) : TM := ⟨fun q => if q = p then none else T.nd q, T.dd, T.dx⟩
theorem trieDel (X : Trie w Out h T root C) {p : Path} {k : Str} {b : Addr} {kvs : List (Str × Value)} (hp : T.nd p = some b) (hkv : ∀ k, valueAt kvs k = (T.nd (p ++ [k])).map Value.ref)
    (hd : h'.DictOf (strKind PR w) (T.dd p) (without kvs k)) (hs : Heap.SameBut (T.dd p) h h') (hc : C (p ++ [k]) = .none) (hk : ∀ l, T.nd (p ++ [k] ++ [l]) = none) : Trie w Out h' (delT T (p ++ [k])) root C := by
  have hrt : ([] : Path) ≠ p ++ [k] := fun z => by have := congrArg List.length z; simp at this
  have old : ∀ q c, (if q = p ++ [k] then none else T.nd q) = some c → T.nd q = some c ∧ q ≠ p ++ [k] := fun q c e => by
    split at e
    · cases e
    · rename_i z; exact ⟨e, z⟩
  unfold delT
  constructor
  · dsimp only; rw [if_neg hrt]; exact X.root
  · intro q c e
    have e := (old q c e).1
    exact (hs.2 _ (trieApart X e hp).1).trans (X.node q c e)
  · intro q c e
    have e := (old q c e).1
    exact (hs.2 _ (X.xdis q p c b e hp)).trans (X.xd q c e)
  · intro q c e
    have e := (old q c e).1
    by_cases y : q = p
    · subst y
      refine ⟨_, hd, fun l => ?_⟩
      rw [valueAt_without, hkv]
      by_cases x : l = k
      · subst x; simp
      · have : q ++ [l] ≠ q ++ [k] := fun z => x (snoc_inj.1 z).2
        rw [if_neg x]; dsimp only; rw [if_neg this]
    · obtain ⟨kvs', hd', hv'⟩ := X.kids q c e
      refine ⟨kvs', hd'.sameBut hs (fun z => y (X.dinj q p c b e hp z)), fun l => ?_⟩
      have : q ++ [l] ≠ p ++ [k] := fun z => y (snoc_inj.1 z).1
      dsimp only
      rw [if_neg this]; exact hv' l
  · intro q l e
    dsimp only at e ⊢
    split at e
    · rename_i z
      subst z
      rw [if_neg snoc_ne]
      exact hk l
    · split
      · rfl
      · exact X.up q l e
  · intro q c e
    exact X.univ q c (old q c e).1
  · intro q e
    dsimp only at e
    split at e
    · rename_i z; rw [z]; exact hc
    · exact X.cn q e
  · intro q q' c e e'
    exact X.inj q q' c (old q c e).1 (old q' c e').1
  · intro q q' c c' e e' z
    exact X.dinj q q' c c' (old q c e).1 (old q' c' e').1 z
  · intro q q' c c' e e'
    exact X.xdis q q' c c' (old q c e).1 (old q' c' e').1
  · intro q c e
    exact X.big q c (old q c e).1
  · intro q c e
    exact X.out q c (old q c e).1
end
end Mine
end
section
open PySem PySem.W PySem.W.X PyProof.Rows PySem.Calls Builtin Builtin.ObjectAttr Builtin.Getset_descriptor
set_option Elab.async false
set_option maxRecDepth 100000
set_option maxHeartbeats 8000000
namespace Mine
section
variable {w : World} {A : Around} {E : Value → Shared → Prop} {s : Shared} {env : Env} {h₀ : Heap} {L : Addr} {m : Str → Option Value}
theorem nodeInst {h : Heap} {a dx d : Addr} {c : Value} (h1 : h.get? a = some (nodeO dx d c)) (h2 : h.get? dx = some emptyDict) : InstAt h a (nodeO dx d c) 40 (some emptyDict) := ⟨h1, rfl, rfl, h2⟩
theorem gKids {a dx d : Addr} {c : Value} {expr : Bool} {Q : Value → Shared → Prop} (X : (KK w).In s.heap) (h1 : s.heap.get? a = some (nodeO dx d c)) (h2 : s.heap.get? dx = some emptyDict)
    (h : Q (.ref d) { s with toks := s.toks + 1 }) : wpAny (model PR w) A (getAttr (.ref a) "_children" expr) Q E s :=
  get_bind X (nodeInst h1 h2) (plainGet_of (K := KK w) (C := 40) (name := "_children") (by kernel_rfl)).1 (findObj_data (a := .ref 41) (by kernel_rfl) (by kernel_rfl) (by kernel_rfl) (by kernel_rfl)) (plainGet_of (K := KK w) (C := 40) (name := "_children") (by kernel_rfl)).2
    (wpAny_call (slot_get (s := { s with toks := s.toks + 1 }) X (nodeInst h1 h2) (i := 0) (by kernel_rfl) rfl (handed_on rfl h)))
theorem gCont {a dx d : Addr} {c : Value} {expr : Bool} {Q : Value → Shared → Prop} (X : (KK w).In s.heap) (h1 : s.heap.get? a = some (nodeO dx d c)) (h2 : s.heap.get? dx = some emptyDict) (hh : handedIn c = true)
    (h : Q c { s with toks := s.toks + 1 }) : wpAny (model PR w) A (getAttr (.ref a) "_content" expr) Q E s :=
  get_bind X (nodeInst h1 h2) (plainGet_of (K := KK w) (C := 40) (name := "_content") (by kernel_rfl)).1 (findObj_data (a := .ref 42) (by kernel_rfl) (by kernel_rfl) (by kernel_rfl) (by kernel_rfl)) (plainGet_of (K := KK w) (C := 40) (name := "_content") (by kernel_rfl)).2
    (wpAny_call (slot_get (s := { s with toks := s.toks + 1 }) X (nodeInst h1 h2) (i := 1) (by kernel_rfl) rfl (handed_on hh h)))
theorem slotSet {R : Result → Shared → Prop} {a dx d : Addr} {c v : Value} (X : (KK w).In s.heap) (h1 : s.heap.get? a = some (nodeO dx d c)) (h2 : s.heap.get? dx = some emptyDict)
    (h : ∀ h', Heap.SameBut a s.heap h' → h'.get? a = some (nodeO dx d v) → R (.ok (.ret .none)) { s with heap := h' }) :
    codeAny (model PR w) A (.call (.builtin "member_descriptor.__set__") ⟨[.ref 42, .ref a, v], []⟩) R s := by
  have I := nodeInst h1 h2
  obtain ⟨n, tn, owner, behind, tb, d', sl, cd, ho, hc, hm, hb, e⟩ := slot_of (K := KK w) X (p := 42) (C := 40) (i := 1) (by kernel_rfl)
  have hfin := h (s.heap.update a fun o => { o with slots := (o.slots ++ Array.replicate (1 + 1 - o.slots.size) none).setIfInBounds 1 (some v) }) (Heap.SameBut.update ..) (Heap.get?_update_self _ h1 rfl)
  obtain ⟨hh, g, dr, t, os⟩ := s
  have L0 := I.type (M := model PR w)
  have L1 := looks_mroIn (M := model PR w) X hm
  have L2 : Looks (model PR w) hh (Slots.slotNamesOf (.ref 40)) cd.slotNames := (looks_clsIn X hc).andThen .now
  dsimp only at ho h1 L0 L1
  have f0 := looks_field (M := model PR w) ho 0 (v := .str n tn) rfl
  have f1 := looks_field (M := model PR w) ho 1 (v := owner) rfl
  have f3 := looks_field (M := model PR w) ho 3 (v := .builtin "proto.slot#set") rfl
  have f4 := looks_field (M := model PR w) ho 4 (v := .int behind tb) rfl
  have f5 : Looks (model PR w) hh (descrItself (.ref 42)) [.ref 42] := ((Looks.ld (part := none) ho).andThen .now).andThen (Looks.of_pure (by kernel_rfl))
  refine codeAny_call_builtin KF.slot_mset.plain KF.entry_mset (KF.slot_mset.check _ _ _ _ _ _ _ _ ⟨_, ho, rfl⟩ (KF.args_mset _ _ _) ?_)
  unfold Builtin.«member_descriptor.__set__» descrSet descrStoreThrough descrCheckInstance descrNameAndClass isInstance
  repeat lk
  refine ⟨Code.quiet_builtin _ (by decide +kernel), codeAny_builtin KF.entry_slotset ?_⟩
  unfold Builtin.«proto.slot#set» Slots.target
  repeat lk
  rw [if_neg hb]
  refine wpAny_pure (wpAny_bind ?_)
  unfold setSlotAt
  dsimp only
  rw [← e]
  rw [if_neg (by rw [sizeLine_eq]; omega)]
  exact wpAny_updatePart h1 (wpAny_pure hfin)
theorem sCont {a dx d : Addr} {c v : Value} {Q : Unit → Shared → Prop} (X : (KK w).In s.heap) (h1 : s.heap.get? a = some (nodeO dx d c)) (h2 : s.heap.get? dx = some emptyDict)
    (h : ∀ h', Heap.SameBut a s.heap h' → h'.get? a = some (nodeO dx d v) → Q () { s with heap := h', toks := s.toks + 1 }) : wpAny (model PR w) A (setAttr (.ref a) "_content" v) Q E s :=
  set_plain (K := KK w) X (nodeInst h1 h2) (by kernel_rfl) (osa_descr (K := KK w) (s := { s with toks := s.toks + 1 }) KF.slot_mset X (nodeInst h1 h2) (by kernel_rfl) (p := 42) (by kernel_rfl) (by kernel_rfl)
    (slotSet (s := { s with toks := s.toks + 1 }) X h1 h2 fun h' hs ha => h h' hs ha))
theorem gRoot {x xx r hs : _} {tk : Tok} {n : Nat} {expr : Bool} {Q : Value → Shared → Prop} (X : (KK w).In s.heap) (h1 : s.heap.get? x = some (matO xx)) (h2 : s.heap.get? xx = some (dictOf [⟨hs, .str "_root" tk, .ref r⟩] n))
    (h : Q (.ref r) { s with toks := s.toks + 1 }) : wpAny (model PR w) A (getAttr (.ref x) "_root" expr) Q E s :=
  get_value (K := KK w) (C := 82) X ⟨h1, rfl, rfl, h2⟩ (plainGet_of (K := KK w) (C := 82) (name := "_root") (by kernel_rfl)).1 (findObj_own (by kernel_rfl) (attr := none) (by kernel_rfl) (by kernel_rfl) rfl) rfl h
end
end Mine
end
section
open PySem PySem.W PySem.W.X PyProof.Rows PySem.Calls
set_option Elab.async false
set_option maxRecDepth 100000
set_option maxHeartbeats 8000000
namespace Mine
section
variable {w : World} {A : Around} {E : Value → Shared → Prop} {s : Shared} {env : Env}
/-- as for_W, any target, the walk may raise -/
theorem for_WT {R : Result → Shared → Prop} {tgt : Expr} {body : List Stmt} {I : Addr} {fp wr : List Addr} {n : Nat} {P : Nat → Value → Prop} {St : Nat → Heap → Prop}
    (W : Walks PR w A I fp wr n P St) (J : Nat → Shared → Prop)
    (trans : ∀ i s₁ h' tk, J i s₁ → (∀ b o, b ∉ wr → s₁.heap.get? b = some o → h'.get? b = some o) → J i { s₁ with heap := h', toks := tk })
    (turn : ∀ i v s₁, i < n → P i v → J i s₁ → St (i + 1) s₁.heap → wpAny (model PR w) A (assign tgt env v) (fun _ s₂ => wpAny (model PR w) A (execs body env) (fun f s₃ => match f with
          | .next | .cont => J (i + 1) s₃ ∧ St (i + 1) s₃.heap
          | .brk => R (.ok .next) s₃
          | .ret v => R (.ok (.ret v)) s₃) (notedBy (model PR w) A env fun e s' => R (.error e) s') s₂) (notedBy (model PR w) A env fun e s' => R (.error e) s') s₁)
    (done : ∀ s₁, J n s₁ → R (.ok .next) s₁) (h0 : J 0 s) (hs : St 0 s.heap) (ht : ∀ v, letOwnedTupleGo tgt (.ref I) v = pure ()) : codeAny (model PR w) A (.forLoop tgt (.ref I) body [] env) R s := by
  refine codeAny_forLoop (fun k s' => ∃ i, k = n + 1 - i ∧ i ≤ n ∧ J i s' ∧ St i s'.heap) ?_ (n + 1) ⟨0, rfl, Nat.zero_le _, h0, hs⟩ ht
  rintro k s' ⟨i, rfl, hi, hJ, hS⟩
  by_cases hlt : i < n
  · refine W.item i s' _ _ hlt hS fun v h' tk hP hS' hk => ?_
    refine (wpAny_mono (turn i v _ hlt hP (trans i s' h' tk hJ hk) hS') (fun _ s₂ h₂ => wpAny_mono h₂ (fun f s₃ h₃ => ?_) fun _ _ e => e) fun _ _ e => e)
    cases f with
    | next => exact ⟨n + 1 - (i + 1), by omega, i + 1, rfl, hlt, h₃⟩
    | cont => exact ⟨n + 1 - (i + 1), by omega, i + 1, rfl, hlt, h₃⟩
    | brk => exact h₃
    | ret v => exact h₃
  · have hin : i = n := by omega
    subst hin
    refine W.done s' _ _ hS fun h' tk hk => wpAny_execs_nil (done _ (trans _ s' h' tk hJ hk))
theorem for_list {R : Result → Shared → Prop} {x : Str} {px : Pos} {body : List Stmt} {D : Addr} {items : Array Value} (hh : A.handled = none) (hD : s.heap.IsList D items) (J : Addr → Nat → Shared → Prop)
    (h : ∀ I, s.heap.get? I = none →
      (∀ h' tk, (∀ b o, s.heap.get? b = some o → h'.get? b = some o) → (∃ o, h'.get? I = some o ∧ o.cls = .type "list_iterator") → J I 0 { s with heap := h', toks := tk }) ∧
      (∀ i s₁ h' tk, J I i s₁ → (∀ b o, b ≠ I → s₁.heap.get? b = some o → h'.get? b = some o) → J I i { s₁ with heap := h', toks := tk }) ∧
      (∀ i v s₁, items[i]? = some v → J I i s₁ → (∃ o, s₁.heap.get? I = some o ∧ o.cls = .type "list_iterator") → wpAny (model PR w) A (storeName env x v) (fun _ s₂ => wpAny (model PR w) A (execs body env) (fun f s₃ => match f with
          | .next | .cont => J I (i + 1) s₃ ∧ (∀ b, b = I ∨ b = D → ∀ o, s₁.heap.get? b = some o → s₃.heap.get? b = some o)
          | .brk => R (.ok .next) s₃
          | .ret v => R (.ok (.ret v)) s₃) (notedBy (model PR w) A env fun e s' => R (.error e) s') s₂) (notedBy (model PR w) A env fun e s' => R (.error e) s') s₁) ∧
      (∀ s₁, J I items.size s₁ → R (.ok .next) s₁)) :
    wpAny (model PR w) A (pyIter (.ref D)) (fun it s₂ => codeAny (model PR w) A (.forLoop (.Name x px) it body [] env) R s₂) E s := by
  refine wpAny_pyIter_list hD ?_
  have hDI : D ≠ s.heap.objs.size := by obtain ⟨o, ho, _⟩ := hD; exact Nat.ne_of_lt (Heap.lt_size ho)
  obtain ⟨h1, h2, h3, h4⟩ := h s.heap.objs.size (Heap.get?_none_of_le (Nat.le_refl _))
  refine for_WT (Walks.list hh s.heap.objs.size D hDI items) (J s.heap.objs.size) (fun i s₁ h' tk j k => h2 i s₁ h' tk j fun b o hb e => k b o (by simpa using hb) e) ?_ h4 (h1 _ _ (fun b o e => Heap.get?_push_of_some _ e) ⟨_, Heap.get?_push_size _ rfl, rfl⟩) ?_ (fun _ => rfl)
  · intro i v s₁ hi hv hJ hS
    refine wpAny_assign_Name ?_
    refine wpAny_mono (h3 i v s₁ hv hJ (let ⟨o, ho, hc, _⟩ := hS.1; ⟨o, ho, hc⟩)) (fun _ s₂ h₂ => wpAny_mono h₂ (fun f s₃ h₃ => ?_) fun _ _ e => e) fun _ _ e => e
    cases f with
    | next => exact ⟨h₃.1, hS.1.at fun o e => h₃.2 _ (.inl rfl) o e, hS.2.at fun o e => h₃.2 _ (.inr rfl) o e⟩
    | cont => exact ⟨h₃.1, hS.1.at fun o e => h₃.2 _ (.inl rfl) o e, hS.2.at fun o e => h₃.2 _ (.inr rfl) o e⟩
    | brk => exact h₃
    | ret v => exact h₃
  · exact ⟨⟨_, Heap.get?_push_size _ rfl, rfl, rfl⟩, hD.at fun o e => Heap.get?_push_of_some _ e⟩
structure MatX (w : World) (Out : Addr → Prop) (h : Heap) (x xx root : Addr) (T : TM) (C : Path → Value) : Prop where
  at_ : h.get? x = some (matO xx)
  dict : ∃ hs tk n, h.get? xx = some (dictOf [⟨hs, .str "_root" tk, .ref root⟩] n)
  ox : Out x
  oxx : Out xx
  tr : Trie w Out h T root C
def Mat (w : World) (Out : Addr → Prop) (h : Heap) (x : Addr) (C : Path → Value) : Prop := ∃ xx root T, MatX w Out h x xx root T C
theorem matKeep {Out : Addr → Prop} {h h' : Heap} {x xx root : Addr} {T : TM} {C : Path → Value} (M : MatX w Out h x xx root T C) (k : ∀ b o, (b = x ∨ b = xx ∨ ¬ Out b) → h.get? b = some o → h'.get? b = some o) : MatX w Out h' x xx root T C :=
  ⟨k _ _ (.inl rfl) M.at_, let ⟨a, b, c, e⟩ := M.dict; ⟨a, b, c, k _ _ (.inr (.inl rfl)) e⟩, M.ox, M.oxx, trieKeep M.tr fun b o n e => k b o (.inr (.inr n)) e⟩
/-- what a call in the midst of a law stands on: h₀ lies under it, apart from the trie -/
structure On (h₀ : Heap) (Out : Addr → Prop) (h : Heap) : Prop where
  keep : ∀ b o, h₀.get? b = some o → h.get? b = some o
  size : h₀.objs.size ≤ h.objs.size
  out : ∀ b o, h₀.get? b = some o → Out b
  there : ∀ b, Out b → ∃ o, h.get? b = some o
theorem frOn {h₀ h h₁ : Heap} {Out : Addr → Prop} {L : Addr} {m : Str → Option Value} (o : On h₀ Out h) (F : Fr h L h₁ m) : Fr h₀ L h₁ m := ⟨F.ns, fun b p e => F.keep b p (o.keep b p e), Nat.le_trans o.size F.above⟩
theorem split_call {x : Str} {t u : Tok} {Q : Value → Shared → Prop} (hx : x.length ≤ 100)
    (h : ∀ D l h' k, l.map (·.1) = Txt.split x "/" → (∀ b o, s.heap.get? b = some o → h'.get? b = some o) → h'.IsList D (sv l).toArray → Q (.ref D) { s with heap := h', toks := k }) :
    wpAny (model PR w) A (call (.builtin "str.split") [.str x t, .str "/" u]) Q E s :=
  SCH.split1 (P := fun h' => ∀ b o, s.heap.get? b = some o → h'.get? b = some o) (fun _ _ p b o e => Heap.get?_push_of_some _ (p b o e)) (fun _ _ e => e) (by decide) (fun D l h' k e p hl => h D l h' k e p hl)
    (by rw [sizeLine_eq]; omega) (by
      have e1 := StrLaws.occ_length_le x "/" 0 x.length (x.length + 1)
      rw [length_partsBetween, sizeLine_eq]; omega)
end
end Mine
end
section
open PySem PySem.W PySem.W.X PyProof.Rows PySem.Calls
set_option Elab.async false
set_option maxRecDepth 100000
set_option maxHeartbeats 8000000
namespace Mine
section
variable {w : World} {A : Around} {E : Value → Shared → Prop} {s : Shared} {env : Env}
theorem dictBare {K : Type} [DecidableEq K] {knd : KeyKind PR w K} {h : Heap} {d : Addr} {kvs : List (K × Value)} (x : h.DictOf knd d kvs) : ∃ o, h.get? d = some o ∧ o.dict = none := let ⟨o, _, _, ho, hc, _⟩ := x; ⟨o, ho, hc.2.1⟩
theorem kids_nodup {K : Type} [DecidableEq K] {knd : KeyKind PR w K} {h : Heap} {d : Addr} {kvs : List (K × Value)} (x : h.DictOf knd d kvs) : (kvs.map (·.1)).Nodup := let ⟨_, _, _, _, _, _, _, _, hn⟩ := x; hn
theorem child_step {Out : Addr → Prop} {h₄ : Heap} {root a b dx d : Addr} {T : TM} {C : Path → Value} {p : Path} {sym : Str} {t : Tok} {Q : Value → Shared → Prop} (X : Trie w Out h₄ T root C) (hp : T.nd p = some b) (hu : sym ∈ UU)
    (ho : ∀ b, Out b → ∃ o, h₄.get? b = some o) (N : NewNode h₄ s.heap a dx d)
    (hQ : ∀ h₆ tk T' a₁, T'.nd (p ++ [sym]) = some a₁ → Trie w Out h₆ T' root C → (∀ b o, Out b → h₄.get? b = some o → h₆.get? b = some o) → Q (.ref a₁) { s with heap := h₆, toks := tk }) :
    wpAny (model PR w) A (call (.builtin "dict.setdefault") [.ref (T.dd p), .str sym t, .ref a]) Q E s := by
  obtain ⟨kvs, hd, hkv⟩ := X.kids _ _ hp
  have hd₅ : s.heap.DictOf (PySem.strKind PR w) (T.dd p) kvs := let ⟨o, es, ep, ho, r⟩ := hd; ⟨o, es, ep, N.keeps _ _ ho, r⟩
  have hbig := X.big _ _ hp
  have h6 := shortKids X (kids_nodup hd) hkv
  have hne : ∀ b, Out b → b ≠ T.dd p := fun b hb z => (X.out _ _ hp).2.1 (z ▸ hb)
  refine call_meetsIn PySem.F.slot_dict_setdefault hd₅.typeIs PySem.F.entry_dict_setdefault (PySem.F.args_dict_setdefault_3 _ _ _) (kt_meets_setdefault (PySem.strKind PR w) (T.dd p) (strKind_is PR w sym t) (beq_eq_false_iff_ne.2 (Nat.ne_of_gt hbig)) (.ref a))
    ⟨kvs, hd₅, by rw [sizeLine_eq]; omega, fun v₁ hv₁ => ?_, fun hv₁ h₆ hd₆ S₆ => ?_⟩
  · rw [hkv] at hv₁
    obtain ⟨a₁, ha₁, rfl⟩ := Option.map_eq_some_iff.1 hv₁
    exact hQ _ _ T a₁ ha₁ (trieKeep X fun b o _ e => N.keeps b o e) fun b o _ e => N.keeps b o e
  · rw [hkv] at hv₁
    have hv₁ := Option.map_eq_none_iff.1 hv₁
    exact hQ _ _ (addT T (p ++ [sym]) a dx d) a (by simp [addT]) (trieAdd X hp hv₁ hu N hkv hd₆ S₆ ho) fun b o hb e => (S₆.2 b (hne b hb)).trans (N.keeps b o e)
theorem set_spec {R : Result → Shared → Prop} {x : Addr} {key : Str} {fl : List Str} {v : Value} {t : Tok} {h₀ : Heap} {Out : Addr → Prop} {C : Path → Value} (c : Cx w h₀) (ok : Ok A 10) (o : On h₀ Out s.heap) (M : Mat w Out s.heap x C)
    (hsp : Txt.split key "/" = fl) (hfl : ∀ l ∈ fl, l ∈ UU) (hkl : key.length ≤ 100)
    (h : ∀ h' tk, (∀ b o, Out b → s.heap.get? b = some o → h'.get? b = some o) → Mat w Out h' x (updC C fl v) → R (.ok (.ret .none)) { s with heap := h', toks := tk }) :
    codeAny (model PR w) A (.call (.ref 58) ⟨[.ref x, .str key t, v], []⟩) R s := by
  refine call_fnR (st := nth (stBody (topSt 1)) 2) (nm := "__setitem__") (q := "MQTTMatcher.__setitem__") (code := 57) (binds := [("self", .ref x), ("key", .str key t), ("value", v)]) (c.keeps o.keep) ok.room ⟨_, rfl⟩ (by kernel_rfl) (fun pm => by kernel_rfl) (fun h₁ F => ?_)
  obtain ⟨xx, root, T, M⟩ := M
  have fresh : s.heap.get? s.heap.objs.size = none := Heap.get?_none_of_le (Nat.le_refl _)
  have oL : ∀ b, Out b → b ≠ s.heap.objs.size := fun b hb z => by obtain ⟨o', ho'⟩ := o.there b hb; rw [z, fresh] at ho'; cases ho'
  have M₁ : MatX w (fun b => Out b ∨ b = s.heap.objs.size) s.heap x xx root T C := ⟨M.at_, M.dict, .inl M.ox, .inl M.oxx, trieOut M.tr fun b hb => by
    rcases hb with hb | rfl
    · exact .inl hb
    · exact .inr fun o' e => by rw [fresh] at e; cases e⟩
  have M₁ := matKeep M₁ fun b o _ e => F.keep b o e
  obtain ⟨hs, tk, n, hxx⟩ := M₁.dict
  refine wpAny_execs_cons (wpAny_Assign_Name (Attribute_any_ (ld F rfl (gRoot ((c.keeps o.keep).keeps F.keep).X M₁.at_ hxx ?_))))
  refine stS (frOn o F) (fun h₂ F₂ S₂ => ?_)
  dsimp only at S₂ ⊢
  have M₂ := matKeep M₁ fun b o hb e => (S₂.2 b (by
    rcases hb with rfl | rfl | hb
    · exact oL _ M.ox
    · exact oL _ M.oxx
    · exact fun z => hb (.inr z))).trans e
  refine wpAny_execs_cons (wpAny_For ?_)
  refine wpAny_Call_method (T := "str") (id := "str.split") rfl rfl rfl PySem.F.plainAttrs_str PySem.F.slot_str_split rfl ?_
  refine ld F₂ rfl ⟨typeIs_str _ _ _, fun a e => (by cases e), ?_⟩
  refine Calls.callWith_builtin rfl (evalArgs_plain (spliced_cons (cStr (k := 0) (pos := default) fun tk => spliced_nil ?_)))
  dsimp only
  refine split_call hkl fun D l h₃ k hl k₃ hD => ?_
  dsimp only at k₃ ⊢
  have M₃ := matKeep M₂ fun b o _ e => k₃ b o e
  have F₃ := frUp F₂ k₃
  obtain ⟨oD, hoD, hcD, nD, hdD⟩ := id hD
  have hDL : D ≠ s.heap.objs.size := fun z => by
    obtain ⟨o', _, _, ho', hd', _⟩ := F₃.ns
    rw [← z, hoD] at ho'
    cases ho'
    rw [hdD] at hd'; cases hd'
  have hl' : l.map (·.1) = fl := hl.trans hsp
  have kS : ∀ b o, Out b → s.heap.get? b = some o → h₃.get? b = some o := fun b o hb e => k₃ b o ((S₂.2 b (oL b hb)).trans (F.keep b o e))
  refine for_list ok.hd hD (fun I i s₁ => ∃ h tk m a T, s₁ = { s with heap := h, toks := tk } ∧ Fr h₀ s.heap.objs.size h m ∧ m "self" = some (.ref x) ∧ m "value" = some v ∧ m "node" = some (.ref a) ∧ T.nd (fl.take i) = some a ∧
      MatX w (fun b => Out b ∨ b = s.heap.objs.size ∨ b = D ∨ b = I) h x xx root T C ∧ (∀ b o, Out b → s.heap.get? b = some o → h.get? b = some o) ∧ h.get? D = some oD) fun I hI => ?_
  dsimp only at hI
  have hID : D ≠ I := fun z => by rw [z, hI] at hoD; cases hoD
  have hLI : s.heap.objs.size ≠ I := nsNe F₃.ns hI
  have hOI : ∀ b, Out b → b ≠ I := fun b hb z => by
    obtain ⟨o', ho'⟩ := o.there b hb
    have := kS _ _ hb ho'
    rw [z, hI] at this; cases this
  refine ⟨?_, ?_, ?_, ?_⟩
  · intro h' tk k ⟨oI, hoI, hcI⟩
    have M' := matKeep M₃ fun b o _ e => k b o e
    refine ⟨h', tk, _, root, T, rfl, frUp F₃ k, rfl, rfl, rfl, M.tr.root, ⟨M'.at_, M'.dict, .inl M.ox, .inl M.oxx, trieOut M'.tr fun b hb => ?_⟩, fun b o hb e => k b o (kS b o hb e), k _ _ hoD⟩
    rcases hb with hb | rfl | rfl | rfl
    · exact .inl (.inl hb)
    · exact .inl (.inr rfl)
    · refine .inr fun o' e => ?_
      rw [k _ _ hoD] at e; cases e
      rw [hcD]; exact ⟨by simp, by decide⟩
    · refine .inr fun o' e => ?_
      rw [hoI] at e; cases e
      rw [hcI]; exact ⟨by simp, by decide⟩
  · rintro i s₁ h' tk' ⟨h, tk, m, a, T, rfl, Fi, m1, m2, m3, hnd, Mi, hk, hDi⟩ hk'
    dsimp only at hk'
    refine ⟨h', tk', m, a, T, rfl, frBut Fi hk' hLI (frNone F₃ hI), m1, m2, m3, hnd, matKeep Mi fun b o hb e => hk' b o ?_ e, fun b o hb e => hk' b o (hOI b hb) (hk b o hb e), hk' _ _ hID hDi⟩
    rcases hb with rfl | rfl | hb
    · exact hOI _ M.ox
    · exact hOI _ M.oxx
    · exact fun z => hb (.inr (.inr (.inr z)))
  · rintro i v' s₁ hv ⟨h, tk, m, a, T, rfl, Fi, m1, m2, m3, hnd, Mi, hk, hDi⟩ ⟨oI, hoI, hcI⟩
    obtain ⟨sym, t', rfl, hsym⟩ : ∃ sym t', v' = .str sym t' ∧ fl[i]? = some sym := by
      rw [← hl']
      simp only [List.getElem?_toArray, List.getElem?_map, Option.map_eq_some_iff] at hv ⊢
      obtain ⟨p, hp, rfl⟩ := hv
      exact ⟨_, _, rfl, p, hp, rfl⟩
    refine stS Fi (fun h₄ F₄ S₄ => ?_)
    dsimp only at S₄ hoI ⊢
    have hx' : ∀ b, (b = x ∨ b = xx ∨ ¬ (Out b ∨ b = s.heap.objs.size ∨ b = D ∨ b = I)) → b ≠ s.heap.objs.size := by
      rintro b (rfl | rfl | hb)
      · exact oL _ M.ox
      · exact oL _ M.oxx
      · exact fun z => hb (.inr (.inl z))
    have M₄ := matKeep Mi fun b o hb e => (S₄.2 b (hx' b hb)).trans e
    have X₄ := (c.keeps F₄.keep).X
    refine wpAny_execs_cons (wpAny_Assign_Name (wpAny_Call_method (T := "dict") (id := "dict.setdefault") rfl rfl rfl PySem.F.plainAttrs_dict PySem.F.slot_dict_setdefault rfl ?_))
    refine Attribute_any_ (ld F₄ (mo (by decide) m3) (gKids X₄ (M₄.tr.node _ _ hnd) (M₄.tr.xd _ _ hnd) ?_))
    have hkd := M₄.tr.kids _ _ hnd
    cases hkd with
    | intro kvs hkd =>
    have hd := hkd.1
    have hkv := hkd.2
    refine ⟨hd.typeIs, fun a' e => by cases e; exact dictBare hd, ?_⟩
    refine Calls.callWith_builtin rfl (evalArgs_plain (spliced_cons (ld F₄ rfl (spliced_cons ?_))))
    refine methodCall_KW (ld F₄ (mo (by decide) m1) ?_)
    have hdx := M₄.dict
    cases hdx with
    | intro hs' hdx =>
    cases hdx with
    | intro tk'' hdx =>
    cases hdx with
    | intro n' hdx =>
    have I₄ : InstAt h₄ x (matO xx) 82 (some (dictOf [⟨hs', .str "_root" tk'', .ref root⟩] n')) := ⟨M₄.at_, rfl, rfl, hdx⟩
    refine method_usual (K := KK w) (C := 82) X₄ I₄ (by kernel_rfl) (by kernel_rfl) (r := some (.ref 40)) (by kernel_rfl) (by kernel_rfl) ?_
    refine get_value (K := KK w) (C := 82) X₄ I₄ (plainGet_of (K := KK w) (C := 82) (name := "Node") (by kernel_rfl)).1 (findObj_cls (K := KK w) (C := 82) (a := .ref 40) (by kernel_rfl) (by kernel_rfl) (by kernel_rfl) rfl (by kernel_rfl) (by kernel_rfl)) rfl ?_
    refine callWith_K0 (K := KK w) X₄ rfl ?_
    refine (ok.deeper _).one (node_new X₄ fun h₅ tk₅ a' dx d N => ?_)
    refine spliced_nil ?_
    dsimp only at N ⊢
    have htake : fl.take (i + 1) = fl.take i ++ [sym] := by rw [List.take_add_one, hsym]; rfl
    refine child_step M₄.tr hnd (hfl _ (List.mem_of_getElem? hsym)) (fun b hb => ?_) N fun h₆ tk₆ T' a₁ ha₁ X₆ k₆ => ?_
    · rcases hb with hb | rfl | rfl | rfl
      · obtain ⟨o', ho'⟩ := o.there b hb
        exact ⟨o', (S₄.2 b (oL b hb)).trans (hk b o' hb ho')⟩
      · obtain ⟨o', _, _, ho', _⟩ := F₄.ns; exact ⟨o', ho'⟩
      · exact ⟨oD, (S₄.2 _ (hDL)).trans hDi⟩
      · exact ⟨oI, (S₄.2 _ (Ne.symm hLI)).trans hoI⟩
    have F₆ : Fr h₀ s.heap.objs.size h₆ _ := ⟨F₄.ns.at' fun o' e => k₆ _ o' (.inr (.inl rfl)) e, fun b o' e => k₆ b o' (.inl (o.out b o' e)) (F₄.keep b o' e), F₄.above⟩
    refine stS F₆ (fun h₇ F₇ S₇ => wpAny_execs_nil ?_)
    dsimp only at S₇ ⊢
    constructor
    · refine ⟨h₇, _, _, a₁, T', rfl, F₇, m1, m2, rfl, by rw [htake]; exact ha₁, ?_, fun b o' hb e => ?_, ?_⟩
      · have hx7 : ∀ b o', Out b → h₄.get? b = some o' → h₇.get? b = some o' := fun b o' hb e => (S₇.2 b (oL b hb)).trans (k₆ b o' (.inl hb) e)
        exact ⟨hx7 _ _ M.ox M₄.at_, ⟨_, _, _, hx7 _ _ M.oxx hdx⟩, .inl M.ox, .inl M.oxx, trieKeep X₆ fun b o' nb e => (S₇.2 b fun z => nb (.inr (.inl z))).trans e⟩
      · exact (S₇.2 b (oL b hb)).trans (k₆ b o' (.inl hb) ((S₄.2 b (oL b hb)).trans (hk b o' hb e)))
      · exact (S₇.2 _ hDL).trans (k₆ _ _ (.inr (.inr (.inl rfl))) ((S₄.2 _ hDL).trans hDi))
    · intro b hb o' e
      have hbL : b ≠ s.heap.objs.size := by
        rcases hb with rfl | rfl
        · exact Ne.symm hLI
        · exact hDL
      refine (S₇.2 b hbL).trans (k₆ b o' (.inr (.inr ?_)) ((S₄.2 b hbL).trans e))
      exact hb.symm
  · rintro s₁ ⟨g, tk, m, a, T, rfl, Fi, m1, m2, m3, hnd, Mi, hk, hDi⟩
    dsimp only
    have hsz : (strValues l).toArray.size = fl.length := by rw [← hl']; simp [strValues]
    have hnd' : T.nd fl = some a := by
      have e : (sv l).toArray.size = fl.length := hsz
      rw [e, List.take_length] at hnd; exact hnd
    refine wpAny_execs_cons (plainObj_wpAny_Assign_Attribute (ld Fi m2 (ld Fi m3 (sCont (c.keeps Fi.keep).X (Mi.tr.node _ _ hnd') (Mi.tr.xd _ _ hnd') fun h₈ S₈ h8 => ?_))))
    refine wpAny_execs_nil ?_
    dsimp only at S₈ ⊢
    have kO : ∀ b o', Out b → g.get? b = some o' → h₈.get? b = some o' := fun b o' hb e => (S₈.2 b fun z => (Mi.tr.out _ _ hnd').1 (.inl (z ▸ hb))).trans e
    have hdx := Mi.dict
    obtain ⟨_, _, _, hdx⟩ := hdx
    exact h h₈ _ (fun b o' hb e => kO b o' hb (hk b o' hb e)) ⟨xx, root, T, kO _ _ M.ox Mi.at_, ⟨_, _, _, kO _ _ M.oxx hdx⟩, M.ox, M.oxx, trieOut (trieSet Mi.tr hnd' S₈ h8) fun b hb => .inl (.inl hb)⟩
end
end Mine
end
section
open PySem PySem.W PySem.W.X PyProof.Rows PySem.Calls
set_option Elab.async false
set_option maxRecDepth 100000
set_option maxHeartbeats 8000000
namespace Mine
/-- an exception on its way, B what stays under it -/
structure Ex1 (B h : Heap) (l : List Env) (e : Addr) (cls a0 ctx fl : Value) : Prop where
  stays : B.StaysIn h
  frames : h.FunFrames B l
  be : B.get? e = none
  exc : ∃ oe vs T oT ts, h.get? e = some oe ∧ oe.cls = cls ∧ oe.data = .fields vs ∧ vs[0]? = some a0 ∧ vs[1]? = some (.ref T) ∧ vs[2]? = some ctx ∧ B.get? T = none ∧ T ≠ e ∧ h.get? T = some oT ∧ oT.data = .fields ts ∧ ts[3]? = some fl
section
variable {M : Model} {A : Around} {E : Value → Shared → Prop} {s : Shared} {env : Env} {B : Heap} {outer l : List Env} {L e : Addr} {cls a0 ctx fl : Value} {Q : Unit → Shared → Prop}
theorem Ex1.heldW (x : Ex1 B s.heap l e cls a0 ctx (rawInt L)) : Heap.HeldW B l e cls a0 L s.heap :=
  let ⟨oe, vs, T, oT, ts, a, b, c, d, f, _, r⟩ := x.exc
  ⟨x.stays, x.be, x.frames, oe, vs, T, oT, ts, a, ⟨b, d⟩, c, f, r⟩
theorem Ex1.flyW (x : Ex1 B s.heap l e cls a0 ctx .none) : Heap.FlyingW B l e cls a0 s.heap :=
  let ⟨oe, vs, T, oT, ts, a, b, c, d, f, _, r⟩ := x.exc
  ⟨x.stays, x.be, x.frames, oe, vs, T, oT, ts, a, ⟨b, d⟩, c, f, r⟩
theorem note_first {oe : Obj} {vs : Array Value} (hfr : A.frames = some (env :: outer)) (hf : env.frame = some L) (hB : B.StaysIn s.heap) (hl : s.heap.FunFrames B (env :: outer)) (be : B.get? e = none)
    (he : s.heap.get? e = some oe) (hd : oe.data = .fields vs) (h0 : vs[0]? = some a0) (h1 : vs[1]? = some .none) (h2 : vs[2]? = some ctx)
    (hQ : ∀ h', Ex1 B h' (env :: outer) e oe.cls a0 ctx (rawInt L) → s.heap.UpToSlots h' → Q () { s with heap := h' }) : wpAny M A (noteFrame (.ref e) env) Q E s := by
  have hsz : 1 < vs.size := (Array.getElem?_eq_some_iff.mp h1).1
  have hin : e ∉ (env :: outer).filterMap (·.frame) := fun hm => by
    obtain ⟨_, o, ho, hn⟩ := hl.mem hm
    rw [he] at ho; cases ho; exact hn vs hd
  unfold noteFrame
  simp only [hf]
  refine wpAny_bind (wpAny_field he hd h1 ?_)
  rw [if_neg (by decide)]
  refine wpAny_bind (wpAny_frameOf_fun hfr hl hf fun h₁ S => ?_)
  refine wpAny_bind (wpAny_entryPlaceOf fun pl hpl => ?_)
  unfold EntryCells.newEntry newFields
  refine wpAny_bind (wpAny_newObj_type ?_ (hpl.sizeOk5 _ _ _ _ _))
  generalize hob : ([Value.none, Value.ref L, .none, rawInt L, .none] ++ (if pl.isEmpty then List.replicate 6 Value.none else pl)).toArray = ts
  have ht3 : ts[3]? = some (rawInt L) := by rw [← hob]; simp
  have he₁ : h₁.get? e = some oe := (S.2.1 e hin).trans he
  have k₁ : B.StaysIn h₁ := fun b o hb => (S.2.1 b fun hm => by rw [(hl.mem hm).1] at hb; cases hb).trans (hB b o hb)
  generalize hnew : h₁.objs.size = T
  have hTn : h₁.get? T = none := by rw [← hnew]; exact Heap.get?_none_of_le (Nat.le_refl _)
  have hTe : T ≠ e := fun z => by rw [z, he₁] at hTn; cases hTn
  have hp : ∀ b o, h₁.get? b = some o → (h₁.push { cls := .type "traceback", data := .fields ts }).get? b = some o := fun b o q => Heap.get?_push_of_some _ q
  have hpT : (h₁.push { cls := .type "traceback", data := .fields ts }).get? T = some { cls := .type "traceback", data := .fields ts } := by rw [← hnew]; exact Heap.get?_push_size _ rfl
  refine wpAny_setField (hp _ _ he₁) hd hsz (hQ _ ?_ fun b o hb hn => ?_)
  · have hd' := Obj.data_mapFields hd (·.setIfInBounds 1 (.ref T))
    refine ⟨fun b o hb => ?_, hl.of_keeps fun b o hb hn => ?_, be, _, _, T, _, _, Heap.get?_update_self _ (hp _ _ he₁) (Obj.isFreed_of_fields hd'), Obj.cls_mapFields _ _, hd', ?_, ?_, ?_, ?_, hTe, (Heap.get?_update_other _ _ (Ne.symm hTe)).trans hpT, rfl, ht3⟩
    · exact (Heap.get?_update_other _ _ (fun z => by rw [z, hb] at be; cases be)).trans (hp _ _ (k₁ b o hb))
    · obtain ⟨sl, hs⟩ := S.2.2 b o hb
      exact ⟨_, (Heap.get?_update_other _ _ (fun z => by rw [← z, he] at hb; cases hb; exact hn vs hd)).trans (hp _ _ hs), rfl⟩
    · rw [Array.getElem?_setIfInBounds_ne (by decide)]; exact h0
    · simp [hsz]
    · rw [Array.getElem?_setIfInBounds_ne (by decide)]; exact h2
    · cases q : B.get? T with
      | none => rfl
      | some o => have := k₁ T o q; rw [hTn] at this; cases this
  · obtain ⟨sl, hs⟩ := S.2.2 b o hb
    exact ⟨sl, (Heap.get?_update_other _ _ (fun z => by rw [← z, he] at hb; cases hb; exact hn vs hd)).trans (hp _ _ hs)⟩
theorem note_again (hf : env.frame = some L) (x : Ex1 B s.heap l e cls a0 ctx (rawInt L)) (h : Q () s) : wpAny M A (noteFrame (.ref e) env) Q E s := wpAny_noteFrame_againW hf x.heldW.2.2.2 h
theorem set_fl {fr : Option Addr} (x : Ex1 B s.heap l e cls a0 ctx fl)
    (hQ : ∀ h', Ex1 B h' l e cls a0 ctx (fr.elim Value.none fun f => rawInt f) → s.heap.UpToSlots h' → Q () { s with heap := h' }) : wpAny M A (setFlight (.ref e) fr) Q E s := by
  obtain ⟨oe, vs, T, oT, ts, he, hc, hd, h0, h1, h2, hBT, hTe, hT, hdT, h3⟩ := x.exc
  have hsz : 3 < ts.size := (Array.getElem?_eq_some_iff.mp h3).1
  have other : ∀ b o, s.heap.get? b = some o → (∀ vs, o.data ≠ .fields vs) ∨ b ≠ T → (s.heap.update T (Obj.mapFields (·.setIfInBounds 3 (fr.elim Value.none fun f => rawInt f)))).get? b = some o := fun b o hb hn => by
    refine (Heap.get?_update_other _ _ fun z => ?_).trans hb
    rcases hn with hn | hn
    · rw [← z, hT] at hb; cases hb; exact hn _ hdT
    · exact hn z.symm
  unfold setFlight
  refine wpAny_bind (wpAny_field he hd h1 ?_)
  rw [if_pos (show (Value.ref T != Value.none) = true from by simp)]
  have hd' := Obj.data_mapFields hdT (·.setIfInBounds 3 (fr.elim Value.none fun f => rawInt f))
  refine wpAny_setField hT hdT hsz (hQ _ ⟨fun b o hb => other b o (x.stays b o hb) (.inr fun z => by rw [z, hBT] at hb; cases hb), x.frames.of_keeps fun b o hb hn => ⟨o, other b o hb (.inl hn), rfl⟩, x.be,
    oe, vs, T, _, _, other e oe he (.inr (Ne.symm hTe)), hc, hd, h0, h1, h2, hBT, hTe, Heap.get?_update_self _ hT (Obj.isFreed_of_fields hd'), hd', by simp [hsz]⟩ fun b o hb hn => ⟨o.slots, other b o hb (.inl hn)⟩)
theorem came_back {E' : Value → Shared → Prop} (hf : env.frame = some L) (x : Ex1 B s.heap l e cls a0 ctx fl)
    (hQ : ∀ h', Ex1 B h' l e cls a0 ctx (rawInt L) → s.heap.UpToSlots h' → E' (.ref e) { s with heap := h' }) : cameBackBy M A env E' (.ref e) s := by
  obtain ⟨oe, vs, T, oT, ts, he, hc, hd, h0, h1, r⟩ := x.exc
  unfold cameBackBy
  refine wpAny_bind (wpAny_field he hd h1 ?_)
  rw [if_neg (show ¬ (Value.ref T == Value.none) = true from by simp)]
  rw [hf]
  exact set_fl x hQ
end
theorem entry_unchain : entryFor table "proto.unchain" = some Builtin.«proto.unchain» := entryFor_of_tree (by kernel_rfl)
section
variable {w : World} {A : Around} {E : Value → Shared → Prop} {s : Shared} {env : Env}
theorem sbTrans {h₁ h₂ h₃ : Heap} {a : Addr} (x : Heap.SameBut a h₁ h₂) (y : Heap.SameBut a h₂ h₃) : Heap.SameBut a h₁ h₃ := ⟨y.1.trans x.1, fun b hb => (y.2 b hb).trans (x.2 b hb)⟩
theorem not_type {α : Type} {a : Addr} {ob : Obj} {vs : Array Value} (ha : s.heap.get? a = some ob) (hd : ob.data = .fields vs) {Q' : Bool → Shared → Prop} (hq : Q' false s) : wpAny (model PR w) A (isType (.ref a)) Q' E s := by
  simp only [isType, loadHead]
  refine wpAny_bind (wpAny_loadPart ha ?_)
  rw [hd]; exact wpAny_pure hq
theorem raise_from {X N I : String} (hc : ExcClass X N I) {x c : Expr} {pos : Pos} {Q : Flow → Shared → Prop} {e : Addr} (hh : A.handled = some (.ref e))
    (h : wpAny (model PR w) A (eval x env) (fun v s₁ => wpAny (model PR w) A (eval c env) (fun cv s₂ => ∃ a ob vs oe es, v = .ref a ∧ cv = .ref e ∧ a ≠ e ∧ s₂.heap.get? a = some ob ∧ ob.cls = .type X ∧ ob.data = .fields vs ∧ vs.size = 6 ∧ vs[1]? = some .none ∧
      s₂.heap.get? e = some oe ∧ oe.cls = .type X ∧ oe.data = .fields es ∧ es[2]? = some .none ∧
      ∀ h', Heap.SameBut a s₂.heap h' → (∃ ob' vs', h'.get? a = some ob' ∧ ob'.cls = .type X ∧ ob'.data = .fields vs' ∧ vs'[0]? = vs[0]? ∧ vs'[1]? = some .none ∧ vs'.size = 6) → E (.ref a) { s₂ with heap := h' }) E s₁) E s) :
    wpAny (model PR w) A (exec (.Raise (some x) (some c) pos) env) Q E s := by
  show wpAny _ A (do standAt pos; raiseStmt env (some (do let v ← eval x env; standAt pos; pure v)) (some (do let v ← eval c env; standAt pos; pure v))) Q E s
  refine wpAny_bind (wpAny_standAt ?_)
  unfold raiseStmt
  dsimp only
  refine wpAny_bind (wpAny_bind (wpAny_mono h (fun v s₁ h₁ => wpAny_bind (wpAny_standAt (wpAny_pure ?_))) fun _ _ x => x))
  refine wpAny_bind (wpAny_holding (wpAny_bind (wpAny_mono h₁ (fun cv s₂ h₂ => wpAny_bind (wpAny_standAt (wpAny_pure (wpAny_bind (wpAny_pure ?_))))) fun _ _ x => x)))
  obtain ⟨a, ob, vs, oe, es, rfl, rfl, hne, ha, hcl, hd, hsz, h1, he, hce, hde, h2, hE⟩ := h₂
  dsimp only
  have hT : s₂.TypeIs (.ref a) X := ⟨ob, ha, hcl⟩
  have hTe : s₂.TypeIs (.ref e) X := ⟨oe, he, hce⟩
  refine wpAny_bind (wpAny_holding ?_)
  unfold excFromValue isExcClass
  refine wpAny_bind (wpAny_bind (not_type (α := Unit) ha hd ?_))
  simp only [Bool.false_eq_true, if_false]
  refine wpAny_pure ?_
  simp only [Bool.false_eq_true, if_false]
  refine wpAny_bind (wpAny_isInstance hT hc.base ?_)
  simp only [if_true]
  refine wpAny_pure ?_
  rw [if_neg (by simp)]
  refine wpAny_bind (wpAny_holding ?_)
  refine wpAny_bind (wpAny_bind (not_type (α := Unit) he hde ?_))
  simp only [Bool.false_eq_true, if_false]
  refine wpAny_pure ?_
  simp only [Bool.false_eq_true, if_false]
  refine wpAny_bind (wpAny_isInstance hTe hc.base ?_)
  simp only [if_true]
  refine wpAny_pure ?_
  have fr : ∀ {o : Obj} {v : Array Value} (i : Nat) (z : Value), o.data = .fields v → (Obj.mapFields (·.setIfInBounds i z) o).isFreed = false := fun i z q => Obj.isFreed_of_fields (Obj.data_mapFields q _)
  refine wpAny_bind (wpAny_setField ha hd (by omega) ?_)
  have ha₃ := Heap.get?_update_self (Obj.mapFields (·.setIfInBounds 3 (.ref e))) ha (fr 3 _ hd)
  have he₃ := (Heap.get?_update_other s₂.heap (Obj.mapFields (·.setIfInBounds 3 (.ref e))) hne).trans he
  have hd₃ := Obj.data_mapFields hd (·.setIfInBounds 3 (.ref e))
  have hc₃ := (Obj.cls_mapFields ob (·.setIfInBounds 3 (.ref e))).trans hcl
  have S₃ := Heap.SameBut.update s₂.heap a (Obj.mapFields (·.setIfInBounds 3 (.ref e)))
  generalize s₂.heap.update a (Obj.mapFields (·.setIfInBounds 3 (.ref e))) = h₃ at *
  generalize Obj.mapFields (·.setIfInBounds 3 (.ref e)) ob = o₃ at *
  refine wpAny_bind (wpAny_setField ha₃ hd₃ (by simp; omega) ?_)
  have ha₄ := Heap.get?_update_self (Obj.mapFields (·.setIfInBounds 4 (.bool true))) ha₃ (fr 4 _ hd₃)
  have he₄ := (Heap.get?_update_other h₃ (Obj.mapFields (·.setIfInBounds 4 (.bool true))) hne).trans he₃
  have hd₄ := Obj.data_mapFields hd₃ (·.setIfInBounds 4 (.bool true))
  have hc₄ := (Obj.cls_mapFields o₃ (·.setIfInBounds 4 (.bool true))).trans hc₃
  have S₄ := sbTrans S₃ (Heap.SameBut.update h₃ a (Obj.mapFields (·.setIfInBounds 4 (.bool true))))
  generalize h₃.update a (Obj.mapFields (·.setIfInBounds 4 (.bool true))) = h₄ at *
  generalize Obj.mapFields (·.setIfInBounds 4 (.bool true)) o₃ = o₄ at *
  refine wpAny_bind (not_type (α := Unit) (s := { s₂ with heap := h₄ }) ha₄ hd₄ ?_)
  simp only [Bool.false_eq_true, if_false]
  have hT₄ : ({ s₂ with heap := h₄ } : Shared).TypeIs (.ref a) X := ⟨o₄, ha₄, hc₄⟩
  have h1₄ : ((vs.setIfInBounds 3 (Value.ref e)).setIfInBounds 4 (.bool true))[1]? = some .none := by
    rw [Array.getElem?_setIfInBounds_ne (by decide), Array.getElem?_setIfInBounds_ne (by decide)]; exact h1
  unfold raisedInstance
  refine wpAny_bind (wpAny_bind (wpAny_typeOf hT₄ (wpAny_bind (m := typeOf (.type X)) (wpAny_pure ?_))))
  rw [if_pos hc.metaType]
  refine wpAny_pure ?_
  unfold setFlight raiseNew
  refine wpAny_bind (wpAny_bind (wpAny_field ha₄ hd₄ h1₄ ?_))
  rw [if_neg (by decide)]
  refine wpAny_pure (wpAny_bind (wpAny_handled ?_))
  rw [hh]
  dsimp only
  rw [if_pos (show (Value.ref e != Value.ref a) = true from by simpa using Ne.symm hne)]
  refine wpAny_bind (wpAny_holding (wpAny_runValue (codeAny_builtin entry_unchain ?_)))
  unfold Builtin.«proto.unchain»
  dsimp only
  refine wpAny_bind (wpAny_field he₄ hde h2 ?_)
  rw [if_pos (by simp)]
  refine wpAny_pure ?_
  refine wpAny_bind (m := updateField a 2 (.ref e)) (wpAny_setField (a := a) (i := 2) (x := .ref e) ha₄ hd₄ (by simp; omega) ?_)
  refine wpAny_throw ?_
  have hd₅ := Obj.data_mapFields hd₄ (·.setIfInBounds 2 (.ref e))
  refine hE _ (sbTrans S₄ (Heap.SameBut.update ..)) ⟨_, _, Heap.get?_update_self _ ha₄ (Obj.isFreed_of_fields hd₅), (Obj.cls_mapFields _ _).trans hc₄, hd₅, ?_, ?_, ?_⟩
  · rw [Array.getElem?_setIfInBounds_ne (by decide), Array.getElem?_setIfInBounds_ne (by decide), Array.getElem?_setIfInBounds_ne (by decide)]
  · rw [Array.getElem?_setIfInBounds_ne (by decide)]; exact h1₄
  · simpa using hsz
end
end Mine
end
section
open PySem PySem.W PySem.W.X PyProof.Rows PySem.Calls
set_option Elab.async false
set_option maxRecDepth 100000
set_option maxHeartbeats 8000000
namespace Mine
section
variable {M : Model} {A : Around} {E : Value → Shared → Prop} {s : Shared} {B h h' : Heap} {outer : List Env} {L a e : Addr} {cls a0 ctx fl : Value} {m m' : Str → Option Value} {name : Str} {scope : Scope} {cd : Value}
theorem framesOwn (hs : Heap.SameBut L h h') (hn : h'.Ns L m') : ∀ {l : List Env}, h.FunFrames B l → h'.FunFrames B l
  | [], _ => trivial
  | env :: r, ⟨hk, ⟨L₂, o₂, hf₂, hB₂, ho₂, hn₂⟩, hr⟩ => by
    refine ⟨hk, ?_, framesOwn hs hn hr⟩
    by_cases z : L₂ = L
    · subst z
      obtain ⟨o', es, ep, ho', hd', _⟩ := hn
      exact ⟨L₂, o', hf₂, hB₂, ho', fun vs q => by rw [hd'] at q; cases q⟩
    · exact ⟨L₂, o₂, hf₂, hB₂, (hs.2 _ z).trans ho₂, hn₂⟩
/-- a store into the frame itself -/
theorem Ex1.own (x : Ex1 B h (envOf name scope L a cd :: outer) e cls a0 ctx fl) (hs : Heap.SameBut L h h') (hn : h'.Ns L m') : Ex1 B h' (envOf name scope L a cd :: outer) e cls a0 ctx fl := by
  obtain ⟨oe, vs, T, oT, ts, he, hc, hd, h0, h1, h2, hBT, hTe, hT, hdT, h3⟩ := x.exc
  obtain ⟨hk, ⟨L', o, hf, hB, ho, hnf⟩, hr⟩ := x.frames
  obtain rfl : L = L' := Option.some.inj hf
  have eL : e ≠ L := fun z => by rw [z, ho] at he; cases he; exact hnf _ hd
  have tL : T ≠ L := fun z => by rw [z, ho] at hT; cases hT; exact hnf _ hdT
  refine ⟨fun b o q => (hs.2 b fun z => by rw [z, hB] at q; cases q).trans (x.stays b o q), ⟨hk, ?_, ?_⟩, x.be, oe, vs, T, oT, ts, (hs.2 _ eL).trans he, hc, hd, h0, h1, h2, hBT, hTe, (hs.2 _ tL).trans hT, hdT, h3⟩
  · obtain ⟨o', es, ep, ho', hd', _⟩ := hn
    exact ⟨L, o', hf, hB, ho', fun vs q => by rw [hd'] at q; cases q⟩
  · exact framesOwn hs hn hr
theorem up_same {g : Heap} {b : Addr} (hs : Heap.SameBut b h h') (hb : g.get? b = none) (x : g.UpToSlots h) : g.UpToSlots h' := fun c o e hn => by
  obtain ⟨sl, h1⟩ := x c o e hn
  exact ⟨sl, (hs.2 c fun z => by rw [z, hb] at e; cases e).trans h1⟩
end
section
variable {w : World} {A : Around} {E : Value → Shared → Prop} {s : Shared} {base g g₁ h : Heap} {outer : List Env} {L a : Addr} {m : Str → Option Value} {cn : Str} {cs : Scope} {cd : Value}
/-- `except KeyError as err: raise KeyError(key) from err`, behind an exception in the walk of the frame itself -/
theorem key_again {R : Result → Shared → Prop} {Q : Flow → Shared → Prop} {e : Addr} {key : Str} {t : Tok} {np p1 p2 p3 p4 p5 hp : Pos} {hs : List ExceptHandler} (hhs : hs = [.ExceptHandler (some (.Name "KeyError" np)) (some "err") [.Raise (some (.Call (.Name "KeyError" p1) [.Name "key" p2] [] p3)) (some (.Name "err" p4)) p5] hp]) (c : Cx w base) (K : Below A base outer g) (F : Fr g L h m) (hx : Heap.NewExc h s.heap e "KeyError") (hm : m "key" = some (.str key t)) (hhd : A.handled = none)
    (hR : ∀ h' tk e₂, RaisedSN base g outer e₂ (.type "KeyError") [] h' → g.UpToSlots h' → R (.error (.ref e₂)) { s with heap := h', toks := tk })
    (hk : cs.kind = .function := by rfl) (hl1 : (envOf cn cs L a cd).kindOf "err" = some .local := by rfl) (hl2 : (envOf cn cs L a cd).kindOf "key" = some .local := by rfl) (hl3 : (envOf cn cs L a cd).kindOf "KeyError" = some .globalImplicit := by rfl) :
    notedBy (model PR w) (A.deeper (envOf cn cs L a cd)) (envOf cn cs L a cd) (fun x s₁ => cameBackBy (model PR w) (A.deeper (envOf cn cs L a cd)) (envOf cn cs L a cd) (fun x s₁ =>
      wpAny (model PR w) (A.deeper (envOf cn cs L a cd)) (noteFrame x (envOf cn cs L a cd)) (fun _ s₂ => wpAny (model PR w) (A.deeper (envOf cn cs L a cd)) (setFlight x none) (fun _ s₃ => wpAny (model PR w) (A.deeper (envOf cn cs L a cd)) (handleBy x (envOf cn cs L a cd) hs) Q
        (fun x s' => wpAny (model PR w) (A.deeper (envOf cn cs L a cd)) (leaving (envOf cn cs L a cd) x) (fun _ s'' => R (.error x) s'') (fun x' s'' => R (.error x') s'') s') s₃)
        (fun x s' => wpAny (model PR w) (A.deeper (envOf cn cs L a cd)) (leaving (envOf cn cs L a cd) x) (fun _ s'' => R (.error x) s'') (fun x' s'' => R (.error x') s'') s') s₂)
        (fun x s' => wpAny (model PR w) (A.deeper (envOf cn cs L a cd)) (leaving (envOf cn cs L a cd) x) (fun _ s'' => R (.error x) s'') (fun x' s'' => R (.error x') s'') s') s₁) x s₁) (.ref e) s := by
  subst hhs
  have hfr : (A.deeper (envOf cn cs L a cd)).frames = some (envOf cn cs L a cd :: outer) := Around.frames_deeper K.stack
  have K' := K.push (name := cn) (a := a) (cd := cd) F hk
  have hin : ∀ env ∈ (envOf cn cs L a cd :: outer), ∀ b, env.frame = some b → b ∈ (envOf cn cs L a cd :: outer).filterMap (·.frame) := fun env he b hb => List.mem_filterMap.mpr ⟨env, he, hb⟩
  obtain ⟨ob, tp, he, hcls, hd⟩ := hx.there
  have hen : (hideAll h ((envOf cn cs L a cd :: outer).filterMap (·.frame))).get? e = none := by
    cases q : (hideAll h ((envOf cn cs L a cd :: outer).filterMap (·.frame))).get? e with
    | none => rfl
    | some o => have := of_hideAll _ q; rw [hx.new] at this; cases this
  unfold notedBy
  refine note_first (a0 := tp) (ctx := .none) (B := hideAll h ((envOf cn cs L a cd :: outer).filterMap (·.frame))) hfr rfl (fun b o hb => hx.keeps b o (of_hideAll _ hb)) ((funFrames_hide K'.frames hin).of_keeps fun b o hb _ => ⟨o, hx.keeps b o hb, rfl⟩) hen he hd rfl rfl rfl fun h₁ x₁ u₁ => ?_
  refine came_back rfl x₁ fun h₂ x₂ u₂ => ?_
  refine note_again rfl x₂ ?_
  refine set_fl x₂ fun h₃ x₃ u₃ => ?_
  dsimp only at u₁ u₂ u₃ ⊢
  have hBG : ∀ b o, h.get? b = some o → b ∉ (envOf cn cs L a cd :: outer).filterMap (·.frame) → (hideAll h ((envOf cn cs L a cd :: outer).filterMap (·.frame))).get? b = some o := fun b o q n => hideAll_get _ q n
  have U₃ : h.UpToSlots h₃ := (((Heap.UpToSlots.of_keeps hx.keeps).trans u₁).trans u₂).trans u₃
  have G₃ := kts_ground K F hBG x₃.stays U₃
  cases G₃ with
  | intro g₃ G₃ =>
  have F₃ := G₃.2.1
  have K₃ := G₃.2.2
  refine wpAny_handleBy_builtin_as (X := "KeyError") (T := "KeyError") (b := true) kr_isExc_KeyError kr_notTuple_KeyError excClass_KeyError.self ?_
  refine nmB (c.keeps K₃.stays) F₃ (by kernel_rfl) (v := .type "KeyError") (by kernel_rfl) (by decide +kernel) ?_ hk hl3
  refine ⟨rfl, ⟨_, x₃.exc.choose_spec.choose_spec.choose_spec.choose_spec.choose_spec.1, x₃.exc.choose_spec.choose_spec.choose_spec.choose_spec.choose_spec.2.1.trans hcls⟩, ?_⟩
  rw [if_pos rfl]
  refine set_fl x₃ fun h₄ x₄ u₄ => ?_
  dsimp only at u₄ ⊢
  have G₄ := kts_ground K F hBG x₄.stays (U₃.trans u₄)
  cases G₄ with
  | intro g₄ G₄ =>
  have T₄ := G₄.1
  have F₄ := G₄.2.1
  have K₄ := G₄.2.2
  refine stS F₄ (fun h₅ F₅ S₅ => ?_) hk hl1
  dsimp only at S₅ ⊢
  have x₅ := x₄.own S₅ F₅.ns
  have exc := x₅.exc
  cases exc with
  | intro oe exc =>
  cases exc with
  | intro es exc =>
  cases exc with
  | intro T exc =>
  cases exc with
  | intro oT exc =>
  cases exc with
  | intro ts exc =>
  refine wpAny_execs_cons (raise_from (e := e) excClass_KeyError rfl ?_)
  refine wpAny_Call_NameR (nmB (c.keeps K₄.stays) F₅ (by kernel_rfl) (v := .type "KeyError") (by kernel_rfl) (by decide +kernel) ?_ hk hl3)
  refine callWith_type1 (spliced_cons (ld F₅ (mo (by decide) hm) (spliced_nil ?_) hk hl2))
  refine call_exc excClass_KeyError (fun h₆ e₂ N₂ => ?_) (by size_fits)
  dsimp only at N₂ ⊢
  have F₆ := frUp F₅ N₂.keeps
  refine ld F₆ (if_pos rfl) ?_ hk hl1
  obtain ⟨ob₂, t₂, ho₂, hc₂, hd₂⟩ := N₂.there
  have hne : e₂ ≠ e := fun z => by have := N₂.new; rw [z, exc.1] at this; cases this
  refine ⟨e₂, ob₂, _, oe, es, rfl, rfl, hne, ho₂, hc₂, hd₂, rfl, rfl, N₂.keeps _ _ exc.1, exc.2.1.trans hcls, exc.2.2.1, exc.2.2.2.2.2.1, fun h₇ S₇ O₇ => ?_⟩
  dsimp only at S₇ ⊢
  have k₅₇ : ∀ b o, h₅.get? b = some o → h₇.get? b = some o := fun b o q => (S₇.2 b fun z => by rw [z, N₂.new] at q; cases q).trans (N₂.keeps b o q)
  have K₅ := K₄.push (name := cn) (a := a) (cd := cd) F₅ hk
  have hen₂ : (hideAll h₅ ((envOf cn cs L a cd :: outer).filterMap (·.frame))).get? e₂ = none := by
    cases q : (hideAll h₅ ((envOf cn cs L a cd :: outer).filterMap (·.frame))).get? e₂ with
    | none => rfl
    | some o => have := of_hideAll _ q; rw [N₂.new] at this; cases this
  obtain ⟨o₇, vs₇, ho₇, hc₇, hd₇, h0₇, h1₇, hz₇⟩ := O₇
  have h2₇ : vs₇[2]? = some vs₇[2] := Array.getElem?_eq_getElem (by omega)
  refine note_first (a0 := t₂) (ctx := vs₇[2]) (B := hideAll h₅ ((envOf cn cs L a cd :: outer).filterMap (·.frame))) (A := (A.deeper (envOf cn cs L a cd)).mark (some (.ref e))) hfr rfl (fun b o hb => k₅₇ b o (of_hideAll _ hb)) ((funFrames_hide K₅.frames hin).of_keeps fun b o hb _ => ⟨o, k₅₇ b o hb, rfl⟩) hen₂ ho₇ hd₇ (h0₇.trans rfl) h1₇ h2₇ fun h₈ x₈ u₈ => ?_
  dsimp only at u₈ ⊢
  have U₈ : h₅.UpToSlots h₈ := (Heap.UpToSlots.of_keeps k₅₇).trans u₈
  refine wpAny_nameGoes_keeps hl1 (U₈.ns F₅.ns) (by show (cs.kind == .class || (cs.kind == .module && L != mainGlobals)) = false; rw [hk]; rfl) fun h₉ v n₉ S₉ => ?_
  have x₉ := x₈.own S₉ n₉
  dsimp only at S₉ ⊢
  have gL : g.get? L = none := kts_self F
  have U₉ : g.UpToSlots h₉ := up_same S₉ gL ((up_same S₅ gL ((((Heap.UpToSlots.of_keeps F.keep).trans U₃).trans u₄))).trans U₈)
  have exc₉ := x₉.exc
  cases exc₉ with
  | intro oe₉ exc₉ =>
  cases exc₉ with
  | intro es₉ exc₉ =>
  cases exc₉ with
  | intro T₉ exc₉ =>
  cases exc₉ with
  | intro oT₉ exc₉ =>
  cases exc₉ with
  | intro ts₉ exc₉ =>
  unfold PySem.passOn
  refine wpAny_bind (wpAny_field exc₉.1 exc₉.2.2.1 exc₉.2.2.2.2.1 ?_)
  rw [if_neg (show ¬ (Value.ref T₉ == Value.none) = true from by simp)]
  refine wpAny_bind (set_fl (fr := some L) x₉ fun ha xa ua => wpAny_throw ?_)
  unfold notedBy
  refine note_again rfl xa ?_
  refine came_back rfl xa fun hb xb ub => ?_
  unfold leaving
  refine wpAny_bind (note_again rfl xb ?_)
  refine set_fl xb fun hc xc uc => ?_
  dsimp only at ua ub uc ⊢
  have fl := xc.flyW (s := { s with heap := hc })
  have stB : base.StaysIn (hideAll h₅ ((envOf cn cs L a cd :: outer).filterMap (·.frame))) := fun b o q => hideAll_get _ (K₅.stays b o q) fun hm => by
    rw [(K₅.frames.mem hm).1] at q; cases q
  have sg : ∀ b o, g.get? b = some o → b ∉ outer.filterMap (·.frame) → (hideAll h₅ ((envOf cn cs L a cd :: outer).filterMap (·.frame))).get? b = some o := fun b o q n => hideAll_get _ (F₅.keep b o (T₄.other b o q n)) fun hm => by
    rcases kts_mem hm with z | z
    · rw [z, gL] at q; cases q
    · exact n z
  refine hR hc (s.toks + 1 + 1) e₂ ?_ (((U₉.trans ua).trans ub).trans uc)
  rw [← hc₇]
  obtain ⟨f1, f2, f3, f4⟩ := fl
  have f3' : hc.FunFrames (hideAll h₅ ((envOf cn cs L a cd :: outer).filterMap (·.frame))) outer := f3.2.2
  have nn : ∀ q ∈ ([] : List (Addr × Obj)), (hideAll h₅ ((envOf cn cs L a cd :: outer).filterMap (·.frame))).get? q.1 = some q.2 ∧ g.get? q.1 = none ∧ base.get? q.1 = none := fun q hq => absurd hq List.not_mem_nil
  exact ⟨hideAll h₅ ((envOf cn cs L a cd :: outer).filterMap (·.frame)), t₂, stB, sg, nn, f1, f2, f3', f4⟩
end
end Mine
end
section
open PySem PySem.W PySem.W.X PyProof.Rows PySem.Calls
set_option Elab.async false
set_option maxRecDepth 100000
set_option maxHeartbeats 2000000
namespace Mine
def Val (v : Value) : Prop := v = .none ∨ ∃ n t, v = .int n t
theorem Val.handed {v : Value} (h : Val v) : handedIn v = true := by
  rcases h with rfl | ⟨n, t, rfl⟩ <;> rfl
theorem Val.is {v : Value} (h : Val v) : plainIs v .none = true := by
  rcases h with rfl | ⟨n, t, rfl⟩ <;> rfl
section
variable {w : World} {A : Around} {E : Value → Shared → Prop} {s : Shared} {env : Env}
theorem dItem {K : Type} [DecidableEq K] {knd : KeyKind PR w K} {value slice : Expr} {d : Addr} {k : K} {key v : Value} {f : K → Option Value} {Q : Value → Shared → Prop} (hkey : knd.is k key = true) (hm : s.heap.MapOf knd d f) (hv : f k = some v)
    (h : Q v { s with toks := s.toks + 1 }) (hs : subscripted slice false (.ref d) key = operate [.ref d, key] (getItem (.ref d) key)) : wpAny (model PR w) A (subscriptTail value slice (.ref d) key) Q E s :=
  tail_any hm.typeIs slot_dict_getitem.lookup (wpAny_getItem_of hkey hm hv h) hs
theorem get_spec {R : Result → Shared → Prop} {x : Addr} {key : Str} {fl : List Str} {t : Tok} {Out : Addr → Prop} {C : Path → Value} (c : Cx w s.heap) (ok : Ok A 10) (M : Mat w Out s.heap x C) (hC : ∀ p, Val (C p))
    (hsp : Txt.split key "/" = fl) (hkl : key.length ≤ 100)
    (hfound : C fl ≠ .none → ∀ h' tk, (∀ b o, s.heap.get? b = some o → h'.get? b = some o) → R (.ok (.ret (C fl))) { s with heap := h', toks := tk })
    (hmiss : C fl = .none → ∃ base outer, Cx w base ∧ Below A base outer s.heap ∧ ∀ h' tk e, RaisedSN base s.heap outer e (.type "KeyError") [] h' → s.heap.UpToSlots h' → R (.error (.ref e)) { s with heap := h', toks := tk }) :
    codeAny (model PR w) A (.call (.ref 65) ⟨[.ref x, .str key t], []⟩) R s := by
  refine call_fn (st := nth (stBody (topSt 1)) 3) (nm := "__getitem__") (q := "MQTTMatcher.__getitem__") (code := 64) (binds := [("self", .ref x), ("key", .str key t)]) c ok.room ⟨_, rfl⟩ (by kernel_rfl) (fun pm => by kernel_rfl) (fun h₁ F => ?_)
  obtain ⟨xx, root, T, M⟩ := M
  have M₁ := matKeep M fun b o _ e => F.keep b o e
  obtain ⟨hs, tk, n, hxx⟩ := M₁.dict
  refine wpAny_execs_cons (wpAny_Try_except ?_)
  refine wpAny_execs_cons (wpAny_Assign_Name (Attribute_any_ (ld F rfl (gRoot (c.keeps F.keep).X M₁.at_ hxx ?_))))
  refine stS F (fun h₂ F₂ S₂ => ?_)
  dsimp only at S₂ ⊢
  refine wpAny_execs_cons (wpAny_For ?_)
  refine wpAny_Call_method (T := "str") (id := "str.split") rfl rfl rfl PySem.F.plainAttrs_str PySem.F.slot_str_split rfl ?_
  refine ld F₂ rfl ⟨typeIs_str _ _ _, fun a e => (by cases e), ?_⟩
  refine Calls.callWith_builtin rfl (evalArgs_plain (spliced_cons (cStr (k := 0) (pos := default) fun tk => spliced_nil ?_)))
  dsimp only
  refine split_call hkl fun D l h₃ k hl k₃ hD => ?_
  dsimp only at k₃ ⊢
  have F₃ := frUp F₂ k₃
  obtain ⟨oD, hoD, hcD, nD, hdD⟩ := id hD
  have hDL : D ≠ s.heap.objs.size := fun z => by
    obtain ⟨o', _, _, ho', hd', _⟩ := F₃.ns
    rw [← z, hoD] at ho'
    cases ho'
    rw [hdD] at hd'; cases hd'
  have hl' : l.map (·.1) = fl := hl.trans hsp
  refine for_list ok.hd hD (fun I i s₁ => ∃ h tk m a, s₁ = { s with heap := h, toks := tk } ∧ Fr s.heap s.heap.objs.size h m ∧ m "key" = some (.str key t) ∧ m "node" = some (.ref a) ∧ T.nd (fl.take i) = some a ∧ h.get? D = some oD) fun I hI => ?_
  dsimp only at hI
  have hID : D ≠ I := fun z => by rw [z, hI] at hoD; cases hoD
  have hLI : s.heap.objs.size ≠ I := nsNe F₃.ns hI
  refine ⟨?_, ?_, ?_, ?_⟩
  · intro h' tk k ⟨oI, hoI, hcI⟩
    exact ⟨h', tk, _, root, rfl, frUp F₃ k, rfl, rfl, M.tr.root, k _ _ hoD⟩
  · rintro i s₁ h' tk' ⟨g, tk, m, a, rfl, Fi, m1, m2, hnd, hDi⟩ hk'
    exact ⟨h', tk', m, a, rfl, frBut Fi hk' hLI (frNone F₃ hI), m1, m2, hnd, hk' _ _ hID hDi⟩
  · rintro i v' s₁ hv ⟨g, tk, m, a, rfl, Fi, m1, m2, hnd, hDi⟩ ⟨oI, hoI, hcI⟩
    obtain ⟨sym, t', rfl, hsym⟩ : ∃ sym t', v' = .str sym t' ∧ fl[i]? = some sym := by
      rw [← hl']
      simp only [List.getElem?_toArray, List.getElem?_map, Option.map_eq_some_iff] at hv ⊢
      obtain ⟨p, hp, rfl⟩ := hv
      exact ⟨_, _, rfl, p, hp, rfl⟩
    have htake : fl.take (i + 1) = fl.take i ++ [sym] := by rw [List.take_add_one, hsym]; rfl
    refine stS Fi (fun h₄ F₄ S₄ => ?_)
    dsimp only at S₄ hoI ⊢
    have M₄ := matKeep M fun b o _ e => F₄.keep b o e
    have X₄ := (c.keeps F₄.keep).X
    have hkd := M₄.tr.kids _ _ hnd
    cases hkd with
    | intro kvs hkd =>
    have hd := hkd.1
    have hkv := hkd.2
    refine wpAny_execs_cons (wpAny_Assign_Name (Subscript_ (Attribute_any_ (ld F₄ (mo (by decide) m2) (gKids X₄ (M₄.tr.node _ _ hnd) (M₄.tr.xd _ _ hnd) (ld F₄ rfl ?_))))))
    cases hq : T.nd (fl.take i ++ [sym]) with
    | some a' =>
      refine dItem (strKind_is PR w sym t') hd.mapOf ((hkv sym).trans (by rw [hq]; rfl)) ?_ (by with_unfolding_all rfl)
      refine stS F₄ (fun h₅ F₅ S₅ => wpAny_execs_nil ?_)
      dsimp only at S₅ ⊢
      exact ⟨⟨h₅, _, _, a', rfl, F₅, m1, rfl, by rw [htake]; exact hq, (S₅.2 _ hDL).trans ((S₄.2 _ hDL).trans hDi)⟩, fun b hb o' e => by
        have hbL : b ≠ s.heap.objs.size := by
          rcases hb with rfl | rfl
          · exact Ne.symm hLI
          · exact hDL
        exact (S₅.2 b hbL).trans ((S₄.2 b hbL).trans e)⟩
    | none =>
      have hnone : T.nd fl = none := by
        have := trieNone M.tr (fl.drop (i + 1)) _ hq
        rw [← htake, List.take_append_drop] at this
        exact this
      have hm' := hmiss (M.tr.cn _ hnone)
      cases hm' with
      | intro base hm' =>
      cases hm' with
      | intro outer hm' =>
      refine tail_any hd.typeIs slot_dict_getitem.lookup (wpAny_getItem_missing_of (strKind_is PR w sym t') (beq_eq_false_iff_ne.2 (Nat.ne_of_gt (M.tr.big _ _ hnd))) ok.hd hd.mapOf ((hkv sym).trans (by rw [hq]; rfl)) fun h₅ e N => ?_) (by with_unfolding_all rfl)
      dsimp only at N ⊢
      refine key_again rfl hm'.1 hm'.2.1 F₄ N (mo (by decide) m1) ok.hd ?_
      exact hm'.2.2
  · rintro s₁ ⟨g, tk, m, a, rfl, Fi, m1, m2, hnd, hDi⟩
    dsimp only
    have hsz : (sv l).toArray.size = fl.length := by rw [← hl']; simp
    rw [hsz, List.take_length] at hnd
    have Mi := matKeep M fun b o _ e => Fi.keep b o e
    have Xi := (c.keeps Fi.keep).X
    refine wpAny_execs_nil ?_
    dsimp only
    refine wpAny_execs_cons (wpAny_If (wpAny_isTrue_Compare1 ?_))
    refine Attribute_any_ (ld Fi m2 (gCont Xi (Mi.tr.node _ _ hnd) (Mi.tr.xd _ _ hnd) (hC fl).handed (wpAny_Constant_none (wpAny_is_plain (hC fl).is (wpAny_truthy_bool ?_)))))
    split
    · rename_i hb
      have hb : C fl = .none := by simpa using hb
      have hm' := hmiss hb
      cases hm' with
      | intro base hm' =>
      cases hm' with
      | intro outer hm' =>
      refine wpAny_execs_cons (Raise_new ok.hd ?_)
      refine wpAny_Call_NameR (nmB c Fi (by kernel_rfl) (v := .type "KeyError") (by kernel_rfl) (by decide +kernel) ?_)
      refine callWith_type1 (spliced_cons (ld Fi m1 (spliced_nil ?_)))
      refine call_exc_raise excClass_KeyError (fun h₅ e N => ?_) (by size_fits)
      dsimp only at N ⊢
      exact leave_newS hm'.2.1 N Fi News.nil fun h₆ R₁ _ U => hm'.2.2 h₆ _ e R₁ U
    · rename_i hb
      have hb : C fl ≠ .none := by simpa using hb
      refine wpAny_execs_nil (wpAny_execs_cons (wpAny_Return_some (Attribute_any_ (ld Fi m2 (gCont Xi (Mi.tr.node _ _ hnd) (Mi.tr.xd _ _ hnd) (hC fl).handed ?_)))))
      dsimp only
      exact hfound hb g _ Fi.keep
end
end Mine
end
section
open PySem PySem.W PySem.W.X PyProof.Rows PySem.Calls
set_option Elab.async false
set_option maxRecDepth 100000
set_option maxHeartbeats 2000000
namespace Mine
section
variable {w : World} {A : Around} {E : Value → Shared → Prop} {s : Shared} {env : Env}
/-- `n1, n2 = x` where the stores are swapped -/
theorem assign_swap {targets : List Expr} {value : Expr} {pos : Pos} {n1 n2 : Str} {a b : Value} {Q : Flow → Shared → Prop} (hh : A.handled = none)
    (hs : swapsWithSole targets value pos.line env = pure false) (hw : swappedStores targets value env = pure (some [n1, n2]))
    (h : wpAny (model PR w) A (eval value env) (fun v s₁ => ∃ t, v = .ref t ∧ s₁.heap.IsTuple t #[a, b] ∧ ∀ h', Heap.ExtBut s₁.heap.objs.size s₁.heap h' →
      wpAny (model PR w) A (storeName env n2 b) (fun _ s₂ => wpAny (model PR w) A (storeName env n1 a) (fun _ => Q .next) E s₂) E { s₁ with heap := h' }) E s) :
    wpAny (model PR w) A (exec (.Assign targets value pos) env) Q E s := by
  rw [exec_Assign_arm]
  refine wpAny_bind (wpAny_standAt ?_)
  rw [hs]
  refine wpAny_bind (wpAny_pure ?_)
  rw [if_neg (by decide)]
  refine wpAny_bind (wpAny_mono h (fun v s₁ h₁ => ?_) fun _ _ x => x)
  rw [hw]
  obtain ⟨t, rfl, ht, h₁⟩ := h₁
  refine wpAny_bind (wpAny_pure ?_)
  unfold assignStores
  dsimp only
  refine wpAny_bind (wpAny_rule ?_)
  refine wpAny_bind (wpAny_unpackItems_tuple (items := #[a, b]) hh ht fun h' x => ?_)
  show wpAny _ A (assignInOrder [bindName env n2, bindName env n1] [b, a] >>= fun _ => pure .next) Q E _
  refine wpAny_bind (assignInOrder_cons (wpAny_bindName (wpAny_mono (h₁ h' x) (fun _ s₂ h₂ => ?_) fun _ _ e => e)))
  exact assignInOrder_cons (wpAny_bindName (wpAny_mono h₂ (fun _ s₃ h₃ => assignInOrder_nil (wpAny_pure h₃)) fun _ _ e => e))
/-- as for_WT, for a target that is a tuple -/
theorem for_WA {R : Result → Shared → Prop} {tgt : Expr} {body : List Stmt} {I : Addr} {fp wr : List Addr} {n : Nat} {P : Nat → Value → Prop} {St : Nat → Heap → Prop}
    (W : Walks PR w A I fp wr n P St) (J : Nat → Shared → Prop)
    (trans : ∀ i s₁ h' tk, J i s₁ → (∀ b o, b ∉ wr → s₁.heap.get? b = some o → h'.get? b = some o) → J i { s₁ with heap := h', toks := tk })
    (turn : ∀ i v s₁, i < n → P i v → J i s₁ → St (i + 1) s₁.heap → wpAny (model PR w) A (letOwnedTupleGo tgt (.ref I) v) (fun _ s₁' => wpAny (model PR w) A (assign tgt env v) (fun _ s₂ => wpAny (model PR w) A (execs body env) (fun f s₃ => match f with
          | .next | .cont => J (i + 1) s₃ ∧ St (i + 1) s₃.heap
          | .brk => R (.ok .next) s₃
          | .ret v => R (.ok (.ret v)) s₃) (notedBy (model PR w) A env fun e s' => R (.error e) s') s₂) (notedBy (model PR w) A env fun e s' => R (.error e) s') s₁') (notedBy (model PR w) A env fun e s' => R (.error e) s') s₁)
    (done : ∀ s₁, J n s₁ → R (.ok .next) s₁) (h0 : J 0 s) (hs : St 0 s.heap) : codeAny (model PR w) A (.forLoop tgt (.ref I) body [] env) R s := by
  refine codeAny_forLoop_any (fun k s' => ∃ i, k = n + 1 - i ∧ i ≤ n ∧ J i s' ∧ St i s'.heap) ?_ (n + 1) ⟨0, rfl, Nat.zero_le _, h0, hs⟩
  rintro k s' ⟨i, rfl, hi, hJ, hS⟩
  by_cases hlt : i < n
  · refine W.item i s' _ _ hlt hS fun v h' tk hP hS' hk => ?_
    refine wpAny_mono (turn i v _ hlt hP (trans i s' h' tk hJ hk) hS') (fun _ s₁ h₁ => wpAny_mono h₁ (fun _ s₂ h₂ => wpAny_mono h₂ (fun f s₃ h₃ => ?_) fun _ _ e => e) fun _ _ e => e) fun _ _ e => e
    cases f with
    | next => exact ⟨n + 1 - (i + 1), by omega, i + 1, rfl, hlt, h₃⟩
    | cont => exact ⟨n + 1 - (i + 1), by omega, i + 1, rfl, hlt, h₃⟩
    | brk => exact h₃
    | ret v => exact h₃
  · have hin : i = n := by omega
    subst hin
    refine W.done s' _ _ hS fun h' tk hk => wpAny_execs_nil (done _ (trans _ s' h' tk hJ hk))
theorem letGo_rev {elts : List Expr} {x1 : Nat} {pos : Pos} {I l t : Addr} {i : Int} {Q : Unit → Shared → Prop} (hit : s.heap.IsRevIter I l i) (hQ : Q () s) : wpAny (model PR w) A (letOwnedTupleGo (.Tuple elts x1 pos) (.ref I) (.ref t)) Q E s := by
  obtain ⟨o, ho, hc, hd⟩ := hit
  show wpAny _ A (load I >>= _) Q E s
  refine wpAny_bind (wpAny_load ho ?_)
  rw [hc, hd]
  dsimp only
  rw [if_neg (by simp [show (["enumerate", "zip", "dict_itemiterator", "dict_reverseitemiterator", "odict_iterator", "itertools.zip_longest", "itertools.pairwise"].contains "list_reverseiterator") = false by decide])]
  exact wpAny_pure hQ
end
end Mine
end
section
open PySem PySem.W PySem.W.X PyProof.Rows PySem.Calls
set_option Elab.async false
set_option maxRecDepth 100000
set_option maxHeartbeats 2000000
namespace Mine
section
variable {w : World} {A : Around} {E : Value → Shared → Prop} {s : Shared} {env : Env}
/-- what the list of the walk down holds -/
def Trail (T : TM) (fl : List Str) (h : Heap) (Ts : List Addr) : Prop := ∀ j t, Ts[j]? = some t → ∃ sym u p q, fl[j]? = some sym ∧ T.nd (fl.take j) = some p ∧ T.nd (fl.take (j + 1)) = some q ∧ h.get? t = some (tupO [.ref p, .str sym u, .ref q])
theorem Trail.keep {T : TM} {fl : List Str} {h h' : Heap} {Ts : List Addr} (x : Trail T fl h Ts) (k : ∀ t o, h.get? t = some o → o.cls = .type "tuple" → h'.get? t = some o) : Trail T fl h' Ts := fun j t e => by
  obtain ⟨sym, u, p, q, a, b, c, d⟩ := x j t e
  exact ⟨sym, u, p, q, a, b, c, k _ _ d rfl⟩
theorem del_spec {R : Result → Shared → Prop} {x : Addr} {key : Str} {fl : List Str} {t : Tok} {h₀ : Heap} {Out : Addr → Prop} {C : Path → Value} (c : Cx w h₀) (ok : Ok A 10) (o : On h₀ Out s.heap) (M : Mat w Out s.heap x C) (hC : ∀ p, Val (C p))
    (hsp : Txt.split key "/" = fl) (hkl : key.length ≤ 100) (hne : fl ≠ []) (hfl4 : fl.length ≤ 100)
    (hfound : C fl ≠ .none → ∀ h' tk, (∀ b o, Out b → s.heap.get? b = some o → h'.get? b = some o) → Mat w Out h' x (updC C fl .none) → R (.ok (.ret .none)) { s with heap := h', toks := tk })
    (hmiss : C fl = .none → ∃ base outer, Cx w base ∧ Below A base outer s.heap ∧ ∀ h' tk e, RaisedSN base s.heap outer e (.type "KeyError") [] h' → s.heap.UpToSlots h' → R (.error (.ref e)) { s with heap := h', toks := tk }) :
    codeAny (model PR w) A (.call (.ref 72) ⟨[.ref x, .str key t], []⟩) R s := by
  have cs := c.keeps o.keep
  refine call_fn (st := nth (stBody (topSt 1)) 4) (nm := "__delitem__") (q := "MQTTMatcher.__delitem__") (code := 71) (binds := [("self", .ref x), ("key", .str key t)]) cs ok.room ⟨_, rfl⟩ (by kernel_rfl) (fun pm => by kernel_rfl) (fun h₁ F => ?_)
  obtain ⟨xx, root, T, M⟩ := M
  refine wpAny_execs_cons (wpAny_Assign_Name (List_ (spliced_nil (newL ?_ (by size_fits)))))
  have hl0 := frNew F
  have hlL : h₁.objs.size ≠ s.heap.objs.size := Nat.ne_of_gt F.ns.lt
  refine stS (F.push _) (fun h₂ F₂ S₂ => ?_)
  have P₂ : PlainL h₂ h₁.objs.size #[] := ⟨_, _, S₂.extBut _ _ hlL (Heap.get?_push_size _ rfl), rfl, rfl, rfl⟩
  generalize hl : h₁.objs.size = lst at *
  dsimp only
  refine wpAny_execs_cons (wpAny_Try_except ?_)
  have M₂ := matKeep M fun b o _ e => F₂.keep b o e
  obtain ⟨hs, tk, n, hxx⟩ := M₂.dict
  refine wpAny_execs_cons (assign_swap (n1 := "parent") (n2 := "node") (a := .none) (b := .ref root) ok.hd rfl rfl ?_)
  refine Tuple_ (spliced_cons (wpAny_Constant_none (k := 0) (pos := default) (spliced_cons (Attribute_any_ (ld F₂ rfl (gRoot (cs.keeps F₂.keep).X M₂.at_ hxx (spliced_nil ?_)))))))
  refine newT ?_ (by size_fits)
  refine ⟨_, rfl, ⟨_, Heap.get?_push_size _ rfl, rfl, _, rfl⟩, fun h₃ x₃ => ?_⟩
  dsimp only at x₃ ⊢
  have F₃ := (F₂.push (tupO [.none, .ref root])).extBut x₃ (Nat.le_refl _)
  have P₃ : PlainL h₃ lst #[] := (P₂.keeps fun b o e => Heap.get?_push_of_some _ e).extBut x₃ (Nat.ne_of_lt (Nat.lt_trans P₂.lt (by simp)))
  refine stS F₃ (fun h₄ F₄ S₄ => ?_)
  refine stS F₄ (fun h₅ F₅ S₅ => ?_)
  have P₅ := (P₃.extBut S₄.extBut hlL).extBut S₅.extBut hlL
  dsimp only at S₄ S₅ ⊢
  refine wpAny_execs_cons (wpAny_For ?_)
  refine wpAny_Call_method (T := "str") (id := "str.split") rfl rfl rfl PySem.F.plainAttrs_str PySem.F.slot_str_split rfl ?_
  refine ld F₅ rfl ⟨typeIs_str _ _ _, fun a e => (by cases e), ?_⟩
  refine Calls.callWith_builtin rfl (evalArgs_plain (spliced_cons (cStr (k := 0) (pos := default) fun tk => spliced_nil ?_)))
  dsimp only
  refine split_call hkl fun D l h₆ k hl k₆ hD => ?_
  dsimp only at k₆ ⊢
  have F₆ := frUp F₅ k₆
  have P₆ : PlainL h₆ lst #[] := P₅.keeps k₆
  obtain ⟨oD, hoD, hcD, nD, hdD⟩ := id hD
  have hDL : D ≠ s.heap.objs.size := fun z => by
    obtain ⟨o', _, _, ho', hd', _⟩ := F₆.ns
    rw [← z, hoD] at ho'
    cases ho'
    rw [hdD] at hd'; cases hd'
  have hl' : l.map (·.1) = fl := hl.trans hsp
  have hDl : D ≠ lst := fun z => by
    obtain ⟨o', n', ho', _, _, hd'⟩ := P₆
    rw [← z, hoD] at ho'
    cases ho'
    rw [hdD] at hd'
    have := congrArg (fun d => match d with | Data.seq a _ => a.size | _ => 0) hd'
    simp at this
    rw [this] at hl'
    exact hne hl'.symm
  refine for_list ok.hd hD (fun I i s₁ => ∃ h tk m a Ts, s₁ = { s with heap := h, toks := tk } ∧ Fr s.heap s.heap.objs.size h m ∧ m "key" = some (.str key t) ∧ m "lst" = some (.ref lst) ∧ m "node" = some (.ref a) ∧ T.nd (fl.take i) = some a ∧ h.get? D = some oD ∧
    PlainL h lst (Ts.map Value.ref).toArray ∧ Trail T fl h Ts ∧ Ts.length = i ∧ I ∉ Ts) fun I hI => ?_
  dsimp only at hI
  have hID : D ≠ I := fun z => by rw [z, hI] at hoD; cases hoD
  have hLI : s.heap.objs.size ≠ I := nsNe F₆.ns hI
  have hlI : lst ≠ I := plainNe P₆ hI
  refine ⟨?_, ?_, ?_, ?_⟩
  · intro h' tk k ⟨oI, hoI, hcI⟩
    exact ⟨h', tk, _, root, [], rfl, frUp F₆ k, rfl, rfl, rfl, M.tr.root, k _ _ hoD, P₆.keeps k, (fun j t e => by simp at e), rfl, by simp⟩
  · rintro i s₁ h' tk' ⟨g, tk, m, a, Ts, rfl, Fi, m1, m2, m3, hnd, hDi, Pi, hT, hlen, hIT⟩ hk'
    refine ⟨h', tk', m, a, Ts, rfl, frBut Fi hk' hLI (frNone F₆ hI), m1, m2, m3, hnd, hk' _ _ hID hDi, plainAt Pi fun o q => hk' _ o hlI q, (fun j t e => ?_), hlen, hIT⟩
    obtain ⟨sym, u, p, q, a1, b1, c1, d1⟩ := hT j t e
    exact ⟨sym, u, p, q, a1, b1, c1, hk' _ _ (fun z => hIT (z ▸ List.mem_of_getElem? e)) d1⟩
  · rintro i v' s₁ hv ⟨g, tk, m, a, Ts, rfl, Fi, m1, m2, m3, hnd, hDi, Pi, hT, hlen, hIT⟩ ⟨oI, hoI, hcI⟩
    obtain ⟨sym, t', rfl, hsym⟩ : ∃ sym t', v' = .str sym t' ∧ fl[i]? = some sym := by
      rw [← hl']
      simp only [List.getElem?_toArray, List.getElem?_map, Option.map_eq_some_iff] at hv ⊢
      obtain ⟨p, hp, rfl⟩ := hv
      exact ⟨_, _, rfl, p, hp, rfl⟩
    have htake : fl.take (i + 1) = fl.take i ++ [sym] := by rw [List.take_add_one, hsym]; rfl
    refine stS Fi (fun h₄ F₄ S₄ => ?_)
    dsimp only at S₄ hoI ⊢
    have M₄ := matKeep M fun b o _ e => F₄.keep b o e
    have X₄ := (cs.keeps F₄.keep).X
    have hkd := M₄.tr.kids _ _ hnd
    cases hkd with
    | intro kvs hkd =>
    have hd := hkd.1
    have hkv := hkd.2
    cases hq : T.nd (fl.take i ++ [sym]) with
    | none =>
      have hnone : T.nd fl = none := by
        have := trieNone M.tr (fl.drop (i + 1)) _ hq
        rw [← htake, List.take_append_drop] at this
        exact this
      have hm' := hmiss (M.tr.cn _ hnone)
      cases hm' with
      | intro base hm' =>
      cases hm' with
      | intro outer hm' =>
      refine wpAny_execs_cons (assign_swap (n1 := "parent") (n2 := "node") (a := .none) (b := .none) ok.hd rfl rfl ?_)
      refine Tuple_ (spliced_cons (ld F₄ (mo (by decide) m3) (spliced_cons (Subscript_ (Attribute_any_ (ld F₄ (mo (by decide) m3) (gKids X₄ (M₄.tr.node _ _ hnd) (M₄.tr.xd _ _ hnd) (ld F₄ rfl ?_))))))))
      refine tail_any hd.typeIs slot_dict_getitem.lookup (wpAny_getItem_missing_of (strKind_is PR w sym t') (beq_eq_false_iff_ne.2 (Nat.ne_of_gt (M.tr.big _ _ hnd))) ok.hd hd.mapOf ((hkv sym).trans (by rw [hq]; rfl)) fun h₅ e N => ?_) (by with_unfolding_all rfl)
      dsimp only at N ⊢
      refine key_again rfl hm'.1 hm'.2.1 F₄ N (mo (by decide) m1) ok.hd ?_
      exact hm'.2.2
    | some a' =>
      refine wpAny_execs_cons (assign_swap (n1 := "parent") (n2 := "node") (a := .ref a) (b := .ref a') ok.hd rfl rfl ?_)
      refine Tuple_ (spliced_cons (ld F₄ (mo (by decide) m3) (spliced_cons (Subscript_ (Attribute_any_ (ld F₄ (mo (by decide) m3) (gKids X₄ (M₄.tr.node _ _ hnd) (M₄.tr.xd _ _ hnd) (ld F₄ rfl ?_))))))))
      refine dItem (strKind_is PR w sym t') hd.mapOf ((hkv sym).trans (by rw [hq]; rfl)) (spliced_nil ?_) (by with_unfolding_all rfl)
      refine newT ?_ (by size_fits)
      refine ⟨_, rfl, ⟨_, Heap.get?_push_size _ rfl, rfl, _, rfl⟩, fun h₅ x₅ => ?_⟩
      dsimp only at x₅ ⊢
      have P₄ : PlainL h₄ lst (Ts.map Value.ref).toArray := Pi.extBut S₄.extBut hlL
      have F₅ := (F₄.push (tupO [.ref a, .ref a'])).extBut x₅ (Nat.le_refl _)
      have k₄₅ : ∀ b o, h₄.get? b = some o → h₅.get? b = some o := fun b o e => x₅ b o (Nat.ne_of_lt (Nat.lt_trans (Heap.lt_size e) (by simp))) (Heap.get?_push_of_some _ e)
      have P₅ : PlainL h₅ lst (Ts.map Value.ref).toArray := P₄.keeps k₄₅
      refine stS F₅ (fun h₆ F₆ S₆ => ?_)
      refine stS F₆ (fun h₇ F₇ S₇ => ?_)
      dsimp only at S₆ S₇ ⊢
      have P₇ := (P₅.extBut S₆.extBut hlL).extBut S₇.extBut hlL
      refine wpAny_execs_cons (wpAny_Expr_any (wpAny_Call_append rfl rfl rfl rfl (ld F₇ m2 ⟨lst, _, rfl, P₇, ?_⟩)))
      refine Tuple_ (spliced_cons (ld F₇ rfl (spliced_cons (ld F₇ rfl (spliced_cons (ld F₇ rfl (spliced_nil ?_)))))))
      refine newT ?_ (by size_fits)
      dsimp only
      have k₇ : ∀ b o, h₇.get? b = some o → (h₇.push (tupO [.ref a, .str sym t', .ref a'])).get? b = some o := fun b o e => Heap.get?_push_of_some _ e
      have tn : h₇.get? h₇.objs.size = none := Heap.get?_none_of_le (Nat.le_refl _)
      have ht₈ : (h₇.push (tupO [.ref a, .str sym t', .ref a'])).get? h₇.objs.size = some (tupO [.ref a, .str sym t', .ref a']) := Heap.get?_push_size _ rfl
      have F₈ := F₇.push (tupO [.ref a, .str sym t', .ref a'])
      have P₈ := P₇.keeps k₇
      have hilt : i < fl.length := (List.getElem?_eq_some_iff.1 hsym).1
      refine list_append_plainL P₈ (fun h₉ P₉ S₉ => wpAny_execs_nil ?_) (by simp only [List.size_toArray, List.length_map, sizeLine_eq]; omega)
      dsimp only at S₉ ⊢
      have F₉ := frOwn F₈ S₉ hlL hl0
      have ne : ∀ b, b ≠ s.heap.objs.size → b ≠ lst → ∀ o, g.get? b = some o → h₉.get? b = some o := fun b n1 n2 o' e => (S₉.2 b n2).trans (k₇ b o' ((S₇.2 b n1).trans ((S₆.2 b n1).trans (k₄₅ b o' ((S₄.2 b n1).trans e)))))
      have hTl : h₇.objs.size ≠ lst := fun z => by
        obtain ⟨o', _, ho', _⟩ := P₇
        rw [← z, tn] at ho'; cases ho'
      have hTI : h₇.objs.size ≠ I := fun z => by
        have e1 := (S₇.2 I (Ne.symm hLI)).trans ((S₆.2 I (Ne.symm hLI)).trans (k₄₅ I oI ((S₄.2 I (Ne.symm hLI)).trans hoI)))
        rw [← z, tn] at e1; cases e1
      refine ⟨⟨h₉, _, _, a', Ts ++ [h₇.objs.size], rfl, F₉, m1, m2, rfl, by rw [htake]; exact hq, ne D hDL hDl _ hDi, by simpa using P₉, ?_, by simp [hlen], ?_⟩, fun b hb o' e => ?_⟩
      · intro j t e
        by_cases hj : j < Ts.length
        · rw [List.getElem?_append_left hj] at e
          obtain ⟨sym', u, p, q, a1, b1, c1, d1⟩ := hT j t e
          refine ⟨sym', u, p, q, a1, b1, c1, ne t (fun z => ?_) (fun z => ?_) _ d1⟩
          · obtain ⟨o', _, _, ho', hd', _⟩ := Fi.ns
            rw [← z, d1] at ho'; cases ho'; cases hd'
          · obtain ⟨o', _, ho', hc', _⟩ := Pi
            rw [← z, d1] at ho'; cases ho'
            have hc'' : (Value.type "tuple") = Value.type "list" := hc'
            simp at hc''
        · have hj' : j = i := by
            have := (List.getElem?_eq_some_iff.1 e).1
            simp at this; omega
          subst hj'
          rw [List.getElem?_append_right (by omega)] at e
          simp [hlen] at e
          subst e
          exact ⟨sym, t', a, a', hsym, hnd, by rw [htake]; exact hq, (S₉.2 _ hTl).trans ht₈⟩
      · simp only [List.mem_append, List.mem_singleton, not_or]
        exact ⟨hIT, Ne.symm hTI⟩
      · rcases hb with rfl | rfl
        · exact ne _ (Ne.symm hLI) (Ne.symm hlI) _ e
        · exact ne _ hDL hDl _ e
  · rintro s₁ ⟨g, tk, m, a, Ts, rfl, Fi, m1, m2, m3, hnd, hDi, Pi, hT, hlen, hIT⟩
    dsimp only
    have hsz : (sv l).toArray.size = fl.length := by rw [← hl']; simp
    rw [hsz] at hnd hlen
    rw [List.take_length] at hnd
    have Mi := matKeep M fun b o _ e => Fi.keep b o e
    have Xi := (cs.keeps Fi.keep).X
    refine wpAny_execs_nil ?_
    dsimp only
    refine wpAny_execs_cons (wpAny_If (wpAny_isTrue_Compare1 ?_))
    refine Attribute_any_ (ld Fi m3 (gCont Xi (Mi.tr.node _ _ hnd) (Mi.tr.xd _ _ hnd) (hC fl).handed (wpAny_Constant_none (wpAny_is_plain (hC fl).is (wpAny_truthy_bool ?_)))))
    split
    · rename_i hb
      have hb : C fl = .none := by simpa using hb
      have hm' := hmiss hb
      cases hm' with
      | intro base hm' =>
      cases hm' with
      | intro outer hm' =>
      refine wpAny_execs_cons (Raise_new ok.hd ?_)
      refine wpAny_Call_NameR (nmB cs Fi (by kernel_rfl) (v := .type "KeyError") (by kernel_rfl) (by decide +kernel) ?_)
      refine callWith_type1 (spliced_cons (ld Fi m1 (spliced_nil ?_)))
      refine call_exc_raise excClass_KeyError (fun h₅ e N => ?_) (by size_fits)
      dsimp only at N ⊢
      exact leave_newS hm'.2.1 N Fi News.nil fun h₆ R₁ _ U => hm'.2.2 h₆ _ e R₁ U
    · rename_i hb
      have hb : C fl ≠ .none := by simpa using hb
      refine wpAny_execs_nil ?_
      have G := frOn o Fi
      have hOL : ∀ b, Out b → b ≠ s.heap.objs.size := fun b hb z => by
        obtain ⟨o', ho'⟩ := o.there b hb
        have := Heap.lt_size ho'
        rw [z] at this; exact Nat.lt_irrefl _ this
      have gone : ∀ p a, T.nd p = some a → a ≠ s.heap.objs.size ∧ T.dd p ≠ s.heap.objs.size ∧ T.dx p ≠ s.heap.objs.size := fun p a e => by
        have fresh : s.heap.get? s.heap.objs.size = none := Heap.get?_none_of_le (Nat.le_refl _)
        refine ⟨fun z => ?_, fun z => ?_, fun z => ?_⟩
        · have := M.tr.node p a e
          rw [z, fresh] at this; cases this
        · obtain ⟨od, hod, _⟩ := dictThere (M.tr.kids p a e).choose_spec.1
          rw [z, fresh] at hod; cases hod
        · have := M.tr.xd p a e
          rw [z, fresh] at this; cases this
      have M₁ : MatX w (fun b => Out b ∨ b = s.heap.objs.size ∨ b = lst ∨ b ∈ Ts) g x xx root T C := by
        have a0 : Trie w (fun b => Out b ∨ b = s.heap.objs.size) g T root C := ⟨Mi.tr.root, Mi.tr.node, Mi.tr.xd, Mi.tr.kids, Mi.tr.up, Mi.tr.univ, Mi.tr.cn, Mi.tr.inj, Mi.tr.dinj, Mi.tr.xdis, Mi.tr.big, fun p a e => by
          have h1 := Mi.tr.out p a e
          have h2 := gone p a e
          simp only [not_or]
          exact ⟨⟨h1.1, h2.1⟩, ⟨h1.2.1, h2.2.1⟩, ⟨h1.2.2, h2.2.2⟩⟩⟩
        refine ⟨Mi.at_, Mi.dict, .inl M.ox, .inl M.oxx, trieOut a0 fun b hb => ?_⟩
        rcases hb with hb | rfl | rfl | hb
        · exact .inl (.inl hb)
        · exact .inl (.inr rfl)
        · refine .inr fun o' e => ?_
          obtain ⟨ol, _, hol, hcl, _⟩ := Pi
          rw [hol] at e; cases e
          rw [hcl]; exact ⟨by simp, by decide⟩
        · refine .inr fun o' e => ?_
          obtain ⟨j, hj⟩ := List.mem_iff_getElem?.1 hb
          obtain ⟨_, _, _, _, _, _, _, d1⟩ := hT j b hj
          rw [d1] at e; cases e
          exact ⟨by simp, by simp⟩
      dsimp only
      refine wpAny_execs_cons (plainObj_wpAny_Assign_Attribute (wpAny_Constant_none (ld G m3 (sCont Xi (M₁.tr.node _ _ hnd) (M₁.tr.xd _ _ hnd) fun h₅ S₅ h5 => ?_))))
      dsimp only at S₅ ⊢
      have hne5 : ∀ b, (Out b ∨ b = s.heap.objs.size ∨ b = lst ∨ b ∈ Ts) → b ≠ a := fun b hb z => (M₁.tr.out _ _ hnd).1 (z ▸ hb)
      have k₅ : ∀ b o', (Out b ∨ b = s.heap.objs.size ∨ b = lst ∨ b ∈ Ts) → g.get? b = some o' → h₅.get? b = some o' := fun b o' hb e => (S₅.2 b (hne5 b hb)).trans e
      have M₅ : MatX w (fun b => Out b ∨ b = s.heap.objs.size ∨ b = lst ∨ b ∈ Ts) h₅ x xx root T (updC C fl .none) := by
        obtain ⟨_, _, _, hdx⟩ := Mi.dict
        exact ⟨k₅ _ _ (.inl M.ox) Mi.at_, ⟨_, _, _, k₅ _ _ (.inl M.oxx) hdx⟩, .inl M.ox, .inl M.oxx, trieSet M₁.tr hnd S₅ h5⟩
      have G₅ : Fr h₀ s.heap.objs.size h₅ m := ⟨G.ns.at' fun o' e => k₅ _ o' (.inr (.inl rfl)) e, fun b o' e => k₅ b o' (.inl (o.out b o' e)) (G.keep b o' e), G.above⟩
      have P₅ : PlainL h₅ lst (Ts.map Value.ref).toArray := plainAt Pi fun o' e => k₅ _ o' (.inr (.inr (.inl rfl))) e
      have T₅ : Trail T fl h₅ Ts := fun j t e => by
        obtain ⟨sym, u, p, q, a1, b1, c1, d1⟩ := hT j t e
        exact ⟨sym, u, p, q, a1, b1, c1, k₅ _ _ (.inr (.inr (.inr (List.mem_of_getElem? e)))) d1⟩
      have hk₅ : ∀ b o', Out b → s.heap.get? b = some o' → h₅.get? b = some o' := fun b o' hb e => k₅ b o' (.inl hb) (Fi.keep b o' e)
      have hC₅ : ∀ p, Val (updC C fl .none p) := fun p => by
        unfold updC; split
        · exact .inl rfl
        · exact hC p
      refine wpAny_execs_cons (wpAny_For ?_)
      refine wpAny_Call_NameR (nmB c G₅ (by kernel_rfl) (v := .type "reversed") (by kernel_rfl) (by decide +kernel) ?_)
      refine callWith_type1 (spliced_cons (ld G₅ m2 (spliced_nil ?_)))
      refine call_reversed_list P₅.isList ?_
      refine wpAny_pyIter_revIter ⟨_, Heap.get?_push_size _ rfl, rfl, rfl⟩ ?_
      dsimp only
      have hI₂ : h₅.get? h₅.objs.size = none := Heap.get?_none_of_le (Nat.le_refl _)
      have hLI₂ : s.heap.objs.size ≠ h₅.objs.size := nsNe G₅.ns hI₂
      have hlI₂ : lst ≠ h₅.objs.size := plainNe P₅ hI₂
      have hTI₂ : ∀ j t, Ts[j]? = some t → t ≠ h₅.objs.size := fun j t e z => by
        obtain ⟨_, _, _, _, _, _, _, d1⟩ := T₅ j t e
        rw [z, hI₂] at d1; cases d1
      have hOI₂ : ∀ b, Out b → b ≠ h₅.objs.size := fun b hb z => by
        obtain ⟨o', ho'⟩ := o.there b hb
        have := hk₅ _ _ hb ho'
        rw [z, hI₂] at this; cases this
      have kp : ∀ b o', h₅.get? b = some o' → (h₅.push (revObj lst (((Ts.map Value.ref).toArray.size : Int) - 1))).get? b = some o' := fun b o' e => Heap.get?_push_of_some _ e
      have M₆ := matKeep M₅ fun b o' _ e => kp b o' e
      have M₆' : MatX w (fun b => Out b ∨ b = s.heap.objs.size ∨ b = lst ∨ b ∈ Ts ∨ b = h₅.objs.size) (h₅.push (revObj lst (((Ts.map Value.ref).toArray.size : Int) - 1))) x xx root T (updC C fl .none) :=
        ⟨M₆.at_, M₆.dict, .inl M.ox, .inl M.oxx, trieOut M₆.tr fun b hb => by
          rcases hb with hb | hb | hb | hb | hb
          · exact .inl (.inl hb)
          · exact .inl (.inr (.inl hb))
          · exact .inl (.inr (.inr (.inl hb)))
          · exact .inl (.inr (.inr (.inr hb)))
          · refine .inr fun o' e => ?_
            rw [hb, Heap.get?_push_size _ rfl] at e
            cases e
            exact ⟨by simp [revObj], by simp [revObj]⟩⟩
      refine for_WA (Walks.listRev (ok.deeper _).hd h₅.objs.size lst hlI₂ (Ts.map Value.ref).toArray) (fun i s₁ => ∃ h tk m T', s₁ = { s with heap := h, toks := tk } ∧ Fr h₀ s.heap.objs.size h m ∧
        MatX w (fun b => Out b ∨ b = s.heap.objs.size ∨ b = lst ∨ b ∈ Ts ∨ b = h₅.objs.size) h x xx root T' (updC C fl .none) ∧ (∀ b o', Out b → s.heap.get? b = some o' → h.get? b = some o') ∧ (∀ j, j ≤ fl.length - i → T'.nd (fl.take j) = T.nd (fl.take j)) ∧ (∀ b o', b = lst ∨ b ∈ Ts → h₅.get? b = some o' → h.get? b = some o')) ?_ ?_ ?_ ?_ ?_
      · rintro i s₁ h' tk' ⟨g, tk, m, T', rfl, Fi, Mi, hk, hT', hTr⟩ hk'
        have hk' : ∀ b o', b ≠ h₅.objs.size → g.get? b = some o' → h'.get? b = some o' := fun b o' hb e => hk' b o' (by simpa using hb) e
        refine ⟨h', tk', m, T', rfl, frBut Fi hk' hLI₂ (by
          cases q : h₀.get? h₅.objs.size with
          | none => rfl
          | some o' => have := G₅.keep _ _ q; rw [hI₂] at this; cases this), matKeep Mi fun b o' hb e => hk' b o' ?_ e, fun b o' hb e => hk' b o' (hOI₂ b hb) (hk b o' hb e), hT', fun b o' hb e => hk' b o' ?_ (hTr b o' hb e)⟩
        · rcases hb with rfl | rfl | hb
          · exact hOI₂ _ M.ox
          · exact hOI₂ _ M.oxx
          · exact fun z => hb (.inr (.inr (.inr (.inr z))))
        · rcases hb with rfl | hb
          · exact hlI₂
          · obtain ⟨j, hj⟩ := List.mem_iff_getElem?.1 hb
            exact hTI₂ j b hj
      · rintro i v s₁ hi hv ⟨g, tk, m, T', rfl, Fi, Mi, hk, hT', hTr⟩ hS
        have hi' : i < fl.length := by simpa [hlen] using hi
        obtain ⟨t, rfl, ht⟩ : ∃ t, v = .ref t ∧ Ts[fl.length - 1 - i]? = some t := by
          simp only [List.size_toArray, List.length_map, List.getElem?_toArray, List.getElem?_map, Option.map_eq_some_iff, hlen] at hv
          obtain ⟨t, ht, rfl⟩ := hv
          exact ⟨t, rfl, ht⟩
        obtain ⟨sym, u, p, q, a1, b1, c1, d1⟩ := T₅ _ t ht
        have d1 := hTr t _ (.inr (List.mem_of_getElem? ht)) d1
        have hTr' : Trail T fl g Ts := fun j t e => by
          obtain ⟨sym, u, p, q, a1, b1, c1, d1⟩ := T₅ j t e
          exact ⟨sym, u, p, q, a1, b1, c1, hTr t _ (.inr (List.mem_of_getElem? e)) d1⟩
        generalize hj : fl.length - 1 - i = j at *
        have hj1 : j + 1 ≤ fl.length - i := by omega
        have b2 : T'.nd (fl.take j) = some p := (hT' j (by omega)).trans b1
        have c2 : T'.nd (fl.take (j + 1)) = some q := (hT' (j + 1) hj1).trans c1
        have htake : fl.take (j + 1) = fl.take j ++ [sym] := by rw [List.take_add_one, a1]; rfl
        refine letGo_rev hS.2.1 ?_
        refine wpAny_assign_Tuple (ok.deeper _).hd ⟨_, d1, rfl, _, rfl⟩ rfl rfl (fun h₇ x₇ => ?_)
        have k₇ : ∀ b o', g.get? b = some o' → h₇.get? b = some o' := fun b o' e => x₇ b o' (Nat.ne_of_lt (Heap.lt_size e)) e
        have F₇ := frUp Fi k₇
        refine assignInOrder_cons (wpAny_assign_Name (stS F₇ (fun h₈ F₈ S₈ => ?_)))
        refine assignInOrder_cons (wpAny_assign_Name (stS F₈ (fun h₉ F₉ S₉ => ?_)))
        refine assignInOrder_cons (wpAny_assign_Name (stS F₉ (fun hA FA SA => ?_)))
        refine assignInOrder_nil ?_
        dsimp only at S₈ S₉ SA ⊢
        have kA : ∀ b o', b ≠ s.heap.objs.size → g.get? b = some o' → hA.get? b = some o' := fun b o' n e => (SA.2 b n).trans ((S₉.2 b n).trans ((S₈.2 b n).trans (k₇ b o' e)))
        have MA := matKeep Mi fun b o' hb e => kA b o' (by
          rcases hb with rfl | rfl | hb
          · exact hOL _ M.ox
          · exact hOL _ M.oxx
          · exact fun z => hb (.inr (.inl z))) e
        have XA := (c.keeps FA.keep).X
        have hkd := MA.tr.kids _ _ c2
        cases hkd with
        | intro kvs hkd =>
        have hd := hkd.1
        have hkv := hkd.2
        have h6 := shortKids MA.tr (kids_nodup hd) hkv
        have hbig := MA.tr.big _ _ c2
        refine wpAny_execs_cons (wpAny_If (wpAny_isTrue_BoolOp (wpAny_allTrue_Or_cons ?_)))
        refine wpAny_isTrue_value (Attribute_any_ (ld FA rfl (gKids XA (MA.tr.node _ _ c2) (MA.tr.xd _ _ c2) ?_)))
        refine wpAny_truthy_dict (beq_eq_false_iff_ne.2 (Nat.ne_of_gt hbig)) hd (by omega) ?_
        have kO : ∀ b o', Out b → s.heap.get? b = some o' → hA.get? b = some o' := fun b o' hb e => kA b o' (hOL b hb) (hk b o' hb e)
        have stop : Mat w Out hA x (updC C fl .none) := ⟨xx, root, T', MA.at_, MA.dict, M.ox, M.oxx, trieOut MA.tr fun b hb => .inl (.inl hb)⟩
        split
        · rw [if_pos rfl]
          refine wpAny_execs_cons (wpAny_Break ?_)
          dsimp only
          refine wpAny_execs_nil (wpAny_execs_nil ?_)
          exact hfound hb hA _ kO stop
        · rename_i hke
          have hke : kvs = [] := by simpa using hke
          refine wpAny_allTrue_Or_cons (wpAny_isTrue_Compare1 (Attribute_any_ (ld FA rfl (gCont XA (MA.tr.node _ _ c2) (MA.tr.xd _ _ c2) (hC₅ _).handed (wpAny_Constant_none (wpAny_isNot_plain (hC₅ _).is (wpAny_truthy_bool ?_)))))))
          split
          · rw [if_pos rfl]
            refine wpAny_execs_cons (wpAny_Break ?_)
            dsimp only
            refine wpAny_execs_nil (wpAny_execs_nil ?_)
            exact hfound hb hA _ kO stop
          · rename_i hcn
            have hcn : updC C fl .none (fl.take (j + 1)) = .none := by simpa using hcn
            refine wpAny_allTrue_Or_nil ?_
            rw [if_neg (by decide)]
            refine wpAny_execs_nil ?_
            refine wpAny_execs_cons (wpAny_Delete ?_)
            refine wpAny_deleteEach_cons (wpAny_delete_Subscript (Attribute_any_ (ld FA rfl (gKids XA (MA.tr.node _ _ b2) (MA.tr.xd _ _ b2) (ld FA rfl ?_)))))
            have hpd := MA.tr.kids _ _ b2
            cases hpd with
            | intro kvp hpd =>
            have hdp := hpd.1
            have hkp := hpd.2
            have h6p := shortKids MA.tr (kids_nodup hdp) hkp
            refine wpAny_delItem_slot hdp.typeIs (by decide) PySem.F.slot_dict_delitem (call_meetsIn PySem.F.slot_dict_delitem hdp.typeIs PySem.F.entry_dict_delitem (PySem.F.args_dict_delitem_2 _ _) (meets_dict_delitem_pairs (PySem.strKind PR w) (T'.dd (fl.take j)) (strKind_is PR w sym u))
              ⟨kvp, hdp, by rw [sizeLine_eq]; omega, by rw [hkp, ← htake, c2]; rfl, fun hB hdB SB => ?_⟩)
            show wpAny _ _ (deleteEach [] _) _ _ _
            refine wpAny_deleteEach_nil ?_
            dsimp only at SB ⊢
            refine wpAny_execs_nil ?_
            dsimp only
            have nB : ∀ b, (Out b ∨ b = s.heap.objs.size ∨ b = lst ∨ b ∈ Ts ∨ b = h₅.objs.size) → b ≠ T'.dd (fl.take j) := fun b hb z => (MA.tr.out _ _ b2).2.1 (z ▸ hb)
            have kB : ∀ b o', (Out b ∨ b = s.heap.objs.size ∨ b = lst ∨ b ∈ Ts ∨ b = h₅.objs.size) → hA.get? b = some o' → hB.get? b = some o' := fun b o' hb e => (SB.2 b (nB b hb)).trans e
            have TB := trieDel MA.tr b2 hkp hdB SB (htake ▸ hcn) (fun l => by
              have := hkv l
              rw [hke, htake] at this
              cases q' : T'.nd (fl.take j ++ [sym] ++ [l]) with
              | none => rfl
              | some z => rw [q'] at this; cases this)
            constructor
            · refine ⟨hB, _, _, delT T' (fl.take j ++ [sym]), rfl, ⟨FA.ns.at' fun o' e => kB _ o' (.inr (.inl rfl)) e, fun b o' e => kB b o' (.inl (o.out b o' e)) (FA.keep b o' e), FA.above⟩, ⟨kB _ _ (.inl M.ox) MA.at_, let ⟨x1, x2, x3, e⟩ := MA.dict; ⟨x1, x2, x3, kB _ _ (.inl M.oxx) e⟩, .inl M.ox, .inl M.oxx, TB⟩,
                fun b o' hb e => kB b o' (.inl hb) (kO b o' hb e), fun j' hj' => ?_, fun b o' hb e => kB b o' (hb.elim (fun z => .inr (.inr (.inl z))) fun z => .inr (.inr (.inr (.inl z)))) (kA b o' ?_ (hTr b o' hb e))⟩
              · show (if fl.take j' = fl.take j ++ [sym] then none else T'.nd (fl.take j')) = _
                rw [if_neg, hT' j' (by omega)]
                rw [← htake]
                intro z
                have := congrArg List.length z
                simp at this
                omega
              · rcases hb with rfl | hb
                · exact hlL
                · exact fun z => by
                    obtain ⟨j', hj'⟩ := List.mem_iff_getElem?.1 hb
                    obtain ⟨_, _, _, _, _, _, _, d2⟩ := hTr' j' b hj'
                    obtain ⟨o2, _, _, ho2, hd2, _⟩ := Fi.ns
                    rw [← z, d2] at ho2; cases ho2; cases hd2
            · have hI5 : h₅.objs.size ≠ s.heap.objs.size := Ne.symm hLI₂
              refine ⟨hS.1, hS.2.1.at fun o' e => kB _ o' (.inr (.inr (.inr (.inr rfl)))) (kA _ o' hI5 e), hS.2.2.at fun o' e => kB _ o' (.inr (.inr (.inl rfl))) (kA _ o' hlL e)⟩
      · rintro s₁ ⟨g, tk, m, T', rfl, Fi, Mi, hk, hT', hTr⟩
        refine wpAny_execs_nil ?_
        dsimp only
        refine wpAny_execs_nil ?_
        exact hfound hb g tk hk ⟨xx, root, T', Mi.at_, Mi.dict, M.ox, M.oxx, trieOut Mi.tr fun b hb => .inl (.inl hb)⟩
      · exact ⟨_, _, m, T, rfl, frUp G₅ kp, M₆', fun b o' hb e => kp b o' (hk₅ b o' hb e), fun j _ => rfl, fun b o' _ e => kp b o' e⟩
      · exact ⟨Nat.zero_le _, ⟨_, Heap.get?_push_size _ rfl, rfl, by simp [revObj]⟩, P₅.isList.at fun o' e => kp _ o' e⟩
end
end Mine
end
section
open PySem PySem.W PySem.W.X PyProof.Rows PySem.Calls
set_option Elab.async false
set_option maxRecDepth 100000
set_option maxHeartbeats 2000000
namespace Mine
section
variable {w : World} {A : Around} {E : Value → Shared → Prop} {s : Shared} {env : Env}
theorem ownDel {M : Model} {K : Frag} {x C L f : Addr} {h₀ : Heap} {m : Str → Option Value} {ox : Obj} {od : Option Obj} {i : Value} {Q : Unit → Shared → Prop} (F : Fr h₀ L s.heap m) (X₀ : K.In h₀) (I : InstAt s.heap x ox C od) (hq : noSeq K C = true)
    (hs : findIn K (.ref C) "__delitem__" = some (some (.ref f))) (hf : isFn K (.ref f) = true)
    (h : wpAny M A (call (.ref f) [.ref x, i]) (fun _ s' => Q () s') E s) : wpAny M A (delItem (.ref x) i) Q E s := by
  have X := X₀.keeps F.keep
  unfold delItem sequenceKey
  refine wpAny_holding (wpAny_bind (wpAny_bind (I.type.here ?_)))
  refine wpAny_bind ((anyM_none X hq).here ?_)
  rw [if_pos (show (!false) = true from rfl)]
  exact wpAny_pure (wpAny_bind (special_fn X I hs (beq_iff_eq.mp hf) (wpAny_mono h (fun _ _ z => wpAny_pure z) fun _ _ z => z)))
theorem onKeep {h₀ h h' : Heap} {Out : Addr → Prop} (o : On h₀ Out h) (k : ∀ b o, h.get? b = some o → h'.get? b = some o) (z : h.objs.size ≤ h'.objs.size) : On h₀ Out h' :=
  ⟨fun b p e => k b p (o.keep b p e), Nat.le_trans o.size z, o.out, fun b hb => let ⟨p, e⟩ := o.there b hb; ⟨p, k b p e⟩⟩
theorem matOf {Out : Addr → Prop} {h h' : Heap} {x : Addr} {C : Path → Value} (M : Mat w Out h x C) (k : ∀ b o, h.get? b = some o → h'.get? b = some o) : Mat w Out h' x C := let ⟨xx, root, T, M⟩ := M; ⟨xx, root, T, matKeep M fun b o _ e => k b o e⟩
theorem lacks_spec {p : Program} {loose : List Str} {mean : ExcName → Option Value} {mg mb : Str → Option Value} {R : Result → Shared → Prop} {x : Addr} {key : Str} {fl : List Str} {t : Tok} {b : Bool} {h₀ base : Heap} {outer : List Env} {Out : Addr → Prop} {C : Path → Value}
    (c : Cx w h₀) (ok : Ok A 14) (o : On h₀ Out s.heap) (M : Mat w Out s.heap x C) (hC : ∀ p, Val (C p)) (hsp : Txt.split key "/" = fl) (hkl : key.length ≤ 100) (hne : fl ≠ []) (hfl4 : fl.length ≤ 100) (hnone : C fl = .none)
    (cb : Cx w base) (K : Below A base outer s.heap) (TB : Top p loose mean mg mb base) (D : KtsDicts (outer.filterMap (·.frame)) s.heap)
    (h : ∀ h' tk g', KtsTurn (outer.filterMap (·.frame)) s.heap g' → (∀ b o, g'.get? b = some o → h'.get? b = some o) → R (.ok (.ret (.bool true))) { s with heap := h', toks := tk }) :
    codeAny (model PR w) A (.call (.ref 121) ⟨[.ref x, .str key t, .bool b], []⟩) R s := by
  have cs := c.keeps o.keep
  refine call_fn (st := topSt 7) (nm := "_law_lacks") (q := "_law_lacks") (code := 120) (binds := [("matcher", .ref x), ("key", .str key t), ("deleted", .bool b)]) cs ok.room ⟨_, rfl⟩ (by kernel_rfl) (fun pm => by kernel_rfl) (fun h₁ F => ?_)
  refine wpAny_execs_cons (wpAny_Try_except ?_)
  have M₁ := M
  obtain ⟨xx, root, T, M₁⟩ := M₁
  have M₁ := matKeep M₁ fun b o _ e => F.keep b o e
  obtain ⟨hs, tk, n, hxx⟩ := M₁.dict
  have I₁ : InstAt h₁ x (matO xx) 82 (some (dictOf [⟨hs, .str "_root" tk, .ref root⟩] n)) := ⟨M₁.at_, rfl, rfl, hxx⟩
  have K₁ := K.push (name := "_law_lacks") (scope := stScope (topSt 7)) (a := 121) (cd := .ref 120) F
  have Mm := matOf M F.keep
  have o₁ := onKeep o F.keep (Nat.le_of_lt F.ns.lt)
  refine wpAny_execs_cons (wpAny_If (wpAny_isTrue_value (ld F rfl (wpAny_truthy_bool ?_))))
  split
  · refine wpAny_execs_cons (wpAny_Delete (wpAny_deleteEach_cons (wpAny_delete_Subscript (ld F rfl (ld F rfl ?_)))))
    refine ownDel F cs.X I₁ (by kernel_rfl) (f := 72) (by kernel_rfl) (by kernel_rfl) (wpAny_call (del_spec c ((ok.deeper _).le (by decide)) o₁ Mm hC hsp hkl hne hfl4 (fun z => absurd hnone z) fun _ => ⟨base, _, cb, K₁, fun h' tk e Rr U => ?_⟩))
    dsimp only at Rr U ⊢
    refine caught_SN0 (KF := KK w) (T' := "KeyError") (g₀ := s.heap) Rr F K U cb.X TB D KtsTurn.refl (by kernel_rfl) (by kernel_rfl) (by decide +kernel) kr_isExc_KeyError kr_notTuple_KeyError excClass_KeyError.self fun h₃ g' T₃ F₃ N₃ K₃ X₃ TB₃ D₃ => ?_
    refine wpAny_execs_cons (wpAny_Return_some (wpAny_Constant_bool ?_))
    exact h h₃ _ g' T₃ F₃.keep
  · refine wpAny_execs_cons (wpAny_Expr_any (Subscript_ (ld F rfl (ld F rfl ?_))))
    refine sub_K F cs.X I₁ (f := 65) (by kernel_rfl) (by kernel_rfl) (by kernel_rfl) (wpAny_call (get_spec (c.keeps o₁.keep) (((ok.deeper _).le (by decide)).in1 (d := 10)) Mm hC hsp hkl (fun z => absurd hnone z) fun _ => ⟨base, _, cb, K₁.in1, fun h' tk e Rr U => ?_⟩))
    dsimp only at Rr U ⊢
    refine caught_SN0 (KF := KK w) (T' := "KeyError") (g₀ := s.heap) Rr F K U cb.X TB D KtsTurn.refl (by kernel_rfl) (by kernel_rfl) (by decide +kernel) kr_isExc_KeyError kr_notTuple_KeyError excClass_KeyError.self fun h₃ g' T₃ F₃ N₃ K₃ X₃ TB₃ D₃ => ?_
    refine wpAny_execs_cons (wpAny_Return_some (wpAny_Constant_bool ?_))
    exact h h₃ _ g' T₃ F₃.keep
end
end Mine
end
section
open PySem
set_option Elab.async false
set_option maxRecDepth 100000
set_option maxHeartbeats 2000000
namespace Mine
/-- trees of the calmed model are already calm -/
def TFix (c : Code) (t : Sem Fin) : Prop := EE c t = t
section
variable {c : Code}
theorem TFix.rule {tag : String} {k : Unit → Sem Fin} (h : TFix c (Sem.rule tag k)) (x) : TFix c (k x) := by
  unfold TFix EE at *
  cases q : yfIt c with
  | none => rfl
  | some it => rw [q] at h; simp only [calmT] at h; injection h; exact congrFun (show (fun x => calmT it (k x)) = k by assumption) x
theorem TFix.at {p : Pos} {k : Unit → Sem Fin} (h : TFix c (Sem.at p k)) (x) : TFix c (k x) := by
  unfold TFix EE at *
  cases q : yfIt c with
  | none => rfl
  | some it => rw [q] at h; simp only [calmT] at h; injection h; exact congrFun (show (fun x => calmT it (k x)) = k by assumption) x
theorem TFix.load {a : Addr} {q : Option Value} {k : Obj → Sem Fin} (h : TFix c (Sem.load a q k)) (x) : TFix c (k x) := by
  unfold TFix EE at *
  cases q : yfIt c with
  | none => rfl
  | some it => rw [q] at h; simp only [calmT] at h; injection h; exact congrFun (show (fun x => calmT it (k x)) = k by assumption) x
theorem TFix.update {a : Addr} {q : Option Value} {f : Obj → Obj} {k : Unit → Sem Fin} (h : TFix c (Sem.update a q f k)) (x) : TFix c (k x) := by
  unfold TFix EE at *
  cases q : yfIt c with
  | none => rfl
  | some it => rw [q] at h; simp only [calmT] at h; injection h; exact congrFun (show (fun x => calmT it (k x)) = k by assumption) x
theorem TFix.alloc {o : Obj} {k : Addr → Sem Fin} (h : TFix c (Sem.alloc o k)) (x) : TFix c (k x) := by
  unfold TFix EE at *
  cases q : yfIt c with
  | none => rfl
  | some it => rw [q] at h; simp only [calmT] at h; injection h; exact congrFun (show (fun x => calmT it (k x)) = k by assumption) x
theorem TFix.loadIfAlive {a : Addr} {k : Option Obj → Sem Fin} (h : TFix c (Sem.loadIfAlive a k)) (x) : TFix c (k x) := by
  unfold TFix EE at *
  cases q : yfIt c with
  | none => rfl
  | some it => rw [q] at h; simp only [calmT] at h; injection h; exact congrFun (show (fun x => calmT it (k x)) = k by assumption) x
theorem TFix.point {l : List Value} {k : Unit → Sem Fin} (h : TFix c (Sem.point l k)) (x) : TFix c (k x) := by
  unfold TFix EE at *
  cases q : yfIt c with
  | none => rfl
  | some it => rw [q] at h; simp only [calmT] at h; injection h; exact congrFun (show (fun x => calmT it (k x)) = k by assumption) x
theorem TFix.fresh {k : Tok → Sem Fin} (h : TFix c (Sem.fresh k)) (x) : TFix c (k x) := by
  unfold TFix EE at *
  cases q : yfIt c with
  | none => rfl
  | some it => rw [q] at h; simp only [calmT] at h; injection h; exact congrFun (show (fun x => calmT it (k x)) = k by assumption) x
theorem TFix.ask {k : Setting → Sem Fin} (h : TFix c (Sem.ask k)) (x) : TFix c (k x) := by
  unfold TFix EE at *
  cases q : yfIt c with
  | none => rfl
  | some it => rw [q] at h; simp only [calmT] at h; injection h; exact congrFun (show (fun x => calmT it (k x)) = k by assumption) x
theorem TFix.choose {src : Source} {n : Nat} {k : Nat → Sem Fin} (h : TFix c (Sem.choose src n k)) (x) : TFix c (k x) := by
  unfold TFix EE at *
  cases q : yfIt c with
  | none => rfl
  | some it => rw [q] at h; simp only [calmT] at h; injection h; exact congrFun (show (fun x => calmT it (k x)) = k by assumption) x
theorem TFix.os {q : OsRequest} {l : List Value} {k : OsReply → Sem Fin} (h : TFix c (Sem.os q l k)) (x) : TFix c (k x) := by
  unfold TFix EE at *
  cases q : yfIt c with
  | none => rfl
  | some it => rw [q] at h; simp only [calmT] at h; injection h; exact congrFun (show (fun x => calmT it (k x)) = k by assumption) x
theorem TFix.call {c' : Code} {hd : Option Value} {g : Bool} {l : List Value} {k : Result → Sem Fin} (h : TFix c (Sem.call c' hd g l k)) (x) : TFix c (k x) := by
  unfold TFix EE at *
  cases q : yfIt c with
  | none => rfl
  | some it => rw [q] at h; simp only [calmT] at h; injection h; exact congrFun (show (fun x => calmT it (k x)) = k by assumption) x
theorem TFix.handled {o : Bool} {k : Option Value → Sem Fin} (h : TFix c (Sem.handled o k)) (x) : TFix c (k x) := by
  unfold TFix EE at *
  cases q : yfIt c with
  | none => rfl
  | some it => rw [q] at h; simp only [calmT] at h; injection h; exact congrFun (show (fun x => calmT it (k x)) = k by assumption) x
theorem TFix.newGen {c' : Code} {k : Nat → Sem Fin} (h : TFix c (Sem.newGen c' k)) (x) : TFix c (k x) := by
  unfold TFix EE at *
  cases q : yfIt c with
  | none => rfl
  | some it => rw [q] at h; simp only [calmT] at h; injection h; exact congrFun (show (fun x => calmT it (k x)) = k by assumption) x
theorem TFix.genState {g : Nat} {k : GenStatus × Option (List (Code × Pos)) → Sem Fin} (h : TFix c (Sem.genState g k)) (x) : TFix c (k x) := by
  unfold TFix EE at *
  cases q : yfIt c with
  | none => rfl
  | some it => rw [q] at h; simp only [calmT] at h; injection h; exact congrFun (show (fun x => calmT it (k x)) = k by assumption) x
theorem TFix.resume {g : Nat} {r : Resume} {l : List Value} {k : GenResult → Sem Fin} (h : TFix c (Sem.resume g r l k)) (x) : TFix c (k x) := by
  unfold TFix EE at *
  cases q : yfIt c with
  | none => rfl
  | some it => rw [q] at h; simp only [calmT] at h; injection h; exact congrFun (show (fun x => calmT it (k x)) = k by assumption) x
theorem TFix.stack {k : List (Code × Pos) → Sem Fin} (h : TFix c (Sem.stack k)) (x) : TFix c (k x) := by
  unfold TFix EE at *
  cases q : yfIt c with
  | none => rfl
  | some it => rw [q] at h; simp only [calmT] at h; injection h; exact congrFun (show (fun x => calmT it (k x)) = k by assumption) x
theorem TFix.thread {k : Nat → Sem Fin} (h : TFix c (Sem.thread k)) (x) : TFix c (k x) := by
  unfold TFix EE at *
  cases q : yfIt c with
  | none => rfl
  | some it => rw [q] at h; simp only [calmT] at h; injection h; exact congrFun (show (fun x => calmT it (k x)) = k by assumption) x
theorem TFix.yieldF {v : Value} {l : List Value} {k : Resume → Sem Fin} (h : TFix c (.yield v false l k)) (x) : TFix c (k x) := by
  unfold TFix EE at *
  cases q : yfIt c with
  | none => rfl
  | some it => rw [q] at h; simp only [calmT, Bool.false_eq_true, if_false] at h; injection h; exact congrFun (show (fun x => calmT it (k x)) = k by assumption) x
theorem calmT_idem (it : Value) (t : Sem Fin) : calmT it (calmT it t) = calmT it t := by
  induction t with
  | yield v g l k ih =>
    cases g with
    | false => simp only [calmT, Bool.false_eq_true, if_false, ih]
    | true =>
      simp only [calmT, if_true]
      unfold chk
      cases it with
      | ref a =>
        simp only [calmT]
        congr 1
        funext o
        split
        · simp only [calmT, Bool.false_eq_true, if_false, ih]
        · rfl
      | _ => rfl
  | _ => simp only [calmT, *]
theorem denFix (M : Model) (c : Code) : TFix c ((calmM M).den c) := by
  show EE c (EE c (M.den c)) = EE c (M.den c)
  cases q : yfIt c with
  | none => rw [EE_none q, EE_none q]
  | some it => rw [EE_some q, EE_some q]; exact calmT_idem _ _
end
def FFix : Frame → Prop
  | .ret k _ _ _ c _ _ => ∀ r, TFix c (k r)
  | .gen _ k _ c _ => ∀ r, TFix c (k r)
def FsFix (fs : List Frame) : Prop := ∀ F ∈ fs, FFix F
def EFix : End → Prop
  | .ret _ => True
  | .susp _ _ _ k c _ fs => (∀ r, TFix c (k r)) ∧ FsFix fs
def GFix : GenState → Prop
  | .suspended k _ c _ fs _ => (∀ r, TFix c (k r)) ∧ FsFix fs
  | _ => True
def SFix (s : Shared) : Prop := ∀ (i : Nat) (x : GenState), s.gens[i]? = some x → GFix x
theorem FsFix.nil : FsFix [] := fun _ h => nomatch h
theorem FsFix.append {a b} (x : FsFix a) (y : FsFix b) : FsFix (a ++ b) := fun F h => (List.mem_append.mp h).elim (x F) (y F)
theorem FsFix.cons {F fs} (x : FFix F) (y : FsFix fs) : FsFix (F :: fs) := fun G h => (List.mem_cons.mp h).elim (fun e => e ▸ x) (y G)
theorem FsFix.hd {F fs} (x : FsFix (F :: fs)) : FFix F := x F (List.mem_cons_self ..)
theorem FsFix.tl {F fs} (x : FsFix (F :: fs)) : FsFix fs := fun G h => x G (List.mem_cons_of_mem _ h)
theorem EFix.genState {e} (h : EFix e) : GFix e.genState := by cases e with | ret r => trivial | susp => exact h
theorem SFix.setGen {s : Shared} (h : SFix s) (g : Nat) {x : GenState} (hx : GFix x) : SFix (s.setGen g x) := by
  intro i y hy
  simp only [Shared.setGen, Array.getElem?_setIfInBounds] at hy
  split at hy
  · split at hy
    · cases hy; exact hx
    · cases hy
  · exact h i y hy
theorem SFix.pushGen {s : Shared} (h : SFix s) {x : GenState} (hx : GFix x) : SFix { s with gens := s.gens.push x } := by
  intro i y hy
  simp only [Array.getElem?_push] at hy
  split at hy
  · cases hy; exact hx
  · exact h i y hy
theorem FR.fixed {F F'} (hF : FFix F) (h : FR F F') : F' = F := by
  cases h with
  | ret hk =>
    congr 1; funext r
    rcases hk r with e | e
    · exact e
    · exact e.trans (hF r)
  | gen hk =>
    congr 1; funext r
    rcases hk r with e | e
    · exact e
    · exact e.trans (hF r)
theorem FRs.fixed {a a'} (x : FRs a a') (h : FsFix a) : a' = a := by
  induction x with
  | nil => rfl
  | cons hF _ ih => rw [hF.fixed h.hd, ih h.tl]
theorem SFix.stable {s : Shared} (h : SFix s) : Stable s := by
  intro i x hx y hy
  have := h i x hx
  cases hy with
  | same => rfl
  | susp hk hf =>
    rw [hf.fixed this.2]; congr 1; funext r
    rcases hk r with e | e
    · exact e
    · exact e.trans (this.1 r)
theorem FsFix.split {fs : List Frame} {pre g k c p rest} (h : FsFix fs) (e : splitAtGen fs = some (pre, (g, k, c, p), rest)) : FsFix pre ∧ (∀ r, TFix c (k r)) ∧ FsFix rest := by
  induction fs generalizing pre with
  | nil => cases e
  | cons F fs ih =>
    cases F with
    | gen g' k' l' c' p' => cases e; exact ⟨.nil, h.hd, h.tl⟩
    | ret k' hh gg ll cc pp kp =>
      rw [splitAtGen_ret] at e
      cases q : splitAtGen fs with
      | none => rw [q] at e; cases e
      | some z =>
        rw [q] at e
        obtain ⟨pre', w, rest'⟩ := z
        cases e
        obtain ⟨a, b, d⟩ := ih h.tl q
        exact ⟨.cons h.hd a, b, d⟩
theorem runs_fix {M : Model} {N : Model} {Γ : Ctx} {p : Pos} {t : Sem Fin} {fs : List Frame} {s s₂ : Shared} {e : End} (h : Runs N Γ p t fs s e s₂) : N = calmM M → TFix Γ.code t → FsFix fs → SFix s → EFix e ∧ SFix s₂ := by
  induction h with
  | done => intro hN ht hf hs; exact ⟨trivial, hs⟩
  | raise => intro hN ht hf hs; exact ⟨trivial, hs⟩
  | again hq _ ih => intro hN ht hf hs; subst hN; exact ih rfl (denFix M _) hf hs
  | rule _ ih => intro hN ht hf hs; exact ih hN (TFix.rule ht _) hf hs
  | «at» _ ih => intro hN ht hf hs; exact ih hN (TFix.at ht _) hf hs
  | load ho _ ih => intro hN ht hf hs; exact ih hN (TFix.load ht _) hf hs
  | loadIfAlive _ ih => intro hN ht hf hs; exact ih hN (TFix.loadIfAlive ht _) hf hs
  | point _ ih => intro hN ht hf hs; exact ih hN (TFix.point ht _) hf hs
  | ask _ ih => intro hN ht hf hs; exact ih hN (TFix.ask ht _) hf hs
  | handled _ ih => intro hN ht hf hs; exact ih hN (TFix.handled ht _) hf hs
  | stack _ ih => intro hN ht hf hs; exact ih hN (TFix.stack ht _) hf hs
  | thread _ ih => intro hN ht hf hs; exact ih hN (TFix.thread ht _) hf hs
  | update ho _ ih => intro hN ht hf hs; exact ih hN (TFix.update ht _) hf hs
  | alloc _ ih => intro hN ht hf hs; exact ih hN (TFix.alloc ht _) hf hs
  | fresh _ ih => intro hN ht hf hs; exact ih hN (TFix.fresh ht _) hf hs
  | choose hn _ ih => intro hN ht hf hs; exact ih hN (TFix.choose ht _) hf hs
  | os _ ih => intro hN ht hf hs; exact ih hN (TFix.os ht _) hf hs
  | genState hg _ ih => intro hN ht hf hs; exact ih hN (TFix.genState ht _) hf hs
  | newGen _ ih => intro hN ht hf hs; exact ih hN (TFix.newGen ht _) hf (hs.pushGen trivial)
  | call _ _ ih₁ ih₂ =>
    intro hN ht hf hs; subst hN
    exact ih₂ rfl (TFix.call ht _) hf (ih₁ rfl (denFix M _) .nil hs).2
  | callSusp _ ih =>
    intro hN ht hf hs; subst hN
    obtain ⟨a, b⟩ := ih rfl (denFix M _) .nil hs
    exact ⟨⟨a.1, a.2.append (.cons (fun r => TFix.call ht r) .nil)⟩, b⟩
  | @yield Γ p v g l k s =>
    intro hN ht hf hs
    refine ⟨⟨fun r => ?_, .nil⟩, hs⟩
    cases g with
    | false => exact ht.yieldF r
    | true =>
      unfold TFix EE at *
      cases q : yfIt Γ.code with
      | none => rfl
      | some it =>
        rw [q] at ht; simp only [calmT, if_true] at ht
        unfold chk at ht
        split at ht <;> cases ht
  | resumeFresh hg _ hq _ ih₁ ih₂ =>
    intro hN ht hf hs; subst hN
    obtain ⟨a, b⟩ := ih₁ rfl (denFix M _) .nil (hs.setGen _ trivial)
    exact ih₂ rfl (TFix.resume ht _) hf (b.setGen _ a.genState)
  | resumeSuspended hg _ hq _ ih₁ ih₂ =>
    intro hN ht hf hs; subst hN
    have hx := hs _ _ hg
    obtain ⟨a, b⟩ := ih₁ rfl (hx.1 _) hx.2 (hs.setGen _ trivial)
    exact ih₂ rfl (TFix.resume ht _) hf (b.setGen _ a.genState)
  | resumeJustStarted hg hv _ ih => intro hN ht hf hs; exact ih hN (TFix.resume ht _) hf hs
  | resumeThrowFresh hg _ ih => intro hN ht hf hs; exact ih hN (TFix.resume ht _) hf (hs.setGen _ trivial)
  | resumeRunning hg _ ih => intro hN ht hf hs; exact ih hN (TFix.resume ht _) hf hs
  | resumeFinished hg _ ih => intro hN ht hf hs; exact ih hN (TFix.resume ht _) hf hs
  | segRet _ _ ih₁ ih₂ =>
    intro hN ht hf hs
    exact ih₂ hN (hf.hd _) hf.tl (ih₁ hN ht .nil hs).2
  | segGen _ _ ih₁ ih₂ =>
    intro hN ht hf hs
    exact ih₂ hN (hf.hd _) hf.tl ((ih₁ hN ht .nil hs).2.setGen _ trivial)
  | segSuspOut hn _ ih =>
    intro hN ht hf hs
    obtain ⟨a, b⟩ := ih hN ht .nil hs
    exact ⟨⟨a.1, a.2.append hf⟩, b⟩
  | segSuspGen hn _ hq _ ih₁ ih₂ =>
    intro hN ht hf hs
    obtain ⟨a, b⟩ := ih₁ hN ht .nil hs
    obtain ⟨c, d, e⟩ := hf.split hn
    exact ih₂ hN (d _) e (b.setGen _ (EFix.genState (e := .susp ..) ⟨a.1, a.2.append c⟩))
section
variable {M : Model} {Γ : Ctx}
theorem returns_fix {p : Pos} {s s₁ : Shared} {r : Result} (h : Returns (calmM M) Γ p s r s₁) (hs : SFix s) : SFix s₁ := (runs_fix h rfl (denFix M _) .nil hs).2
theorem wakes_fix {p : Pos} {s s₁ : Shared} {g : Nat} {r : Resume} {res : GenResult} (h : Wakes (calmM M) Γ p g r s res s₁) (hs : SFix s) : SFix s₁ := by
  unfold Wakes at h
  cases hg : s.gens[g]? with
  | none => rw [hg] at h; exact h.elim
  | some x =>
    rw [hg] at h
    cases x with
    | fresh c =>
      cases r with
      | throw x => obtain ⟨rfl, rfl⟩ := h; exact hs.setGen _ trivial
      | send v =>
        by_cases hv : v = .none
        · subst hv
          obtain ⟨e₁, s₂, h₁, hq, rfl, rfl⟩ := h
          obtain ⟨a, b⟩ := runs_fix h₁ rfl (denFix M _) .nil (hs.setGen _ trivial)
          exact b.setGen _ a.genState
        · have : res = .justStarted ∧ s₁ = s := by cases v <;> first | exact absurd rfl hv | exact h
          obtain ⟨rfl, rfl⟩ := this
          exact hs
    | suspended k₀ l₀ c₀ p₀ fs cl =>
      obtain ⟨e₁, s₂, h₁, hq, rfl, rfl⟩ := h
      have hx := hs _ _ hg
      obtain ⟨a, b⟩ := runs_fix h₁ rfl (hx.1 _) hx.2 (hs.setGen _ trivial)
      exact b.setGen _ a.genState
    | running => obtain ⟨rfl, rfl⟩ := h; exact hs
    | finished => obtain ⟨rfl, rfl⟩ := h; exact hs
theorem wp_fix {α : Type} {t : Sem α} : ∀ {Q : α → Pos → Shared → Prop} {E : Value → Pos → Shared → Prop} {p : Pos} {s : Shared}, Sem.wp (calmM M) Γ t Q E p s → SFix s →
    Sem.wp (calmM M) Γ t (fun a p s₁ => SFix s₁ ∧ Q a p s₁) (fun a p s₁ => SFix s₁ ∧ E a p s₁) p s := by
  induction t with
  | pure a => intro Q E p s h hs; exact ⟨hs, h⟩
  | raise a => intro Q E p s h hs; exact ⟨hs, h⟩
  | unsupported w => intro Q E p s h hs; exact h.elim
  | finish w => intro Q E p s h hs; exact h.elim
  | rule tag k ih => intro Q E p s h hs; exact ih () h hs
  | «at» q k ih => intro Q E p s h hs; exact ih () h hs
  | load a q k ih => intro Q E p s h hs; obtain ⟨o, ho, h⟩ := h; exact ⟨o, ho, ih o h hs⟩
  | update a q f k ih => intro Q E p s h hs; obtain ⟨ho, h⟩ := h; exact ⟨ho, ih () h hs⟩
  | alloc o k ih => intro Q E p s h hs; exact ih _ h hs
  | loadIfAlive a k ih => intro Q E p s h hs; exact ih _ h hs
  | point l k ih => intro Q E p s h hs; exact ih () h hs
  | register a k ih => intro Q E p s h hs; exact h.elim
  | fresh k ih => intro Q E p s h hs; exact ih _ h hs
  | ask k ih => intro Q E p s h hs; exact ih _ h hs
  | choose src n k ih => intro Q E p s h hs; obtain ⟨hn, h⟩ := h; exact ⟨hn, ih _ h hs⟩
  | os q l k ih => intro Q E p s h hs; exact ih _ h hs
  | call c hd g l k ih => intro Q E p s h hs; obtain ⟨r, s₁, h₁, h₂⟩ := h; exact ⟨r, s₁, h₁, ih r h₂ (returns_fix h₁ hs)⟩
  | handled o k ih => intro Q E p s h hs; exact ih _ h hs
  | newGen c k ih => intro Q E p s h hs; exact ih _ h (hs.pushGen trivial)
  | genState g k ih => intro Q E p s h hs; obtain ⟨x, hx, h⟩ := h; exact ⟨x, hx, ih _ h hs⟩
  | resume g r l k ih => intro Q E p s h hs; obtain ⟨res, s₁, h₁, h₂⟩ := h; exact ⟨res, s₁, h₁, ih res h₂ (wakes_fix h₁ hs)⟩
  | yield v g l k ih => intro Q E p s h hs; exact h.elim
  | stack k ih => intro Q E p s h hs; exact ih _ h hs
  | fork c k ih => intro Q E p s h hs; exact h.elim
  | thread k ih => intro Q E p s h hs; exact ih _ h hs
  | await a f d l k ih => intro Q E p s h hs; exact h.elim
end
theorem fix_any {M : Model} {α : Type} {A : Around} {t : Sem α} {Q : α → Shared → Prop} {E : Value → Shared → Prop} {s : Shared} (hs : SFix s) (h : wpAny (calmM M) A t Q E s) :
    wpAny (calmM M) A t (fun a s₁ => SFix s₁ ∧ Q a s₁) (fun e s₁ => SFix s₁ ∧ E e s₁) s := fun Γ p hΓ => wp_fix (h Γ p hΓ) hs
theorem fix_code {M : Model} {A : Around} {c : Code} {R : Result → Shared → Prop} {s : Shared} (hs : SFix s) (h : codeAny (calmM M) A c R s) : codeAny (calmM M) A c (fun r s₁ => SFix s₁ ∧ R r s₁) s := fun Γ p hc hΓ =>
  let ⟨r, s₁, a, b⟩ := h Γ p hc hΓ
  ⟨r, s₁, a, returns_fix a hs, b⟩
end Mine
end
section
open PySem PySem.W PySem.W.X PyProof.Rows PySem.Calls
set_option Elab.async false
set_option maxRecDepth 100000
set_option maxHeartbeats 2000000
namespace Mine
noncomputable abbrev CM (w : World) : Model := calmM (model PR w)
theorem yf_builtin {id : String} {args : Args} (h : id ≠ "proto.yield_from") : yfIt (.builtin id args) = none := by
  unfold yfIt
  split
  · rename_i it _ _ e
    cases e
    rw [if_neg h]
  · rfl
theorem cden {w : World} {c : Code} (h : yfIt c = none) : (CM w).den c = (model PR w).den c := EE_none h _
section
variable {w : World} {A : Around} {E : Value → Shared → Prop} {s : Shared}
theorem codeC_builtin {id : String} {args : Args} {b : Builtin} {R : Result → Shared → Prop} (hid : id ≠ "proto.yield_from") (hb : entryFor table id = some b)
    (h : wpAny (CM w) (A.under (.builtin id args)) (b args)
      (fun fin s' => match fin with | .done f => R (.ok f) s' | .again c' => c'.quiet = true ∧ codeAny (CM w) A c' R s') (fun e s' => R (.error e) s') s) :
    codeAny (CM w) A (.builtin id args) R s := by
  refine codeAny_of_tree ?_
  rw [cden (yf_builtin hid)]
  show wpAny _ _ (match entryFor table id with | some b => b args | none => unsupported ((withoutEnding? id "#data").getD id)) _ _ s
  rw [hb]; exact h
theorem codeC_call_builtin {id : String} {args : Args} {b : Builtin} {R : Result → Shared → Prop} (hid : id ≠ "proto.yield_from") (hq : plainId id = true) (hb : entryFor table id = some b)
    (h : wpAny (CM w) A.in1 (checkBuiltinCall id args) (fun _ s₁ => wpAny (CM w) A.in1 (b args)
      (fun fin s' => match fin with | .done f => R (.ok f) s' | .again c' => c'.quiet = true ∧ codeAny (CM w) A c' R s') (fun e s' => R (.error e) s') s₁)
      (fun e s' => R (.error e) s') s) : codeAny (CM w) A (.call (.builtin id) args) R s := by
  refine codeAny_of_tree ?_
  rw [cden rfl]
  show wpAny _ A.in1 (do checkBuiltinCall id args; again (.builtin id args)) _ _ s
  refine wpAny_bind (wpAny_mono h (fun _ s₁ h₁ => wpAny_pure (And.intro (plainId_quiet hq args) (codeC_builtin hid hb ?_))) fun _ _ h' => h')
  rw [Around.under_plainId hq args]; exact h₁
theorem call_entryC {T : String} {name : Str} {id : String} {b : Builtin} {self : Value} {rest : List Value} {Q : Value → Shared → Prop} (hid : id ≠ "proto.yield_from") (h : Slot T name id) (hT : s.TypeIs self T)
    (hb : entryFor table id = some b)
    (hc : wpAny (CM w) A.in1 (b ⟨self :: rest, []⟩) (fun fin s' => ∃ v, fin = .done (.ret v) ∧ Q v s') E s)
    (ha : argsOk id ⟨self :: rest, []⟩ := by rfl) :
    wpAny (CM w) A (call (.builtin id) (self :: rest)) Q E s := by
  refine wpAny_call (codeC_call_builtin hid h.plain hb (h.check _ _ _ _ _ _ _ _ hT ha (wpAny_mono hc (fun fin s' h' => ?_) fun _ _ h' => h')))
  obtain ⟨v, rfl, hv⟩ := h'; exact hv
end
/-- a generator that nobody sleeps over -/
def IsG (h : Heap) (a : Addr) (g : Nat) : Prop :=
  ∃ o nm qn, h.get? a = some o ∧ o.cls = .type "generator" ∧ o.data = .fields #[.int g 0, nm, qn] ∧ (o.slots = #[] ∨ o.slots = #[some (.int 0 0)])
theorem IsG.typeIs {s : Shared} {a g} (x : IsG s.heap a g) : s.TypeIs (.ref a) "generator" := let ⟨o, _, _, ho, hc, _⟩ := x; ⟨o, ho, hc⟩
theorem IsG.at {h h' : Heap} {a g} (x : IsG h a g) (k : ∀ o, h.get? a = some o → h'.get? a = some o) : IsG h' a g := let ⟨o, nm, qn, ho, r⟩ := x; ⟨o, nm, qn, k _ ho, r⟩
theorem genNumberG {M : Model} {A : Around} {E : Value → Shared → Prop} {s : Shared} {a : Addr} {g : Nat} {Q : Nat → Shared → Prop} (hg : IsG s.heap a g) (h : Q g s) :
    wpAny M A (Builtin.Generator.genNumber (.ref a)) Q E s := by
  obtain ⟨o, nm, qn, ho, _, hd, hsl⟩ := hg
  unfold Builtin.Generator.genNumber
  refine wpAny_bind (wpAny_load ho ?_)
  rcases hsl with hsl | hsl
  · rw [hsl, hd]
    show wpAny M A (pure ((g : Int).toNat)) Q E s
    rw [Int.toNat_natCast]; exact wpAny_pure h
  · rw [hsl, hd]
    show wpAny M A (pure ((g : Int).toNat)) Q E s
    rw [Int.toNat_natCast]; exact wpAny_pure h
/-- what a generator's turn keeps -/
structure Kp (B : Nat) (C : Addr) (G : Nat) (s s' : Shared) : Prop where
  heap : ∀ b o, b < B → b ≠ C → s.heap.get? b = some o → s'.heap.get? b = some o
  hsz : s.heap.objs.size ≤ s'.heap.objs.size
  gens : ∀ k : Nat, k < G → s'.gens[k]? = s.gens[k]?
  gsz : s.gens.size ≤ s'.gens.size
  os : s'.os = s.os
/-- what its user keeps between the turns -/
structure Rl (X : Addr → Prop) (G : Nat) (s s' : Shared) : Prop where
  heap : ∀ b o, ¬ X b → s.heap.get? b = some o → s'.heap.get? b = some o
  hsz : s.heap.objs.size ≤ s'.heap.objs.size
  gens : ∀ k : Nat, G ≤ k → s'.gens[k]? = s.gens[k]?
  gsz : s.gens.size ≤ s'.gens.size
  fix : SFix s'
theorem Kp.refl (B C G s) : Kp B C G s s := ⟨fun _ _ _ _ e => e, Nat.le_refl _, fun _ _ => rfl, Nat.le_refl _, rfl⟩
theorem Kp.trans {B C G s s' s''} (x : Kp B C G s s') (y : Kp B C G s' s'') : Kp B C G s s'' :=
  ⟨fun b o h1 h2 e => y.heap b o h1 h2 (x.heap b o h1 h2 e), Nat.le_trans x.hsz y.hsz, fun k h => (y.gens k h).trans (x.gens k h), Nat.le_trans x.gsz y.gsz, y.os.trans x.os⟩
theorem Rl.trans {X G s s' s''} (x : Rl X G s s') (y : Rl X G s' s'') : Rl X G s s'' :=
  ⟨fun b o h e => y.heap b o h (x.heap b o h e), Nat.le_trans x.hsz y.hsz, fun k h => (y.gens k h).trans (x.gens k h), Nat.le_trans x.gsz y.gsz, y.fix⟩
def FinAt (G : Nat) (s : Shared) : Prop := ∀ (k : Nat) (x : GenState), G ≤ k → s.gens[k]? = some x → x = .finished
def GRf (B : Nat) (C : Addr) (G : Nat) : GenEnd := fun n s₀ r s₁ => n = 0 ∧ r = .ok (.ret .none) ∧ Kp B C G s₀ s₁ ∧ FinAt G s₁
def GYf (B : Nat) (C : Addr) (G : Nat) (X : Addr → Prop) (vsR : List Value) : Protocol := fun n s₀ v s₁ kap => vsR[n]? = some v ∧ SFix s₁ ∧ Kp B C G s₀ s₁ ∧ ∀ s₂, Rl X G s₁ s₂ → kap (.send .none) s₂
/-- generator g waits, n values are left -/
def Ready (w : World) (A : Around) (B : Nat) (C : Addr) (G : Nat) (X : Addr → Prop) (vsR : List Value) (g n : Nat) (s : Shared) : Prop :=
  ∃ gs, s.gens[g]? = some gs ∧ ∀ s', Rl X G s s' → gs.Goes (CM w) A (GRf B C G) (GYf B C G X vsR) n (.send .none) s'
theorem Ready.keep {w A B C G X vsR g n s s'} (x : Ready w A B C G X vsR g n s) (r : Rl X G s s') (e : s'.gens[g]? = s.gens[g]?) : Ready w A B C G X vsR g n s' :=
  let ⟨gs, h1, h2⟩ := x; ⟨gs, e.trans h1, fun s'' r' => h2 s'' (r.trans r')⟩
theorem setGen_other {s : Shared} {g k : Nat} {x : GenState} (h : k ≠ g) : (s.setGen g x).gens[k]? = s.gens[k]? := by
  simp only [Shared.setGen, Array.getElem?_setIfInBounds]
  rw [if_neg (Ne.symm h)]
theorem setGen_self {s : Shared} {g : Nat} {x y : GenState} (h : s.gens[g]? = some y) : (s.setGen g x).gens[g]? = some x := by
  simp only [Shared.setGen, Array.getElem?_setIfInBounds]
  have := (Array.getElem?_eq_some_iff.mp h).1
  simp [this]
/-- what a user sees of one turn -/
structure Tn (B : Nat) (C : Addr) (G g : Nat) (s s' : Shared) : Prop where
  heap : ∀ b o, b < B → b ≠ C → s.heap.get? b = some o → s'.heap.get? b = some o
  hsz : s.heap.objs.size ≤ s'.heap.objs.size
  gens : ∀ k : Nat, k < G → k ≠ g → s'.gens[k]? = s.gens[k]?
  gsz : s.gens.size ≤ s'.gens.size
  os : s'.os = s.os
theorem Tn.of {B C G g s s₁ x} (k : Kp B C G (s.setGen g .running) s₁) : Tn B C G g s (s₁.setGen g x) :=
  ⟨k.heap, k.hsz, fun i h1 h2 => (setGen_other h2).trans ((k.gens i h1).trans (setGen_other h2)), by have := k.gsz; simpa [Shared.setGen] using this, k.os⟩
def StopAt (h : Heap) (e : Addr) : Prop := ∃ o vs, h.get? e = some o ∧ o.cls = .type "StopIteration" ∧ o.data = .fields vs ∧ vs[5]? = some .none
theorem nextC {w : World} {A : Around} {E : Value → Shared → Prop} {s : Shared} {a : Addr} {g n : Nat} {B : Nat} {C : Addr} {G : Nat} {X : Addr → Prop} {vsR : List Value} {Q : Value → Shared → Prop} (hh : A.handled = none)
    (hl : s.heap.NoLimit) (hroom : A.depth < recursionLimit) (hg : IsG s.heap a g) (hr : Ready w A.in1 B C G X vsR g n s) (hgG : g < G) (hs : SFix s)
    (hY : ∀ m v s₁, n = m + 1 → vsR[m]? = some v → Tn B C G g s s₁ → Ready w A.in1 B C G X vsR g m s₁ → Q v s₁)
    (hP : ∀ e s₁, n = 0 → Tn B C G g s s₁ → FinAt G s₁ → s₁.gens[g]? = some .finished → StopAt s₁.heap e → E (.ref e) s₁) :
    wpAny (CM w) A (callSpecial? (.ref a) "__next__") (fun r s₁ => ∃ v, r = some v ∧ Q v s₁) E s := by
  refine wpAny_callSpecial?_slot (name := Str.ofString "__next__") hg.typeIs slot_gen_next (call_entryC (by decide) slot_gen_next hg.typeIs entry_gen_next ?_ (args_gen_next _))
  show wpAny _ _ (Builtin.Generator.genWake (.ref a) (.send .none)) _ _ s
  obtain ⟨gs, hgs, hgo⟩ := hr
  have hgo := hgo (s.setGen g .running) ⟨fun _ _ _ e => e, Nat.le_refl _, fun k hk => setGen_other (Nat.ne_of_gt (Nat.lt_of_lt_of_le hgG hk)), by simp [Shared.setGen], hs.setGen _ trivial⟩
  unfold Builtin.Generator.genWake
  refine wpAny_bind (wpAny_holding (genNumberG hg (wpAny_bind (wpAny_genState hgs ?_))))
  cases gs with
  | running => exact hgo.elim
  | finished => exact hgo.elim
  | _ =>
    refine wpAny_bind (wpAny_roomToWake hl hroom ?_)
    show wpAny _ _ (.resume g (.send .none) [] _) _ _ s
    refine wpAny_resume hgs hgo (fun x s₁ hx => ?_) (fun v s₁ gs' hv => ?_)
    · obtain ⟨hn, rfl, hk, hf⟩ := hx
      show wpAny _ _ (newExc (.type "StopIteration") [] >>= _) _ _ _
      refine wpAny_bind ?_
      simp only [newExc, newTuple]
      refine wpAny_bind (wpAny_newObj_type ?_ (by size_fits))
      refine wpAny_bind (m := firstArgMember _ _) (wpAny_of_eq (a := Value.none) (by first | rfl | (simp only [firstArgMember]; rfl)) ?_)
      refine wpAny_newObj_type ?_ (by size_fits)
      simp only [raiseNew]
      refine wpAny_bind (wpAny_bind (wpAny_handled ?_))
      rw [show A.in1.handled = none from hh]
      refine wpAny_throw ?_
      have hT := Tn.of (x := .finished) hk
      have hg1 : s₁.gens[g]? = some .running := (hk.gens g hgG).trans (setGen_self hgs)
      refine hP _ _ hn ⟨fun b o h1 h2 e => Heap.get?_push_of_some _ (Heap.get?_push_of_some _ (hT.heap b o h1 h2 e)), ?_, hT.gens, hT.gsz, hT.os⟩ ?_ (setGen_self hg1) ⟨_, _, Heap.get?_push_size _ rfl, rfl, rfl, rfl⟩
      · have := hT.hsz; simp only [Heap.size_push]; omega
      · intro k x hk1 hx
        have hkg : k ≠ g := fun e => by omega
        exact hf k x hk1 ((setGen_other hkg).symm.trans hx)
    · obtain ⟨hv1, hfx, hk, hka⟩ := hv
      have hg1 : s₁.gens[g]? = some .running := (hk.gens g hgG).trans (setGen_self hgs)
      cases n with
      | zero =>
        exact (hka s₁ ⟨fun _ _ _ e => e, Nat.le_refl _, fun _ _ => rfl, Nat.le_refl _, hfx⟩).elim
      | succ m =>
        refine wpAny_pure ⟨v, rfl, ⟨v, rfl, hY m v _ rfl hv1 (Tn.of hk) ⟨gs', setGen_self hg1, fun s' r => hka s' ⟨r.heap, r.hsz, fun k h => ?_, by have := r.gsz; simpa [Shared.setGen] using this, r.fix⟩⟩⟩⟩
        exact (r.gens k h).trans (setGen_other (by omega))
end Mine
end
section
open PySem PySem.W PySem.W.X PyProof.Rows PySem.Calls
set_option Elab.async false
set_option maxRecDepth 100000
set_option maxHeartbeats 2000000
namespace Mine
theorem runs_calm {M : Model} {α : Type} {Γ : Ctx} {fs : List Frame} {Φ : End → Shared → Prop} (it : Value) (K : α → Sem Fin) (H : Value → Sem Fin) (gd lv) (m : Sem α) :
    ∀ {Q : α → Pos → Shared → Prop} {E : Value → Pos → Shared → Prop} {p : Pos} {s : Shared}, Sem.wp M (Γ.over fs) m Q E p s →
      (∀ a p' s', Q a p' s' → ∃ e s'', Runs M Γ p' (calmT it (K a)) fs s' e s'' ∧ Φ e s'') →
      (∀ x p' s', E x p' s' → ∃ e s'', Runs M Γ p' (calmT it (H x)) fs s' e s'' ∧ Φ e s'') →
      ∃ e s'', Runs M Γ p (calmT it (m.wrap K H gd lv)) fs s e s'' ∧ Φ e s'' := by
  induction m with
  | pure a => intro Q E p s h hQ _; exact hQ a p s h
  | raise x => intro Q E p s h _ hE; exact hE x p s h
  | unsupported what => intro Q E p s h; exact h.elim
  | finish x => intro Q E p s h; exact h.elim
  | register a k => intro Q E p s h; exact h.elim
  | yield v g l k => intro Q E p s h; exact h.elim
  | fork c k => intro Q E p s h; exact h.elim
  | await a f d l k => intro Q E p s h; exact h.elim
  | rule tag k ih => intro Q E p s h hQ hE; obtain ⟨e, s'', hr, hΦ⟩ := ih () h hQ hE; exact ⟨e, s'', Runs.head' (fun _ _ x => .rule x) hr, hΦ⟩
  | «at» p' k ih => intro Q E p s h hQ hE; obtain ⟨e, s'', hr, hΦ⟩ := ih () h hQ hE; exact ⟨e, s'', Runs.head' (fun _ _ x => .at x) hr, hΦ⟩
  | load a part k ih =>
    intro Q E p s h hQ hE; obtain ⟨o, ho, h⟩ := h
    obtain ⟨e, s'', hr, hΦ⟩ := ih o h hQ hE; exact ⟨e, s'', Runs.head' (fun _ _ x => .load ho x) hr, hΦ⟩
  | update a part f k ih =>
    intro Q E p s h hQ hE; obtain ⟨ha, h⟩ := h
    obtain ⟨e, s'', hr, hΦ⟩ := ih () h hQ hE; exact ⟨e, s'', Runs.head' (fun _ _ x => .update ha x) hr, hΦ⟩
  | alloc o k ih => intro Q E p s h hQ hE; obtain ⟨e, s'', hr, hΦ⟩ := ih _ h hQ hE; exact ⟨e, s'', Runs.head' (fun _ _ x => .alloc x) hr, hΦ⟩
  | loadIfAlive a k ih => intro Q E p s h hQ hE; obtain ⟨e, s'', hr, hΦ⟩ := ih _ h hQ hE; exact ⟨e, s'', Runs.head' (fun _ _ x => .loadIfAlive x) hr, hΦ⟩
  | point l k ih => intro Q E p s h hQ hE; obtain ⟨e, s'', hr, hΦ⟩ := ih () h hQ hE; exact ⟨e, s'', Runs.head' (fun _ _ x => .point x) hr, hΦ⟩
  | fresh k ih => intro Q E p s h hQ hE; obtain ⟨e, s'', hr, hΦ⟩ := ih _ h hQ hE; exact ⟨e, s'', Runs.head' (fun _ _ x => .fresh x) hr, hΦ⟩
  | ask k ih => intro Q E p s h hQ hE; obtain ⟨e, s'', hr, hΦ⟩ := ih _ h hQ hE; exact ⟨e, s'', Runs.head' (fun _ _ x => .ask x) hr, hΦ⟩
  | choose src n k ih =>
    intro Q E p s h hQ hE; obtain ⟨hn, h⟩ := h
    obtain ⟨e, s'', hr, hΦ⟩ := ih _ h hQ hE; exact ⟨e, s'', Runs.head' (fun _ _ x => .choose hn x) hr, hΦ⟩
  | os q l k ih => intro Q E p s h hQ hE; obtain ⟨e, s'', hr, hΦ⟩ := ih _ h hQ hE; exact ⟨e, s'', Runs.head' (fun _ _ x => .os x) hr, hΦ⟩
  | call c h g l k ih =>
    intro Q E p s hw hQ hE; obtain ⟨r, s₁, hret, hw⟩ := hw
    obtain ⟨e, s'', hr, hΦ⟩ := ih r hw hQ hE; exact ⟨e, s'', Runs.head' (fun _ _ x => .call hret x) hr, hΦ⟩
  | handled own k ih => intro Q E p s h hQ hE; obtain ⟨e, s'', hr, hΦ⟩ := ih _ h hQ hE; exact ⟨e, s'', Runs.head' (fun _ _ x => .handled x) hr, hΦ⟩
  | newGen c k ih => intro Q E p s h hQ hE; obtain ⟨e, s'', hr, hΦ⟩ := ih _ h hQ hE; exact ⟨e, s'', Runs.head' (fun _ _ x => .newGen x) hr, hΦ⟩
  | genState g k ih =>
    intro Q E p s h hQ hE; obtain ⟨st, hg, h⟩ := h
    obtain ⟨e, s'', hr, hΦ⟩ := ih _ h hQ hE; exact ⟨e, s'', Runs.head' (fun _ _ x => .genState hg x) hr, hΦ⟩
  | resume g r l k ih =>
    intro Q E p s h hQ hE; obtain ⟨res, s₁, hwk, h⟩ := h
    obtain ⟨e, s'', hr, hΦ⟩ := ih res h hQ hE
    exact ⟨e, s'', Runs.head' (fun _ _ x => (Sem.runs_resume_iff M _).mpr ⟨res, s₁, hwk, x⟩) hr, hΦ⟩
  | stack k ih => intro Q E p s h hQ hE; obtain ⟨e, s'', hr, hΦ⟩ := ih _ h hQ hE; exact ⟨e, s'', Runs.head' (fun _ _ x => .stack x) hr, hΦ⟩
  | thread k ih => intro Q E p s h hQ hE; obtain ⟨e, s'', hr, hΦ⟩ := ih _ h hQ hE; exact ⟨e, s'', Runs.head' (fun _ _ x => .thread x) hr, hΦ⟩
section
variable {M : Model} {A : Around} {R : GenEnd} {Y : Protocol} {n : Nat} {s₀ : Shared} {c : Code} {fs : List Frame} {s : Shared}
theorem seg_calm {α : Type} {it : Value} {m : Sem α} {K : α → Sem Fin}
    (h : wpAny M (A.over c fs) m (fun a s' => Seg M A R Y n s₀ c (calmT it (K a)) fs s') (fun x s' => Seg M A R Y n s₀ c (.raise x) fs s') s) :
    Seg M A R Y n s₀ c (calmT it (m >>= K)) fs s := by
  rw [Sem.bind_eq_wrap', seg_iff]
  rintro Γ p rfl hΓ
  exact runs_calm it K .raise id id m (h (Γ.over fs) p (hΓ.over fs)) (fun a p' s' h' => seg_iff.mp h' Γ p' rfl hΓ)
    (fun x p' s' h' => seg_iff.mp h' Γ p' rfl hΓ)
theorem seg_load {a : Addr} {o : Obj} {q : Option Value} {k : Obj → Sem Fin} (ho : s.heap.get? a = some o) (h : Seg M A R Y n s₀ c (k o) fs s) : Seg M A R Y n s₀ c (.load a q k) fs s :=
  seg_wrap (m := loadPart a q) (K := k) (H := .raise) (gd := id) (lv := id) (wpAny_loadPart ho h)
/-- a delegating turn's yield -/
theorem seg_calm_yield {a : Addr} {o : Obj} {v : Value} {k : Resume → Sem Fin} (ho : s.heap.get? a = some o) (hg : o.genNumber?.isSome = true) (hfs : splitAtGen fs = none) (hfg : fs.any Frame.guarded = false)
    (h : Y n s₀ v s fun r s'' => Seg M A R Y n s'' c (calmT (.ref a) (k r)) fs s'') : Seg M A R Y (n + 1) s₀ c (calmT (.ref a) (suspend v (cleanup := true) >>= k)) fs s := by
  show Seg M A R Y (n + 1) s₀ c (.load a none fun o => if o.genNumber?.isSome = true then .yield v false [] (fun x => calmT (.ref a) (k x)) else .unsupported "delegate") fs s
  refine seg_load ho ?_
  rw [if_pos hg]
  exact seg_yield hfs rfl hfg h
end
end Mine
end
section
open PySem PySem.W PySem.W.X PyProof.Rows PySem.Calls
set_option Elab.async false
set_option maxRecDepth 100000
set_option maxHeartbeats 2000000
namespace Mine
abbrev cY (a : Addr) : Code := .builtin "proto.yield_from" ⟨[.ref a, .bool false, .none], []⟩
theorem entry_yf : entryFor table "proto.yield_from" = some Builtin.«proto.yield_from» := entryFor_of_fast (by kernel_rfl)
theorem den_builtin {w : World} {id : String} {args : Args} {b : Builtin} (hb : entryFor table id = some b) : (model PR w).den (.builtin id args) = b args := by
  show (match entryFor table id with | some b => b args | none => unsupported ((withoutEnding? id "#data").getD id)) = _
  rw [hb]
theorem yf_yes {id : String} {it : Value} {r kw} (h : id = "proto.yield_from") : yfIt (.builtin id ⟨it :: r, kw⟩) = some it := if_pos h
theorem cY_den0 {w : World} {id : String} {b : Builtin} {it : Value} {r : List Value} (h : id = "proto.yield_from") (hb : entryFor table id = some b) :
    (CM w).den (.builtin id ⟨it :: r, []⟩) = calmT it (b ⟨it :: r, []⟩) := by
  show EE _ ((model PR w).den _) = _
  rw [EE_some (yf_yes h), den_builtin hb]
theorem cY_den {w : World} {a : Addr} : (CM w).den (cY a) = calmT (.ref a) (Builtin.«proto.yield_from» ⟨[.ref a, .bool false, .none], []⟩) := cY_den0 rfl entry_yf
theorem genClose : typeLookup (.type "generator") "close" = pure (some (.builtin "generator.close")) := by rw [typeLookup_type, builtinLookup_eq_fast]; kernel_rfl
theorem setSlotG {M : Model} {A : Around} {E : Value → Shared → Prop} {s : Shared} {a : Addr} {o : Obj} {v : Option Value} {Q : Unit → Shared → Prop} (ho : s.heap.get? a = some o) (hd : ∃ vs, o.data = .fields vs) (hsl : o.slots = #[] ∨ ∃ x, o.slots = #[x])
    (h : ∀ h', Heap.SameBut a s.heap h' → h'.get? a = some { o with slots := #[v] } → Q () { s with heap := h' }) : wpAny M A (setSlotAt a 0 v) Q E s := by
  obtain ⟨vs, hd⟩ := hd
  unfold setSlotAt
  rw [if_neg (by decide)]
  refine wpAny_bind (wpAny_pure (wpAny_updatePart ho (h _ (Heap.SameBut.update ..) ?_)))
  rw [Heap.get?_update_self _ ho (Obj.isFreed_of_fields (vs := vs) hd)]
  rcases hsl with e | ⟨x, e⟩ <;> rw [e] <;> rfl
/-- a generator that somebody sleeps over, or not -/
def IsGS (h : Heap) (a : Addr) (g : Nat) (k : Int) : Prop :=
  ∃ o nm qn, h.get? a = some o ∧ o.cls = .type "generator" ∧ o.data = .fields #[.int g 0, nm, qn] ∧ o.slots = #[some (.int k 0)]
theorem slept {M : Model} {A : Around} {E : Value → Shared → Prop} {s : Shared} {a : Addr} {g : Nat} {Q : Unit → Shared → Prop} (hg : IsG s.heap a g)
    (h : ∀ h', Heap.SameBut a s.heap h' → IsGS h' a g 1 → Q () { s with heap := h' }) : wpAny M A (Builtin.Generator.sleptOver (.ref a) true) Q E s := by
  obtain ⟨o, nm, qn, ho, hc, hd, hsl⟩ := hg
  unfold Builtin.Generator.sleptOver
  refine wpAny_bind (wpAny_load ho ?_)
  rw [hc, if_neg (by decide)]
  rcases hsl with e | e
  · rw [e]
    exact wpAny_bind (wpAny_pure (setSlotG ho ⟨_, hd⟩ (.inl e) fun h' hs hg' => h h' hs ⟨_, nm, qn, hg', hc, hd, rfl⟩))
  · rw [e]
    exact wpAny_bind (wpAny_pure (setSlotG ho ⟨_, hd⟩ (.inr ⟨_, e⟩) fun h' hs hg' => h h' hs ⟨_, nm, qn, hg', hc, hd, rfl⟩))
theorem woke {M : Model} {A : Around} {E : Value → Shared → Prop} {s : Shared} {a : Addr} {g : Nat} {Q : Unit → Shared → Prop} (hg : IsGS s.heap a g 1)
    (h : ∀ h', Heap.SameBut a s.heap h' → IsG h' a g → Q () { s with heap := h' }) : wpAny M A (Builtin.Generator.sleptOver (.ref a) false) Q E s := by
  obtain ⟨o, nm, qn, ho, hc, hd, e⟩ := hg
  unfold Builtin.Generator.sleptOver
  refine wpAny_bind (wpAny_load ho ?_)
  rw [hc, if_neg (by decide), e]
  exact wpAny_bind (wpAny_pure (setSlotG ho ⟨_, hd⟩ (.inr ⟨_, e⟩) fun h' hs hg' => h h' hs ⟨_, nm, qn, hg', hc, hd, .inr rfl⟩))
end Mine
end
section
open PySem PySem.W PySem.W.X PyProof.Rows PySem.Calls
set_option Elab.async false
set_option maxRecDepth 100000
set_option maxHeartbeats 2000000
namespace Mine
theorem endsValue {M : Model} {A : Around} {E : Value → Shared → Prop} {s : Shared} {e : Addr} {Q : Bool → Shared → Prop} (he : StopAt s.heap e) (h : Q true s) : wpAny M A (Builtin.Generator.endsTheTurnAsAValue false (.ref e)) Q E s := by
  obtain ⟨o, vs, ho, hc, hd, h5⟩ := he
  have hT : s.TypeIs (.ref e) "StopIteration" := ⟨o, ho, hc⟩
  unfold Builtin.Generator.endsTheTurnAsAValue Builtin.Generator.isStopAndMetaclass
  refine wpAny_bind (wpAny_bind (wpAny_typeOf hT ?_))
  refine wpAny_bind (wpAny_of_eq isSubtype_stop ?_)
  refine wpAny_bind (wpAny_of_eq (a := Value.type "type") (by rfl) (wpAny_pure ?_))
  exact wpAny_pure h
theorem ltz {h : Heap} {b : Nat} {o : Obj} (e : h.get? b = some o) : b < h.objs.size := Heap.lt_size e
theorem yf_loop {w : World} {A : Around} {B : Nat} {C : Addr} {G : Nat} {X : Addr → Prop} {vsR : List Value} {fs : List Frame} {a C₁ : Nat} {g₁ B₁ : Nat} {vs₁ : List Value} {hK : Heap} {r : Nat}
    (hfs : splitAtGen fs = none) (hfg : fs.any Frame.guarded = false) (hh : (A.over (cY a) fs).handled = none) (hroom : (A.over (cY a) fs).depth < recursionLimit)
    (hG : G ≤ g₁) (hB : B ≤ hK.objs.size) (hC1 : hK.objs.size ≤ C₁) (ha : hK.objs.size ≤ a) (haC : a ≠ C₁) (haB : a < B₁) (hX : ∀ b : Nat, X b → b < hK.objs.size)
    (hlim : ∀ h : Heap, (∀ b o, ¬X b → hK.get? b = some o → h.get? b = some o) → h.NoLimit)
    (hv : ∀ (k : Nat) v, vs₁[k]? = some v → vsR[k + r]? = some v)
    (hend : ∀ s₀' s', Kp B C G s₀' s' → (∀ b o, ¬X b → hK.get? b = some o → s'.heap.get? b = some o) → hK.objs.size ≤ s'.heap.objs.size → G ≤ s'.gens.size → SFix s' → FinAt G s' →
      Seg (CM w) A (GRf B C G) (GYf B C G X vsR) r s₀' (cY a) (leafOf (.ok (.ret .none))) fs s') :
    ∀ m s₀ s, Kp B C G s₀ s → IsG s.heap a g₁ → (∀ b o, ¬X b → hK.get? b = some o → s.heap.get? b = some o) → B₁ ≤ s.heap.objs.size →
      Ready w (A.over (cY a) fs).in1 B₁ C₁ (g₁ + 1) (fun b => X b ∨ b = a) vs₁ g₁ m s → SFix s → (∀ (k : Nat) x, G ≤ k → k < g₁ → s.gens[k]? = some x → x = .finished) →
      Seg (CM w) A (GRf B C G) (GYf B C G X vsR) (m + r) s₀ (cY a) ((CM w).den (cY a)) fs s := by
  intro m
  induction m using Nat.strongRecOn with
  | ind m ih =>
    intro s₀ s hk hg hb hB1 hr hs hf
    rw [cY_den]
    unfold Builtin.«proto.yield_from»
    dsimp only
    refine seg_calm (wpAny_pure ?_)
    refine seg_calm (wpAny_attempt (wpAny_holding ?_))
    rw [if_neg (by decide)]
    show wpAny _ _ (rule "yield-from.next" >>= _) _ _ s
    refine wpAny_bind (wpAny_rule (wpAny_bind ?_))
    refine wpAny_mono (fix_any hs (nextC hh (hlim _ hb) hroom hg hr (Nat.lt_succ_self _) hs (Q := fun v s₁ => ∃ m', m = m' + 1 ∧ vs₁[m']? = some v ∧ Tn B₁ C₁ (g₁ + 1) g₁ s s₁ ∧ Ready w (A.over (cY a) fs).in1 B₁ C₁ (g₁ + 1) (fun b => X b ∨ b = a) vs₁ g₁ m' s₁)
      (E := fun e s₁ => ∃ e', e = .ref e' ∧ m = 0 ∧ Tn B₁ C₁ (g₁ + 1) g₁ s s₁ ∧ FinAt (g₁ + 1) s₁ ∧ s₁.gens[g₁]? = some .finished ∧ StopAt s₁.heap e')
      (fun m' v s₁ h1 h2 h3 h4 => ⟨m', h1, h2, h3, h4⟩) (fun e s₁ h1 h2 h3 h4 h5 => ⟨e, rfl, h1, h2, h3, h4, h5⟩))) (fun v s₁ h => ?_) (fun e s₁ h => ?_)
    · obtain ⟨hs₁, v, rfl, m', rfl, hv1, hT, hr₁⟩ := h
      refine wpAny_pure ?_
      dsimp only
      have hg₁ : IsG s₁.heap a g₁ := hg.at fun o e => hT.heap a o haB haC e
      have hb₁ : ∀ b o, ¬X b → hK.get? b = some o → s₁.heap.get? b = some o := fun b o h1 e => hT.heap b o (by have := ltz e; omega) (by have := ltz e; omega) (hb b o h1 e)
      have hk₁ : Kp B C G s₀ s₁ := hk.trans ⟨fun b o h1 _ e => hT.heap b o (by omega) (by omega) e, hT.hsz, fun k h1 => hT.gens k (by omega) (by omega), hT.gsz, hT.os⟩
      have hf₁ : ∀ (k : Nat) x, G ≤ k → k < g₁ → s₁.gens[k]? = some x → x = .finished := fun k x h1 h2 e => hf k x h1 h2 ((hT.gens k (by omega) (by omega)).symm.trans e)
      have hB1' := hT.hsz
      refine seg_calm (wpAny_typeOf hg₁.typeIs ?_)
      dsimp only
      refine seg_calm (wpAny_of_eq genClose ?_)
      refine seg_calm (wpAny_pure ?_)
      refine seg_calm (slept hg₁ fun h₂ S₂ g₂ => ?_)
      obtain ⟨o₂, nm, qn, ho₂, hc₂, hd₂, hsl₂⟩ := id g₂
      show Seg (CM w) A (GRf B C G) (GYf B C G X vsR) (m' + 1 + r) s₀ (cY a) (calmT (.ref a) (suspend v (cleanup := true) >>= _)) fs _
      rw [show m' + 1 + r = (m' + r) + 1 by omega]
      refine seg_calm_yield (o := o₂) ho₂ (by unfold Obj.genNumber?; rw [hc₂, hd₂]; rfl) hfs hfg ⟨hv _ _ hv1, hs₁, hk₁.trans ⟨fun b o h1 _ e => S₂.extBut b o (Nat.ne_of_lt (by omega)) e, Nat.le_of_eq S₂.1.symm, fun _ _ => rfl, Nat.le_refl _, rfl⟩, fun s₂ R₂ => ?_⟩
      have haX : ¬ X a := fun h => by have := hX a h; omega
      have g₃ : IsGS s₂.heap a g₁ 1 := ⟨o₂, nm, qn, R₂.heap a o₂ haX ho₂, hc₂, hd₂, hsl₂⟩
      refine seg_calm (woke g₃ fun h₄ S₄ g₄ => ?_)
      refine seg_calm (wpAny_pure ?_)
      refine seg_again (Code.quiet_builtin _ (by decide +kernel)) ?_
      have hgg := R₂.gens g₁ hG
      dsimp only at hgg
      refine ih m' (Nat.lt_succ_self _) s₂ _ ⟨fun b o h1 _ e => S₄.extBut b o (Nat.ne_of_lt (by omega)) e, Nat.le_of_eq S₄.1.symm, fun _ _ => rfl, Nat.le_refl _, rfl⟩ g₄ ?_ ?_ ?_ R₂.fix ?_
      · intro b o h1 e
        have := ltz e
        exact S₄.extBut b o (Nat.ne_of_lt (by omega)) (R₂.heap b o h1 (S₂.extBut b o (Nat.ne_of_lt (by omega)) (hb₁ b o h1 e)))
      · have h1 := R₂.hsz; have h2 := S₄.1; have h3 := S₂.1; dsimp only at h1 h2 h3 ⊢; omega
      · refine hr₁.keep ⟨?_, ?_, ?_, ?_, R₂.fix⟩ hgg
        · intro b o h1 e
          exact S₄.extBut b o (fun z => h1 (.inr z)) (R₂.heap b o (fun z => h1 (.inl z)) (S₂.extBut b o (fun z => h1 (.inr z)) e))
        · have h1 := R₂.hsz; have h2 := S₄.1; have h3 := S₂.1; dsimp only at h1 h2 h3 ⊢; omega
        · exact fun k h1 => R₂.gens k (by omega)
        · exact R₂.gsz
      · exact fun k x h1 h2 e => hf₁ k x h1 h2 ((R₂.gens k h1).symm.trans e)
    · obtain ⟨hs₁, e', rfl, rfl, hT, hF, hfin, hst⟩ := h
      dsimp only
      have hb₁ : ∀ b o, ¬X b → hK.get? b = some o → s₁.heap.get? b = some o := fun b o h1 e => hT.heap b o (by have := ltz e; omega) (by have := ltz e; omega) (hb b o h1 e)
      have hk₁ : Kp B C G s₀ s₁ := hk.trans ⟨fun b o h1 _ e => hT.heap b o (by omega) (by omega) e, hT.hsz, fun k h1 => hT.gens k (by omega) (by omega), hT.gsz, hT.os⟩
      refine seg_calm (endsValue hst ?_)
      rw [if_pos rfl, if_neg (by decide)]
      obtain ⟨o, vs, ho, hc, hd, h5⟩ := hst
      refine seg_calm (wpAny_rule (seg_calm (wpAny_field ho hd h5 ?_)))
      rw [Nat.zero_add]
      refine hend s₀ s₁ hk₁ hb₁ (by have := hT.hsz; omega) (Nat.le_trans hG (Nat.le_of_lt (Array.getElem?_eq_some_iff.mp hfin).1)) hs₁ fun k x h1 e => ?_
      by_cases h2 : k < g₁
      · exact hf k x h1 h2 ((hT.gens k (by omega) (by omega)).symm.trans e)
      · by_cases h3 : k = g₁
        · subst h3; rw [hfin] at e; cases e; rfl
        · exact hF k x (by omega) e
end Mine
end
section
open PySem PySem.W PySem.W.X PyProof.Rows PySem.Calls
set_option Elab.async false
set_option maxRecDepth 100000
set_option maxHeartbeats 2000000
namespace Mine
theorem plain_yf : plainId "proto.yield_from" = true := by decide +kernel
theorem weight_yf {a : Addr} : (cY a).weight = 0 := plainId_weight plain_yf _
theorem units_yf {a : Addr} : (cY a).cUnits = 1 := by
  show 1 + 3 * (cY a).frames = 1
  have h : (cY a).frames = 0 := by
    have := weight_yf (a := a)
    unfold Code.weight at this
    omega
  omega
abbrev FY (k : Result → Sem Fin) (c : Code) (p : Pos) : Frame := .ret k none false [] c p []
theorem Ok.bodyG {A : Around} {d : Nat} (o : Ok A (d + 1)) {body : List Stmt} {env : Env} : Ok (A.over (.func body env) []) d := by
  refine ⟨?_, ?_, ?_⟩
  · have := o.depth
    show A.depth + frameCount [] + (Code.func body env).weight + d ≤ 600
    have : (Code.func body env).weight = 1 := rfl
    have : frameCount [] = 0 := rfl
    omega
  · have := o.units
    show A.units + unitsOf [] + (Code.func body env).cUnits + 20 * d ≤ 5000
    have : (Code.func body env).cUnits = 3 := rfl
    have : unitsOf [] = 0 := rfl
    omega
  · exact o.hd
theorem Ok.yfG {A : Around} {d : Nat} (o : Ok A (d + 1)) {body : List Stmt} {env : Env} {a : Addr} {k p} : Ok (A.over (cY a) [FY k (.func body env) p]) d := by
  refine ⟨?_, ?_, ?_⟩
  · have := o.depth
    show A.depth + frameCount [(Code.func body env, p)] + (cY a).weight + d ≤ 600
    have : (Code.func body env).weight = 1 := rfl
    rw [frameCount_cons, weight_yf]
    have : frameCount [] = 0 := rfl
    omega
  · have := o.units
    show A.units + unitsOf [(Code.func body env, p)] + (cY a).cUnits + 20 * d ≤ 5000
    have : (Code.func body env).cUnits = 3 := rfl
    rw [unitsOf_cons, units_yf]
    have : unitsOf [] = 0 := rfl
    omega
  · exact o.hd
theorem yf_split {k c p} : splitAtGen [FY k c p] = none := rfl
theorem yf_guard {k c p} : [FY k c p].any Frame.guarded = false := rfl
section
variable {w : World} {A : Around} {R : GenEnd} {Y : Protocol} {n : Nat} {s₀ : Shared} {c : Code} {fs : List Frame} {s : Shared} {env : Env}
  {K : Flow → Sem Fin} {H : Value → Sem Fin} {gd : Bool → Bool} {lv : List Value → List Value}
theorem iterG {E : Value → Shared → Prop} {a : Addr} {g : Nat} {Q : Value → Shared → Prop} (hg : IsG s.heap a g) (h : Q (.ref a) s) :
    wpAny (CM w) A (pyIter (.ref a)) Q E s := by
  refine wpAny_pyIter_slot hg.typeIs slot_gen_iter (call_entryC (by decide) slot_gen_iter hg.typeIs entry_gen_iter ?_ (args_gen_iter _))
  show wpAny _ _ (ret (.ref a)) _ _ s
  exact wpAny_pure ⟨_, rfl, "generator", _, hg.typeIs, slot_gen_next.lookup, h⟩
theorem seg_If {M : Model} {test : Expr} {body orelse : List Stmt} {pos : Pos}
    (h : wpAny M (A.over c fs) (isTrue test env (eval test env)) (fun b s' => Seg M A R Y n s₀ c ((if b then execs body env else execs orelse env).wrap K H gd lv) fs s') (fun x s' => Seg M A R Y n s₀ c (H x) fs s') s) :
    Seg M A R Y n s₀ c ((exec (.If test body orelse pos) env).wrap K H gd lv) fs s := by
  rw [exec_If]
  refine seg_at ?_
  show Seg M A R Y n s₀ c (Sem.wrap K H gd lv (PySem.isTrue test env (eval test env) >>= fun b => if b = true then execs body env else execs orelse env)) fs s
  rw [Sem.bind_eq_wrap', Sem.wrap_wrap]
  refine seg_wrap (wpAny_mono h (fun b s' h' => ?_) fun _ _ x => x)
  cases b <;> exact h'
theorem seg_plain {M : Model} {st : Stmt} (h : wpAny M (A.over c fs) (exec st env) (fun f s' => Seg M A R Y n s₀ c (K f) fs s') (fun x s' => Seg M A R Y n s₀ c (H x) fs s') s) :
    Seg M A R Y n s₀ c ((exec st env).wrap K H gd lv) fs s := seg_wrap h
theorem seg_YieldFrom {e : Expr} {ypos pos : Pos} (hgd : gd false = false) (hlv : lv [] = [])
    (h : wpAny (CM w) (A.over c fs) (eval e env) (fun v s' => ∃ a g, v = .ref a ∧ IsG s'.heap a g ∧ ∀ p kk, (∀ n' s₀' s'', Seg (CM w) A R Y n' s₀' c (K .next) fs s'' → Seg (CM w) A R Y n' s₀' (cY a) (leafOf (.ok (.ret .none))) (FY kk c p :: fs) s'') →
        Seg (CM w) A R Y n s₀ (cY a) ((CM w).den (cY a)) (FY kk c p :: fs) s')
      (fun x s' => Seg (CM w) A R Y n s₀ c (H x) fs s') s) (hi : interactive env = false := by rfl) :
    Seg (CM w) A R Y n s₀ c ((exec (.Expr (.YieldFrom e ypos) pos) env).wrap K H gd lv) fs s := by
  rw [exec_Expr env _ pos hi rfl, arm_eval_YieldFrom]
  refine seg_at ?_
  show Seg (CM w) A R Y n s₀ c (Sem.wrap K H gd lv ((eval e env >>= fun v => (standAt ypos >>= fun _ => yieldFrom env v)) >>= fun v => dropValue (.YieldFrom e ypos) pos v)) fs s
  rw [Sem.bind_eq_wrap', Sem.bind_eq_wrap', Sem.wrap_wrap, Sem.wrap_wrap]
  refine seg_wrap (wpAny_mono h (fun v s' h' => ?_) fun _ _ x => x)
  obtain ⟨a, g, rfl, hg, h'⟩ := h'
  refine seg_at ?_
  show Seg _ _ _ _ _ _ _ (Sem.wrap _ _ _ _ (yieldFrom env (.ref a))) _ _
  unfold yieldFrom
  rw [Sem.bind_eq_wrap', Sem.wrap_wrap]
  refine seg_wrap (wpAny_typeOf hg.typeIs ?_)
  rw [if_neg (by decide), Sem.bind_eq_wrap', Sem.wrap_wrap]
  refine seg_wrap (wpAny_holding (iterG hg ?_))
  show Seg _ _ _ _ _ _ _ (.call (cY a) none (gd false) (lv []) _) fs s'
  rw [hgd, hlv]
  refine seg_call fun p => h' p _ fun n' s₀' s'' hn => ?_
  exact seg_leaf (.ok (.ret .none)) hn
end
end Mine
end
section
open PySem PySem.W PySem.W.X PyProof.Rows PySem.Calls
set_option Elab.async false
set_option maxRecDepth 100000
set_option maxHeartbeats 2000000
namespace Mine
def iterSt : Stmt := nth (stBody (topSt 1)) 5
def recSt : Stmt := nth (stBody iterSt) 2
abbrev recQ : Str := "MQTTMatcher.iter_match.<locals>.rec"
abbrev recCl (cl cn cr : Addr) : List (Str × Addr) := [("rec", cr), ("normal", cn), ("lst", cl)]
def recFd (cl cn cr : Addr) (cd dV pm ct dc : Value) : FuncData :=
  { name := "rec", qualname := recQ, params := stArgs recSt, body := .stmts (stBody recSt), scope := stScope recSt, globals := mainGlobals, closure := recCl cl cn cr, closureTuple := ct,
    code := cd, builtins := builtinsNs, defaults := dV, kwdefaults := .none, annotations := none, pyModule := pm, doc := dc }
abbrev recEnv (C cl cn cr recf : Addr) (cd : Value) : Env := newEnv (stScope recSt) C mainGlobals (recCl cl cn cr) (recQ ++ ".<locals>.") (some recf) cd none builtinsNs
structure RC (h : Heap) (D cl cn cr recf : Addr) (cd : Value) (tl : List Str) (nb : Bool) : Prop where
  lst : ∃ LL : List (Str × Tok), LL.map (·.1) = tl ∧ h.IsList D (sv LL).toArray
  lc : h.IsCell cl (some (.ref D))
  nc : h.IsCell cn (some (.bool nb))
  rc : h.IsCell cr (some (.ref recf))
  fn : ∃ T t pm ct dc, h.get? recf = some (fnObj (recFd cl cn cr cd (.ref T) pm ct dc)) ∧ h.get? T = some (tupO [.int 0 t])
  code : h.CodeRec cd recQ
theorem RC.keeps {h h' : Heap} {D cl cn cr recf : Addr} {cd : Value} {tl : List Str} {nb : Bool} (x : RC h D cl cn cr recf cd tl nb) (k : ∀ b o, h.get? b = some o → h'.get? b = some o) : RC h' D cl cn cr recf cd tl nb :=
  ⟨let ⟨LL, a, b⟩ := x.lst; ⟨LL, a, Heap.IsList.at b fun o e => k _ o e⟩, x.lc.keeps k, x.nc.keeps k, x.rc.keeps k, let ⟨T, t, pm, ct, dc, a, b⟩ := x.fn; ⟨T, t, pm, ct, dc, k _ _ a, k _ _ b⟩, x.code.keeps k⟩
section
variable {w : World} {A : Around} {E : Value → Shared → Prop} {s : Shared} {h₀ : Heap} {C cl cn cr recf : Addr} {cd : Value} {m : Str → Option Value}
theorem rLoc {M : Model} {x : Str} {pos : Pos} {v : Value} {Q : Value → Shared → Prop} (F : Fr h₀ C s.heap m) (hv : m x = some v) (h : Q v s)
    (hl : (recEnv C cl cn cr recf cd).kindOf x = some .local := by rfl) (hd : (x == ("__debug__" : Str)) = false := by decide) :
    wpAny M A (eval (.Name x pos) (recEnv C cl cn cr recf cd)) Q E s := wpAny_Name (wpAny_loadName_local rfl hl F.ns hv h) hd
theorem rFree {M : Model} {x : Str} {pos : Pos} {c : Addr} {v : Value} {Q : Value → Shared → Prop} (hc : s.heap.IsCell c (some v)) (hx : (recCl cl cn cr).lookup x = some c) (h : Q v s)
    (hl : (recEnv C cl cn cr recf cd).kindOf x = some .free := by rfl) (hd : (x == ("__debug__" : Str)) = false := by decide) (hn : (x == ("__classdict__" : Str)) = false := by decide) :
    wpAny M A (eval (.Name x pos) (recEnv C cl cn cr recf cd)) Q E s := wpAny_Name (wpAny_loadName_free rfl hl hx hc h hn) hd
theorem rLen {pos : Pos} {Q : Value → Shared → Prop} (c : Cx w h₀) (F : Fr h₀ C s.heap m) (h : Q (.builtin "len") s) :
    wpAny (model PR w) A (eval (.Name "len" pos) (recEnv C cl cn cr recf cd)) Q E s :=
  let ⟨_, _, g, b, mbe⟩ := c.G
  Name_function_global rfl rfl (loadGlobal_builtin (env := recEnv C cl cn cr recf cd) (g.keeps F.keep) (mg_none_of c.X g (by kernel_rfl)) (b.keeps F.keep) ((mbe "len" (by decide +kernel)).trans (by kernel_rfl)) h) (by decide)
theorem rec_call {R : Result → Shared → Prop} {D nd : Addr} {i : Int} {t : Tok} {tl : List Str} {nb : Bool} (c : Cx w s.heap) (hroom : A.depth < recursionLimit) (rc : RC s.heap D cl cn cr recf cd tl nb)
    (h : ∀ h₁ tk nm qn, Fr s.heap s.heap.objs.size h₁ (fun y => ([("node", .ref nd), ("i", .int i t)] : List (Str × Value)).reverse.lookup y) →
      R (.ok (.ret (.ref h₁.objs.size))) { s with gens := s.gens.push (.fresh (.func (stBody recSt) (recEnv s.heap.objs.size cl cn cr recf cd))), toks := tk, heap := h₁.push { cls := .type "generator", data := .fields #[.int s.gens.size 0, nm, qn] } }) :
    codeAny (model PR w) A (.call (.ref recf) ⟨[.ref nd, .int i t], []⟩) R s := by
  obtain ⟨T, t0, pm, ct, dc, hf, hT⟩ := rc.fn
  refine codeAny_call_generator (fd := recFd cl cn cr cd (.ref T) pm ct dc) (body := stBody recSt) hroom hf rfl rfl rfl rfl rc.code ?_
  have hb : BindsTo s (recFd cl cn cr cd (.ref T) pm ct dc) ⟨[.ref nd, .int i t], []⟩ [("node", .ref nd), ("i", .int i t)] := BindsTo.of_defaults rfl hT rfl rfl rfl
  refine hb _ _ _ _ ?_
  refine wpAny_newFunctionEnv (show ∀ x ∈ (stScope recSt).names, x.2 ≠ .cell by decide) (locs (by rfl)) (fun h₁ hn hs => ?_) rfl
  have F : Fr s.heap s.heap.objs.size h₁ (fun y => ([("node", .ref nd), ("i", .int i t)] : List (Str × Value)).reverse.lookup y) :=
    ⟨hn, fun b o e => hs.extBut b o (Nat.ne_of_lt (Heap.lt_size e)) (Heap.get?_push_of_some _ e), Nat.le_refl _⟩
  exact ⟨c.nl.keeps F.keep, h h₁ _ _ _ F⟩
theorem rec_call1 {R : Result → Shared → Prop} {D nd : Addr} {tl : List Str} {nb : Bool} (c : Cx w s.heap) (hroom : A.depth < recursionLimit) (rc : RC s.heap D cl cn cr recf cd tl nb)
    (h : ∀ h₁ tk nm qn t, Fr s.heap s.heap.objs.size h₁ (fun y => ([("node", .ref nd), ("i", .int 0 t)] : List (Str × Value)).reverse.lookup y) →
      R (.ok (.ret (.ref h₁.objs.size))) { s with gens := s.gens.push (.fresh (.func (stBody recSt) (recEnv s.heap.objs.size cl cn cr recf cd))), toks := tk, heap := h₁.push { cls := .type "generator", data := .fields #[.int s.gens.size 0, nm, qn] } }) :
    codeAny (model PR w) A (.call (.ref recf) ⟨[.ref nd], []⟩) R s := by
  obtain ⟨T, t0, pm, ct, dc, hf, hT⟩ := rc.fn
  refine codeAny_call_generator (fd := recFd cl cn cr cd (.ref T) pm ct dc) (body := stBody recSt) hroom hf rfl rfl rfl rfl rc.code ?_
  have hb : BindsTo s (recFd cl cn cr cd (.ref T) pm ct dc) ⟨[.ref nd], []⟩ [("node", .ref nd), ("i", .int 0 t0)] := BindsTo.of_defaults rfl hT rfl rfl rfl
  refine hb _ _ _ _ ?_
  refine wpAny_newFunctionEnv (show ∀ x ∈ (stScope recSt).names, x.2 ≠ .cell by decide) (locs (by rfl)) (fun h₁ hn hs => ?_) rfl
  have F : Fr s.heap s.heap.objs.size h₁ (fun y => ([("node", .ref nd), ("i", .int 0 t0)] : List (Str × Value)).reverse.lookup y) :=
    ⟨hn, fun b o e => hs.extBut b o (Nat.ne_of_lt (Heap.lt_size e)) (Heap.get?_push_of_some _ e), Nat.le_refl _⟩
  exact ⟨c.nl.keeps F.keep, h h₁ _ _ _ t0 F⟩
end
end Mine
end
section
open PySem PySem.W PySem.W.X PyProof.Rows PySem.Calls
set_option Elab.async false
set_option maxRecDepth 100000
set_option maxHeartbeats 2000000
namespace Mine
def ifT : Stmt → Expr
  | .If t _ _ _ => t
  | _ => default
def ifB : Stmt → List Stmt
  | .If _ b _ _ => b
  | _ => []
def ifE : Stmt → List Stmt
  | .If _ _ e _ => e
  | _ => []
def r0 : Stmt := nth (stBody recSt) 0
def r1 : Stmt := nth (stBody recSt) 1
def r00 : Stmt := nth (ifB r0) 0
def e0 : Stmt := nth (ifE r0) 0
def e1 : Stmt := nth (ifE r0) 1
def e2 : Stmt := nth (ifE r0) 2
def h0 : Stmt := nth (ifB r1) 0
def h1 : Stmt := nth (ifB r1) 1
theorem Stable.toks {s s₁ : Shared} (h : SFix s) (e : s₁.gens = s.gens) : Stable s₁ := fun i x hx => h.stable i x (e ▸ hx)
theorem liftK {w : World} {A : Around} {α : Type} {t : Sem α} {Q : α → Shared → Prop} {E : Value → Shared → Prop} {s : Shared} (hs : SFix s)
    (h : wpAny (model PR w) A t (fun a s₁ => s₁.gens = s.gens ∧ Q a s₁) (fun _ _ => False) s) : wpAny (CM w) A t Q E s :=
  lift_any (wpAny_mono h (fun _ _ x => ⟨x.2, Stable.toks hs x.1⟩) fun _ _ x => x.elim)
section
variable {w : World} {A : Around} {E : Value → Shared → Prop} {s : Shared} {h₀ : Heap} {C cl cn cr recf D nd root : Addr} {cd : Value} {m : Str → Option Value} {tl : List Str} {nb : Bool} {Out : Addr → Prop} {T : TM} {Cc : Path → Value} {p : Path} {t : Tok}
theorem p1 {Q : Bool → Shared → Prop} (c : Cx w h₀) (F : Fr h₀ C s.heap m) (rc : RC h₀ D cl cn cr recf cd tl nb) (hi : m "i" = some (.int p.length t)) (htl : tl.length ≤ 100)
    (h : ∀ tk, Q (decide (p.length = tl.length)) { s with toks := tk }) : wpAny (model PR w) A (isTrue (ifT r0) (recEnv C cl cn cr recf cd) (eval (ifT r0) (recEnv C cl cn cr recf cd))) Q E s := by
  have rc₁ := rc.keeps F.keep
  obtain ⟨LL, hl, hL⟩ := rc₁.lst
  have hsz : ((sv LL).toArray.size : Int) = tl.length := by rw [← hl]; simp
  refine wpAny_isTrue_Compare1 ?_
  refine rLoc F hi ?_
  refine wpAny_Call_NameR (rLen c F ?_)
  refine Calls.callWith_builtin rfl (evalArgs_plain (spliced_cons (rFree rc₁.lc rfl (spliced_nil ?_))))
  refine lenLst hL hsz (by omega) ?_
  refine wpAny_eq_int (wpAny_truthy_bool ?_)
  have e : ((p.length : Int) == (tl.length : Int)) = decide (p.length = tl.length) := by rw [Bool.eq_iff_iff, beq_iff_eq, decide_eq_true_iff]; exact Int.ofNat_inj
  rw [e]
  exact h _
theorem trF (F : Fr h₀ C s.heap m) (tr : Trie w Out h₀ T root Cc) : Trie w Out s.heap T root Cc := trieKeep tr fun b o _ e => F.keep b o e
/-- `X._content is not None` -/
theorem pCont {e : Expr} {pos pos' pos'' : Pos} {k : Nat} {Q : Bool → Shared → Prop} {env : Env} {a : Addr} (c : Cx w h₀) (F : Fr h₀ C s.heap m) (tr : Trie w Out h₀ T root Cc) (hC : ∀ p, Val (Cc p)) (hnd : T.nd p = some a)
    (he : ∀ (Q : Value → Shared → Prop), (∀ tk, Q (.ref a) { s with toks := tk }) → wpAny (model PR w) A (eval e env) Q E s)
    (h : ∀ tk, Q (!(Cc p == .none)) { s with toks := tk })
    (hae : eval (.Attribute e "_content" pos) env = (do let o ← eval e env; standAt pos.atName; let r ← holding [o] (getAttr o "_content" true); letTemporaryGo e o r; pure r) := by with_unfolding_all rfl) : wpAny (model PR w) A (isTrue (.Compare (.Attribute e "_content" pos) [.IsNot] [.Constant .none k pos'] pos'') env (eval (.Compare (.Attribute e "_content" pos) [.IsNot] [.Constant .none k pos'] pos'') env)) Q E s := by
  have tr₁ := trF F tr
  refine wpAny_isTrue_Compare1 ?_
  refine Attribute_any_ (he := hae) (he _ fun tk => ?_)
  exact gCont (s := { s with toks := tk }) (c.keeps F.keep).X (tr₁.node _ _ hnd) (tr₁.xd _ _ hnd) (hC p).handed (wpAny_Constant_none (wpAny_isNot_plain (hC p).is (wpAny_truthy_bool (h _))))
/-- `K in X._children` -/
theorem pIn {e ke : Expr} {pos pos'' : Pos} {Q : Bool → Shared → Prop} {env : Env} {a : Addr} {key : Str} (c : Cx w h₀) (F : Fr h₀ C s.heap m) (tr : Trie w Out h₀ T root Cc) (hnd : T.nd p = some a)
    (hk : ∀ (Q : Value → Shared → Prop), (∀ t tk, Q (.str key t) { s with toks := tk }) → wpAny (model PR w) A (eval ke env) Q E s)
    (he : ∀ tk (Q : Value → Shared → Prop), (∀ tk, Q (.ref a) { s with toks := tk }) → wpAny (model PR w) A (eval e env) Q E { s with toks := tk })
    (h : ∀ tk, Q (T.nd (p ++ [key])).isSome { s with toks := tk })
    (hae : eval (.Attribute e "_children" pos) env = (do let o ← eval e env; standAt pos.atName; let r ← holding [o] (getAttr o "_children" true); letTemporaryGo e o r; pure r) := by with_unfolding_all rfl) : wpAny (model PR w) A (isTrue (.Compare ke [.In] [.Attribute e "_children" pos] pos'') env (eval (.Compare ke [.In] [.Attribute e "_children" pos] pos'') env)) Q E s := by
  have tr₁ := trF F tr
  obtain ⟨kvs, hd, hkv⟩ := tr₁.kids _ _ hnd
  refine wpAny_isTrue_Compare1 (hk _ fun t tk => ?_)
  refine Attribute_any_ (he := hae) (he _ _ fun tk => ?_)
  refine gKids (s := { s with toks := tk }) (c.keeps F.keep).X (tr₁.node _ _ hnd) (tr₁.xd _ _ hnd) ?_
  refine wpAny_in_of (strKind_is PR w key t) (beq_eq_false_iff_ne.2 (Nat.ne_of_gt (tr₁.big _ _ hnd))) hd.mapOf (wpAny_truthy_bool ?_)
  have := h (tk + 1 + 1)
  rw [hkv key, Option.isSome_map]
  exact this
/-- `X._children[K]` -/
theorem pKid {e ke : Expr} {pos pos' : Pos} {Q : Value → Shared → Prop} {env : Env} {a a' : Addr} {key : Str} (c : Cx w h₀) (F : Fr h₀ C s.heap m) (tr : Trie w Out h₀ T root Cc) (hnd : T.nd p = some a) (hnd' : T.nd (p ++ [key]) = some a')
    (he : ∀ (Q : Value → Shared → Prop), (∀ tk, Q (.ref a) { s with toks := tk }) → wpAny (model PR w) A (eval e env) Q E s)
    (hk : ∀ tk (Q : Value → Shared → Prop), (∀ t tk, Q (.str key t) { s with toks := tk }) → wpAny (model PR w) A (eval ke env) Q E { s with toks := tk })
    (h : ∀ tk, Q (.ref a') { s with toks := tk })
    (hsb : ∀ (d : Addr) t, subscripted ke false (.ref d) (.str key t) = operate [.ref d, .str key t] (getItem (.ref d) (.str key t)) := by intro _ _; with_unfolding_all rfl)
    (hae : eval (.Attribute e "_children" pos) env = (do let o ← eval e env; standAt pos.atName; let r ← holding [o] (getAttr o "_children" true); letTemporaryGo e o r; pure r) := by with_unfolding_all rfl) : wpAny (model PR w) A (eval (.Subscript (.Attribute e "_children" pos) ke pos') env) Q E s := by
  have tr₁ := trF F tr
  obtain ⟨kvs, hd, hkv⟩ := tr₁.kids _ _ hnd
  refine Subscript_ (Attribute_any_ (he := hae) (he _ fun tk => ?_))
  refine gKids (s := { s with toks := tk }) (c.keeps F.keep).X (tr₁.node _ _ hnd) (tr₁.xd _ _ hnd) (hk _ _ fun t tk => ?_)
  exact dItem (strKind_is PR w key t) hd.mapOf ((hkv key).trans (by rw [hnd']; rfl)) (h _) (hsb _ _)
/-- `normal or i > 0` -/
theorem pNorm {pos pos' pos'' : Pos} {k : Nat} {pb : Pos} {Q : Bool → Shared → Prop} {i : Int} (F : Fr h₀ C s.heap m) (rc : RC h₀ D cl cn cr recf cd tl nb) (hi : m "i" = some (.int i t))
    (h : ∀ tk, Q (nb || decide (0 < i)) { s with toks := tk }) :
    wpAny (model PR w) A (isTrue (.BoolOp .Or [.Name "normal" pos, .Compare (.Name "i" pos') [.Gt] [.Constant (.int 0) k pos''] pb] pb) (recEnv C cl cn cr recf cd) (eval (.BoolOp .Or [.Name "normal" pos, .Compare (.Name "i" pos') [.Gt] [.Constant (.int 0) k pos''] pb] pb) (recEnv C cl cn cr recf cd))) Q E s := by
  have rc₁ := rc.keeps F.keep
  refine isTrue_or (isTrue_plain (rFree rc₁.nc rfl (wpAny_truthy_bool ?_)))
  cases nb with
  | true => exact h s.toks
  | false =>
    rw [if_neg Bool.false_ne_true]
    refine isTrue_or (wpAny_isTrue_Compare1 (rLoc F hi (wpAny_Constant_int (gt_int (wpAny_truthy_bool ?_)))))
    have := h (s.toks + 1)
    rw [Bool.false_or] at this
    cases hb : decide (0 < i) with
    | true => rw [hb] at this; exact this
    | false => rw [hb] at this; exact isTrue_or_nil this
end
end Mine
end
section
open PySem PySem.W PySem.W.X PyProof.Rows PySem.Calls
set_option Elab.async false
set_option maxRecDepth 100000
set_option maxHeartbeats 2000000
namespace Mine
def own1 : Value → List Value
  | .none => []
  | v => [v]
def hashV (Cc : Path → Value) (nb : Bool) (p : Path) : List Value := if (nb || decide (0 < p.length)) = true then own1 (Cc (p ++ [("#" : Str)])) else []
def Yc (Cc : Path → Value) (nb : Bool) : List Str → Path → List Value
  | [], p => own1 (Cc p) ++ hashV Cc nb p
  | x :: r, p => Yc Cc nb r (p ++ [x]) ++ ((if (nb || decide (0 < p.length)) = true then Yc Cc nb r (p ++ [("+" : Str)]) else []) ++ hashV Cc nb p)
theorem Yc_none {w : World} {Out : Addr → Prop} {h : Heap} {T : TM} {root : Addr} {Cc : Path → Value} {nb : Bool} (tr : Trie w Out h T root Cc) : ∀ (r : List Str) (p : Path), T.nd p = none → Yc Cc nb r p = []
  | [], p, hp => by
    unfold Yc hashV
    rw [tr.cn _ hp, tr.cn _ (tr.up _ "#" hp)]
    split <;> rfl
  | x :: r, p, hp => by
    unfold Yc hashV
    rw [Yc_none tr r _ (tr.up _ x hp), Yc_none tr r _ (tr.up _ "+" hp), tr.cn _ (tr.up _ "#" hp)]
    split <;> rfl
def Tl (vsR rem : List Value) : Prop := ∃ pre, vsR = rem.reverse ++ pre
theorem Tl.head {vsR rem : List Value} {v : Value} (h : Tl vsR (v :: rem)) : vsR[rem.length]? = some v := by
  obtain ⟨pre, rfl⟩ := h
  simp
theorem Tl.tail {vsR rem : List Value} {v : Value} (h : Tl vsR (v :: rem)) : Tl vsR rem := by
  obtain ⟨pre, rfl⟩ := h
  exact ⟨v :: pre, by simp⟩
theorem Tl.tails {vsR a rem : List Value} (h : Tl vsR (a ++ rem)) : Tl vsR rem := by
  obtain ⟨pre, rfl⟩ := h
  exact ⟨a.reverse ++ pre, by simp⟩
theorem Tl.inner {vsR a rem : List Value} (h : Tl vsR (a ++ rem)) : ∀ (k : Nat) v, a.reverse[k]? = some v → vsR[k + rem.length]? = some v := by
  obtain ⟨pre, rfl⟩ := h
  intro k v hk
  rw [List.reverse_append, List.append_assoc, List.getElem?_append_right (by simp), List.length_reverse, Nat.add_sub_cancel, List.getElem?_append_left (List.getElem?_eq_some_iff.mp hk).1]
  exact hk
/-- what rec's turn stands on -/
structure RI (h₀ : Heap) (C : Addr) (B G : Nat) (X : Addr → Prop) (nd : Addr) (i : Nat) (s₀ s : Shared) : Prop where
  fr : ∃ m t, Fr h₀ C s.heap m ∧ m "i" = some (.int i t) ∧ m "node" = some (.ref nd)
  k : Kp B C G s₀ s
  fin : FinAt G s
  fix : SFix s
  hB : B ≤ s.heap.objs.size
  hG : G ≤ s.gens.size
  x0 : ∀ b, X b → h₀.get? b = none
  xC : ¬ X C
  xB : ∀ b : Nat, X b → b < B
theorem RI.toks {h₀ C B G X nd i s₀ s} (I : RI h₀ C B G X nd i s₀ s) (tk : Nat) : RI h₀ C B G X nd i s₀ { s with toks := tk } :=
  ⟨I.fr, I.k.trans ⟨fun _ _ _ _ e => e, Nat.le_refl _, fun _ _ => rfl, Nat.le_refl _, rfl⟩, I.fin, I.fix, I.hB, I.hG, I.x0, I.xC, I.xB⟩
theorem RI.woken {h₀ C B G X nd i s₀ s s'} (I : RI h₀ C B G X nd i s₀ s) (r : Rl X G s s') : RI h₀ C B G X nd i s' s' := by
  obtain ⟨m, t, F, h1, h2⟩ := I.fr
  refine ⟨⟨m, t, ⟨F.ns.at' fun o e => r.heap _ _ I.xC e, fun b o e => r.heap b o (fun z => by rw [I.x0 b z] at e; cases e) (F.keep b o e), F.above⟩, h1, h2⟩, Kp.refl .., fun k x h e => I.fin k x h ((r.gens k h).symm.trans e), r.fix,
    Nat.le_trans I.hB r.hsz, Nat.le_trans I.hG r.gsz, I.x0, I.xC, I.xB⟩
abbrev recC (C cl cn cr recf : Addr) (cd : Value) : Code := .func (stBody recSt) (recEnv C cl cn cr recf cd)
abbrev Kf : Flow → Sem Fin := fun f => .pure (.done (.ret (match f with | .ret v => v | _ => .none)))
section
variable {w : World} {A : Around} {R : GenEnd} {Y : Protocol} {n : Nat} {s₀ : Shared} {fs : List Frame} {s : Shared}
theorem seg_funcC {body : List Stmt} {env : Env}
    (h : Seg (CM w) A R Y n s₀ (.func body env) ((execs body env).wrap Kf (fun e => (leaving env e).wrap (fun _ => .raise e) .raise id id) id id) fs s) :
    Seg (CM w) A R Y n s₀ (.func body env) ((CM w).den (.func body env)) fs s := by
  rw [cden rfl]
  show Seg _ A R Y n s₀ _ (.point [] fun _ => ((execs body env).onRaise (leaving env)) >>= _) fs s
  refine seg_point ?_
  rw [Sem.onRaise_eq_wrap, Sem.bind_eq_wrap', Sem.wrap_wrap]
  rw [Sem.wrap_congr (execs body env) _ _ (K' := Kf)
    (H' := fun e => (leaving env e).wrap (fun _ => .raise e) .raise id id) (fun f => by cases f <;> rfl)
    (fun e => by rw [Sem.bind_eq_wrap, Sem.wrap_wrap]; rfl)]
  exact h
end
section
variable {w : World} {A : Around} {E : Value → Shared → Prop} {s : Shared} {h₀ : Heap} {C cl cn cr recf : Addr} {cd : Value} {m : Str → Option Value}
theorem rSt {M : Model} {x : Str} {v : Value} {Q : Unit → Shared → Prop} (F : Fr h₀ C s.heap m)
    (h : ∀ h', Fr h₀ C h' (fun y => if y = x then some v else m y) → Heap.SameBut C s.heap h' → Q () { s with heap := h', toks := s.toks + 1 })
    (hl : (recEnv C cl cn cr recf cd).kindOf x = some .local := by rfl) :
    wpAny M A (storeName (recEnv C cl cn cr recf cd) x v) Q E s :=
  wpAny_storeName_local hl F.ns (fun h' hn hs => h h' (F.set hn hs) hs) (by rfl)
end
end Mine
end
section
open PySem PySem.W PySem.W.X PyProof.Rows PySem.Calls
set_option Elab.async false
set_option maxRecDepth 100000
set_option maxHeartbeats 2000000
namespace Mine
section
variable {w : World} {A : Around} {s₀ s : Shared} {h₀ : Heap} {C cl cn cr recf D nd root : Addr} {cd : Value} {tl : List Str} {nb : Bool} {Out : Addr → Prop} {T : TM} {Cc : Path → Value} {p : Path} {B G : Nat} {X : Addr → Prop} {vsR rem : List Value} {d : Nat}
  {H : Value → Sem Fin}
theorem seg_ret (I : RI h₀ C B G X nd p.length s₀ s) : Seg (CM w) A (GRf B C G) (GYf B C G X vsR) 0 s₀ (recC C cl cn cr recf cd) (Kf .next) [] s :=
  seg_end (.ok (.ret .none)) ⟨rfl, rfl, I.k, I.fin⟩
/-- `yield e` -/
theorem seg_yield1 {e : Expr} {ypos pos : Pos} {v : Value} {K : Flow → Sem Fin} (I : RI h₀ C B G X nd p.length s₀ s) (ht : Tl vsR (v :: rem))
    (he : ∀ (Q : Value → Shared → Prop), (∀ tk, Q v { s with toks := tk }) → wpAny (model PR w) (A.over (recC C cl cn cr recf cd) []) (eval e (recEnv C cl cn cr recf cd)) Q (fun _ _ => False) s)
    (hk : ∀ s', RI h₀ C B G X nd p.length s' s' → (∀ b o, ¬ X b → s.heap.get? b = some o → s'.heap.get? b = some o) → Seg (CM w) A (GRf B C G) (GYf B C G X vsR) rem.length s' (recC C cl cn cr recf cd) (K .next) [] s') :
    Seg (CM w) A (GRf B C G) (GYf B C G X vsR) (rem.length + 1) s₀ (recC C cl cn cr recf cd) ((exec (.Expr (.Yield (some e) ypos) pos) (recEnv C cl cn cr recf cd)).wrap K H id id) [] s := by
  refine seg_Expr_Yield rfl rfl rfl (liftK I.fix (he _ fun tk => ⟨rfl, fun kap hkap => ?_⟩)) rfl rfl
  have I' := I.toks tk
  refine ⟨ht.head, I'.fix, I'.k, fun s₂ r => hkap .none s₂ ?_⟩
  exact hk s₂ (I'.woken r) r.heap
theorem nodeAt {m : Str → Option Value} {M : Model} {E : Value → Shared → Prop} (F : Fr h₀ C s.heap m) (hn : m "node" = some (.ref nd)) {pos : Pos} (tk : Nat) (Q : Value → Shared → Prop) (h : ∀ tk, Q (.ref nd) { s with toks := tk }) :
    wpAny M A (eval (.Name "node" pos) (recEnv C cl cn cr recf cd)) Q E { s with toks := tk } := rLoc (s := { s with toks := tk }) F hn (h tk)
theorem strAt {M : Model} {E : Value → Shared → Prop} {env : Env} {x : Str} {k : Nat} {pos : Pos} (tk : Nat) (Q : Value → Shared → Prop) (h : ∀ t tk, Q (.str x t) { s with toks := tk }) :
    wpAny M A (eval (.Constant (.str x) k pos) env) Q E { s with toks := tk } := wpAny_Constant_str (h _ _)
theorem seg_hash (c : Cx w h₀) (rc : RC h₀ D cl cn cr recf cd tl nb) (tr : Trie w Out h₀ T root Cc) (hC : ∀ p, Val (Cc p)) (hnd : T.nd p = some nd) (I : RI h₀ C B G X nd p.length s₀ s) (ht : Tl vsR (hashV Cc nb p)) :
    Seg (CM w) A (GRf B C G) (GYf B C G X vsR) (hashV Cc nb p).length s₀ (recC C cl cn cr recf cd) ((execs [r1] (recEnv C cl cn cr recf cd)).wrap Kf H id id) [] s := by
  obtain ⟨m, t, F, hi, hn⟩ := I.fr
  refine seg_execs_cons (seg_If ?_)
  refine liftK I.fix ?_
  refine isTrue_and (pIn (p := p) (key := "#") c F tr hnd (fun Q h => strAt s.toks Q h) (nodeAt F hn) fun tk₁ => ?_)
  dsimp only
  by_cases hq : (T.nd (p ++ [("#" : Str)])).isSome = true
  · rw [if_pos hq]
    refine isTrue_and (pNorm (s := { s with toks := tk₁ }) F rc hi fun tk₂ => ?_)
    dsimp only
    have I₂ := I.toks tk₂
    have e0 : (nb || decide ((0 : Int) < p.length)) = (nb || decide (0 < p.length)) := by
      congr 1; rw [Bool.eq_iff_iff, decide_eq_true_iff, decide_eq_true_iff]; omega
    rw [e0]
    by_cases hb : (nb || decide (0 < p.length)) = true
    · rw [if_pos hb]
      refine isTrue_and_nil ⟨rfl, ?_⟩
      have hz : hashV Cc nb p = own1 (Cc (p ++ [("#" : Str)])) := if_pos hb
      rw [hz] at ht ⊢
      obtain ⟨a', ha'⟩ := Option.isSome_iff_exists.mp hq
      have tr₁ := trF F tr
      refine seg_execs_cons (seg_plain (liftK I₂.fix ?_))
      refine wpAny_Assign_Name (Attribute_any_ (pKid (s := { s with toks := tk₂ }) c F tr hnd ha' (fun Q h => nodeAt F hn tk₂ Q h) (fun tk Q h => strAt tk Q h) fun tk₃ => ?_))
      refine gCont (s := { s with toks := tk₃ }) (c.keeps F.keep).X (tr₁.node _ _ ha') (tr₁.xd _ _ ha') (hC _).handed ?_
      refine rSt F (fun h' F' S' => ⟨rfl, ?_⟩)
      have I₃ : RI h₀ C B G X nd p.length s₀ { s with heap := h', toks := tk₃ + 1 + 1 } :=
        ⟨⟨_, t, F', mo (by decide) hi, mo (by decide) hn⟩, I.k.trans ⟨fun b o _ h2 e => S'.extBut b o h2 e, Nat.le_of_eq S'.1.symm, fun _ _ => rfl, Nat.le_refl _, rfl⟩, I.fin, I.fix, by have := S'.1; have := I.hB; dsimp only at *; omega, I.hG, I.x0, I.xC, I.xB⟩
      refine seg_execs_cons (seg_If (liftK I₃.fix ?_))
      refine wpAny_isTrue_Compare1 (rLoc F' rfl (wpAny_Constant_none (wpAny_isNot_plain (hC _).is (wpAny_truthy_bool ⟨rfl, ?_⟩))))
      generalize hv : Cc (p ++ [("#" : Str)]) = v at *
      have hV : Val v := hv ▸ hC _
      cases hne : (v == Value.none) with
      | true =>
        have : v = .none := by simpa using hne
        subst this
        exact seg_execs_nil (env := recEnv C cl cn cr recf cd) (seg_execs_nil (env := recEnv C cl cn cr recf cd) (seg_execs_nil (env := recEnv C cl cn cr recf cd) (seg_ret I₃)))
      | false =>
        have hvn : v ≠ .none := by simpa using hne
        have ho : own1 v = [v] := by cases v <;> first | rfl | exact absurd rfl hvn
        rw [ho] at ht ⊢
        refine seg_execs_cons (seg_yield1 I₃ ht (fun Q h => rLoc F' rfl (h _)) fun s' I' _ => ?_)
        exact seg_execs_nil (env := recEnv C cl cn cr recf cd) (seg_execs_nil (env := recEnv C cl cn cr recf cd) (seg_execs_nil (env := recEnv C cl cn cr recf cd) (seg_ret I')))
    · rw [if_neg hb]
      refine ⟨rfl, ?_⟩
      have hz : hashV Cc nb p = [] := if_neg hb
      rw [hz]
      exact seg_execs_nil (env := recEnv C cl cn cr recf cd) (seg_execs_nil (seg_ret I₂))
  · rw [if_neg hq]
    refine ⟨rfl, ?_⟩
    have hz : hashV Cc nb p = [] := by
      unfold hashV
      rw [tr.cn _ (by simpa using hq)]
      split <;> rfl
    rw [hz]
    exact seg_execs_nil (env := recEnv C cl cn cr recf cd) (seg_execs_nil (seg_ret (I.toks tk₁)))
end
end Mine
end
section
open PySem PySem.W PySem.W.X PyProof.Rows PySem.Calls
set_option Elab.async false
set_option maxRecDepth 100000
set_option maxHeartbeats 2000000
namespace Mine
theorem liftF {w : World} {A : Around} {α : Type} {t : Sem α} {Q : α → Shared → Prop} {E : Value → Shared → Prop} {s : Shared}
    (h : wpAny (model PR w) A t (fun a s₁ => SFix s₁ ∧ Q a s₁) (fun _ _ => False) s) : wpAny (CM w) A t Q E s :=
  lift_any (wpAny_mono h (fun _ _ x => ⟨x.2, x.1.stable⟩) fun _ _ x => x.elim)
/-- the claim of a child -/
def Child (w : World) (h₀ : Heap) (cl cn cr recf : Addr) (cd : Value) (tl : List Str) (nb : Bool) (T : TM) (Cc : Path → Value) (rest : List Str) (d : Nat) : Prop :=
  ∀ A C B G X nd vsR s₀ s q, Ok A d → T.nd q = some nd → (q.length ≤ tl.length ∧ tl.drop q.length = rest) → RI h₀ C B G X nd q.length s₀ s → Tl vsR (Yc Cc nb rest q) →
    Seg (CM w) A (GRf B C G) (GYf B C G X vsR) (Yc Cc nb rest q).length s₀ (recC C cl cn cr recf cd) ((CM w).den (recC C cl cn cr recf cd)) [] s
section
variable {w : World} {A : Around} {s₀ s : Shared} {h₀ : Heap} {C cl cn cr recf D nd root : Addr} {cd : Value} {tl : List Str} {nb : Bool} {Out : Addr → Prop} {T : TM} {Cc : Path → Value} {p : Path} {B G : Nat} {X : Addr → Prop} {vsR rem : List Value} {d : Nat}
  {H : Value → Sem Fin} {K : Flow → Sem Fin}
theorem seg_sub {ne ie : Expr} {np cpos ypos pos : Pos} {q : Path} {rest : List Str} {nd' : Addr} (c : Cx w h₀) (rc : RC h₀ D cl cn cr recf cd tl nb) (ok : Ok A (d + 8)) (hq : q.length = p.length + 1) (hnd : T.nd q = some nd') (I : RI h₀ C B G X nd p.length s₀ s)
    (ht : Tl vsR (Yc Cc nb rest q ++ rem)) (hdr : q.length ≤ tl.length ∧ tl.drop q.length = rest) (ih : Child w h₀ cl cn cr recf cd tl nb T Cc rest d)
    (hargs : ∀ (Q : Args → Shared → Prop), (∀ t tk, Q ⟨[.ref nd', .int (p.length + 1 : Nat) t], []⟩ { s with toks := tk }) →
      wpAny (model PR w) (A.over (recC C cl cn cr recf cd) []) (evalArgs (.ref recf) true (backTo cpos (starEach [ne, ie] (recEnv C cl cn cr recf cd))) []) Q (fun _ _ => False) s)
    (hk : ∀ s₀' s', RI h₀ C B G X nd p.length s₀' s' → (∀ b o, ¬ X b → s.heap.get? b = some o → s'.heap.get? b = some o) → Seg (CM w) A (GRf B C G) (GYf B C G X vsR) rem.length s₀' (recC C cl cn cr recf cd) (K .next) [] s') :
    Seg (CM w) A (GRf B C G) (GYf B C G X vsR) (Yc Cc nb rest q ++ rem).length s₀ (recC C cl cn cr recf cd) ((exec (.Expr (.YieldFrom (.Call (.Name "rec" np) [ne, ie] [] cpos) ypos) pos) (recEnv C cl cn cr recf cd)).wrap K H id id) [] s := by
  obtain ⟨m, ti, F, hi, hn⟩ := I.fr
  have rc₁ := rc.keeps F.keep
  have okb : Ok (A.over (recC C cl cn cr recf cd) []) (d + 7) := Ok.bodyG ok
  obtain ⟨T0, t0, pm, ct, dc, hf, hT⟩ := rc₁.fn
  refine seg_YieldFrom rfl rfl (liftF ?_)
  refine wpAny_Call_NameR (rFree rc₁.rc rfl ?_)
  refine Calls.callWith_function (o := fnObj (recFd cl cn cr cd (.ref T0) pm ct dc)) (fd := recFd cl cn cr cd (.ref T0) pm ct dc) (hargs _ fun t tk => ⟨⟨hf, rfl⟩, ?_⟩)
  refine wpAny_call (rec_call (s := { s with toks := tk }) (c.keeps F.keep) okb.room rc₁ fun h₁ tk' nm qn F₁ => ?_)
  dsimp only at F₁ ⊢
  refine ⟨I.fix.pushGen trivial, h₁.objs.size, s.gens.size, rfl, ⟨_, nm, qn, Heap.get?_push_size _ rfl, rfl, rfl, .inl rfl⟩, fun p' kk hkk => ?_⟩
  have hsz : s.heap.objs.size < h₁.objs.size := F₁.ns.lt
  have keep : ∀ b o, s.heap.get? b = some o → (h₁.push { cls := .type "generator", data := .fields #[.int s.gens.size 0, nm, qn] }).get? b = some o := fun b o e => Heap.get?_push_of_some _ (F₁.keep b o e)
  have okY : Ok (A.over (cY h₁.objs.size) [FY kk (recC C cl cn cr recf cd) p']) (d + 7) := Ok.yfG ok
  have hB := I.hB
  have hxs : ∀ b : Nat, X b → b < s.heap.objs.size := fun b z => Nat.lt_of_lt_of_le (I.xB b z) hB
  rw [List.length_append]
  refine yf_loop (C₁ := s.heap.objs.size) (g₁ := s.gens.size) (B₁ := h₁.objs.size + 1) (vs₁ := (Yc Cc nb rest q).reverse) (hK := s.heap) rfl rfl okY.hd okY.room I.hG hB (Nat.le_refl _) (Nat.le_of_lt hsz) (Nat.ne_of_gt hsz) (Nat.lt_succ_self _)
    hxs ?_ ht.inner ?_ _ _ _ ?_ ⟨_, nm, qn, Heap.get?_push_size _ rfl, rfl, rfl, .inl rfl⟩ (fun b o _ e => keep b o e) (by rw [Heap.size_push]; exact Nat.le_refl _) ?_ (I.fix.pushGen trivial) ?_
  · intro h hh
    exact c.nl.keeps fun b o e => hh b o (fun z => by rw [I.x0 b z] at e; cases e) (F.keep b o e)
  · intro s₀' s' k' hb' hz' hg' hfix' hfin'
    exact hkk _ _ _ (hk s₀' s' ⟨⟨m, ti, ⟨F.ns.at' fun o e => hb' _ _ I.xC e, fun b o e => hb' b o (fun z => by rw [I.x0 b z] at e; cases e) (F.keep b o e), F.above⟩, hi, hn⟩, k', hfin', hfix', Nat.le_trans hB hz', hg', I.x0, I.xC, I.xB⟩ hb')
  · refine I.k.trans ⟨fun b o _ _ e => keep b o e, ?_, fun k hk => ?_, ?_, rfl⟩
    · rw [Heap.size_push]; exact Nat.le_trans (Nat.le_of_lt hsz) (Nat.le_succ _)
    · have := I.hG
      show (s.gens.push _)[k]? = _
      rw [Array.getElem?_push, if_neg (by omega)]
    · show s.gens.size ≤ (s.gens.push _).size
      simp
  · refine ⟨.fresh (recC s.heap.objs.size cl cn cr recf cd), by show (s.gens.push _)[s.gens.size]? = _; simp, fun s' r => ⟨rfl, ?_⟩⟩
    have hC : ¬ (X s.heap.objs.size ∨ s.heap.objs.size = h₁.objs.size) := fun z => z.elim (fun z => Nat.lt_irrefl _ (hxs _ z)) (fun z => Nat.ne_of_lt hsz z)
    refine ih _ _ _ _ _ nd' _ _ _ q (okY.in1.le (by omega)) hnd hdr ⟨⟨_, t, ⟨(F₁.ns.push _).at' fun o e => r.heap _ _ hC e, fun b o e => r.heap b o (fun z => ?_) (keep b o (F.keep b o e)), Nat.le_trans F.above (Nat.le_of_lt F.ns.lt)⟩, by rw [hq]; rfl, rfl⟩, Kp.refl .., fun k x h1 e => ?_, r.fix, ?_, ?_, fun b z => ?_, hC, fun b z => ?_⟩ ⟨[], by simp⟩
    · rcases z with z | z
      · rw [I.x0 b z] at e; cases e
      · have := Heap.lt_size (F.keep b o e); rw [z] at this; exact Nat.lt_asymm hsz this
    · have := (r.gens k h1).symm.trans e
      have : (s.gens.push (.fresh (recC s.heap.objs.size cl cn cr recf cd)))[k]? = some x := this
      rw [Array.getElem?_eq_none (by simp; omega)] at this
      cases this
    · have := r.hsz; rw [Heap.size_push] at this; exact this
    · have := r.gsz
      have : (s.gens.push (.fresh (recC s.heap.objs.size cl cn cr recf cd))).size ≤ s'.gens.size := this
      simpa using this
    · rcases z with z | z
      · exact I.x0 b z
      · cases hq' : h₀.get? b with
        | none => rfl
        | some o => have := Heap.lt_size (F.keep b o hq'); rw [z] at this; exact absurd this (Nat.lt_asymm hsz)
    · rcases z with z | z
      · exact Nat.lt_succ_of_lt (Nat.lt_trans (hxs b z) hsz)
      · rw [z]; exact Nat.lt_succ_self _
  · intro k x h1 h2 e
    refine I.fin k x h1 ?_
    have : (s.gens.push (.fresh (recC s.heap.objs.size cl cn cr recf cd)))[k]? = some x := e
    rw [Array.getElem?_push, if_neg (by omega)] at this
    exact this
end
end Mine
end
section
open PySem PySem.W PySem.W.X PyProof.Rows PySem.Calls
set_option Elab.async false
set_option maxRecDepth 100000
set_option maxHeartbeats 2000000
namespace Mine
section
variable {w : World} {A : Around} {s₀ s : Shared} {h₀ : Heap} {C cl cn cr recf D nd root : Addr} {cd : Value} {tl : List Str} {nb : Bool} {Out : Addr → Prop} {T : TM} {Cc : Path → Value} {p : Path} {B G : Nat} {X : Addr → Prop} {vsR rem : List Value} {d : Nat}
  {H : Value → Sem Fin} {K : Flow → Sem Fin}
theorem RI.store {x : Str} {h' : Heap} {tk : Nat} {m : Str → Option Value} {v : Value} {i : Nat} (I : RI h₀ C B G X nd i s₀ s) (F' : Fr h₀ C h' (fun y => if y = x then some v else m y)) (S' : Heap.SameBut C s.heap h')
    (hi : ∃ t, m "i" = some (.int i t)) (hn : m "node" = some (.ref nd)) (h1 : (("i" : Str)) ≠ x) (h2 : (("node" : Str)) ≠ x) : RI h₀ C B G X nd i s₀ { s with heap := h', toks := tk } := by
  obtain ⟨t, hi⟩ := hi
  refine ⟨⟨_, t, F', mo h1 hi, mo h2 hn⟩, I.k.trans ⟨fun b o _ h2 e => S'.extBut b o h2 e, Nat.le_of_eq S'.1.symm, fun _ _ => rfl, Nat.le_refl _, rfl⟩, I.fin, I.fix, ?_, I.hG, I.x0, I.xC, I.xB⟩
  have := S'.1; have := I.hB; dsimp only at *; omega
theorem seg_own (c : Cx w h₀) (tr : Trie w Out h₀ T root Cc) (hC : ∀ p, Val (Cc p)) (hnd : T.nd p = some nd) (I : RI h₀ C B G X nd p.length s₀ s) (ht : Tl vsR (own1 (Cc p) ++ rem))
    (hk : ∀ s₀' s', RI h₀ C B G X nd p.length s₀' s' → Seg (CM w) A (GRf B C G) (GYf B C G X vsR) rem.length s₀' (recC C cl cn cr recf cd) (K .next) [] s') :
    Seg (CM w) A (GRf B C G) (GYf B C G X vsR) (own1 (Cc p) ++ rem).length s₀ (recC C cl cn cr recf cd) ((execs (ifB r0) (recEnv C cl cn cr recf cd)).wrap K H id id) [] s := by
  obtain ⟨m, t, F, hi, hn⟩ := I.fr
  refine seg_execs_cons (seg_If (liftK I.fix ?_))
  refine pCont (s := s) c F tr hC hnd (fun Q h => nodeAt F hn s.toks Q h) fun tk => ⟨rfl, ?_⟩
  have I₂ := I.toks tk
  generalize hv : Cc p = v at *
  cases hne : (v == Value.none) with
  | true =>
    have : v = .none := by simpa using hne
    subst this
    exact seg_execs_nil (env := recEnv C cl cn cr recf cd) (seg_execs_nil (env := recEnv C cl cn cr recf cd) (hk _ _ I₂))
  | false =>
    have hvn : v ≠ .none := by simpa using hne
    have ho : own1 v = [v] := by cases v <;> first | rfl | exact absurd rfl hvn
    rw [ho] at ht ⊢
    have tr₁ := trF F tr
    have hV : Val v := hv ▸ hC p
    have hno := tr₁.node _ _ hnd
    rw [hv] at hno
    refine seg_execs_cons (seg_yield1 I₂ ht (fun Q h => ?_) fun s' I' _ => ?_)
    · refine Attribute_any_ (nodeAt F hn tk _ fun tk₃ => ?_)
      exact gCont (s := { s with toks := tk₃ }) (c.keeps F.keep).X hno (tr₁.xd _ _ hnd) hV.handed (h _)
    · exact seg_execs_nil (env := recEnv C cl cn cr recf cd) (seg_execs_nil (env := recEnv C cl cn cr recf cd) (hk _ _ I'))
theorem seg_plus {r : List Str} (c : Cx w h₀) (rc : RC h₀ D cl cn cr recf cd tl nb) (tr : Trie w Out h₀ T root Cc) (hnd : T.nd p = some nd) (ok : Ok A (d + 8)) (I : RI h₀ C B G X nd p.length s₀ s)
    (hlt : p.length < tl.length) (hdr : tl.drop (p.length + 1) = r) (ih : Child w h₀ cl cn cr recf cd tl nb T Cc r d)
    (ht : Tl vsR ((if (nb || decide (0 < p.length)) = true then Yc Cc nb r (p ++ [("+" : Str)]) else []) ++ rem))
    (hk : ∀ s₀' s', RI h₀ C B G X nd p.length s₀' s' → Seg (CM w) A (GRf B C G) (GYf B C G X vsR) rem.length s₀' (recC C cl cn cr recf cd) (K .next) [] s') :
    Seg (CM w) A (GRf B C G) (GYf B C G X vsR) ((if (nb || decide (0 < p.length)) = true then Yc Cc nb r (p ++ [("+" : Str)]) else []) ++ rem).length s₀ (recC C cl cn cr recf cd) ((execs [e2] (recEnv C cl cn cr recf cd)).wrap K H id id) [] s := by
  obtain ⟨m, t, F, hi, hn⟩ := I.fr
  refine seg_execs_cons (seg_If (liftK I.fix ?_))
  refine isTrue_and (pIn (p := p) (key := "+") c F tr hnd (fun Q h => strAt s.toks Q h) (nodeAt F hn) fun tk₁ => ?_)
  dsimp only
  by_cases hq : (T.nd (p ++ [("+" : Str)])).isSome = true
  · rw [if_pos hq]
    refine isTrue_and (pNorm (s := { s with toks := tk₁ }) F rc hi fun tk₂ => ?_)
    dsimp only
    have I₂ := I.toks tk₂
    have e0 : (nb || decide ((0 : Int) < p.length)) = (nb || decide (0 < p.length)) := by
      congr 1; rw [Bool.eq_iff_iff, decide_eq_true_iff, decide_eq_true_iff]; omega
    rw [e0]
    by_cases hb : (nb || decide (0 < p.length)) = true
    · rw [if_pos hb]
      refine isTrue_and_nil ⟨rfl, ?_⟩
      rw [if_pos hb] at ht ⊢
      obtain ⟨a', ha'⟩ := Option.isSome_iff_exists.mp hq
      refine seg_execs_cons (seg_sub c rc ok (by simp) ha' I₂ ht ⟨by rw [List.length_append]; exact hlt, by simpa using hdr⟩ ih (fun Q h => ?_) fun s₀' s' I' _ => ?_)
      · refine evalArgs_plain (spliced_cons (pKid (s := { s with toks := tk₂ }) c F tr hnd ha' (fun Q h => nodeAt F hn tk₂ Q h) (fun tk Q h => strAt tk Q h) fun tk₃ => spliced_cons ?_))
        refine wpAny_BinOp (rLoc (s := { s with toks := tk₃ }) F hi (wpAny_Constant_int (add_int (spliced_nil ?_))))
        exact h _ _
      · exact seg_execs_nil (env := recEnv C cl cn cr recf cd) (seg_execs_nil (env := recEnv C cl cn cr recf cd) (hk _ _ I'))
    · rw [if_neg hb]
      refine ⟨rfl, ?_⟩
      rw [if_neg hb, List.nil_append]
      exact seg_execs_nil (env := recEnv C cl cn cr recf cd) (seg_execs_nil (env := recEnv C cl cn cr recf cd) (hk _ _ I₂))
  · rw [if_neg hq]
    refine ⟨rfl, ?_⟩
    rw [Yc_none tr r _ (by simpa using hq), ite_self, List.nil_append]
    exact seg_execs_nil (env := recEnv C cl cn cr recf cd) (seg_execs_nil (env := recEnv C cl cn cr recf cd) (hk _ _ (I.toks tk₁)))
theorem seg_rec (c : Cx w h₀) (rc : RC h₀ D cl cn cr recf cd tl nb) (tr : Trie w Out h₀ T root Cc) (hC : ∀ p, Val (Cc p)) (htl : tl.length ≤ 100) : ∀ rest : List Str, Child w h₀ cl cn cr recf cd tl nb T Cc rest (8 * rest.length + 12) := by
  intro rest
  induction rest with
  | nil =>
    intro A C B G X nd vsR s₀ s p ok hnd hdr I ht
    refine seg_funcC ?_
    obtain ⟨m, t, F, hi, hn⟩ := I.fr
    have hle : tl.length - p.length = 0 := by rw [← List.length_drop, hdr.2]; rfl
    have hpl : p.length = tl.length := by have := hdr.1; omega
    refine seg_execs_cons (seg_If (liftK I.fix ?_))
    refine p1 c F rc hi htl fun tk => ⟨rfl, ?_⟩
    rw [decide_eq_true hpl]
    exact seg_own c tr hC hnd (I.toks tk) ht fun s₀' s' I' => seg_hash c rc tr hC hnd I' ht.tails
  | cons x r ih =>
    intro A C B G X nd vsR s₀ s p ok hnd hdr I ht
    refine seg_funcC ?_
    obtain ⟨m, t, F, hi, hn⟩ := I.fr
    have hlt : p.length < tl.length := by
      have := congrArg List.length hdr.2
      rw [List.length_drop, List.length_cons] at this; omega
    have hx : tl[p.length]? = some x := by
      have := congrArg (fun l => l[0]?) hdr.2
      simpa using this
    have hdr' : tl.drop (p.length + 1) = r := by rw [← List.drop_drop, hdr.2]; rfl
    have okd : Ok A (8 * r.length + 12 + 8) := ok.le (by rw [List.length_cons]; omega)
    refine seg_execs_cons (seg_If (liftK I.fix ?_))
    refine p1 c F rc hi htl fun tk => ⟨rfl, ?_⟩
    rw [decide_eq_false (Nat.ne_of_lt hlt)]
    have I₁ := I.toks tk
    have rc₁ := rc.keeps F.keep
    refine seg_execs_cons (seg_plain (liftK I₁.fix ?_))
    obtain ⟨LL, hl, hL⟩ := rc₁.lst
    have hget : ∃ tt, (sv LL)[p.length]? = some (.str x tt) := by
      rw [← hl, List.getElem?_map] at hx
      obtain ⟨y, hy, rfl⟩ := Option.map_eq_some_iff.mp hx
      exact ⟨y.2, by simp [hy]⟩
    obtain ⟨tt, hget⟩ := hget
    refine wpAny_Assign_Name (Subscript_ (rFree (s := { s with toks := tk }) rc₁.lc rfl (rLoc (s := { s with toks := tk }) F hi ?_)))
    refine item_listL (s := { s with toks := tk }) (k := (p.length : Int)) hL (by omega) (by omega) (by rw [Int.toNat_natCast]; exact hget) ?_
    refine rSt (s := { s with toks := tk }) F (fun h' F' S' => ⟨rfl, ?_⟩)
    have I₂ : RI h₀ C B G X nd p.length s₀ { s with heap := h', toks := tk + 1 } := I.store F' S' ⟨t, hi⟩ hn (by decide) (by decide)
    dsimp only
    have hF' := F'
    -- the two delegations, then `#`
    have J3 : ∀ s₀' s', RI h₀ C B G X nd p.length s₀' s' → Tl vsR (hashV Cc nb p) → Seg (CM w) A (GRf B C G) (GYf B C G X vsR) (hashV Cc nb p).length s₀' (recC C cl cn cr recf cd) ((execs [r1] (recEnv C cl cn cr recf cd)).wrap Kf (fun e => (leaving (recEnv C cl cn cr recf cd) e).wrap (fun _ => .raise e) .raise id id) id id) [] s' :=
      fun s₀' s' I' ht' => seg_hash c rc tr hC hnd I' ht'
    refine seg_execs_cons (seg_If (liftK I₂.fix ?_))
    refine pIn (s := { s with heap := h', toks := tk + 1 }) (key := x) c F' tr hnd (fun Q h => rLoc F' rfl (h _ _)) (fun tk Q h => nodeAt F' (mo (by decide) hn) tk Q h) fun tk₂ => ⟨rfl, ?_⟩
    have I₃ := I₂.toks tk₂
    have ht : Tl vsR (Yc Cc nb r (p ++ [x]) ++ ((if (nb || decide (0 < p.length)) = true then Yc Cc nb r (p ++ [("+" : Str)]) else []) ++ hashV Cc nb p)) := ht
    show Seg _ _ _ _ (Yc Cc nb r (p ++ [x]) ++ ((if (nb || decide (0 < p.length)) = true then Yc Cc nb r (p ++ [("+" : Str)]) else []) ++ hashV Cc nb p)).length _ _ _ _ _
    by_cases hq : (T.nd (p ++ [x])).isSome = true
    · rw [if_pos hq]
      obtain ⟨a', ha'⟩ := Option.isSome_iff_exists.mp hq
      refine seg_execs_cons (seg_sub c rc okd (by simp) ha' I₃ ht ⟨by rw [List.length_append]; exact hlt, by simpa using hdr'⟩ ih (fun Q h => ?_) fun s₀' s' I' _ => ?_)
      · refine evalArgs_plain (spliced_cons (pKid (s := { s with heap := h', toks := tk₂ }) c F' tr hnd ha' (fun Q h => nodeAt F' (mo (by decide) hn) tk₂ Q h) (fun tk Q h => rLoc (s := { s with heap := h', toks := tk }) F' rfl (h _ _)) fun tk₃ => spliced_cons ?_))
        refine wpAny_BinOp (rLoc (s := { s with heap := h', toks := tk₃ }) F' (mo (by decide) hi) (wpAny_Constant_int (add_int (spliced_nil ?_))))
        exact h _ _
      · refine seg_execs_nil (env := recEnv C cl cn cr recf cd) (seg_plus c rc tr hnd okd I' hlt hdr' ih ht.tails fun s₀'' s'' I'' => ?_)
        exact J3 _ _ I'' ht.tails.tails
    · rw [if_neg hq]
      rw [Yc_none tr r _ (by simpa using hq), List.nil_append] at ht ⊢
      refine seg_execs_nil (env := recEnv C cl cn cr recf cd) (seg_plus c rc tr hnd okd I₃ hlt hdr' ih ht fun s₀'' s'' I'' => ?_)
      exact J3 _ _ I'' ht.tails
end
end Mine
end
section
open PySem PySem.W PySem.W.X PyProof.Rows PySem.Calls
set_option Elab.async false
set_option maxRecDepth 100000
set_option maxHeartbeats 2000000
namespace Mine
abbrev recPos : Pos := ⟨54, 8, 67, 33⟩
/-- the code table of iter_match -/
def Tb (h : Heap) : Prop := CodeHd h 78 74 ∧ ∃ ps, h.get? 74 = some (tabObj ps) ∧ TriplesOk ps.toList ∧ (codeAmong recPos ps.toList = none ∨ ∃ c', codeAmong recPos ps.toList = some (.ref c') ∧ h.CodeRec (.ref c') recQ)
theorem Tb.start {w : World} {h : Heap} (X : (KK w).In h) (ht : h.get? 74 = some (tabObj #[])) : Tb h :=
  ⟨codeHd_of_K X (by kernel_rfl), #[], ht, trivial, .inl rfl⟩
theorem Tb.keeps {h h' : Heap} (x : Tb h) (k : ∀ b o, h.get? b = some o → h'.get? b = some o) : Tb h' :=
  let ⟨C, ps, a, b, d⟩ := x
  ⟨C.keeps k, ps, k _ _ a, b, d.elim .inl fun ⟨c', e, r⟩ => .inr ⟨c', e, r.keeps k⟩⟩
structure Bi (h : Heap) : Prop where
  bi : ∃ mg bm o, h.Ns mainGlobals mg ∧ mg "__builtins__" = some (.ref bm) ∧ bm ≠ builtinsNs ∧ bm ≠ mainGlobals ∧ bm ≠ 74 ∧ h.get? bm = some o ∧ o.cls = .type "module" ∧ o.dict = some builtinsNs ∧ o.data = .plain
theorem Bi.keeps {h h' : Heap} (x : Bi h) (k : ∀ b o, h.get? b = some o → h'.get? b = some o) : Bi h' :=
  let ⟨mg, bm, o, g, a, b, c, d, e, r⟩ := x.bi; ⟨mg, bm, o, g.keeps k, a, b, c, d, k _ _ e, r⟩
section
variable {w : World} {A : Around} {E : Value → Shared → Prop} {s : Shared}
theorem mkRec {cl cn cr T : Addr} {env : Env} {fl : Nat} {Q : Value → Shared → Prop} (bi : Bi s.heap) (tb : Tb s.heap) (hcl : closureFor (stScope recSt) env = pure (recCl cl cn cr)) (hge : env.globals = mainGlobals) (hcd : env.code = .ref 78)
    (h : ∀ c' ctv doc pm h' tk, (∀ b o, b ≠ 74 → s.heap.get? b = some o → h'.get? b = some o) → s.heap.objs.size ≤ h'.objs.size → h'.CodeRec (.ref c') recQ → Tb h' →
      Q (.ref h'.objs.size) { s with heap := h'.push (fnObj (recFd cl cn cr (.ref c') (.ref T) pm ctv doc)), toks := tk }) :
    wpAny (model PR w) A (makeTail "rec" recQ (stArgs recSt) (.stmts (stBody recSt)) (stScope recSt) env (.ref T) .none none recPos fl) Q E s := by
  obtain ⟨mg, bm, o, hg, b1, b2, b3, b4, b5, b6⟩ := bi.bi
  obtain ⟨C, ps, hP, ht, hor⟩ := tb
  have hb : s.heap.BuiltinsAt mg 74 := ⟨bm, o, b1, b2, b3, b4, b5, b6⟩
  rcases hor with hn | ⟨c', hs, hr⟩
  · refine kdv_makeTail hcl hge hg hcd C hP ht hn (by decide) hb fun c' ctv doc h' tk hx h1 h2 h3 h4 => ?_
    refine h c' ctv doc _ h' tk (fun b o hb e => hx b o hb e) (Nat.le_trans h1 (Nat.le_of_lt h2)) h3 ?_
    have hl : (ps ++ #[rawInt recPos.line, rawInt recPos.col, Value.ref c']).toList = ps.toList ++ [rawInt recPos.line, rawInt recPos.col, .ref c'] := by simp
    refine ⟨let ⟨o, vs, file, tf, flags, tg, inF, text, tt, e, r⟩ := C; ⟨o, vs, file, tf, flags, tg, inF, text, tt, hx _ _ (by decide) e, r⟩, _, h4, ?_, .inr ⟨c', ?_, h3⟩⟩
    · rw [hl]; exact TriplesOk_snoc _ _ _ _ ht
    · rw [hl]; exact codeAmong_snoc _ ht hn
  · exact kdv_makeTailHit hcl hge hg hcd C hP ht hs hb fun ctv doc h' tk k hsz => h c' ctv doc _ h' tk (fun b o _ e => k b o e) hsz (hr.keeps k) (Tb.keeps ⟨C, ps, hP, ht, .inr ⟨c', hs, hr⟩⟩ k)
end
end Mine
end
section
open PySem PySem.W PySem.W.X PyProof.Rows PySem.Calls
set_option Elab.async false
set_option maxRecDepth 100000
set_option maxHeartbeats 2000000
namespace Mine
abbrev iterQ : Str := "MQTTMatcher.iter_match"
section
variable {w : World} {A : Around} {E : Value → Shared → Prop} {s : Shared}
theorem call_fnC {R : Result → Shared → Prop} {f : Addr} {st : Stmt} {nm q : Str} {code : Addr} {vals : List Value} {binds : List (Str × Value)} (c : Cx w s.heap) (hroom : A.depth < recursionLimit)
    (ho : ∃ pm, (KK w).lookup f = some (fnObj (fdOf st nm q pm code))) (hcd : codeIn (KK w) (.ref code) q = true)
    (hbind : ∀ pm, bindArgs (fdOf st nm q pm code) ⟨vals, []⟩ = pure binds)
    (hkind : ∀ x ∈ binds, (stScope st).names.lookup x.1 = some .local ∨ ((stScope st).names.lookup x.1 = some .cell ∧ ((cellsFrom (s.heap.objs.size + 1) (stScope st).names []).lookup x.1).isSome = true))
    (h : ∀ h₁ tk, Fr s.heap s.heap.objs.size h₁ (bindL (envOfC q (stScope st) s.heap.objs.size f (.ref code)).kindOf binds fun _ => none) →
      Cl s.heap.objs.size (cellsFrom (s.heap.objs.size + 1) (stScope st).names []) h₁ (bindC (envOfC q (stScope st) s.heap.objs.size f (.ref code)).kindOf binds fun _ => none) →
      wpAny (model PR w) (A.deeper (envOfC q (stScope st) s.heap.objs.size f (.ref code))) (execs (stBody st) (envOfC q (stScope st) s.heap.objs.size f (.ref code)))
        (fun fl s' => R (.ok (.ret (match fl with | .ret v => v | _ => .none))) s') (fun _ _ => False) { s with heap := h₁, toks := tk })
    (hco : (stScope st).isCoroutine = false := by rfl) (hgen : (stScope st).isGenerator = false := by rfl) (hk : (stScope st).kind = .function := by rfl) :
    codeAny (model PR w) A (.call (.ref f) ⟨vals, []⟩) R s := by
  obtain ⟨pm, ho⟩ := ho
  refine codeAny_call_cells (fd := fdOf st nm q pm code) (body := stBody st) (binds := binds) hroom (c.X _ _ ho) rfl c.nl (codeRec_of c.X hcd) rfl (hbind pm) rfl hkind (fun s₁ X => ?_) hco hgen hk
  obtain ⟨h₁, tk, rfl, _⟩ := X.done
  exact wpAny_mono (h h₁ tk ⟨X.toInCall.ns, X.toInCall.keep, X.toInCall.fresh⟩ ⟨X.cell, X.apart, X.above⟩) (fun _ _ x => x) fun _ _ x => x.elim
/-- a heap that lies under this one, and leaves the code table out -/
structure Und (w : World) (hb h : Heap) : Prop where
  c : Cx w hb
  bi : Bi hb
  keep : ∀ b o, hb.get? b = some o → h.get? b = some o
  size : hb.objs.size ≤ h.objs.size
  no74 : hb.get? 74 = none
  tb : Tb h
theorem Und.keeps {hb h h' : Heap} (u : Und w hb h) (k : ∀ b o, h.get? b = some o → h'.get? b = some o) (z : h.objs.size ≤ h'.objs.size) : Und w hb h' :=
  ⟨u.c, u.bi, fun b o e => k b o (u.keep b o e), Nat.le_trans u.size z, u.no74, u.tb.keeps k⟩
theorem Tb.at {h h' : Heap} (x : Tb h) (k : ∀ b o, h.get? b = some o → b < h.objs.size → h'.get? b = some o) : Tb h' := x.keeps fun b o e => k b o e (Heap.lt_size e)
theorem iter_spec {R : Result → Shared → Prop} {x xx root : Addr} {topic : Str} {tl : List Str} {t : Tok} {Out : Addr → Prop} {T : TM} {C : Path → Value} {hb : Heap} (u : Und w hb s.heap) (ok : Ok A 10) (M : MatX w Out s.heap x xx root T C) (h74 : Out 74)
    (hx : x ≠ 74) (hxx : xx ≠ 74) (hsp : Txt.split topic "/" = tl) (hkl : topic.length ≤ 100)
    (h : ∀ h₀ h₁ tk D cl cn cr recf cd nm qn t₀, (∀ b o, b ≠ 74 → s.heap.get? b = some o → h₀.get? b = some o) → s.heap.objs.size ≤ h₀.objs.size → Tb h₀ → RC h₀ D cl cn cr recf cd tl (!Txt.startswith topic "$") →
      Fr h₀ h₀.objs.size h₁ (fun y => ([("node", .ref root), ("i", .int 0 t₀)] : List (Str × Value)).reverse.lookup y) →
      R (.ok (.ret (.ref h₁.objs.size))) { s with gens := s.gens.push (.fresh (recC h₀.objs.size cl cn cr recf cd)), toks := tk, heap := h₁.push { cls := .type "generator", data := .fields #[.int s.gens.size 0, nm, qn] } }) :
    codeAny (model PR w) A (.call (.ref 79) ⟨[.ref x, .str topic t], []⟩) R s := by
  have cs := u.c.keeps u.keep
  refine call_fnC (st := iterSt) (nm := "iter_match") (q := iterQ) (code := 78) (binds := [("self", .ref x), ("topic", .str topic t)]) cs ok.room ⟨_, rfl⟩ (by kernel_rfl) (fun pm => by kernel_rfl) ?_ (fun h₁ tk F K => ?_)
  · intro y hy; left
    rcases List.mem_cons.mp hy with rfl | hy
    · rfl
    · rcases List.mem_cons.mp hy with rfl | hy
      · rfl
      · cases hy
  have F₁ : Fr hb s.heap.objs.size h₁ _ := ⟨F.ns, fun b o e => F.keep b o (u.keep b o e), Nat.le_trans u.size F.above⟩
  have hnew : ∀ b, s.heap.objs.size ≤ b → s.heap.get? b = none := fun b hbb => Heap.get?_none_of_le hbb
  -- lst
  refine wpAny_execs_cons (wpAny_Assign_Name ?_)
  refine wpAny_Call_method (T := "str") (id := "str.split") rfl rfl rfl PySem.F.plainAttrs_str PySem.F.slot_str_split rfl ?_
  refine ldLoc F₁ rfl ⟨typeIs_str _ _ _, fun a e => (by cases e), ?_⟩
  refine Calls.callWith_builtin rfl (evalArgs_plain (spliced_cons (cStr (k := 0) (pos := default) fun tk => spliced_nil ?_)))
  dsimp only
  refine split_call hkl fun D l h₂ k hl k₂ hD => ?_
  dsimp only at k₂ ⊢
  have F₂ := frUp F₁ k₂
  have K₂ := K.keeps k₂
  have kk : ∀ b o, s.heap.get? b = some o → h₂.get? b = some o := fun b o e => k₂ b o (F.keep b o e)
  have D₁ : D ≠ s.heap.objs.size := fun z => by
    obtain ⟨oD, hoD, hcD, nD, hdD⟩ := id hD
    obtain ⟨o', _, _, ho', hd', _⟩ := F₂.ns
    rw [← z, hoD] at ho'; cases ho'; rw [hdD] at hd'; cases hd'
  have Dc : ∀ c v, h₂.IsCell c v → D ≠ c := fun c v hc z => by
    obtain ⟨oD, hoD, hcD, nD, hdD⟩ := id hD
    obtain ⟨o', ho', hd'⟩ := hc
    rw [← z, hoD] at ho'; cases ho'; rw [hdD] at hd'; cases hd'
  have hcl := K₂.cell "lst" (s.heap.objs.size + 1) rfl
  have hcn := K₂.cell "normal" (s.heap.objs.size + 1 + 1) rfl
  have hcr := K₂.cell "rec" (s.heap.objs.size + 1 + 1 + 1) rfl
  have Dl := Dc _ _ hcl
  have Dn := Dc _ _ hcn
  have Dr := Dc _ _ hcr
  refine wpAny_storeName_cell rfl rfl (c := s.heap.objs.size + 1) rfl hcl fun h₃ hcl₃ S₃ => ?_
  dsimp only at hcl₃ S₃ ⊢
  have hbn : ∀ b : Nat, s.heap.objs.size ≤ b → hb.get? b = none := fun b hbb => Heap.get?_none_of_le (Nat.le_trans u.size hbb)
  have F₃ := frOwn F₂ S₃ (Nat.succ_ne_self _) (hbn _ (Nat.le_succ _))
  have hD₃ : h₃.IsList D (sv l).toArray := Heap.IsList.at hD fun o e => (S₃.2 _ Dl).trans e
  have kk₃ : ∀ b o, s.heap.get? b = some o → h₃.get? b = some o := fun b o e => (S₃.2 b (fun z => by rw [z, hnew _ (Nat.le_succ _)] at e; cases e)).trans (kk b o e)
  have hcn₃ := hcn.sameBut S₃ (Nat.succ_ne_self _)
  have hcr₃ := hcr.sameBut S₃ (by show s.heap.objs.size + 1 + 1 + 1 ≠ s.heap.objs.size + 1; omega)
  refine wpAny_execs_cons (wpAny_Assign_Name (wpAny_UnaryOp ?_))
  refine wpAny_Call_method (T := "str") (id := "str.startswith") rfl rfl rfl PySem.F.plainAttrs_str PySem.F.slot_str_startswith rfl ?_
  refine ldLoc F₃ rfl ⟨typeIs_str _ _ _, fun a e => (by cases e), ?_⟩
  refine Calls.callWith_builtin rfl (evalArgs_plain (spliced_cons (cStr (k := 0) (pos := default) fun tk => spliced_nil ?_)))
  refine SC.startswith ?_
  refine wpAny_bind (wpAny_truthy_bool (wpAny_pure ?_))
  refine wpAny_storeName_cell rfl rfl (c := s.heap.objs.size + 1 + 1) rfl hcn₃ fun h₄ hcn₄ S₄ => ?_
  dsimp only at hcn₄ S₄ ⊢
  have F₄ := frOwn F₃ S₄ (by show s.heap.objs.size + 1 + 1 ≠ s.heap.objs.size; omega) (hbn _ (Nat.le_of_lt (by show s.heap.objs.size < s.heap.objs.size + 1 + 1; omega)))
  have hD₄ : h₄.IsList D (sv l).toArray := Heap.IsList.at hD₃ fun o e => (S₄.2 _ Dn).trans e
  have kk₄ : ∀ b o, s.heap.get? b = some o → h₄.get? b = some o := fun b o e => (S₄.2 b (fun z => by rw [z, hnew _ (by show s.heap.objs.size ≤ s.heap.objs.size + 1 + 1; omega)] at e; cases e)).trans (kk₃ b o e)
  have hcl₄ := hcl₃.sameBut S₄ (by show s.heap.objs.size + 1 ≠ s.heap.objs.size + 1 + 1; omega)
  have hcr₄ := hcr₃.sameBut S₄ (by show s.heap.objs.size + 1 + 1 + 1 ≠ s.heap.objs.size + 1 + 1; omega)
  have sz₄ : s.heap.objs.size + 1 + 1 + 1 < h₄.objs.size := hcr₄.lt
  have tb₄ : Tb h₄ := u.tb.keeps kk₄
  have bi₄ : Bi h₄ := u.bi.keeps F₄.keep
  refine wpAny_execs_cons (kdv_def rfl rfl rfl (kdv_all1 (wpAny_Constant_int (kdv_all0 ?_))))
  rw [makeFunction_eq]
  simp only [List.zip_nil_right, List.filterMap_nil, List.isEmpty_nil, if_true, pure_bind, List.isEmpty_cons, Bool.false_eq_true, if_false]
  refine wpAny_bind (wpAny_newTextTuple ?_)
  dsimp only
  have kp : ∀ b o, h₄.get? b = some o → (h₄.push { cls := .type "tuple", data := .seq #[Value.int 0 (k + 1)] }).get? b = some o := fun b o e => Heap.get?_push_of_some _ e
  refine mkRec (cl := s.heap.objs.size + 1) (cn := s.heap.objs.size + 1 + 1) (cr := s.heap.objs.size + 1 + 1 + 1) (T := h₄.objs.size) (bi₄.keeps kp) (tb₄.keeps kp) rfl rfl rfl fun c' ctv doc pm h₅ tk₅ k₅ sz₅ r₅ tb₅ => ?_
  dsimp only at k₅ sz₅ ⊢
  rw [Heap.size_push] at sz₅
  have hT₅ : h₅.get? h₄.objs.size = some (tupO [.int 0 (k + 1)]) := k₅ _ _ (by
    intro z
    obtain ⟨_, ps, hps, _⟩ := u.tb
    have := Heap.lt_size (kk₄ _ _ hps)
    rw [z] at this; exact Nat.lt_irrefl _ this) (Heap.get?_push_size _ rfl)
  have kk₅ : ∀ b o, b ≠ 74 → h₄.get? b = some o → h₅.get? b = some o := fun b o h1 e => k₅ b o h1 (kp b o e)
  have l74 : (74 : Nat) < s.heap.objs.size := by
    obtain ⟨_, ps, hps, _⟩ := u.tb
    exact Heap.lt_size hps
  have n74 : ∀ b : Nat, s.heap.objs.size ≤ b → b ≠ 74 := fun b h1 z => by omega
  have F₅ : Fr hb s.heap.objs.size h₅ _ := ⟨F₄.ns.at' fun o e => kk₅ _ o (n74 _ (Nat.le_refl _)) e, fun b o e => kk₅ b o (fun z => by rw [z, u.no74] at e; cases e) (F₄.keep b o e), F₄.above⟩
  have cellAt : ∀ {h h' : Heap} {c : Addr} {v : Option Value}, h.IsCell c v → c ≠ 74 → (∀ b o, b ≠ 74 → h.get? b = some o → h'.get? b = some o) → h'.IsCell c v := fun ⟨o, e, d⟩ n k => ⟨o, k _ _ n e, d⟩
  have hcl₅ := cellAt hcl₄ (n74 _ (Nat.le_succ _)) kk₅
  have hcn₅ := cellAt hcn₄ (n74 _ (by show s.heap.objs.size ≤ s.heap.objs.size + 1 + 1; omega)) kk₅
  have hcr₅ := cellAt hcr₄ (n74 _ (by show s.heap.objs.size ≤ s.heap.objs.size + 1 + 1 + 1; omega)) kk₅
  refine wpAny_storeName_cell (c := s.heap.objs.size + 1 + 1 + 1) rfl rfl rfl (hcr₅.keeps fun b o e => Heap.get?_push_of_some _ e) fun h₆ hcr₆ S₆ => ?_
  dsimp only at hcr₆ S₆ ⊢
  have fnAt : ∀ o : Obj, o.isFreed = false → (h₅.push o).get? h₅.objs.size = some o := fun o e => Heap.get?_push_size _ e
  have sz₆ : h₅.objs.size + 1 = h₆.objs.size := by rw [S₆.1, Heap.size_push]
  have L3 : s.heap.objs.size + 1 + 1 + 1 < h₅.objs.size := hcr₅.lt
  have S5 : ∀ b o, b ≠ s.heap.objs.size + 1 + 1 + 1 → h₅.get? b = some o → h₆.get? b = some o := fun b o h1 e => (S₆.2 b h1).trans (Heap.get?_push_of_some _ e)
  have kk₆ : ∀ b o, b ≠ 74 → s.heap.get? b = some o → h₆.get? b = some o := fun b o h1 e => S5 b o (fun z => by rw [z, hnew _ (by show s.heap.objs.size ≤ s.heap.objs.size + 1 + 1 + 1; omega)] at e; cases e) (kk₅ b o h1 (kk₄ b o e))
  have F₆ : Fr hb s.heap.objs.size h₆ _ := ⟨F₅.ns.at' fun o e => S5 _ o (by show s.heap.objs.size ≠ s.heap.objs.size + 1 + 1 + 1; omega) e, fun b o e => S5 b o (fun z => by rw [z, hbn _ (by show s.heap.objs.size ≤ s.heap.objs.size + 1 + 1 + 1; omega)] at e; cases e) (F₅.keep b o e), F₅.above⟩
  have D74 : D ≠ 74 := fun z => by
    obtain ⟨oD, hoD, hcD, _⟩ := hD₄
    obtain ⟨_, ps, hps, _⟩ := u.tb
    rw [z, kk₄ _ _ hps] at hoD; cases hoD; cases hcD
  have hD₆ : h₆.IsList D (sv l).toArray := Heap.IsList.at hD₄ fun o e => S5 _ o Dr (kk₅ _ o D74 e)
  have cellBut : ∀ {c : Addr} {v : Option Value}, h₅.IsCell c v → c ≠ s.heap.objs.size + 1 + 1 + 1 → h₆.IsCell c v := fun ⟨o, e, d⟩ n => ⟨o, S5 _ _ n e, d⟩
  have recAt : h₆.CodeRec (.ref c') recQ := by
    obtain ⟨c, o, vs, tq, e, ho, hd, hq⟩ := r₅
    refine ⟨c, o, vs, tq, e, S5 _ _ (fun z => ?_) ho, hd, hq⟩
    obtain ⟨o', ho', hd'⟩ := hcr₅
    rw [← z, ho] at ho'; cases ho'; rw [hd] at hd'; cases hd'
  have rc₆ : RC h₆ D (s.heap.objs.size + 1) (s.heap.objs.size + 1 + 1) (s.heap.objs.size + 1 + 1 + 1) h₅.objs.size (.ref c') tl (!Txt.startswith topic "$") :=
    ⟨⟨l, hl.trans hsp, hD₆⟩, cellBut hcl₅ (by show s.heap.objs.size + 1 ≠ s.heap.objs.size + 1 + 1 + 1; omega), cellBut hcn₅ (by show s.heap.objs.size + 1 + 1 ≠ s.heap.objs.size + 1 + 1 + 1; omega), hcr₆,
      ⟨h₄.objs.size, _, pm, ctv, doc, (S₆.2 _ (Nat.ne_of_gt L3)).trans (fnAt _ rfl), S5 _ _ (Nat.ne_of_gt sz₄) hT₅⟩, recAt⟩
  have tb₆ : Tb h₆ := by
    obtain ⟨⟨o, vs, file, tf, flags, tg, inF, text, tt, e, r⟩, ps, hps, ht, hor⟩ := tb₅
    have ne : ∀ b o, (∀ v, o.data ≠ .cell v) → h₅.get? b = some o → h₆.get? b = some o := fun b o hn e => S5 b o (fun z => by
      obtain ⟨o', ho', hd'⟩ := hcr₅
      rw [← z, e] at ho'; cases ho'; exact hn _ hd') e
    refine ⟨⟨o, vs, file, tf, flags, tg, inF, text, tt, ne _ _ (fun v z => ?_) e, r⟩, ps, ne _ _ (fun v z => by cases z) hps, ht, ?_⟩
    · rw [r.2.1] at z; cases z
    · refine hor.elim .inl fun ⟨c'', e', hr⟩ => .inr ⟨c'', e', ?_⟩
      obtain ⟨c, o, vs, tq, e, ho, hd, hq⟩ := hr
      exact ⟨c, o, vs, tq, e, ne _ _ (fun v z => by rw [hd] at z; cases z) ho, hd, hq⟩
  have M₆ := matKeep M fun b o hb' e => kk₆ b o (by
    rcases hb' with rfl | rfl | hb'
    · exact hx
    · exact hxx
    · exact fun z => hb' (z ▸ h74)) e
  obtain ⟨hs, tk', n, hxx'⟩ := M₆.dict
  refine wpAny_execs_cons (wpAny_Return_some ?_)
  refine wpAny_Call_NameR (wpAny_Name (wpAny_loadName_cell (c := s.heap.objs.size + 1 + 1 + 1) rfl rfl rfl hcr₆ ?_) (by decide))
  refine Calls.callWith_function (o := fnObj (recFd (s.heap.objs.size + 1) (s.heap.objs.size + 1 + 1) (s.heap.objs.size + 1 + 1 + 1) (.ref c') (.ref h₄.objs.size) pm ctv doc)) (fd := recFd (s.heap.objs.size + 1) (s.heap.objs.size + 1 + 1) (s.heap.objs.size + 1 + 1 + 1) (.ref c') (.ref h₄.objs.size) pm ctv doc)
    (evalArgs_plain (spliced_cons (Attribute_any_ (ldLoc F₆ rfl (gRoot (u.c.keeps F₆.keep).X M₆.at_ hxx' (spliced_nil ⟨⟨(S₆.2 _ (Nat.ne_of_gt L3)).trans (fnAt _ rfl), rfl⟩, ?_⟩))))))
  refine wpAny_call (rec_call1 (u.c.keeps F₆.keep) (ok.deeper _).room rc₆ fun h₁ tk nm qn t₀ F' => ?_)
  dsimp only at F' ⊢
  exact h h₆ h₁ tk D _ _ _ _ _ nm qn t₀ kk₆ (by omega) tb₆ rc₆ F'
end
end Mine
end
section
open PySem PySem.W PySem.W.X PyProof.Rows PySem.Calls
set_option Elab.async false
set_option maxRecDepth 100000
set_option maxHeartbeats 2000000
namespace Mine
/-- a generator object a (number g, frame C) of rec, just made -/
structure GenAt (w : World) (s : Shared) (a : Addr) (g : Nat) (C : Addr) (vs : List Value) (d : Nat) : Prop where
  ex : ∃ h₀ cl cn cr recf D root cd tl nb Out T Cc t, Cx w h₀ ∧ RC h₀ D cl cn cr recf cd tl nb ∧ Trie w Out h₀ T root Cc ∧ (∀ p, Val (Cc p)) ∧ tl.length ≤ 100 ∧
    Fr h₀ C s.heap (fun y => ([("node", .ref root), ("i", .int 0 t)] : List (Str × Value)).reverse.lookup y) ∧ s.gens[g]? = some (.fresh (recC C cl cn cr recf cd)) ∧
    vs = Yc Cc nb tl [] ∧ d = 8 * tl.length + 12
  isG : IsG s.heap a g
  last : s.gens.size = g + 1
  lt : C < a
theorem GenAt.keeps {w : World} {s s' : Shared} {a : Addr} {g : Nat} {C : Addr} {vs : List Value} {d : Nat} (x : GenAt w s a g C vs d) (k : ∀ b o, s.heap.get? b = some o → s'.heap.get? b = some o) (e : s'.gens = s.gens) : GenAt w s' a g C vs d := by
  obtain ⟨h₀, cl, cn, cr, recf, D, root, cd, tl, nb, Out, T, Cc, t, c, rc, tr, hC, htl, F, hg, hv, hd⟩ := x.ex
  exact ⟨⟨h₀, cl, cn, cr, recf, D, root, cd, tl, nb, Out, T, Cc, t, c, rc, tr, hC, htl, frUp F k, by rw [e]; exact hg, hv, hd⟩, x.isG.at fun o e => k _ o e, by rw [e]; exact x.last, x.lt⟩
theorem GenAt.ready {w : World} {A : Around} {s : Shared} {a : Addr} {g : Nat} {C : Addr} {vs : List Value} {d : Nat} (x : GenAt w s a g C vs d) (ok : Ok A d) {B : Nat} {X : Addr → Prop} (hfix : SFix s) (hB : B ≤ s.heap.objs.size)
    (x0 : ∀ b, X b → s.heap.get? b = none ∨ (a < b ∧ b ≠ C)) (xB : ∀ b : Nat, X b → b < B) (xC : ¬ X C) : Ready w A B C (g + 1) X vs.reverse g vs.length s := by
  obtain ⟨h₀, cl, cn, cr, recf, D, root, cd, tl, nb, Out, T, Cc, t, c, rc, tr, hC, htl, F, hg, rfl, rfl⟩ := x.ex
  refine ⟨_, hg, fun s' r => ⟨rfl, ?_⟩⟩
  have hx0 : ∀ b, X b → h₀.get? b = none := fun b hb => by
    cases q : h₀.get? b with
    | none => rfl
    | some o =>
      rcases x0 b hb with h1 | h1
      · rw [F.keep _ _ q] at h1; cases h1
      · exact absurd (Nat.lt_trans (Nat.lt_of_lt_of_le (Heap.lt_size q) F.above) (Nat.lt_trans x.lt h1.1)) (Nat.lt_irrefl _)
  refine seg_rec c rc tr hC htl tl A C B (g + 1) X root _ _ _ [] ok tr.root ⟨Nat.zero_le _, rfl⟩ ⟨⟨_, t, ⟨F.ns.at' fun o e => r.heap _ _ xC e, fun b o e => r.heap b o (fun z => by rw [hx0 b z] at e; cases e) (F.keep b o e), F.above⟩, rfl, rfl⟩, Kp.refl .., fun k y h1 e => ?_, r.fix, ?_, ?_, hx0, xC, xB⟩ ⟨[], by simp⟩
  · have := (r.gens k h1).symm.trans e
    rw [Array.getElem?_eq_none (by rw [x.last]; exact h1)] at this
    cases this
  · exact Nat.le_trans hB r.hsz
  · have := r.gsz; rw [x.last] at this; exact this
/-- what eating a generator leaves -/
structure Eaten (B : Nat) (C S : Addr) (g : Nat) (s s' : Shared) : Prop where
  heap : ∀ b o, b < B → b ≠ C → b ≠ S → s.heap.get? b = some o → s'.heap.get? b = some o
  hsz : s.heap.objs.size ≤ s'.heap.objs.size
  gens : ∀ k : Nat, k < g → s'.gens[k]? = s.gens[k]?
  fin : FinAt g s'
  gsz : s.gens.size ≤ s'.gens.size
  os : s'.os = s.os
  fix : SFix s'
theorem Eaten.pre {B : Nat} {C S : Addr} {g : Nat} {s s₁ s' : Shared} (x : Eaten B C S g s₁ s') (k : ∀ b o, b < B → b ≠ C → b ≠ S → s.heap.get? b = some o → s₁.heap.get? b = some o) (z : s.heap.objs.size ≤ s₁.heap.objs.size)
    (e : ∀ k : Nat, k < g → s₁.gens[k]? = s.gens[k]?) (ez : s.gens.size ≤ s₁.gens.size) (eo : s₁.os = s.os) : Eaten B C S g s s' :=
  ⟨fun b o h1 h2 h3 h4 => x.heap b o h1 h2 h3 (k b o h1 h2 h3 h4), Nat.le_trans z x.hsz, fun k h => (x.gens k h).trans (e k h), x.fin, Nat.le_trans ez x.gsz, x.os.trans eo, x.fix⟩
section
variable {w : World} {A : Around} {E : Value → Shared → Prop} {s : Shared}
theorem isStop {M : Model} {e : Addr} {Q : Bool → Shared → Prop} (he : StopAt s.heap e) (h : Q true s) : wpAny M A (isInstance (.ref e) (.type "StopIteration")) Q E s := by
  obtain ⟨o, vs, ho, hc, _⟩ := he
  exact wpAny_isInstance (T := "StopIteration") (b := true) ⟨o, ho, hc⟩ isSubtype_stop h
theorem pyNextC {a : Addr} {g n : Nat} {B : Nat} {C : Addr} {G : Nat} {X : Addr → Prop} {vsR : List Value} {Q : Option Value → Shared → Prop} (hh : A.handled = none)
    (hl : s.heap.NoLimit) (hroom : A.depth < recursionLimit) (hg : IsG s.heap a g) (hr : Ready w A.in1 B C G X vsR g n s) (hgG : g < G) (hs : SFix s)
    (hY : ∀ m v s₁, n = m + 1 → vsR[m]? = some v → Tn B C G g s s₁ → Ready w A.in1 B C G X vsR g m s₁ → SFix s₁ → Q (some v) s₁)
    (hP : ∀ s₁, n = 0 → Tn B C G g s s₁ → FinAt G s₁ → s₁.gens[g]? = some .finished → SFix s₁ → Q none s₁) :
    wpAny (CM w) A (pyNext (.ref a)) Q E s := by
  unfold pyNext
  refine wpAny_bind (wpAny_attempt ?_)
  refine wpAny_mono (fix_any hs (nextC hh hl hroom hg hr hgG hs (Q := fun v s₁ => ∃ m, n = m + 1 ∧ vsR[m]? = some v ∧ Tn B C G g s s₁ ∧ Ready w A.in1 B C G X vsR g m s₁)
      (E := fun e s₁ => ∃ e', e = .ref e' ∧ n = 0 ∧ Tn B C G g s s₁ ∧ FinAt G s₁ ∧ s₁.gens[g]? = some .finished ∧ StopAt s₁.heap e')
      (fun m v s₁ h1 h2 h3 h4 => ⟨m, h1, h2, h3, h4⟩) (fun e s₁ h1 h2 h3 h4 h5 => ⟨e, rfl, h1, h2, h3, h4, h5⟩))) (fun v s₁ h => ?_) (fun e s₁ h => ?_)
  · obtain ⟨hs₁, v, rfl, m, h1, h2, h3, h4⟩ := h
    exact wpAny_pure (hY m v s₁ h1 h2 h3 h4 hs₁)
  · obtain ⟨hs₁, e', rfl, h1, h2, h3, h4, h5⟩ := h
    exact wpAny_bind (isStop h5 (wpAny_pure (hP s₁ h1 h2 h3 h4 hs₁)))
theorem extend_loopC {R : Result → Shared → Prop} {a S : Addr} {g B : Nat} {C : Addr} {vsR : List Value} {res : Value} {hK : Heap} (hh : A.handled = none) (hroom : A.in1.depth < recursionLimit)
    (haB : a < B) (haC : a ≠ C) (hSB : S < B) (hSC : S ≠ C) (haS : a ≠ S) (hl : hK.NoLimit) (hKC : ∀ b o, hK.get? b = some o → b < B ∧ b ≠ C ∧ b ≠ S) :
    ∀ m s acc, (∀ b o, hK.get? b = some o → s.heap.get? b = some o) → IsG s.heap a g → Ready w A.in1.in1 B C (g + 1) (fun b => b = S) vsR g m s → SFix s → (∃ n, s.heap.get? S = some (seqObj "list" acc n)) → acc.size + m ≤ 1000 → m ≤ vsR.length →
    (∀ s', Eaten B C S g s s' → (∃ n, s'.heap.get? S = some (seqObj "list" (acc ++ (vsR.take m).reverse.toArray) n)) → IsG s'.heap a g → R (.ok (.ret res)) s') →
    codeAny (CM w) A (.builtin "list.extend.loop" ⟨[.ref S, .ref a, res], []⟩) R s := by
  intro m
  induction m with
  | zero =>
    intro s acc hk hg hr hs hS hsz hle hR
    refine codeC_builtin (by decide) F.entry_extend_loop ?_
    rw [Around.under_plainId F.plain_extend_loop _]
    show wpAny _ A.in1 (pyNext (.ref a) >>= _) _ _ s
    refine wpAny_bind (pyNextC hh (hl.keeps hk) hroom hg hr (Nat.lt_succ_self _) hs (fun m v s₁ h1 => nomatch h1) fun s₁ _ hT hF hf hs₁ => ?_)
    refine wpAny_pure (hR s₁ ⟨fun b o h1 h2 _ e => hT.heap b o h1 h2 e, hT.hsz, fun k h => hT.gens k (Nat.lt_succ_of_lt h) (Nat.ne_of_lt h), fun k x h1 e => ?_, hT.gsz, hT.os, hs₁⟩ ?_ (hg.at fun o e => hT.heap _ o haB haC e))
    · rcases Nat.lt_or_ge g k with h2 | h2
      · exact hF k x h2 e
      · obtain rfl : k = g := Nat.le_antisymm h2 h1
        rw [hf] at e; cases e; rfl
    · obtain ⟨n, hn⟩ := hS
      exact ⟨n, by simpa using hT.heap S _ hSB hSC hn⟩
  | succ m ih =>
    intro s acc hk hg hr hs hS hsz hle hR
    refine codeC_builtin (by decide) F.entry_extend_loop ?_
    rw [Around.under_plainId F.plain_extend_loop _]
    show wpAny _ A.in1 (pyNext (.ref a) >>= _) _ _ s
    refine wpAny_bind (pyNextC hh (hl.keeps hk) hroom hg hr (Nat.lt_succ_self _) hs (fun m' v s₁ h1 h2 hT hr₁ hs₁ => ?_) fun s₁ h1 => nomatch h1)
    obtain rfl : m = m' := Nat.succ.inj h1
    obtain ⟨n, hn⟩ := hS
    have hS₁ := hT.heap S _ hSB hSC hn
    show wpAny _ A.in1 (updateSeq S (·.push v) >>= _) _ _ _
    have oth : ∀ b o, b ≠ S → s₁.heap.get? b = some o → (s₁.heap.update S (Obj.mapSeq (·.push v))).get? b = some o := fun b o hb e => (Heap.get?_update_other _ _ (Ne.symm hb)).trans e
    have hz1 : acc.size ≤ sizeLine := by rw [sizeLine_eq]; omega
    refine wpAny_bind (wpAny_updateSeq hS₁ rfl (wpAny_pure ⟨plainId_quiet F.plain_extend_loop _, ?_⟩) hz1 (by rw [Array.size_push]; omega))
    refine ih _ (acc.push v) (fun b o e => oth b o (hKC b o e).2.2 (hT.heap b o (hKC b o e).1 (hKC b o e).2.1 (hk b o e))) (hg.at fun o e => oth _ o haS (hT.heap _ o haB haC e)) ?_ hs₁ ⟨_, get?_update_seq hS₁ _⟩ (by rw [Array.size_push]; omega) (Nat.le_of_succ_le hle) fun s' hE hS' hg' => ?_
    · exact hr₁.keep ⟨fun b o h1 e => oth b o h1 e, by rw [Heap.size_update]; exact Nat.le_refl _, fun _ _ => rfl, Nat.le_refl _, hs₁⟩ rfl
    · refine hR s' (hE.pre (fun b o h1 h2 h3 e => oth b o h3 (hT.heap b o h1 h2 e)) (by rw [Heap.size_update]; exact hT.hsz) (fun k h => hT.gens k (Nat.lt_succ_of_lt h) (Nat.ne_of_lt h)) hT.gsz hT.os) ?_ hg'
      obtain ⟨n', hn'⟩ := hS'
      refine ⟨n', ?_⟩
      have e : (vsR.take (m + 1)).reverse = v :: (vsR.take m).reverse := by rw [List.take_add_one, h2]; simp
      rw [e]
      simpa using hn'
end
end Mine
end
section
open PySem PySem.W PySem.W.X PyProof.Rows PySem.Calls
set_option Elab.async false
set_option maxRecDepth 100000
set_option maxHeartbeats 2000000
namespace Mine
theorem Ok.of1 {A : Around} {d : Nat} (o : Ok A (d + 1)) : Ok A.in1 d := o.in1
section
variable {w : World} {A : Around} {E : Value → Shared → Prop} {s : Shared}
theorem extendC {R : Result → Shared → Prop} {a S : Addr} {g n : Nat} {C : Addr} {vs : List Value} {res : Value} {d : Nat} (x : GenAt w s a g C vs d) (ok : Ok A (d + 2)) (hl : s.heap.NoLimit) (hs : SFix s) (hsz : vs.length ≤ 1000)
    (hS : s.heap.get? S = some (seqObj "list" #[] n)) (haS : a < S)
    (hR : ∀ s', Eaten s.heap.objs.size C S g s s' → (∃ n, s'.heap.get? S = some (seqObj "list" vs.toArray n)) → IsG s'.heap a g → R (.ok (.ret res)) s') :
    wpAny (CM w) A.in1 (Builtin.List.listExtendWith (.ref S) (.ref a) res)
      (fun fin s' => match fin with | .done f => R (.ok f) s' | .again c' => c'.quiet = true ∧ codeAny (CM w) A c' R s') (fun e s' => R (.error e) s') s := by
  have hg := x.isG
  have hSC : S ≠ C := Nat.ne_of_gt (Nat.lt_trans x.lt haS)
  have haB : a < s.heap.objs.size := by obtain ⟨o, _, _, ho, _⟩ := hg; exact Heap.lt_size ho
  unfold Builtin.List.listExtendWith
  refine wpAny_bind (wpAny_typeOf hg.typeIs ?_)
  have h1 : Builtin.List.listSameRef (.ref S) (.ref a) = false := by simp [Builtin.List.listSameRef, Nat.ne_of_gt haS]
  have h2 : (Value.type "generator" == Value.type "list") = false := by decide
  have h3 : (Value.type "generator" == Value.type "tuple") = false := by decide
  simp only [h1, h2, h3, Bool.or_false, Bool.false_eq_true, if_false]
  refine wpAny_bind (iterG hg ?_)
  refine wpAny_bind (wpAny_holding ?_)
  unfold Builtin.List.listLengthHint
  refine wpAny_bind (wpAny_specialOf hg.typeIs F.gen_no_len ?_)
  show wpAny _ A.in1 (specialOf (Value.ref a) (Str.ofString "__length_hint__") >>= _) _ _ _
  refine wpAny_bind (wpAny_specialOf hg.typeIs F.gen_no_hint ?_)
  refine wpAny_pure ?_
  show wpAny _ A.in1 (rule "list.extend.makes-room" >>= fun _ => Builtin.List.listTouch (.ref S) >>= fun _ =>
    again (.builtin "list.extend.loop" ⟨[.ref S, .ref a, res], []⟩)) _ _ _
  refine wpAny_bind (wpAny_rule ?_)
  refine wpAny_bind ?_
  show wpAny _ A.in1 (updateSeq S (·.push .none) >>= fun _ => updateSeq S (·.pop)) _ _ _
  refine wpAny_bind (wpAny_updateSeq hS rfl ?_)
  have hS₂ := get?_update_seq hS (fun xs => xs.push Value.none)
  refine wpAny_updateSeq (hz := by seq_fits) hS₂ rfl ?_
  have hS₃ := get?_update_seq hS₂ (fun xs => xs.pop)
  have oth : ∀ b o, b ≠ S → s.heap.get? b = some o → ((s.heap.update S (Obj.mapSeq (·.push Value.none))).update S (Obj.mapSeq (·.pop))).get? b = some o :=
    fun b o hb e => (Heap.get?_update_other _ _ (Ne.symm hb)).trans ((Heap.get?_update_other _ _ (Ne.symm hb)).trans e)
  have hz : ((s.heap.update S (Obj.mapSeq (·.push Value.none))).update S (Obj.mapSeq (·.pop))).objs.size = s.heap.objs.size := by rw [Heap.size_update, Heap.size_update]
  have okr : Ok A.in1.in1 d := ok.in1.in1
  have hr := (x.ready okr (B := s.heap.objs.size) (X := fun b => b = S) hs (Nat.le_refl _) (fun b hb => .inr (hb ▸ ⟨haS, hSC⟩)) (fun b hb => hb ▸ Heap.lt_size hS) (fun z => hSC z.symm)).keep
    (s' := { s with heap := (s.heap.update S (Obj.mapSeq (·.push Value.none))).update S (Obj.mapSeq (·.pop)) })
    ⟨fun b o h1 e => oth b o h1 e, Nat.le_of_eq hz.symm, fun _ _ => rfl, Nat.le_refl _, hs⟩ rfl
  obtain ⟨mc, ⟨oc, es, ep, hoc, hdc, hr2⟩, hq⟩ := id hl
  have hlK : (hideAll s.heap [C, S]).NoLimit := by
    refine ⟨mc, ⟨oc, es, ep, hideAll_get _ hoc ?_, hdc, hr2⟩, hq⟩
    intro hm
    obtain ⟨h₀, cl, cn, cr, recf, D, root, cd, tl, nb, Out, T, Cc, t, c, rc, tr, hC, htl, Fr₀, hg', hv, hd⟩ := x.ex
    have lt0 : cStatics < h₀.objs.size := let ⟨_, ⟨_, _, _, e, _⟩, _⟩ := c.nl; Heap.lt_size e
    have lt1 : cStatics < C := Nat.lt_of_lt_of_le lt0 Fr₀.above
    rcases List.mem_cons.mp hm with hm | hm
    · exact Nat.ne_of_lt lt1 hm
    · rcases List.mem_cons.mp hm with hm | hm
      · exact Nat.ne_of_lt (Nat.lt_trans lt1 (Nat.lt_trans x.lt haS)) hm
      · cases hm
  refine wpAny_pure ⟨plainId_quiet F.plain_extend_loop _, extend_loopC (hK := hideAll s.heap [C, S]) (B := s.heap.objs.size) ok.hd ok.in1.room haB (Nat.ne_of_gt x.lt) (Heap.lt_size hS) hSC (Nat.ne_of_lt haS) hlK ?_ vs.length _ #[] ?_ (hg.at fun o e => oth _ o (Nat.ne_of_lt haS) e) hr hs ⟨_, hS₃⟩ (by simpa using hsz) (by simp) fun s' hE hS' hg' => ?_⟩
  · intro b o e
    refine ⟨Heap.lt_size (of_hideAll _ e), fun z => ?_, fun z => ?_⟩
    · rw [hideAll_none _ (by rw [z]; exact .head _)] at e; cases e
    · rw [hideAll_none _ (by rw [z]; exact .tail _ (.head _))] at e; cases e
  · intro b o e
    refine oth b o (fun z => ?_) (of_hideAll _ e)
    rw [hideAll_none _ (by rw [z]; exact .tail _ (.head _))] at e; cases e
  · refine hR s' (hE.pre (fun b o _ _ h3 e => oth b o h3 e) (Nat.le_of_eq hz.symm) (fun _ _ => rfl) (Nat.le_refl _) rfl) ?_ hg'
    obtain ⟨n', hn'⟩ := hS'
    refine ⟨n', ?_⟩
    rw [hn']
    congr 2
    rw [List.take_of_length_le (by simp), List.reverse_reverse]
    simp
theorem listInitC {R : Result → Shared → Prop} {a S : Addr} {g n : Nat} {C : Addr} {vs : List Value} {d : Nat} (x : GenAt w s a g C vs d) (ok : Ok A (d + 2)) (hl : s.heap.NoLimit) (hs : SFix s) (hsz : vs.length ≤ 1000)
    (hS : s.heap.get? S = some (seqObj "list" #[] n)) (haS : a < S)
    (hR : ∀ s', Eaten s.heap.objs.size C S g s s' → (∃ n, s'.heap.get? S = some (seqObj "list" vs.toArray n)) → R (.ok (.ret .none)) s') :
    wpAny (CM w) A.in1 (Builtin.«list.__init__» ⟨[.ref S, .ref a], []⟩)
      (fun fin s' => match fin with | .done f => R (.ok f) s' | .again c' => c'.quiet = true ∧ codeAny (CM w) A c' R s') (fun e s' => R (.error e) s') s := by
  show wpAny _ A.in1 (do let old ← Builtin.List.listItems (.ref S); Builtin.List.listUpdate (.ref S) (fun _ => #[]); letGo old.toList.reverse; Builtin.List.listExtendWith (.ref S) (.ref a) .none) _ _ s
  refine wpAny_bind (listItems_at hS rfl ?_)
  refine wpAny_bind (listUpdate_at hS rfl ?_)
  refine wpAny_bind (wpAny_letGo ?_)
  have hS₂ := get?_update_seq hS (fun _ => #[])
  have k : ∀ b o, s.heap.get? b = some o → (s.heap.update S (Obj.mapSeq (fun _ => (#[] : Array Value)))).get? b = some o := fun b o e => by
    by_cases hb : b = S
    · subst hb; rw [hS] at e; cases e; exact hS₂
    · exact (Heap.get?_update_other _ _ (Ne.symm hb)).trans e
  have hz : (s.heap.update S (Obj.mapSeq (fun _ => (#[] : Array Value)))).objs.size = s.heap.objs.size := Heap.size_update ..
  refine extendC (s := { s with heap := s.heap.update S (Obj.mapSeq (fun _ => (#[] : Array Value))) }) (x.keeps k rfl) ok (hl.keeps k) hs hsz hS₂ haS fun s' h1 h2 _ => hR s' ?_ h2
  dsimp only at h1
  rw [hz] at h1
  exact h1.pre (fun b o _ _ _ e => k b o e) (Nat.le_of_eq hz.symm) (fun _ _ => rfl) (Nat.le_refl _) rfl
theorem listC {Q : Value → Shared → Prop} {a : Addr} {g : Nat} {C : Addr} {vs : List Value} {d : Nat} (x : GenAt w s a g C vs d) (ok : Ok A (d + 4)) (hl : s.heap.NoLimit) (hs : SFix s) (hsz : vs.length ≤ 1000)
    (hQ : ∀ s', Eaten s.heap.objs.size C s.heap.objs.size g s s' → (∃ n, s'.heap.get? s.heap.objs.size = some (seqObj "list" vs.toArray n)) → Q (.ref s.heap.objs.size) s') :
    wpAny (CM w) A (call (.type "list") [.ref a]) Q E s := by
  have ft := F.called_list
  obtain ⟨c, tl, hmro⟩ := ft.mro
  have hmade := ft.made
  have hsub := ft.sub
  have hct := F.typeCall_list_1 (.ref a)
  refine wpAny_call (codeAny_of_tree ?_)
  rw [cden rfl]
  show wpAny _ _ (callAny (.type "list") _) _ _ _
  refine wpAny_pure ⟨Code.quiet_builtin _ (by decide +kernel), codeC_builtin (by decide) F.entry_type_call ?_⟩
  rw [Around.under_plain (weight_type_call_type "list" [.ref a] []) rfl]
  have h1 := ft.notType
  have h2 := ft.canCreate
  repeat (any_goals (first | assumption | wp_step))
  refine codeAny_mono (lift_code (R := fun r s₁ => r = .ok (.ret (.ref s.heap.objs.size)) ∧ s₁ = { s with heap := s.heap.push { cls := .type "list", data := .seq #[] } }) (codeAny_mono (code_list_new (.ref a) (Q₁ := fun v s₁ => v = .ref s.heap.objs.size ∧ s₁ = { s with heap := s.heap.push { cls := .type "list", data := .seq #[] } }) (E := fun _ _ => False) ⟨rfl, rfl⟩) fun r s₁ hr => ?_)) fun r s₁ hr => ?_
  · cases r with
    | error e => exact hr.elim
    | ok fl =>
      cases fl with
      | ret v => obtain ⟨rfl, rfl⟩ := hr; exact ⟨⟨rfl, rfl⟩, SFix.stable hs⟩
      | _ => exact hr.elim
  obtain ⟨rfl, rfl⟩ := hr
  dsimp only
  have hT : Shared.TypeIs { s with heap := s.heap.push { cls := .type "list", data := .seq #[] } } (.ref s.heap.objs.size) "list" := ⟨_, Heap.get?_push_size _ rfl, rfl⟩
  have hli := ft.init.lookup
  have hbi := ft.init.bind (.ref s.heap.objs.size)
  repeat (any_goals (first | assumption | wp_step))
  have kp : ∀ b o, s.heap.get? b = some o → (s.heap.push { cls := .type "list", data := .seq #[] }).get? b = some o := fun b o e => Heap.get?_push_of_some _ e
  have haS : a < s.heap.objs.size := by obtain ⟨o, _, _, ho, _⟩ := x.isG; exact Heap.lt_size ho
  have hz : (s.heap.push { cls := .type "list", data := .seq #[] }).objs.size = s.heap.objs.size + 1 := Heap.size_push ..
  have key := listInitC (A := A.in1) (R := fun r s₂ => r = .ok (.ret .none) ∧ Eaten s.heap.objs.size C s.heap.objs.size g s s₂ ∧ ∃ n, s₂.heap.get? s.heap.objs.size = some (seqObj "list" vs.toArray n)) (s := { s with heap := s.heap.push { cls := .type "list", data := .seq #[] } }) (x.keeps kp rfl) (ok.in1.le (Nat.le_succ _)) (hl.keeps kp) hs hsz (n := 0) (Heap.get?_push_size _ rfl) haS fun s' h1 h2 => by
    dsimp only at h1
    rw [hz] at h1
    exact ⟨rfl, Eaten.pre (s₁ := { s with heap := s.heap.push { cls := .type "list", data := .seq #[] } }) ⟨fun b o h2 h3 h4 e => h1.heap b o (Nat.lt_succ_of_lt h2) h3 h4 e, h1.hsz, h1.gens, h1.fin, h1.gsz, h1.os, h1.fix⟩ (fun b o _ _ _ e => kp b o e) (by show _ ≤ (s.heap.push _).objs.size; rw [hz]; exact Nat.le_succ _) (fun _ _ => rfl) (Nat.le_refl _) rfl, h2⟩
  refine codeAny_mono (codeC_call_builtin (R := fun r s₂ => r = .ok (.ret .none) ∧ Eaten s.heap.objs.size C s.heap.objs.size g s s₂ ∧ ∃ n, s₂.heap.get? s.heap.objs.size = some (seqObj "list" vs.toArray n)) (by decide) ft.init.plain F.entry_list_init (by
    exact ft.init.check (rest := [.ref a]) _ _ _ _ _ _ _ hT (F.args_list_init_2 _ _) key)) fun r₂ s₂ hr₂ => ?_
  obtain ⟨rfl, h1, h2⟩ := hr₂
  have := hQ s₂ h1 h2
  repeat (any_goals (first | assumption | wp_step))
end
end Mine
end
section
open PySem PySem.W PySem.W.X PyProof.Rows PySem.Calls
set_option Elab.async false
set_option maxRecDepth 100000
set_option maxHeartbeats 2000000
namespace Mine
theorem plain_collect : plainId "proto.collect" = true := by decide +kernel
theorem plain_iadd : plainId "list.__iadd__" = true := by decide +kernel
section
variable {w : World} {A : Around} {E : Value → Shared → Prop} {s : Shared}
theorem collectC {Q : List Value → Shared → Prop} {a : Addr} {g : Nat} {C : Addr} {vs : List Value} {d : Nat} (x : GenAt w s a g C vs d) (ok : Ok A (d + 2)) (hl : s.heap.NoLimit) (hs : SFix s) (hsz : vs.length ≤ 1000)
    (hQ : ∀ s', Eaten s.heap.objs.size C s.heap.objs.size g s s' → Q vs s') :
    wpAny (CM w) A (collect (.ref a)) Q E s := by
  have kp : ∀ b o, s.heap.get? b = some o → (s.heap.push (seqObj "list" #[] 0)).get? b = some o := fun b o e => Heap.get?_push_of_some _ e
  have haS : a < s.heap.objs.size := by obtain ⟨o, _, _, ho, _⟩ := x.isG; exact Heap.lt_size ho
  have hz : (s.heap.push (seqObj "list" #[] 0)).objs.size = s.heap.objs.size + 1 := Heap.size_push ..
  unfold collect
  refine wpAny_bind (wpAny_runValue (codeAny_mono (R := fun r s' => r = .ok (.ret (.ref s.heap.objs.size)) ∧ Eaten s.heap.objs.size C s.heap.objs.size g s s' ∧ ∃ n, s'.heap.get? s.heap.objs.size = some (seqObj "list" vs.toArray n)) (codeC_builtin (by decide) entry_proto_collect' ?_) fun r s' hr => ?_))
  · rw [Around.under_plainId plain_collect _]
    show wpAny _ _ (do again (.builtin "list.__iadd__" ⟨[← newList [], .ref a], []⟩)) _ _ s
    refine wpAny_bind (wpAny_newList (wpAny_pure ⟨Code.quiet_builtin _ (by decide +kernel), codeC_builtin (by decide) entry_list_iadd' ?_⟩))
    rw [Around.under_plainId plain_iadd _]
    show wpAny _ _ (Builtin.List.listExtendWith (.ref s.heap.objs.size) (.ref a) (.ref s.heap.objs.size)) _ _ { s with heap := s.heap.push (seqObj "list" #[] 0) }
    refine extendC (R := fun r s' => r = .ok (.ret (.ref s.heap.objs.size)) ∧ Eaten s.heap.objs.size C s.heap.objs.size g s s' ∧ ∃ n, s'.heap.get? s.heap.objs.size = some (seqObj "list" vs.toArray n)) (s := { s with heap := s.heap.push (seqObj "list" #[] 0) }) (x.keeps kp rfl) ok (hl.keeps kp) hs hsz (n := 0) (Heap.get?_push_size _ rfl) haS fun s' h1 h2 _ => ⟨rfl, ?_, h2⟩
    dsimp only at h1
    rw [hz] at h1
    exact Eaten.pre (s₁ := { s with heap := s.heap.push (seqObj "list" #[] 0) }) ⟨fun b o h2 h3 h4 e => h1.heap b o (Nat.lt_succ_of_lt h2) h3 h4 e, h1.hsz, h1.gens, h1.fin, h1.gsz, h1.os, h1.fix⟩ (fun b o _ _ _ e => kp b o e) (by show _ ≤ (s.heap.push _).objs.size; rw [hz]; exact Nat.le_succ _) (fun _ _ => rfl) (Nat.le_refl _) rfl
  · obtain ⟨rfl, h1, n, hn⟩ := hr
    refine wpAny_bind (wpAny_load hn ?_)
    refine wpAny_pure ?_
    simpa using hQ s' h1
theorem sortedC {Q : Value → Shared → Prop} {a : Addr} {g : Nat} {C : Addr} {vs : List Value} {ns : List Int} {d : Nat} (x : GenAt w s a g C vs d) (ok : Ok A (d + 3)) (hl : s.heap.NoLimit) (hs : SFix s) (hI : IntsAre vs ns) (h64 : vs.length < 64)
    (hQ : ∀ r s' (out : Array Value) (ns' : List Int), Eaten s.heap.objs.size C s.heap.objs.size g s s' → (∃ n, s'.heap.get? r = some (seqObj "list" out n)) → s.heap.objs.size ≤ r → IntsAre out.toList ns' → ns'.Perm ns → ns'.Pairwise (· ≤ ·) → Q (.ref r) s') :
    wpAny (CM w) A (call (.builtin "sorted") [.ref a]) Q E s := by
  refine wpAny_call (codeC_call_builtin (by decide) plain_sorted entry_sorted ?_)
  have hck : checkBuiltinCall "sorted" ⟨[.ref a], []⟩ = pure () := by kernel_rfl
  refine wpAny_of_eq hck ?_
  unfold Builtin.«sorted»
  refine wpAny_bind (m := checkCount "sorted" 1 1 _) (wpAny_pure ?_)
  refine wpAny_bind (collectC x (ok.in1) hl hs (by omega) fun s₁ h₁ => ?_)
  refine wpAny_bind (wpAny_newList ?_)
  have hoL : (s₁.heap.push (seqObj "list" vs.toArray 0)).get? s₁.heap.objs.size = some (seqObj "list" vs.toArray 0) := Heap.get?_push_size _ rfl
  refine wpAny_bind (wpAny_holding (liftF (wpAny_call_entry slot_list_sort ⟨_, hoL, rfl⟩ entry_list_sort (list_sort_tree hoL hI h64 fun out ns' a1 a2 a3 => ⟨_, rfl, ?_⟩) (args_list_sort _))))
  refine ⟨h₁.fix, wpAny_pure ?_⟩
  dsimp only
  have hz : (s₁.heap.push (seqObj "list" vs.toArray 0)).objs.size = s₁.heap.objs.size + 1 := Heap.size_push ..
  have u1 := get?_update_seq hoL (fun _ => (#[] : Array Value))
  have u2 := Heap.get?_push_of_some (seqObj "list" #[] 0) (Heap.get?_push_of_some (seqObj "tuple" vs.toArray 0) u1)
  have u3 := get?_update_seq u2 (fun _ => out)
  refine hQ _ _ out ns' ⟨fun b o h2 h3 h4 e => ?_, ?_, h₁.gens, h₁.fin, h₁.gsz, h₁.os, h₁.fix⟩ ⟨_, u3⟩ h₁.hsz a1 a2 a3
  · have hb : s₁.heap.objs.size ≠ b := fun z => by have := h₁.hsz; rw [z] at this; exact absurd h2 (Nat.not_lt.mpr this)
    show (sortedHeap _ _ _ _).get? b = some o
    unfold sortedHeap
    rw [Heap.get?_update_other _ _ hb]
    refine Heap.get?_push_of_some _ (Heap.get?_push_of_some _ ?_)
    rw [Heap.get?_update_other _ _ hb]
    exact Heap.get?_push_of_some _ (h₁.heap b o h2 h3 h4 e)
  · show _ ≤ (sortedHeap _ _ _ _).objs.size
    unfold sortedHeap
    rw [Heap.size_update, Heap.size_push, Heap.size_push, Heap.size_update, hz]
    exact Nat.le_trans h₁.hsz (by omega)
end
end Mine
end
section
open PySem PySem.W PySem.W.X PyProof.Rows PySem.Calls
set_option Elab.async false
set_option maxRecDepth 100000
set_option maxHeartbeats 2000000
namespace Mine
theorem newMatX {w : World} {Out : Addr → Prop} {h h' : Heap} {x xx a dx d : Addr} (N : NewMat h h' x xx a dx d) (hO : ∀ b, Out b → b ≠ a ∧ b ≠ dx ∧ b ≠ d) (ox : Out x) (oxx : Out xx) :
    MatX w Out h' x xx a ⟨fun p => if p = [] then some a else none, fun _ => d, fun _ => dx⟩ (fun _ => .none) := by
  have hn : ∀ p b, (if p = ([] : Path) then some a else none) = some b → p = [] ∧ b = a := fun p b e => by
    split at e
    · cases e; exact ⟨by assumption, rfl⟩
    · cases e
  have nd := N.nd
  simp only [List.nodup_cons, List.mem_cons, List.not_mem_nil, or_false, not_or, not_false_eq_true, List.nodup_nil, and_true] at nd
  refine ⟨N.mat, N.dict, ox, oxx, ⟨by simp, fun p b e => ?_, fun p b e => N.xd, fun p b e => ?_, fun p k e => by simp, fun p b e k hk => ?_, fun p e => rfl, fun p q b e e' => ?_, fun p q b c e e' _ => ?_, fun p q b c e e' z => ?_, fun p b e => N.big, fun p b e => ?_⟩⟩
  · obtain ⟨rfl, rfl⟩ := hn p b e; exact N.at_
  · obtain ⟨rfl, rfl⟩ := hn p b e
    refine ⟨[], ⟨_, _, _, N.dd, ⟨rfl, rfl, rfl⟩, rfl, fun _ he => by simp at he, Pairs.nil, List.nodup_nil⟩, fun k => ?_⟩
    dsimp only
    rw [if_neg (by simp)]; rfl
  · obtain ⟨rfl, _⟩ := hn p b e; cases hk
  · rw [(hn p b e).1, (hn q b e').1]
  · rw [(hn p b e).1, (hn q c e').1]
  · exact nd.2.2.2 z
  · obtain ⟨_, rfl⟩ := hn p b e
    exact ⟨fun z => (hO _ z).1 rfl, fun z => (hO _ z).2.2 rfl, fun z => (hO _ z).2.1 rfl⟩
section
variable {w : World} {A : Around} {E : Value → Shared → Prop} {s : Shared}
/-- `matcher.iter_match(topic)` -/
theorem iterCall {env : Env} {pl : Sem Bool} {mp ap tp cp : Pos} {mn tn : Str} {Q : Value → Shared → Prop} {x xx root : Addr} {topic : Str} {tl : List Str} {Out : Addr → Prop} {T : TM} {C : Path → Value} {hb : Heap} (u : Und w hb s.heap) (ok : Ok A 12) (M : MatX w Out s.heap x xx root T C)
    (hC : ∀ p, Val (C p)) (h74 : Out 74) (hx : x ≠ 74) (hxx : xx ≠ 74) (hsp : Txt.split topic "/" = tl) (hkl : topic.length ≤ 100) (htl : tl.length ≤ 100)
    (hm : ∀ Q : Value → Shared → Prop, Q (.ref x) s → wpAny (model PR w) A (eval (.Name mn mp) env) Q E s)
    (ht : ∀ (Q : Value → Shared → Prop), (∀ t, Q (.str topic t) s) → wpAny (model PR w) A (eval (.Name tn tp) env) Q E s)
    (h : ∀ a Ca s', GenAt w s' a s.gens.size Ca (Yc C (!Txt.startswith topic "$") tl []) (8 * tl.length + 12) → (∀ b o, b ≠ 74 → s.heap.get? b = some o → s'.heap.get? b = some o) → s.heap.objs.size ≤ s'.heap.objs.size → s.heap.objs.size ≤ Ca →
      Tb s'.heap → (∃ c, s'.gens = s.gens.push (.fresh c)) → s'.os = s.os → Q (.ref a) s')
    (he : eval (.Call (.Attribute (.Name mn mp) "iter_match" ap) [.Name tn tp] [] cp) env = (do
      let ov ← eval (.Name mn mp) env
      standAt ap.atName
      let (f, first) ← holding [ov] (getMethod ov "iter_match" pl)
      callWith cp f first (backTo cp (starEach [.Name tn tp] env)) (backToKw cp (keywordEach [] env))) := by rfl) :
    wpAny (model PR w) A (eval (.Call (.Attribute (.Name mn mp) "iter_match" ap) [.Name tn tp] [] cp) env) Q E s := by
  have cs := u.c.keeps u.keep
  refine methodCall_KW (hm _ ?_) he
  obtain ⟨hs', tk'', n', hdx⟩ := M.dict
  have I : InstAt s.heap x (matO xx) 82 (some (dictOf [⟨hs', .str "_root" tk'', .ref root⟩] n')) := ⟨M.at_, rfl, rfl, hdx⟩
  refine method_fn (K := KK w) (C := 82) (f := 79) cs.X I (by kernel_rfl) (by kernel_rfl) (by kernel_rfl) (by kernel_rfl) (by kernel_rfl) ?_
  dsimp only
  refine callWith_K (K := KK w) cs.X rfl (spliced_cons (ht _ fun t => spliced_nil ⟨cs.X, ?_⟩))
  refine wpAny_call (iter_spec u (ok.le (by decide)) M h74 hx hxx hsp hkl fun h₀ h₁ tk D cl cn cr recf cd nm qn t₀ k sz tb rc F => ?_)
  have c₀ : Cx w h₀ := u.c.keeps fun b o e => k b o (fun z => by rw [z, u.no74] at e; cases e) (u.keep b o e)
  have hlt : h₀.objs.size < h₁.objs.size := F.ns.lt
  have kk : ∀ b o, b ≠ 74 → s.heap.get? b = some o → (h₁.push { cls := .type "generator", data := .fields #[.int s.gens.size 0, nm, qn] }).get? b = some o := fun b o h1 e => Heap.get?_push_of_some _ (F.keep b o (k b o h1 e))
  refine h h₁.objs.size h₀.objs.size _ ⟨⟨h₀, cl, cn, cr, recf, D, root, cd, tl, _, Out, T, C, t₀, c₀, rc, trieKeep M.tr fun b o hb e => k b o (fun z => hb (z ▸ h74)) e, hC, htl, F.push _, ?_, rfl, rfl⟩, ⟨_, nm, qn, Heap.get?_push_size _ rfl, rfl, rfl, .inl rfl⟩, ?_, hlt⟩ kk ?_ sz ?_ ⟨_, rfl⟩ rfl
  · show (s.gens.push _)[s.gens.size]? = _
    simp
  · show (s.gens.push _).size = _
    simp
  · show _ ≤ (h₁.push _).objs.size
    rw [Heap.size_push]; exact Nat.le_trans sz (Nat.le_of_lt (Nat.lt_succ_of_lt hlt))
  · exact tb.keeps fun b o e => Heap.get?_push_of_some _ (F.keep b o e)
theorem codeC_func {R : Result → Shared → Prop} {body : List Stmt} {env : Env}
    (h : wpAny (CM w) (A.deeper env) (execs body env) (fun f s' => R (.ok (.ret (match f with | .ret v => v | _ => .none))) s')
      (fun e s' => wpAny (CM w) (A.deeper env) (leaving env e) (fun _ s'' => R (.error e) s'') (fun e' s'' => R (.error e') s'') s') s) :
    codeAny (CM w) A (.func body env) R s := by
  refine codeAny_of_tree ?_
  rw [cden rfl]
  show wpAny _ (A.deeper env) (do point; match ← (execs body env).onRaise (leaving env) with | .ret v => ret v | _ => ret .none) _ _ s
  refine wpAny_bind (wpAny_point (wpAny_bind (wpAny_onRaise (wpAny_mono h (fun f s' h' => ?_) fun _ _ h' => h'))))
  cases f <;> exact wpAny_pure h'
theorem codeC_call_function {R : Result → Shared → Prop} {a : Addr} {args : Args} {o : Obj} {fd : FuncData} {body : List Stmt} (hroom : A.depth < recursionLimit) (ho : s.heap.get? a = some o)
    (hd' : o.data = .func fd) (hco : fd.scope.isCoroutine = false) (hgen : fd.scope.isGenerator = false) (hbody : fd.body = .stmts body) (hcd : s.heap.CodeRec fd.code fd.qualname)
    (h : wpAny (CM w) A.in1 (bindArgs fd args) (fun binds s₁ =>
      wpAny (CM w) A.in1 (newFunctionEnv fd.scope fd.globals fd.closure binds (fd.qualname ++ ".<locals>.") (some a) fd.code none fd.builtins)
        (fun env s₂ => s₂.heap.NoLimit ∧ codeAny (CM w) A (.func body env) R s₂) (fun e s' => R (.error e) s') s₁) (fun e s' => R (.error e) s') s) :
    codeAny (CM w) A (.call (.ref a) args) R s := by
  refine codeAny_of_tree ?_
  rw [cden rfl]
  show wpAny _ A.in1 (callAny (.ref a) args) _ _ s
  simp only [callAny]
  refine wpAny_bind (wpAny_load ho ?_)
  obtain ⟨c, oc, vs, tq, hc, hoc, hdc, hq⟩ := hcd
  simp only [hd', callFunction, hco, hgen, hbody, hc]
  rw [hc] at h
  refine wpAny_bind (m := field (.ref c) 1) (wpAny_field hoc hdc hq (wpAny_bind (wpAny_pure ?_)))
  exact wpAny_bind (wpAny_mono h (fun binds s₁ h₁ => wpAny_bind (wpAny_mono h₁ (fun env s₂ h₂ => wpAny_bind (wpAny_enterFrame h₂.1 hroom
    (wpAny_pure (And.intro rfl h₂.2)))) fun _ _ h' => h')) fun _ _ h' => h')
/-- a plain def's call, in the calmed model -/
theorem callC {R : Result → Shared → Prop} {f : Addr} {st : Stmt} {nm q : Str} {code : Addr} {args : Args} {binds : List (Str × Value)} (c : Cx w s.heap) (hroom : A.depth < recursionLimit)
    (ho : ∃ pm, (KK w).lookup f = some (fnObj (fdOf st nm q pm code))) (hcd : codeIn (KK w) (.ref code) q = true)
    (hbind : ∀ pm, bindArgs (fdOf st nm q pm code) args = pure binds)
    (h : ∀ h₁, Fr s.heap s.heap.objs.size h₁ (fun y => binds.reverse.lookup y) →
      wpAny (CM w) (A.deeper (envOf q (stScope st) s.heap.objs.size f (.ref code))) (execs (stBody st) (envOf q (stScope st) s.heap.objs.size f (.ref code)))
        (fun fl s' => R (.ok (.ret (match fl with | .ret v => v | _ => .none))) s') (fun _ _ => False) { s with heap := h₁, toks := s.toks + binds.length })
    (hcell : ∀ x ∈ (stScope st).names, x.2 ≠ .cell := by decide) (hloc : ∀ x ∈ binds, (stScope st).names.lookup x.1 = some .local := by exact locs (by rfl))
    (hco : (stScope st).isCoroutine = false := by rfl) (hgen : (stScope st).isGenerator = false := by rfl) (hk : (stScope st).kind = .function := by rfl) :
    codeAny (CM w) A (.call (.ref f) args) R s := by
  obtain ⟨pm, ho⟩ := ho
  refine codeC_call_function (fd := fdOf st nm q pm code) (body := stBody st) hroom (c.X _ _ ho) rfl hco hgen rfl (codeRec_of c.X hcd) ?_
  rw [hbind pm]
  refine wpAny_pure (wpAny_newFunctionEnv hcell hloc (fun h₁ hn hs => ?_) hk)
  have F : Fr s.heap s.heap.objs.size h₁ (fun y => binds.reverse.lookup y) := ⟨hn, fun b o e => hs.extBut b o (Nat.ne_of_lt (Heap.lt_size e)) (Heap.get?_push_of_some _ e), Nat.le_refl _⟩
  exact ⟨c.nl.keeps F.keep, codeC_func (wpAny_mono (h h₁ F) (fun _ _ x => x) fun _ _ x => x.elim)⟩
end
end Mine
end
section
open PySem PySem.W PySem.W.X PyProof.Rows PySem.Calls
set_option Elab.async false
set_option maxRecDepth 100000
set_option maxHeartbeats 2000000
namespace Mine
def ci (C : Path → Value) (p : Path) : Option Int := match C p with | .int n _ => some n | _ => none
def MH (nb : Bool) (p : Path) : List Path := if (nb || decide (0 < p.length)) = true then [p ++ [("#" : Str)]] else []
/-- the paths that match -/
def MP (nb : Bool) : List Str → Path → List Path
  | [], p => p :: MH nb p
  | x :: r, p => MP nb r (p ++ [x]) ++ ((if (nb || decide (0 < p.length)) = true then MP nb r (p ++ [("+" : Str)]) else []) ++ MH nb p)
theorem own_ints {C : Path → Value} (hC : ∀ p, Val (C p)) (p : Path) : IntsAre (own1 (C p)) ([p].filterMap (ci C)) := by
  rcases hC p with e | ⟨n, t, e⟩
  · simp [ci, e, own1, IntsAre.nil]
  · simp [ci, e, own1, IntsAre.nil, IntsAre.cons]
theorem hash_ints {C : Path → Value} (hC : ∀ p, Val (C p)) (nb : Bool) (p : Path) : IntsAre (hashV C nb p) ((MH nb p).filterMap (ci C)) := by
  unfold hashV MH
  split
  · exact own_ints hC _
  · exact .nil
theorem Yc_ints {C : Path → Value} (hC : ∀ p, Val (C p)) (nb : Bool) : ∀ (tl : List Str) (p : Path), IntsAre (Yc C nb tl p) ((MP nb tl p).filterMap (ci C))
  | [], p => by
    unfold Yc MP
    rw [← List.singleton_append, List.filterMap_append]
    exact (own_ints hC p).append (hash_ints hC nb p)
  | x :: r, p => by
    unfold Yc MP
    rw [List.filterMap_append, List.filterMap_append]
    refine (Yc_ints hC nb r _).append (IntsAre.append ?_ (hash_ints hC nb p))
    split
    · exact Yc_ints hC nb r _
    · exact .nil
theorem MH_len (nb : Bool) (p : Path) : (MH nb p).length ≤ 1 := by unfold MH; split <;> simp
theorem MP_len (nb : Bool) : ∀ (tl : List Str) (p : Path), (MP nb tl p).length + 1 ≤ 3 * 2 ^ tl.length
  | [], p => by
    have := MH_len nb p
    simp only [MP, List.length_cons, List.length_nil, Nat.pow_zero]; omega
  | x :: r, p => by
    have h1 := MH_len nb p
    have h2 := MP_len nb r (p ++ [x])
    have h3 := MP_len nb r (p ++ [("+" : Str)])
    have h4 : ((if (nb || decide (0 < p.length)) = true then MP nb r (p ++ [("+" : Str)]) else [])).length + 1 ≤ 3 * 2 ^ r.length := by
      split
      · exact h3
      · simp only [List.length_nil]; omega
    simp only [MP, List.length_append, List.length_cons, Nat.pow_succ]
    omega
theorem Yc_len {C : Path → Value} (hC : ∀ p, Val (C p)) (nb : Bool) (tl : List Str) (p : Path) (h : tl.length ≤ 3) : (Yc C nb tl p).length < 64 := by
  have h1 := (Yc_ints hC nb tl p).length
  have h2 := MP_len nb tl p
  have h3 : ((MP nb tl p).filterMap (ci C)).length ≤ (MP nb tl p).length := List.length_filterMap_le ..
  have h4 : 2 ^ tl.length ≤ 2 ^ 3 := Nat.pow_le_pow_right (by decide) h
  have : (2 : Nat) ^ 3 = 8 := by decide
  omega
end Mine
end
section
open PySem PySem.W PySem.W.X PyProof.Rows PySem.Calls
set_option Elab.async false
set_option maxRecDepth 100000
set_option maxHeartbeats 2000000
namespace Mine
/-- what a call in the calmed model keeps -/
structure Kc (s s' : Shared) : Prop where
  heap : ∀ b o, b ≠ 74 → s.heap.get? b = some o → s'.heap.get? b = some o
  hsz : s.heap.objs.size ≤ s'.heap.objs.size
  tb : Tb s'.heap
  gens : ∀ k : Nat, k < s.gens.size → s'.gens[k]? = s.gens[k]?
  gsz : s.gens.size ≤ s'.gens.size
  fin : FinAt s.gens.size s'
  os : s'.os = s.os
  fix : SFix s'
theorem Kc.trans {s s' s'' : Shared} (x : Kc s s') (y : Kc s' s'') : Kc s s'' :=
  ⟨fun b o h e => y.heap b o h (x.heap b o h e), Nat.le_trans x.hsz y.hsz, y.tb, fun k h => (y.gens k (Nat.lt_of_lt_of_le h x.gsz)).trans (x.gens k h), Nat.le_trans x.gsz y.gsz, fun k z h1 e => by
    rcases Nat.lt_or_ge k s'.gens.size with h2 | h2
    · exact x.fin k z h1 ((y.gens k h2).symm.trans e)
    · exact y.fin k z h2 e, y.os.trans x.os, y.fix⟩
theorem Tb.at' {h h' : Heap} (x : Tb h) (k : ∀ b o, (∀ es ep, o.data ≠ .dict es ep) → h.get? b = some o → h'.get? b = some o) : Tb h' := by
  obtain ⟨⟨o, vs, file, tf, flags, tg, inF, text, tt, e, r⟩, ps, hps, ht, hor⟩ := x
  refine ⟨⟨o, vs, file, tf, flags, tg, inF, text, tt, k _ _ (fun es ep z => by rw [r.2.1] at z; cases z) e, r⟩, ps, k _ _ (fun es ep z => by cases z) hps, ht, hor.elim .inl fun ⟨c'', e', hr⟩ => .inr ⟨c'', e', ?_⟩⟩
  obtain ⟨c, o, vs, tq, e, ho, hd, hq⟩ := hr
  exact ⟨c, o, vs, tq, e, k _ _ (fun es ep z => by rw [hd] at z; cases z) ho, hd, hq⟩
theorem Tb.eaten {w : World} {s s' : Shared} {a : Addr} {g : Nat} {C : Addr} {vs : List Value} {d : Nat} (x : Tb s.heap) (G : GenAt w s a g C vs d) (e : Eaten s.heap.objs.size C s.heap.objs.size g s s') : Tb s'.heap := by
  obtain ⟨h₀, cl, cn, cr, recf, D, root, cd, tl, nb, Out, T, Cc, t, c, rc, tr, hC, htl, F, hg, _⟩ := G.ex
  obtain ⟨o', es, ep, ho', hd', _⟩ := F.ns
  exact x.at' fun b o hn h => e.heap b o (Heap.lt_size h) (fun z => by rw [z, ho'] at h; cases h; exact hn _ _ hd') (Nat.ne_of_lt (Heap.lt_size h)) h
theorem isListSeq {h : Heap} {a : Addr} {xs : Array Value} {n : Nat} (e : h.get? a = some (seqObj "list" xs n)) : h.IsList a xs := ⟨_, e, rfl, n, rfl⟩
section
variable {w : World} {A : Around} {E : Value → Shared → Prop} {s : Shared}
theorem alone_spec {R : Result → Shared → Prop} {key topic : Str} {fl tl : List Str} {t t' : Tok} {hb : Heap} (u : Und w hb s.heap) (hs : SFix s) (ok : Ok A 60)
    (hsp : Txt.split key "/" = fl) (hfl : ∀ l ∈ fl, l ∈ UU) (hkl : key.length ≤ 100) (hsp' : Txt.split topic "/" = tl) (hkl' : topic.length ≤ 100) (htl : tl.length ≤ 3)
    (h : ∀ s', Kc s s' → R (.ok (.ret (.bool (decide ((MP (!Txt.startswith topic "$") tl []).filterMap (fun p => if p = fl then some 1 else none) = [(1 : Int)]))))) s') :
    codeAny (CM w) A (.call (.ref 128) ⟨[.str key t, .str topic t'], []⟩) R s := by
  have cs := u.c.keeps u.keep
  refine callC (st := topSt 8) (nm := "_law_alone") (q := "_law_alone") (code := 127) (binds := [("key", .str key t), ("topic", .str topic t')]) cs ok.room ⟨_, rfl⟩ (by kernel_rfl) (fun pm => by kernel_rfl) (fun h₁ F => ?_)
  have F₁ : Fr hb s.heap.objs.size h₁ _ := ⟨F.ns, fun b o e => F.keep b o (u.keep b o e), Nat.le_trans u.size F.above⟩
  refine wpAny_execs_cons (liftF (wpAny_Assign_Name (wpAny_Call_NameR (nmK u.c F₁ (by kernel_rfl) (v := .ref 82) (callWith_K0 (K := KK w) (u.c.keeps F₁.keep).X rfl ((ok.deeper _).one (mat_new (u.c.keeps F₁.keep).X fun h₂ tk x xx a dx d N => stS (frUp F₁ N.keeps) (fun h₃ F₃ S₃ => ?_))))))))
  refine ⟨hs, ?_⟩
  dsimp only at N S₃ ⊢
  have nd := N.nd
  simp only [List.nodup_cons, List.mem_cons, List.not_mem_nil, or_false, not_or, not_false_eq_true, List.nodup_nil, and_true] at nd
  obtain ⟨⟨nxxx, nxa, nxd, nxdd⟩, ⟨nxxa, nxxd, nxxdd⟩, _⟩ := nd
  obtain ⟨_, ps, hps, _⟩ := id u.tb
  have hL₁ : ∃ o, h₁.get? s.heap.objs.size = some o := let ⟨o, _, _, e, _⟩ := F₁.ns; ⟨o, e⟩
  have hL₃ : ∃ o, h₃.get? s.heap.objs.size = some o := let ⟨o, _, _, e, _⟩ := F₃.ns; ⟨o, e⟩
  have ne : ∀ b o, h₁.get? b = some o → ∀ b', h₁.get? b' = none → b ≠ b' := fun b o e b' e' z => by rw [z, e'] at e; cases e
  have k13 : ∀ b o, b ≠ s.heap.objs.size → h₁.get? b = some o → h₃.get? b = some o := fun b o h1 e => (S₃.2 b h1).trans (N.keeps b o e)
  have ks3 : ∀ b o, s.heap.get? b = some o → h₃.get? b = some o := fun b o e => k13 b o (Nat.ne_of_lt (Heap.lt_size e)) (F.keep b o e)
  have thr : ∀ b o, h₂.get? b = some o → ∃ o', h₃.get? b = some o' := fun b o e => by
    by_cases z : b = s.heap.objs.size
    · rw [z]; exact hL₃
    · exact ⟨o, (S₃.2 b z).trans e⟩
  obtain ⟨oL, hoL⟩ := hL₁
  have xL : x ≠ s.heap.objs.size := Ne.symm (ne _ _ hoL _ N.fm)
  have xxL : xx ≠ s.heap.objs.size := Ne.symm (ne _ _ hoL _ N.fxx)
  obtain ⟨hs0, tk0, n0, hxx0⟩ := N.dict
  have M₂ : MatX w (fun b => (∃ o, h₁.get? b = some o) ∨ b = x ∨ b = xx) h₂ x xx a _ (fun _ => .none) := newMatX N (fun b hb => by
    rcases hb with ⟨o, ho⟩ | rfl | rfl
    · exact ⟨ne _ _ ho _ N.fa, ne _ _ ho _ N.fx, ne _ _ ho _ N.fd⟩
    · exact ⟨nxa, nxd, nxdd⟩
    · exact ⟨nxxa, nxxd, nxxdd⟩) (.inr (.inl rfl)) (.inr (.inr rfl))
  have M₃ := matKeep M₂ fun b o hb' e => (S₃.2 b (by
    rcases hb' with rfl | rfl | hb'
    · exact xL
    · exact xxL
    · exact fun z => hb' (.inl ⟨oL, z ▸ hoL⟩))).trans e
  have O₃ : On hb (fun b => (∃ o, h₁.get? b = some o) ∨ b = x ∨ b = xx) h₃ := ⟨F₃.keep, Nat.le_trans u.size (Nat.le_of_lt F₃.ns.lt), fun b o e => .inl ⟨o, F₁.keep b o e⟩, fun b hb' => by
    rcases hb' with ⟨o, ho⟩ | rfl | rfl
    · exact thr b o (N.keeps b o ho)
    · exact thr _ _ N.mat
    · exact thr _ _ hxx0⟩
  -- matcher[key] = 1
  refine wpAny_execs_cons (liftF (wpAny_Assign_Subscript (wpAny_Constant_int (ld F₃ rfl (ld F₃ rfl ?_)))))
  have I₃ : InstAt h₃ x (matO xx) 82 (some (dictOf [⟨hs0, .str "_root" tk0, .ref a⟩] n0)) := ⟨M₃.at_, rfl, rfl, (S₃.2 _ xxL).trans hxx0⟩
  refine ksp_setItem (K := KK w) F₃ u.c.X I₃ (f := 58) (by kernel_rfl) (by kernel_rfl) (by kernel_rfl) (wpAny_call (set_spec u.c (((ok.deeper _).le (by decide) : Ok _ 11).le (by decide)) O₃ ⟨_, _, _, M₃⟩ hsp hfl hkl fun h₄ tk₄ k₄ M₄ => ?_))
  refine ⟨hs, ?_⟩
  dsimp only at k₄ M₄ ⊢
  obtain ⟨xx', root, T, M₄⟩ := M₄
  have ks4 : ∀ b o, s.heap.get? b = some o → h₄.get? b = some o := fun b o e => k₄ b o (.inl ⟨o, F.keep b o e⟩) (ks3 b o e)
  have F₄ : Fr hb s.heap.objs.size h₄ _ := ⟨F₃.ns.at' fun o e => k₄ _ o (.inl ⟨oL, hoL⟩) e, fun b o e => ks4 b o (u.keep b o e), F₃.above⟩
  have z₄ : s.heap.objs.size < h₄.objs.size := F₄.ns.lt
  have u₄ : Und w hb h₄ := ⟨u.c, u.bi, F₄.keep, Nat.le_trans u.size (Nat.le_of_lt z₄), u.no74, u.tb.keeps ks4⟩
  have hCv : ∀ p, Val (updC (fun _ => Value.none) fl (Value.int 1 (tk + 1)) p) := fun p => by
    unfold updC; split
    · exact .inr ⟨_, _, rfl⟩
    · exact .inl rfl
  have h74 : h₄.get? 74 = some (tabObj ps) := ks4 _ _ hps
  have x74 : x ≠ 74 := fun z => by
    have := M₄.at_
    rw [z, h74] at this; cases this
  have xx74 : xx' ≠ 74 := fun z => by
    obtain ⟨_, _, _, this⟩ := M₄.dict
    rw [z, h74] at this; cases this
  have okd : Ok (A.deeper (envOf "_law_alone" (stScope (topSt 8)) s.heap.objs.size 128 (.ref 127))) 59 := ok.deeper _
  refine wpAny_execs_cons (wpAny_Return_some (wpAny_Compare1 ?_))
  refine Call_name1 rfl (liftF (nmB u.c F₄ (by kernel_rfl) (v := .type "list") (by kernel_rfl) (by decide +kernel) ⟨hs, ?_⟩))
  refine callWith_type1 (liftF (iterCall (s := { s with heap := h₄, toks := tk₄ }) u₄ (okd.le (by decide)) M₄ hCv (.inl ⟨_, F.keep _ _ hps⟩) x74 xx74 hsp' hkl' (Nat.le_trans htl (by decide)) (fun Q h => ld F₄ rfl h) (fun Q h => ld F₄ rfl (h _)) fun ga Ca s₅ g₅ k₅ z₅ zC tb₅ gn₅ os₅ => ?_))
  have hs₅ : SFix s₅ := by
    obtain ⟨c, gn₅⟩ := gn₅
    intro i x hx
    rw [gn₅] at hx
    exact (hs.pushGen (x := .fresh c) trivial) i x hx
  refine ⟨hs₅, ?_⟩
  dsimp only at g₅ k₅ z₅ zC gn₅ os₅
  have k45 : ∀ b o, hb.get? b = some o → s₅.heap.get? b = some o := fun b o e => k₅ b o (fun z => by rw [z, u.no74] at e; cases e) (u₄.keep b o e)
  have hvs := Yc_ints hCv (!Txt.startswith topic "$") tl []
  have hlen := Yc_len hCv (!Txt.startswith topic "$") tl [] htl
  refine listC g₅ (okd.le (by omega)) (u.c.nl.keeps k45) hs₅ (by omega) fun s₆ E₆ hS₆ => ?_
  obtain ⟨n₆, hS₆⟩ := hS₆
  refine liftF (List_ (spliced_cons (wpAny_Constant_int (k := 0) (pos := default) (spliced_nil (newL ?_ (by size_fits))))))
  refine ⟨E₆.fix, ?_⟩
  dsimp only
  refine liftF (eq_intsK (isListSeq (Heap.get?_push_of_some _ hS₆)) hvs (us := [.int 1 s₆.toks]) ⟨_, Heap.get?_push_size _ rfl, rfl, 0, rfl⟩ (.cons 1 _ .nil) (by have := okd.units; have h2 : cLine = 9900 := rfl; omega) ?_)
  refine ⟨E₆.fix, ?_⟩
  have eci : ci (updC (fun _ => Value.none) fl (Value.int 1 (tk + 1))) = fun p => if p = fl then some 1 else none := by
    funext p
    by_cases hp : p = fl
    · simp [ci, updC, hp]
    · simp [ci, updC, hp]
  rw [eci]
  have hkeep : ∀ b o, b ≠ 74 → s.heap.get? b = some o → s₆.heap.get? b = some o := fun b o h1 e => by
    have hlt := Heap.lt_size e
    have e5 := k₅ b o h1 (ks4 b o e)
    exact E₆.heap b o (Heap.lt_size e5) (Nat.ne_of_lt (Nat.lt_of_lt_of_le (Nat.lt_trans hlt z₄) zC)) (Nat.ne_of_lt (Heap.lt_size e5)) e5
  obtain ⟨c₅, gn₅⟩ := gn₅
  refine h _ ⟨fun b o h1 e => Heap.get?_push_of_some _ (hkeep b o h1 e), ?_, ?_, fun k hk => ?_, ?_, E₆.fin, E₆.os.trans os₅, E₆.fix⟩
  · show _ ≤ (s₆.heap.push _).objs.size
    rw [Heap.size_push]
    have := E₆.hsz
    omega
  · exact (tb₅.eaten g₅ E₆).keeps fun b o e => Heap.get?_push_of_some _ e
  · refine (E₆.gens k hk).trans ?_
    rw [gn₅, Array.getElem?_push, if_neg (Nat.ne_of_lt hk)]
  · have h1 := E₆.gsz
    rw [gn₅, Array.size_push] at h1
    exact Nat.le_of_succ_le h1
end
end Mine
end
section
open PySem PySem.W PySem.W.X PyProof.Rows PySem.Calls
set_option Elab.async false
set_option maxRecDepth 100000
set_option maxHeartbeats 4000000
namespace Mine
/-- `_law_takes`, from place k on -/
def tkGo (dol : Bool) : Nat → List Str → List Str → Bool
  | _, [], near => near.isEmpty
  | k, f :: fs, near => if f == "#" then (decide (0 < k) || !dol) else match near with
    | [] => false
    | n :: ns => if n == "#" then false else if f == "+" then (if (decide (k = 0) && dol) = true then false else tkGo dol (k + 1) fs ns) else if f == n then tkGo dol (k + 1) fs ns else false
def takes (far near : List Str) : Bool := tkGo (Txt.startswith (near.headD "") "$") 0 far near
theorem strBeq (x y : Str) : (x == y) = decide (x = y) := by
  rw [Bool.eq_iff_iff, beq_iff_eq, decide_eq_true_iff]
section
variable {w : World} {A : Around} {E : Value → Shared → Prop} {s : Shared}
theorem takes_spec {R : Result → Shared → Prop} {Fa Na : Addr} {far near : List Str} {LF LN : List (Str × Tok)} (c : Cx w s.heap) (ok : Ok A 8) (hF : s.heap.IsList Fa (sv LF).toArray) (hN : s.heap.IsList Na (sv LN).toArray)
    (eF : LF.map (·.1) = far) (eN : LN.map (·.1) = near) (hf0 : far ≠ []) (hn0 : near ≠ []) (hfl : far.length ≤ 100) (hnl : near.length ≤ 100)
    (h : ∀ h' tk, (∀ b o, s.heap.get? b = some o → h'.get? b = some o) → s.heap.objs.size ≤ h'.objs.size → R (.ok (.ret (.bool (takes far near)))) { s with heap := h', toks := tk }) :
    codeAny (model PR w) A (.call (.ref 114) ⟨[.ref Fa, .ref Na], []⟩) R s := by
  have lF : LF.length = far.length := by rw [← eF, List.length_map]
  have lN : LN.length = near.length := by rw [← eN, List.length_map]
  have sF : ((sv LF).toArray.size : Int) = far.length := by simp [lF]
  have sN : ((sv LN).toArray.size : Int) = near.length := by simp [lN]
  have nF : 0 < far.length := List.length_pos_iff.2 hf0
  have nN : 0 < near.length := List.length_pos_iff.2 hn0
  have atF : ∀ (i : Nat) (x : Str), far[i]? = some x → ∃ t, (sv LF)[i]? = some (.str x t) := fun i x hx => by
    rw [← eF, List.getElem?_map] at hx
    obtain ⟨y, hy, rfl⟩ := Option.map_eq_some_iff.mp hx
    exact ⟨y.2, by simp [hy]⟩
  have atN : ∀ (i : Nat) (x : Str), near[i]? = some x → ∃ t, (sv LN)[i]? = some (.str x t) := fun i x hx => by
    rw [← eN, List.getElem?_map] at hx
    obtain ⟨y, hy, rfl⟩ := Option.map_eq_some_iff.mp hx
    exact ⟨y.2, by simp [hy]⟩
  obtain ⟨n0, hn0e⟩ : ∃ x, near[0]? = some x := ⟨_, List.getElem?_eq_getElem nN⟩
  have hd0 : near.headD "" = n0 := by cases near <;> simp_all
  obtain ⟨tn0, hn0v⟩ := atN 0 n0 hn0e
  refine call_fnR (st := topSt 6) (nm := "_law_takes") (q := "_law_takes") (code := 113) (binds := [("far", .ref Fa), ("near", .ref Na)]) c ok.room ⟨_, rfl⟩ (by kernel_rfl) (fun pm => by kernel_rfl) (fun h₁ F => ?_)
  have hF₁ : h₁.IsList Fa (sv LF).toArray := Heap.IsList.at hF fun o e => F.keep _ _ e
  have hN₁ : h₁.IsList Na (sv LN).toArray := Heap.IsList.at hN fun o e => F.keep _ _ e
  refine wpAny_execs_cons (wpAny_For ?_)
  refine wpAny_Call_NameR (nmB c F (by kernel_rfl) (v := .type "range") (by kernel_rfl) (by decide +kernel) ?_)
  refine callWith_type1 (spliced_cons (wpAny_Call_NameR (nmB c F (by kernel_rfl) (v := .builtin "len") (by kernel_rfl) (by decide +kernel) ?_)))
  refine Calls.callWith_builtin rfl (evalArgs_plain (spliced_cons (ld F rfl (spliced_nil ?_))))
  refine lenLst hF₁ sF (by omega) (spliced_nil ?_)
  have dol : Txt.startswith n0 "$" = Txt.startswith (near.headD "") "$" := by rw [hd0]
  have keepH : ∀ {h : Heap} {m}, Fr s.heap s.heap.objs.size h m → h.IsList Fa (sv LF).toArray ∧ h.IsList Na (sv LN).toArray := fun Fi => ⟨Heap.IsList.at hF fun o e => Fi.keep _ _ e, Heap.IsList.at hN fun o e => Fi.keep _ _ e⟩
  refine for_range far.length rfl nF (by omega) ok.hd (fun i s₁ => ∃ h tk m, s₁ = { s with heap := h, toks := tk } ∧ Fr s.heap s.heap.objs.size h m ∧ m "far" = some (.ref Fa) ∧ m "near" = some (.ref Na) ∧ i ≤ near.length ∧
      takes far near = tkGo (Txt.startswith n0 "$") i (far.drop i) (near.drop i)) (fun I hI => ⟨?_, ?_, ?_, ?_⟩)
  · intro h' tk k
    exact ⟨h', tk, _, rfl, frUp F k, rfl, rfl, Nat.zero_le _, by unfold takes; rw [dol]; rfl⟩
  · rintro i s₁ h' tk' ⟨h, tk, m, rfl, Fi, m1, m2, hi, e⟩ hk
    exact ⟨h', tk', m, rfl, frBut Fi hk (nsNe F.ns hI) (frNone F hI), m1, m2, hi, e⟩
  · rintro i v s₁ hi ⟨hc, tk, m, rfl, Fi, m1, m2, hin, e⟩
    refine stS Fi (fun h₄ F₄ S₄ => ?_)
    dsimp only
    obtain ⟨hF₄, hN₄⟩ := keepH F₄
    obtain ⟨x, hx⟩ : ∃ x, far[i]? = some x := ⟨_, List.getElem?_eq_getElem hi⟩
    obtain ⟨tx, hxv⟩ := atF i x hx
    have hdx : far.drop i = x :: far.drop (i + 1) := by
      rw [List.drop_eq_getElem_cons hi]
      congr 1
      rw [List.getElem?_eq_getElem hi] at hx
      exact Option.some.inj hx
    have hkI : ∀ o, hc.get? I = some o → h₄.get? I = some o := fun o q => S₄.extBut _ _ (Ne.symm (nsNe F.ns hI)) q
    have fin : ∀ b tk, takes far near = b → R (.ok (.ret (.bool b))) { s with heap := h₄, toks := tk } := fun b tk q => by
      have := h h₄ tk F₄.keep (Nat.le_of_lt F₄.ns.lt)
      rw [q] at this
      exact this
    rw [hdx] at e
    -- far[k] == '#'
    refine wpAny_execs_cons (wpAny_If (wpAny_isTrue_Compare1 (Subscript_ (ld F₄ (mo (by decide) m1) (ld F₄ rfl ?_)))))
    refine item_listL (k := (i : Int)) hF₄ (by omega) (by omega) (by rw [Int.toNat_natCast]; exact hxv) ?_
    refine cStr fun tq => PyProof.Rows.eq_str (wpAny_truthy_bool ?_)
    dsimp only
    have start : ∀ {Q : Value → Shared → Prop} {np : Pos} {k0 k1 : Nat} {p1 p2 p3 p4 p5 : Pos} (tk : Nat), (p3.endLine == p5.line) = true → (∀ tk, Q (.bool (Txt.startswith n0 "$")) { s with heap := h₄, toks := tk }) →
        wpAny (model PR w) (A.deeper (envOf "_law_takes" (stScope (topSt 6)) s.heap.objs.size 114 (.ref 113))) (eval (.Call (.Attribute (.Subscript (.Name "near" np) (.Constant (.int 0) k0 p1) p2) "startswith" p3) [.Constant (.str "$") k1 p4] [] p5) (envOf "_law_takes" (stScope (topSt 6)) s.heap.objs.size 114 (.ref 113))) Q (fun _ _ => False) { s with heap := h₄, toks := tk } := by
      intro Q np k0 k1 p1 p2 p3 p4 p5 tk hl hq
      refine wpAny_Call_method (T := "str") (id := "str.startswith") rfl rfl hl PySem.F.plainAttrs_str PySem.F.slot_str_startswith rfl ?_
      refine Subscript_ (ld (s := { s with heap := h₄, toks := tk }) F₄ (mo (by decide) m2) (wpAny_Constant_int ?_))
      refine item_listL (k := 0) hN₄ (by decide) (by decide) hn0v ?_
      refine ⟨typeIs_str _ _ _, fun a e => (by cases e), ?_⟩
      refine Calls.callWith_builtin rfl (evalArgs_plain (spliced_cons (cStr (k := 0) (pos := default) fun tk => spliced_nil ?_)))
      exact SC.startswith (hq _)
    cases hq1 : (x == ("#" : Str)) with
    | true =>
      rw [if_pos rfl]
      have e2 : takes far near = (decide (0 < i) || !(Txt.startswith n0 "$")) := by rw [e]; unfold tkGo; rw [if_pos hq1]
      refine wpAny_execs_cons (wpAny_Return_some (BoolOp_or (wpAny_Compare1 (ld F₄ rfl (wpAny_Constant_int (gt_int (wpAny_truthy_bool ?_)))))))
      have e0 : decide ((0 : Int) < (i : Int)) = decide (0 < i) := by rw [Bool.eq_iff_iff, decide_eq_true_iff, decide_eq_true_iff]; omega
      rw [e0]
      cases hb : decide (0 < i) with
      | true =>
        rw [if_pos rfl]
        exact fin true _ (by rw [e2, hb]; rfl)
      | false =>
        rw [if_neg (by decide)]
        refine BoolOp_one (wpAny_UnaryOp (start _ rfl fun tk => wpAny_bind (wpAny_truthy_bool (wpAny_pure ?_))))
        exact fin _ _ (by rw [e2, hb]; rfl)
    | false =>
      rw [if_neg (by decide)]
      refine wpAny_execs_nil ?_
      dsimp only
      refine wpAny_execs_cons (wpAny_If ?_)
      refine isTrue_or (wpAny_isTrue_Compare1 (ld F₄ rfl ?_))
      refine wpAny_Call_NameR (nmB c F₄ (by kernel_rfl) (v := .builtin "len") (by kernel_rfl) (by decide +kernel) ?_)
      refine Calls.callWith_builtin rfl (evalArgs_plain (spliced_cons (ld F₄ (mo (by decide) m2) (spliced_nil ?_))))
      refine lenLst hN₄ sN (by omega) ?_
      refine PyProof.Rows.ge_int (wpAny_truthy_bool ?_)
      by_cases hge : near.length ≤ i
      · rw [decide_eq_true (show (near.length : Int) ≤ (i : Int) by omega), if_pos rfl]
        have e2 : takes far near = false := by
          rw [e, List.drop_of_length_le hge]; unfold tkGo; rw [if_neg (by rw [hq1]; decide)]
        exact wpAny_execs_cons (wpAny_Return_some (wpAny_Constant_bool (fin false _ e2)))
      · have hlt : i < near.length := by omega
        rw [decide_eq_false (show ¬ (near.length : Int) ≤ (i : Int) by omega), if_neg (by decide)]
        obtain ⟨y, hy⟩ : ∃ y, near[i]? = some y := ⟨_, List.getElem?_eq_getElem hlt⟩
        obtain ⟨ty, hyv⟩ := atN i y hy
        have hdy : near.drop i = y :: near.drop (i + 1) := by
          rw [List.drop_eq_getElem_cons hlt]
          congr 1
          rw [List.getElem?_eq_getElem hlt] at hy
          exact Option.some.inj hy
        rw [hdy] at e
        unfold tkGo at e
        rw [if_neg (by rw [hq1]; decide)] at e
        dsimp only at e
        refine isTrue_or (wpAny_isTrue_Compare1 (Subscript_ (ld F₄ (mo (by decide) m2) (ld F₄ rfl ?_))))
        refine item_listL (k := (i : Int)) hN₄ (by omega) (by omega) (by rw [Int.toNat_natCast]; exact hyv) ?_
        refine cStr fun tq => PyProof.Rows.eq_str (wpAny_truthy_bool ?_)
        cases hq2 : (y == ("#" : Str)) with
        | true =>
          rw [if_pos rfl]
          exact wpAny_execs_cons (wpAny_Return_some (wpAny_Constant_bool (fin false _ (by rw [e, if_pos hq2]))))
        | false =>
          rw [if_neg (by decide)]
          rw [hq2, if_neg (by decide)] at e
          refine isTrue_or_nil ?_
          refine wpAny_execs_nil ?_
          dsimp only
          have nxt : ∀ tk, takes far near = tkGo (Txt.startswith n0 "$") (i + 1) (far.drop (i + 1)) (near.drop (i + 1)) → (∃ h tk' m, ({ s with heap := h₄, toks := tk } : Shared) = { s with heap := h, toks := tk' } ∧ Fr s.heap s.heap.objs.size h m ∧ m "far" = some (.ref Fa) ∧ m "near" = some (.ref Na) ∧ i + 1 ≤ near.length ∧
              takes far near = tkGo (Txt.startswith n0 "$") (i + 1) (far.drop (i + 1)) (near.drop (i + 1))) := fun tk q => ⟨h₄, tk, _, rfl, F₄, mo (by decide) m1, mo (by decide) m2, hlt, q⟩
          refine wpAny_execs_cons (wpAny_If (wpAny_isTrue_Compare1 (Subscript_ (ld F₄ (mo (by decide) m1) (ld F₄ rfl ?_)))))
          refine item_listL (k := (i : Int)) hF₄ (by omega) (by omega) (by rw [Int.toNat_natCast]; exact hxv) ?_
          refine cStr fun tq => PyProof.Rows.eq_str (wpAny_truthy_bool ?_)
          cases hq3 : (x == ("+" : Str)) with
          | true =>
            rw [if_pos rfl]
            rw [hq3, if_pos rfl] at e
            refine wpAny_execs_cons (wpAny_If ?_)
            refine isTrue_and (wpAny_isTrue_Compare1 (ld F₄ rfl (wpAny_Constant_int (wpAny_eq_int (wpAny_truthy_bool ?_)))))
            have e0 : ((i : Int) == (0 : Int)) = decide (i = 0) := by rw [Bool.eq_iff_iff, beq_iff_eq, decide_eq_true_iff]; omega
            rw [e0]
            cases hb : decide (i = 0) with
            | true =>
              rw [if_pos rfl]
              rw [hb, Bool.true_and] at e
              refine isTrue_and (isTrue_plain (start _ rfl fun tk => wpAny_truthy_bool ?_))
              cases hs : Txt.startswith n0 "$" with
              | true =>
                rw [if_pos rfl]
                rw [hs, if_pos rfl] at e
                refine isTrue_and_nil ?_
                exact wpAny_execs_cons (wpAny_Return_some (wpAny_Constant_bool (fin false _ e)))
              | false =>
                rw [if_neg (by decide)]
                rw [hs, if_neg (by decide)] at e
                rw [hs] at nxt
                exact wpAny_execs_nil (wpAny_execs_nil (wpAny_execs_nil ⟨nxt _ e, hkI⟩))
            | false =>
              rw [if_neg (by decide)]
              rw [hb, Bool.false_and, if_neg (by decide)] at e
              exact wpAny_execs_nil (wpAny_execs_nil (wpAny_execs_nil ⟨nxt _ e, hkI⟩))
          | false =>
            rw [if_neg (by decide)]
            rw [hq3, if_neg (by decide)] at e
            refine wpAny_execs_cons (wpAny_If (wpAny_isTrue_Compare1 (Subscript_ (ld F₄ (mo (by decide) m1) (ld F₄ rfl ?_)))))
            refine item_listL (k := (i : Int)) hF₄ (by omega) (by omega) (by rw [Int.toNat_natCast]; exact hxv) ?_
            refine Subscript_ (ld F₄ (mo (by decide) m2) (ld F₄ rfl ?_))
            refine item_listL (k := (i : Int)) hN₄ (by omega) (by omega) (by rw [Int.toNat_natCast]; exact hyv) ?_
            refine PyProof.Rows.ne_str (wpAny_truthy_bool ?_)
            cases hq4 : (x == y) with
            | true =>
              rw [hq4, if_pos rfl] at e
              rw [if_neg (by simp [bne, hq4])]
              exact wpAny_execs_nil (wpAny_execs_nil (wpAny_execs_nil ⟨nxt _ e, hkI⟩))
            | false =>
              rw [hq4, if_neg (by decide)] at e
              rw [if_pos (by simp [bne, hq4])]
              exact wpAny_execs_cons (wpAny_Return_some (wpAny_Constant_bool (fin false _ e)))
  · rintro s₁ ⟨h', tk, m, rfl, Fi, m1, m2, hin, e⟩
    obtain ⟨hF₄, hN₄⟩ := keepH Fi
    refine wpAny_execs_cons (wpAny_Return_some (wpAny_Compare1 ?_))
    refine wpAny_Call_NameR (nmB c Fi (by kernel_rfl) (v := .builtin "len") (by kernel_rfl) (by decide +kernel) ?_)
    refine Calls.callWith_builtin rfl (evalArgs_plain (spliced_cons (ld Fi m2 (spliced_nil ?_))))
    refine lenLst hN₄ sN (by omega) ?_
    refine wpAny_Call_NameR (nmB c Fi (by kernel_rfl) (v := .builtin "len") (by kernel_rfl) (by decide +kernel) ?_)
    refine Calls.callWith_builtin rfl (evalArgs_plain (spliced_cons (ld Fi m1 (spliced_nil ?_))))
    refine lenLst hF₄ sF (by omega) ?_
    refine wpAny_eq_int ?_
    have := h h' (tk + 1 + 1 + 1 + 1) Fi.keep (Nat.le_of_lt Fi.ns.lt)
    have hz : takes far near = ((near.length : Int) == (far.length : Int)) := by
      rw [e, List.drop_of_length_le (Nat.le_refl _)]
      unfold tkGo
      rw [Bool.eq_iff_iff, List.isEmpty_iff, beq_iff_eq, List.drop_eq_nil_iff]
      omega
    rw [hz] at this
    exact this
end
end Mine
end
section
open PySem PySem.W PySem.W.X PyProof.Rows PySem.Calls
set_option Elab.async false
set_option maxRecDepth 100000
set_option maxHeartbeats 2000000
namespace Mine
/-- the joined code points -/
def jl : List (List Nat) → List Nat
  | [] => []
  | [x] => x
  | x :: y :: r => x ++ 47 :: jl (y :: r)
theorem cut_inj : ∀ (x y a b : List Nat), 47 ∉ x → 47 ∉ y → x ++ 47 :: a = y ++ 47 :: b → x = y ∧ a = b
  | [], [], a, b, _, _, h => ⟨rfl, (List.cons.inj h).2⟩
  | [], c :: y, a, b, _, hy, h => absurd (by rw [(List.cons.inj h).1]; exact .head _) hy
  | c :: x, [], a, b, hx, _, h => absurd (by rw [← (List.cons.inj h).1]; exact .head _) hx
  | c :: x, c' :: y, a, b, hx, hy, h => by
    obtain ⟨h1, h2⟩ := List.cons.inj h
    obtain ⟨e1, e2⟩ := cut_inj x y a b (fun m => hx (.tail _ m)) (fun m => hy (.tail _ m)) h2
    exact ⟨by rw [h1, e1], e2⟩
theorem jl_inj : ∀ (a b : List (List Nat)), a ≠ [] → b ≠ [] → (∀ x ∈ a, 47 ∉ x) → (∀ x ∈ b, 47 ∉ x) → jl a = jl b → a = b
  | [], _, h, _, _, _, _ => absurd rfl h
  | _ :: _, [], _, h, _, _, _ => absurd rfl h
  | [x], [y], _, _, _, _, h => by simp only [jl] at h; rw [h]
  | [x], y :: z :: r, _, _, hx, _, h => by
    simp only [jl] at h
    exact absurd (by rw [h]; simp) (hx x (.head _))
  | x :: z :: r, [y], _, _, _, hy, h => by
    simp only [jl] at h
    exact absurd (by rw [← h]; simp) (hy y (.head _))
  | x :: x' :: r, y :: y' :: r', _, _, hx, hy, h => by
    simp only [jl] at h
    obtain ⟨e1, e2⟩ := cut_inj _ _ _ _ (hx x (.head _)) (hy y (.head _)) h
    rw [e1, jl_inj (x' :: r) (y' :: r') (by simp) (by simp) (fun z m => hx z (.tail _ m)) (fun z m => hy z (.tail _ m)) e2]
theorem slash_mk : ("/" : Str) = ⟨#[47]⟩ := by decide
theorem join_jl : ∀ l : List Str, (Str.join "/" l).cps.toList = jl (l.map (·.cps.toList))
  | [] => rfl
  | [x] => rfl
  | x :: y :: r => by
    have ih := join_jl (y :: r)
    have e : Str.join "/" (x :: y :: r) = x ++ ("/" : Str) ++ Str.join "/" (y :: r) := rfl
    rw [e]
    simp only [List.map_cons, jl] at ih ⊢
    rw [← ih, Str.cps_append, Str.cps_append, slash_mk]
    simp
theorem str_toList_inj {a b : Str} (h : a.cps.toList = b.cps.toList) : a = b := Str.ext' (Array.toList_inj.mp h)
theorem split_join {l : List Str} (h0 : l ≠ []) (h : ∀ x ∈ l, 47 ∉ x.cps.toList) : Txt.split (Txt.join "/" l) "/" = l := by
  have e1 : Txt.join "/" l = Str.join "/" l := StrLaws.glued_eq_join _ _
  have hs := StrLaws.join_split (Txt.join "/" l) "/"
  have hp : 1 ≤ (Txt.split (Txt.join "/" l) "/").length := split_pos _ _
  have hf : ∀ x ∈ Txt.split (Txt.join "/" l) "/", 47 ∉ x.cps.toList := by
    rw [slash_mk]; exact StrLaws.split_free _ 47
  generalize Txt.split (Txt.join "/" l) "/" = q at *
  have e2 : jl (q.map (·.cps.toList)) = jl (l.map (·.cps.toList)) := by rw [← join_jl, ← join_jl, hs, e1]
  have e3 := jl_inj _ _ (by intro z; rw [List.map_eq_nil_iff] at z; rw [z] at hp; exact absurd hp (by decide)) (by intro z; exact h0 (List.map_eq_nil_iff.mp z))
    (fun x m => by obtain ⟨y, hy, rfl⟩ := List.mem_map.mp m; exact hf y hy) (fun x m => by obtain ⟨y, hy, rfl⟩ := List.mem_map.mp m; exact h y hy) e2
  exact List.map_inj_right (fun a b => str_toList_inj) |>.mp e3
/-- a filter's levels -/
def OkF (fl : List Str) : Prop := ∃ n, fl = flOf n
theorem UU_free : ∀ x ∈ UU, 47 ∉ x.cps.toList := by decide
theorem UU_short : ∀ x ∈ UU, x.length ≤ 2 := by decide
theorem OkF.uu {fl : List Str} (h : OkF fl) : ∀ l ∈ fl, l ∈ UU := by
  obtain ⟨n, rfl⟩ := h
  intro l hl
  rcases (flOf_short n).2 l hl with h | rfl
  · exact (show ∀ x ∈ WF, x ∈ UU by decide) l h
  · decide
theorem OkF.len {fl : List Str} (h : OkF fl) : fl.length ≤ 4 := by obtain ⟨n, rfl⟩ := h; exact (flOf_short n).1
theorem OkF.ne {fl : List Str} (h : OkF fl) : fl ≠ [] := by
  obtain ⟨n, rfl⟩ := h
  have h0 : 0 ≤ n.fmod 3 := Int.fmod_nonneg_of_pos _ (by decide)
  have hl : (lvGo WF (1 + n.fmod 3).toNat (n.fdiv 3)).1.length = (1 + n.fmod 3).toNat := lvGo_len _ _ _
  unfold flOf
  dsimp only
  intro z
  split at z
  · simp at z
  · split at z
    · simp at z
    · rw [z] at hl; simp at hl; omega
theorem OkF.split {fl : List Str} (h : OkF fl) : Txt.split (keyOf fl) "/" = fl := split_join h.ne fun x hx => UU_free x (h.uu x hx)
theorem join_len : ∀ (l : List Str) (m : Nat), (∀ x ∈ l, x.length ≤ m) → (Str.join "/" l).length ≤ l.length * (m + 1)
  | [], m, _ => by simp [Str.join, Str.empty, Str.length]
  | [x], m, h => by have := h x (.head _); simp only [Str.join, List.length_cons, List.length_nil]; omega
  | x :: y :: r, m, h => by
    have ih := join_len (y :: r) m fun z hz => h z (.tail _ hz)
    have hx := h x (.head _)
    have e : Str.join "/" (x :: y :: r) = x ++ ("/" : Str) ++ Str.join "/" (y :: r) := rfl
    rw [e, Str.length_append, Str.length_append]
    have e1 : ("/" : Str).length = 1 := by decide
    simp only [List.length_cons, Nat.add_mul, Nat.one_mul] at ih ⊢
    omega
theorem OkF.short {fl : List Str} (h : OkF fl) : (keyOf fl).length ≤ 100 := by
  have e : keyOf fl = Str.join "/" fl := StrLaws.glued_eq_join _ _
  have := join_len fl 2 fun x hx => UU_short x (h.uu x hx)
  have := h.len
  rw [e]; omega
theorem OkF.inj {a b : List Str} (ha : OkF a) (hb : OkF b) (h : keyOf a = keyOf b) : a = b := by rw [← ha.split, ← hb.split, h]
theorem WF_no : ∀ x ∈ WF, x ≠ ("#" : Str) := by decide
theorem OkF.last {fl : List Str} (h : OkF fl) : ∀ l ∈ fl.dropLast, l ≠ ("#" : Str) := by
  obtain ⟨n, rfl⟩ := h
  have hx := lvGo_mem WF (1 + n.fmod 3).toNat (n.fdiv 3)
  have hy : ∀ x ∈ (lvGo WF (1 + n.fmod 3).toNat (n.fdiv 3)).1, x ≠ ("#" : Str) := fun x h => by
    rcases hx x h with h | rfl
    · exact WF_no x h
    · decide
  intro l hl
  unfold flOf at hl
  dsimp only at hl
  split at hl
  · rw [List.dropLast_concat] at hl; exact hy l hl
  · split at hl
    · rw [List.dropLast_concat] at hl; exact hy l (List.dropLast_subset _ hl)
    · exact hy l (List.dropLast_subset _ hl)
/-- the topics -/
abbrev WT : List Str := ["a", "b", "", "$s", "c"]
def tpOf (n : Int) : List Str := (lvGo WT (1 + n.fmod 3).toNat (n.fdiv 3)).1
theorem tp_mem (n : Int) : ∀ x ∈ tpOf n, x ∈ WT := fun x hx => by
  rcases lvGo_mem WT _ _ x hx with h | rfl
  · exact h
  · decide
theorem tp_len (n : Int) : (tpOf n).length ≤ 3 ∧ tpOf n ≠ [] := by
  have h0 : 0 ≤ n.fmod 3 := Int.fmod_nonneg_of_pos _ (by decide)
  have h1 : n.fmod 3 < 3 := Int.fmod_lt_of_pos _ (by decide)
  have hl : (tpOf n).length = (1 + n.fmod 3).toNat := lvGo_len _ _ _
  refine ⟨by omega, fun z => ?_⟩
  rw [z] at hl; simp at hl; omega
theorem WT_free : ∀ x ∈ WT, 47 ∉ x.cps.toList := by decide
theorem WT_short : ∀ x ∈ WT, x.length ≤ 2 := by decide
theorem tp_split (n : Int) : Txt.split (Txt.join "/" (tpOf n)) "/" = tpOf n := split_join (tp_len n).2 fun x hx => WT_free x (tp_mem n x hx)
theorem tp_short (n : Int) : (Txt.join "/" (tpOf n)).length ≤ 100 := by
  have e : Txt.join "/" (tpOf n) = Str.join "/" (tpOf n) := StrLaws.glued_eq_join _ _
  have := join_len (tpOf n) 2 fun x hx => WT_short x (tp_mem n x hx)
  have := (tp_len n).1
  rw [e]; omega
/-- `$` is told by the first level -/
theorem start_join : ∀ (l : List Str), l ≠ [] → Txt.startswith (Txt.join "/" l) "$" = Txt.startswith (l.headD "") "$" := by
  intro l h0
  have e : Txt.join "/" l = Str.join "/" l := StrLaws.glued_eq_join _ _
  rw [e]
  match l, h0 with
  | [x], _ => rfl
  | x :: y :: r, _ =>
    have e : Str.join "/" (x :: y :: r) = x ++ (("/" : Str) ++ Str.join "/" (y :: r)) := Str.append_assoc ..
    rw [e]
    have d1 : ("$" : Str).length = 1 := by decide
    by_cases hx : 1 ≤ x.length
    · exact PySem.W.KAf.starts_left (by rw [d1]; exact hx)
    · have hx0 : x = "" := by
        have : x.cps.size = 0 := by simp only [Str.length] at hx; omega
        exact Str.ext' (by rw [Array.eq_empty_of_size_eq_zero this]; decide)
      subst hx0
      have e2 : ("" : Str) ++ (("/" : Str) ++ Str.join "/" (y :: r)) = ("/" : Str) ++ Str.join "/" (y :: r) := Str.ext' (by simp [Str.cps_append]; decide)
      rw [e2]
      exact (PySem.W.KAf.starts_left (by decide)).trans (show Txt.startswith ("/" : Str) "$" = Txt.startswith ("" : Str) "$" by decide)
end Mine
end
section
open PySem PySem.W PySem.W.X PyProof.Rows PySem.Calls
set_option Elab.async false
set_option maxRecDepth 100000
set_option maxHeartbeats 2000000
namespace Mine
/-- the matching paths, relative -/
def MR : Bool → List Str → List Path
  | b, [] => [] :: (if b = true then [[("#" : Str)]] else [])
  | b, x :: r => (MR true r).map (x :: ·) ++ ((if b = true then (MR true r).map (("+" : Str) :: ·) else []) ++ (if b = true then [[("#" : Str)]] else []))
theorem MP_MR (nb : Bool) : ∀ (tl : List Str) (p : Path), MP nb tl p = (MR (nb || decide (0 < p.length)) tl).map (p ++ ·)
  | [], p => by
    unfold MP MR MH
    split <;> simp_all
  | x :: r, p => by
    have h1 : (nb || decide (0 < (p ++ [x]).length)) = true := by simp
    have h2 : (nb || decide (0 < (p ++ [("+" : Str)]).length)) = true := by simp
    unfold MP MR MH
    rw [MP_MR nb r (p ++ [x]), MP_MR nb r (p ++ [("+" : Str)]), h1, h2]
    simp only [List.map_append, List.map_map]
    congr 1
    · apply List.map_congr_left; intro q _; simp
    · congr 1
      · split
        · rw [List.map_map]; apply List.map_congr_left; intro q _; simp
        · rfl
      · split <;> rfl
theorem MP_nil (nb : Bool) (tl : List Str) : MP nb tl [] = MR nb tl := by
  rw [MP_MR]
  simp
/-- a filter matches a topic; b: a wildcard may stand here -/
def mt : Bool → List Str → List Str → Bool
  | _, [], [] => true
  | b, [], y :: q => b && (y == "#" && q.isEmpty)
  | _, _ :: _, [] => false
  | b, x :: r, y :: q => if y == "#" then b && q.isEmpty else if y == "+" then b && mt true r q else x == y && mt true r q
def plainT (tl : List Str) : Prop := ∀ x ∈ tl, x ≠ ("#" : Str) ∧ x ≠ ("+" : Str)
theorem mem_cm {x y : Str} {q : Path} {l : List Path} : (y :: q) ∈ l.map (x :: ·) ↔ x = y ∧ q ∈ l := by
  rw [List.mem_map]
  constructor
  · rintro ⟨a, ha, e⟩
    obtain ⟨h1, h2⟩ := List.cons.inj e
    exact ⟨h1, h2 ▸ ha⟩
  · rintro ⟨h1, h2⟩
    exact ⟨q, h2, by rw [h1]⟩
theorem nil_cm {x : Str} {l : List Path} : ¬ ([] : Path) ∈ l.map (x :: ·) := fun h => by
  obtain ⟨a, _, e⟩ := List.mem_map.mp h
  cases e
theorem mem_one {b : Bool} {y : Str} {q : Path} {H : Str} : (y :: q) ∈ (if b = true then [[H]] else []) ↔ b = true ∧ y = H ∧ q = [] := by
  cases b <;> simp
theorem mem_two {b : Bool} {y x : Str} {q : Path} {l : List Path} : (y :: q) ∈ (if b = true then l.map (x :: ·) else []) ↔ b = true ∧ x = y ∧ q ∈ l := by
  cases b
  · simp
  · rw [if_pos rfl, mem_cm]; simp
theorem mem_MR : ∀ (tl : List Str) (b : Bool) (q : Path), plainT tl → (q ∈ MR b tl ↔ mt b tl q = true)
  | [], b, [], _ => by simp [MR, mt]
  | [], b, y :: q, _ => by
    unfold MR mt
    rw [List.mem_cons, mem_one, Bool.and_eq_true_iff, Bool.and_eq_true_iff, beq_iff_eq, List.isEmpty_iff]
    constructor
    · rintro (h | h)
      · cases h
      · exact h
    · exact .inr
  | x :: r, b, [], _ => by
    unfold MR mt
    rw [List.mem_append, List.mem_append]
    constructor
    · rintro (h | h | h)
      · exact absurd h nil_cm
      · cases b
        · cases h
        · exact absurd h nil_cm
      · cases b
        · cases h
        · rcases List.mem_cons.mp h with h | h <;> cases h
    · intro h; cases h
  | x :: r, b, y :: q, ht => by
    have ih := mem_MR r true q (fun z hz => ht z (.tail _ hz))
    obtain ⟨hx1, hx2⟩ := ht x (.head _)
    have d1 : ("#" : Str) ≠ "+" := by decide
    unfold MR mt
    rw [List.mem_append, List.mem_append, mem_cm, mem_two, mem_one, ih]
    by_cases h1 : y = "#"
    · subst h1
      rw [if_pos (by decide), Bool.and_eq_true_iff, List.isEmpty_iff]
      constructor
      · rintro (h | h | h)
        · exact absurd h.1 hx1
        · exact absurd h.2.1.symm d1
        · exact ⟨h.1, h.2.2⟩
      · rintro ⟨h, h'⟩; exact .inr (.inr ⟨h, rfl, h'⟩)
    · rw [if_neg (by rw [beq_iff_eq]; exact h1)]
      by_cases h2 : y = "+"
      · subst h2
        rw [if_pos (by decide), Bool.and_eq_true_iff]
        constructor
        · rintro (h | h | h)
          · exact absurd h.1 hx2
          · exact ⟨h.1, h.2.2⟩
          · exact absurd h.2.1 h1
        · rintro ⟨h, h'⟩; exact .inr (.inl ⟨h, rfl, h'⟩)
      · rw [if_neg (by rw [beq_iff_eq]; exact h2), Bool.and_eq_true_iff, beq_iff_eq]
        constructor
        · rintro (h | h | h)
          · exact h
          · exact absurd h.2.1.symm h2
          · exact absurd h.2.1 h1
        · exact .inl
theorem nodup_MR : ∀ (tl : List Str) (b : Bool), plainT tl → (MR b tl).Nodup
  | [], b, _ => by unfold MR; cases b <;> simp
  | x :: r, b, ht => by
    have ih := nodup_MR r true (fun z hz => ht z (.tail _ hz))
    have hx := ht x (.head _)
    have d1 : ("#" : Str) ≠ "+" := by decide
    have n1 : ∀ y : Str, ((MR true r).map (y :: ·)).Nodup := fun y => List.Pairwise.map _ (fun a b h z => h (List.cons.inj z).2) ih
    unfold MR
    cases b with
    | false => simpa using n1 x
    | true =>
      simp only [if_true]
      refine List.nodup_append.2 ⟨n1 x, List.nodup_append.2 ⟨n1 _, by simp, ?_⟩, ?_⟩
      · intro a ha b hb z
        subst z
        obtain ⟨c, _, rfl⟩ := List.mem_map.mp ha
        simp [Ne.symm d1] at hb
      · intro a ha b hb z
        subst z
        obtain ⟨c, _, rfl⟩ := List.mem_map.mp ha
        rcases List.mem_append.mp hb with hb | hb
        · obtain ⟨c', _, e⟩ := List.mem_map.mp hb
          exact hx.2 (List.cons.inj e).1.symm
        · simp at hb
          exact hx.1 hb.1
theorem tp_plain (n : Int) : plainT (tpOf n) := fun x hx => by
  exact (show ∀ x ∈ WT, x ≠ ("#" : Str) ∧ x ≠ ("+" : Str) by decide) x (tp_mem n x hx)
theorem one_of {l : List Path} (hn : l.Nodup) (a : Path) : l.filterMap (fun p => if p = a then some (1 : Int) else none) = if a ∈ l then [1] else [] := by
  induction l with
  | nil => rfl
  | cons x r ih =>
    obtain ⟨h1, h2⟩ := List.nodup_cons.mp hn
    rw [List.filterMap_cons]
    by_cases hx : x = a
    · subst hx
      rw [if_pos rfl, ih h2, if_neg h1, if_pos (.head _)]
    · rw [if_neg hx, ih h2]
      simp [Ne.symm hx]
/-- what a filter alone in a matcher tells -/
theorem alone_mt {nb : Bool} {tl fl : List Str} (ht : plainT tl) : decide ((MP nb tl []).filterMap (fun p => if p = fl then some 1 else none) = [(1 : Int)]) = mt nb tl fl := by
  rw [MP_nil, one_of (nodup_MR tl nb ht)]
  rw [Bool.eq_iff_iff, decide_eq_true_iff, ← mem_MR tl nb fl ht]
  split <;> simp_all
theorem takes_deep (dol : Bool) : ∀ (far : List Str) (k : Nat) (near tl : List Str), 0 < k → (∀ l ∈ far.dropLast, l ≠ ("#" : Str)) → tkGo dol k far near = true → mt true tl near = true → mt true tl far = true
  | [], k, near, tl, hk, hf, h1, h2 => by
    unfold tkGo at h1
    rw [List.isEmpty_iff] at h1
    rwa [h1] at h2
  | f :: fs, k, near, tl, hk, hf, h1, h2 => by
    have hf' : ∀ l ∈ fs.dropLast, l ≠ ("#" : Str) := fun l hl => by
      cases fs with
      | nil => cases hl
      | cons a b => exact hf l (by rw [List.dropLast_cons_cons]; exact .tail _ hl)
    unfold tkGo at h1
    by_cases hq : f = "#"
    · subst hq
      have : fs = [] := by
        cases fs with
        | nil => rfl
        | cons a b => exact absurd rfl (hf "#" (by rw [List.dropLast_cons_cons]; exact .head _))
      subst this
      cases tl <;> simp [mt]
    · rw [if_neg (by simpa using hq)] at h1
      cases near with
      | nil => cases h1
      | cons n ns =>
        dsimp only at h1
        by_cases hn : n = "#"
        · rw [if_pos (by simpa using hn)] at h1; cases h1
        · rw [if_neg (by simpa using hn)] at h1
          cases tl with
          | nil => simp [mt, hn] at h2
          | cons x r =>
            unfold mt at h2
            rw [if_neg (by simpa using hn)] at h2
            by_cases hp : f = "+"
            · subst hp
              rw [if_pos (by decide), if_neg (by simp; omega)] at h1
              have h3 : mt true r ns = true := by
                split at h2
                · simpa using h2
                · exact (Bool.and_eq_true_iff.mp h2).2
              have := takes_deep dol fs (k + 1) ns r (Nat.succ_pos _) hf' h1 h3
              unfold mt
              rw [if_neg (by decide), if_pos (by decide), this]; rfl
            · rw [if_neg (by simpa using hp)] at h1
              by_cases hfn : f = n
              · subst hfn
                rw [if_pos (by simp)] at h1
                rw [if_neg (by simpa using hp)] at h2
                obtain ⟨h4, h5⟩ := Bool.and_eq_true_iff.mp h2
                have := takes_deep dol fs (k + 1) ns r (Nat.succ_pos _) hf' h1 h5
                unfold mt
                rw [if_neg (by simpa using hq), if_neg (by simpa using hp), this, h4]; rfl
              · rw [if_neg (by simpa using hfn)] at h1; cases h1
/-- `_law_takes` is sound -/
theorem takes_sound {far near tl : List Str} (hf : ∀ l ∈ far.dropLast, l ≠ ("#" : Str)) (hn0 : near ≠ []) (ht0 : tl ≠ []) (h1 : takes far near = true)
    (h2 : mt (!Txt.startswith (tl.headD "") "$") tl near = true) : mt (!Txt.startswith (tl.headD "") "$") tl far = true := by
  cases near with
  | nil => exact absurd rfl hn0
  | cons n ns =>
    cases tl with
    | nil => exact absurd rfl ht0
    | cons x r =>
      unfold takes at h1
      simp only [List.headD_cons] at h1 h2 ⊢
      have key : ∀ {P : Bool}, (n = "#" → P = true) → (n = "+" → P = true) → (x = n → P = true) → P = true := fun a b c => by
        unfold mt at h2
        split at h2
        · rename_i q; exact a (by simpa using q)
        · split at h2
          · rename_i q; exact b (by simpa using q)
          · exact c (by simpa using (Bool.and_eq_true_iff.mp h2).1)
      have nb1 : n = "#" → (!Txt.startswith x "$") = true := fun e => by
        unfold mt at h2
        rw [if_pos (by simpa using e)] at h2
        exact (Bool.and_eq_true_iff.mp h2).1
      have nb2 : n = "+" → (!Txt.startswith x "$") = true := fun e => by
        unfold mt at h2
        rw [if_neg (by rw [e]; decide), if_pos (by simpa using e)] at h2
        exact (Bool.and_eq_true_iff.mp h2).1
      cases far with
      | nil => unfold tkGo at h1; cases h1
      | cons f fs =>
        have hf' : ∀ l ∈ fs.dropLast, l ≠ ("#" : Str) := fun l hl => by
          cases fs with
          | nil => cases hl
          | cons a b => exact hf l (by rw [List.dropLast_cons_cons]; exact .tail _ hl)
        unfold tkGo at h1
        by_cases hq : f = "#"
        · subst hq
          have : fs = [] := by
            cases fs with
            | nil => rfl
            | cons a b => exact absurd rfl (hf "#" (by rw [List.dropLast_cons_cons]; exact .head _))
          subst this
          rw [if_pos (by decide)] at h1
          have hd : Txt.startswith n "$" = false := by simpa using h1
          have : (!Txt.startswith x "$") = true := key nb1 nb2 (fun e => by rw [e, hd]; rfl)
          unfold mt
          rw [if_pos (by decide), this]; rfl
        · rw [if_neg (by simpa using hq)] at h1
          dsimp only at h1
          by_cases hn : n = "#"
          · rw [if_pos (by simpa using hn)] at h1; cases h1
          · rw [if_neg (by simpa using hn)] at h1
            have h3 : mt true r ns = true := by
              unfold mt at h2
              rw [if_neg (by simpa using hn)] at h2
              split at h2
              · exact (Bool.and_eq_true_iff.mp h2).2
              · exact (Bool.and_eq_true_iff.mp h2).2
            by_cases hp : f = "+"
            · subst hp
              rw [if_pos (by decide)] at h1
              cases hd : Txt.startswith n "$" with
              | true => rw [hd] at h1; cases h1
              | false =>
                rw [hd, if_neg (by decide)] at h1
                have h4 := takes_deep _ fs _ ns r (Nat.succ_pos _) hf' h1 h3
                have : (!Txt.startswith x "$") = true := key nb1 nb2 (fun e => by rw [e, hd]; rfl)
                unfold mt
                rw [if_neg (by decide), if_pos (by decide), this, h4]; rfl
            · rw [if_neg (by simpa using hp)] at h1
              by_cases hfn : f = n
              · subst hfn
                rw [if_pos (by simp)] at h1
                have h4 := takes_deep _ fs _ ns r (Nat.succ_pos _) hf' h1 h3
                unfold mt at h2 ⊢
                rw [if_neg (by simpa using hq), if_neg (by simpa using hp)] at h2 ⊢
                rw [(Bool.and_eq_true_iff.mp h2).1, h4]; rfl
              · rw [if_neg (by simpa using hfn)] at h1; cases h1
end Mine
end
section
open PySem PySem.W PySem.W.X PyProof.Rows PySem.Calls
set_option Elab.async false
set_option maxRecDepth 100000
set_option maxHeartbeats 2000000
namespace Mine
abbrev GT := List (Path × Int × Tok)
def kv (g : Path × Int × Tok) : Str × Value := (keyOf g.1, .int g.2.1 g.2.2)
structure Inv (G : GT) (C : Path → Value) : Prop where
  ok : ∀ g ∈ G, OkF g.1
  nd : (G.map (·.1)).Nodup
  val : ∀ p, Val (C p)
  ci : ∀ p n, ci C p = some n ↔ ∃ t, (p, n, t) ∈ G
theorem Inv.nil : Inv [] (fun _ => .none) := ⟨fun _ h => (nomatch h), List.nodup_nil, fun _ => .inl rfl, fun p n => ⟨fun h => (by cases h), fun ⟨_, h⟩ => (nomatch h)⟩⟩
def stG (G : GT) (fl : Path) (n : Int) (t : Tok) : GT := if G.any (fun g => decide (g.1 = fl)) = true then G.map (fun g => if g.1 = fl then (fl, n, t) else g) else G ++ [(fl, n, t)]
def dlG (G : GT) (fl : Path) : GT := G.filter fun g => decide (g.1 ≠ fl)
section
variable {G : GT} {C : Path → Value} {fl : Path} {n : Int} {t t' : Tok}
theorem Inv.key (I : Inv G C) (hf : OkF fl) {g : Path × Int × Tok} (hg : g ∈ G) : keyOf g.1 = keyOf fl ↔ g.1 = fl := ⟨fun h => (I.ok g hg).inj hf h, fun h => by rw [h]⟩
theorem any_congr' {α : Type} {l : List α} {p q : α → Bool} (h : ∀ a ∈ l, p a = q a) : l.any p = l.any q := by
  induction l with
  | nil => rfl
  | cons a r ih => rw [List.any_cons, List.any_cons, h a (.head _), ih fun b hb => h b (.tail _ hb)]
theorem Inv.stored (I : Inv G C) (hf : OkF fl) : PySem.stored (G.map kv) (keyOf fl) (.int n t) = (stG G fl n t).map kv := by
  have e1 : (G.map kv).any (fun kv => decide (kv.1 = keyOf fl)) = G.any (fun g => decide (g.1 = fl)) := by
    rw [List.any_map]
    exact any_congr' fun g hg => by show decide (keyOf g.1 = keyOf fl) = _; rw [Bool.eq_iff_iff, decide_eq_true_iff, decide_eq_true_iff]; exact I.key hf hg
  unfold PySem.stored stG
  rw [e1]
  split
  · rw [List.map_map, List.map_map]
    apply List.map_congr_left
    intro g hg
    by_cases z : g.1 = fl
    · simp [kv, z]
    · have : ¬ keyOf g.1 = keyOf fl := fun y => z ((I.key hf hg).1 y)
      simp [kv, z, this]
  · simp [kv]
theorem Inv.without (I : Inv G C) (hf : OkF fl) : PySem.without (G.map kv) (keyOf fl) = (dlG G fl).map kv := by
  unfold PySem.without dlG
  rw [List.filter_map]
  congr 1
  apply List.filter_congr
  intro g hg
  show decide (keyOf g.1 ≠ keyOf fl) = _
  rw [Bool.eq_iff_iff, decide_eq_true_iff, decide_eq_true_iff, Ne, Ne, I.key hf hg]
theorem find_mem {p : Path} (hn : (G.map (·.1)).Nodup) {n : Int} {t : Tok} (h : (p, n, t) ∈ G) : G.find? (fun g => decide (g.1 = p)) = some (p, n, t) := by
  induction G with
  | nil => cases h
  | cons g r ih =>
    rw [List.map_cons, List.nodup_cons] at hn
    rw [List.find?_cons]
    rcases List.mem_cons.mp h with h | h
    · rw [← h]; simp
    · have : g.1 ≠ p := fun z => hn.1 (by rw [z]; exact List.mem_map_of_mem (f := (·.1)) h)
      rw [decide_eq_false this]
      exact ih hn.2 h
theorem Inv.valueAt (I : Inv G C) (hf : OkF fl) : PySem.valueAt (G.map kv) (keyOf fl) = (G.find? (fun g => decide (g.1 = fl))).map fun g => .int g.2.1 g.2.2 := by
  have e : ∀ l : GT, (∀ g ∈ l, g ∈ G) → PySem.valueAt (l.map kv) (keyOf fl) = (l.find? (fun g => decide (g.1 = fl))).map fun g => .int g.2.1 g.2.2 := by
    intro l hl
    induction l with
    | nil => rfl
    | cons g r ih =>
      have ih := ih fun g hg => hl g (.tail _ hg)
      have k := I.key hf (hl g (.head _))
      unfold PySem.valueAt at ih ⊢
      rw [List.map_cons, List.find?_cons, List.find?_cons]
      show Option.map _ (match decide (keyOf g.1 = keyOf fl) with | true => some (kv g) | false => _) = _
      by_cases z : g.1 = fl
      · rw [decide_eq_true (k.2 z), decide_eq_true z]; rfl
      · rw [decide_eq_false (fun y => z (k.1 y)), decide_eq_false z]; exact ih
  exact e G fun _ h => h
/-- what stands is what the trie tells -/
theorem Inv.at_some (I : Inv G C) (hf : OkF fl) (h : (PySem.valueAt (G.map kv) (keyOf fl)).isSome = true) : C fl ≠ .none := by
  rw [I.valueAt hf, Option.isSome_map] at h
  obtain ⟨g, hg⟩ := Option.isSome_iff_exists.mp h
  have h1 := List.mem_of_find?_eq_some hg
  have h2 := List.find?_some hg
  have h2 : g.1 = fl := by simpa using h2
  have := (I.ci g.1 g.2.1).2 ⟨g.2.2, h1⟩
  rw [h2] at this
  intro z
  unfold Mine.ci at this
  rw [z] at this; cases this
theorem Inv.at_none (I : Inv G C) (hf : OkF fl) (h : (PySem.valueAt (G.map kv) (keyOf fl)).isSome = false) : C fl = .none := by
  rcases I.val fl with e | ⟨n, t, e⟩
  · exact e
  · exfalso
    have : Mine.ci C fl = some n := by unfold Mine.ci; rw [e]
    obtain ⟨t', ht⟩ := (I.ci fl n).1 this
    rw [I.valueAt hf, Option.isSome_map, find_mem I.nd ht] at h
    cases h
theorem Inv.set (I : Inv G C) (hf : OkF fl) : Inv (stG G fl n t) (updC C fl (.int n t')) := by
  have hci : ∀ p m, Mine.ci (updC C fl (.int n t')) p = some m ↔ (p = fl ∧ m = n) ∨ (p ≠ fl ∧ Mine.ci C p = some m) := fun p m => by
    unfold Mine.ci updC
    by_cases z : p = fl
    · rw [if_pos z]; simp [z, eq_comm]
    · rw [if_neg z]; simp [z]
  have hval : ∀ p, Val (updC C fl (.int n t') p) := fun p => by
    unfold updC; split
    · exact .inr ⟨_, _, rfl⟩
    · exact I.val p
  unfold stG
  split
  · rename_i hany
    obtain ⟨g0, hg0, he0⟩ := List.any_eq_true.mp hany
    have he0 : g0.1 = fl := by simpa using he0
    refine ⟨fun g hg => ?_, ?_, hval, fun p m => ?_⟩
    · obtain ⟨a, ha, rfl⟩ := List.mem_map.mp hg
      split
      · exact hf
      · exact I.ok a ha
    · have : (G.map (fun g => if g.1 = fl then (fl, n, t) else g)).map (·.1) = G.map (·.1) := by
        rw [List.map_map]; apply List.map_congr_left; intro g _
        by_cases z : g.1 = fl
        · simp [z]
        · simp [z]
      rw [this]; exact I.nd
    · rw [hci]
      constructor
      · rintro (⟨rfl, rfl⟩ | ⟨z, h⟩)
        · exact ⟨t, List.mem_map.mpr ⟨g0, hg0, by rw [if_pos he0]⟩⟩
        · obtain ⟨u, hu⟩ := (I.ci p m).1 h
          exact ⟨u, List.mem_map.mpr ⟨_, hu, by rw [if_neg z]⟩⟩
      · rintro ⟨u, hu⟩
        obtain ⟨a, ha, e⟩ := List.mem_map.mp hu
        split at e
        · cases e; exact .inl ⟨rfl, rfl⟩
        · rename_i z
          subst e
          exact .inr ⟨z, (I.ci _ _).2 ⟨u, ha⟩⟩
  · rename_i hany
    have hno : ∀ g ∈ G, g.1 ≠ fl := fun g hg z => hany (List.any_eq_true.mpr ⟨g, hg, by simpa using z⟩)
    refine ⟨fun g hg => ?_, ?_, hval, fun p m => ?_⟩
    · rcases List.mem_append.mp hg with hg | hg
      · exact I.ok g hg
      · rw [List.mem_singleton.mp hg]; exact hf
    · rw [List.map_append]
      refine List.nodup_append.2 ⟨I.nd, by simp, fun a ha b hb z => ?_⟩
      obtain ⟨g, hg, rfl⟩ := List.mem_map.mp ha
      simp at hb
      exact hno g hg (z.trans hb)
    · rw [hci]
      constructor
      · rintro (⟨rfl, rfl⟩ | ⟨z, h⟩)
        · exact ⟨t, by simp⟩
        · obtain ⟨u, hu⟩ := (I.ci p m).1 h
          exact ⟨u, List.mem_append_left _ hu⟩
      · rintro ⟨u, hu⟩
        rcases List.mem_append.mp hu with hu | hu
        · exact .inr ⟨hno _ hu, (I.ci _ _).2 ⟨u, hu⟩⟩
        · rw [List.mem_singleton] at hu
          cases hu
          exact .inl ⟨rfl, rfl⟩
theorem Inv.del (I : Inv G C) : Inv (dlG G fl) (updC C fl .none) := by
  unfold dlG
  refine ⟨fun g hg => I.ok g (List.mem_filter.mp hg).1, I.nd.sublist (List.Sublist.map _ (List.filter_sublist ..)), fun p => ?_, fun p m => ?_⟩
  · unfold updC; split
    · exact .inl rfl
    · exact I.val p
  · have : Mine.ci (updC C fl .none) p = some m ↔ (p ≠ fl ∧ Mine.ci C p = some m) := by
      unfold Mine.ci updC
      by_cases z : p = fl
      · rw [if_pos z]; simp [z]
      · rw [if_neg z]; simp [z]
    rw [this, I.ci]
    constructor
    · rintro ⟨z, u, hu⟩
      exact ⟨u, List.mem_filter.mpr ⟨hu, by simpa using z⟩⟩
    · rintro ⟨u, hu⟩
      obtain ⟨h1, h2⟩ := List.mem_filter.mp hu
      exact ⟨by simpa using h2, u, h1⟩
theorem stG_len : (stG G fl n t).length ≤ G.length + 1 := by
  unfold stG; split <;> simp
theorem dlG_len : (dlG G fl).length ≤ G.length := List.length_filter_le ..
/-- the matcher's answer, against that of each filter alone -/
theorem Inv.answers (I : Inv G C) {nb : Bool} {tl : List Str} (ht : plainT tl) : ((MP nb tl []).filterMap (Mine.ci C)).Perm ((G.filter (fun g => mt nb tl g.1)).map (·.2.1)) := by
  rw [MP_nil]
  have hp : ((MR nb tl).filter (fun p => (Mine.ci C p).isSome)).Perm ((G.filter (fun g => mt nb tl g.1)).map (·.1)) := by
    refine (List.perm_ext_iff_of_nodup ((nodup_MR tl nb ht).filter _) (I.nd.sublist (List.Sublist.map _ (List.filter_sublist ..)))).2 fun p => ?_
    rw [List.mem_filter, mem_MR tl nb p ht, List.mem_map]
    constructor
    · rintro ⟨h1, h2⟩
      obtain ⟨n, hn⟩ := Option.isSome_iff_exists.mp h2
      obtain ⟨t, hm⟩ := (I.ci p n).1 hn
      exact ⟨_, List.mem_filter.mpr ⟨hm, h1⟩, rfl⟩
    · rintro ⟨g, hg, rfl⟩
      obtain ⟨h1, h2⟩ := List.mem_filter.mp hg
      exact ⟨h2, by rw [(I.ci g.1 g.2.1).2 ⟨g.2.2, h1⟩]; rfl⟩
  have e1 : ∀ l : List Path, l.filterMap (Mine.ci C) = (l.filter (fun p => (Mine.ci C p).isSome)).filterMap (Mine.ci C) := fun l => by
    induction l with
    | nil => rfl
    | cons a r ih =>
      rw [List.filterMap_cons, List.filter_cons]
      cases h : Mine.ci C a with
      | none => simpa using ih
      | some b => simp [h, ih]
  have e2 : ∀ l : GT, (∀ g ∈ l, g ∈ G) → (l.map (·.1)).filterMap (Mine.ci C) = l.map (·.2.1) := fun l hl => by
    induction l with
    | nil => rfl
    | cons g r ih =>
      rw [List.map_cons, List.filterMap_cons, (I.ci g.1 g.2.1).2 ⟨g.2.2, hl g (.head _)⟩, List.map_cons]
      dsimp only
      rw [ih fun a ha => hl a (.tail _ ha)]
  rw [e1]
  refine (hp.filterMap _).trans ?_
  rw [e2 _ fun g hg => (List.mem_filter.mp hg).1]
end
end Mine
end
section
open PySem PySem.W PySem.W.X PyProof.Rows PySem.Calls
set_option Elab.async false
set_option maxRecDepth 100000
set_option maxHeartbeats 4000000
namespace Mine
def lawSt : Stmt := topSt 9
abbrev lawEnv (L : Addr) : Env := envOfC "law" (stScope lawSt) L 133 (.ref 132)
/-- the heap amid the law -/
structure LawH (w : World) (base : Heap) (Out X : Addr → Prop) (L x xx d : Addr) (C : Path → Value) (kvs : List (Str × Value)) (h : Heap) : Prop where
  on : On base Out h
  above : base.objs.size ≤ L
  mat : ∃ root T, MatX w (fun b => Out b ∨ X b) h x xx root T C
  ox : Out x
  oxx : Out xx
  dict : h.DictOf (strKind PR w) d kvs
  cm : h.IsCell (L + 1) (some (.ref x))
  cs : h.IsCell (L + 1 + 1) (some (.ref d))
  ct : ∃ v, h.IsCell (L + 1 + 1 + 1) v
  oL : Out L
  o1 : Out (L + 1)
  o2 : Out (L + 1 + 1)
  o3 : Out (L + 1 + 1 + 1)
  od : Out d
  ne : [L, L + 1, L + 1 + 1, L + 1 + 1 + 1, x, xx, d].Nodup
  nb : ∀ b ∈ [L, L + 1, L + 1 + 1, L + 1 + 1 + 1, x, xx, d], base.get? b = none
theorem nn01 (n : Nat) : n ≠ n + 1 := by omega
theorem nn02 (n : Nat) : n ≠ n + 1 + 1 := by omega
theorem nn03 (n : Nat) : n ≠ n + 1 + 1 + 1 := by omega
theorem nn13 (n : Nat) : n + 1 ≠ n + 1 + 1 + 1 := by omega
theorem nn23 (n : Nat) : n + 1 + 1 ≠ n + 1 + 1 + 1 := by omega
theorem nn12 (n : Nat) : n + 1 ≠ n + 1 + 1 := by omega
section
variable {w : World} {base h h' : Heap} {Out X : Addr → Prop} {L x xx d : Addr} {C C' : Path → Value} {kvs kvs' : List (Str × Value)}
theorem cellKeep {h h' : Heap} {c : Addr} {v : Option Value} (x : h.IsCell c v) (k : ∀ o, h.get? c = some o → h'.get? c = some o) : h'.IsCell c v := let ⟨o, e, d⟩ := x; ⟨o, k o e, d⟩
theorem dictKeep {h h' : Heap} {d : Addr} {kvs : List (Str × Value)} (x : h.DictOf (strKind PR w) d kvs) (k : ∀ o, h.get? d = some o → h'.get? d = some o) : h'.DictOf (strKind PR w) d kvs := let ⟨o, es, ep, e, r⟩ := x; ⟨o, es, ep, k o e, r⟩
theorem LawH.lt (H : LawH w base Out X L x xx d C kvs h) : L < h.objs.size := let ⟨_, e⟩ := H.on.there L H.oL; Heap.lt_size e
theorem LawH.mv (H : LawH w base Out X L x xx d C kvs h) (P : Addr → Prop) (k : ∀ b o, ¬ P b → h.get? b = some o → h'.get? b = some o)
    (hP : ∀ b, P b → (Out b ∨ X b) ∧ b ≠ x ∧ b ≠ xx ∧ b ≠ d ∧ b ≠ L + 1 ∧ b ≠ L + 1 + 1 ∧ base.get? b = none) (th : ∀ b, P b → Out b → ∃ o, h'.get? b = some o) (tc : ∃ v, h'.IsCell (L + 1 + 1 + 1) v) :
    LawH w base Out X L x xx d C kvs h' := by
  have th' : ∀ b, Out b → ∃ o, h'.get? b = some o := fun b hb => by
    by_cases z : P b
    · exact th b z hb
    · obtain ⟨o, e⟩ := H.on.there b hb; exact ⟨o, k b o z e⟩
  obtain ⟨root, T, M⟩ := H.mat
  refine ⟨⟨fun b o e => k b o (fun z => by rw [(hP b z).2.2.2.2.2.2] at e; cases e) (H.on.keep b o e), ?_, H.on.out, th'⟩, H.above, ⟨root, T, matKeep M fun b o hb e => k b o (fun z => ?_) e⟩, H.ox, H.oxx,
    dictKeep H.dict fun o e => k d o (fun z => (hP d z).2.2.2.1 rfl) e, cellKeep H.cm fun o e => k _ o (fun z => (hP _ z).2.2.2.2.1 rfl) e, cellKeep H.cs fun o e => k _ o (fun z => (hP _ z).2.2.2.2.2.1 rfl) e, tc,
    H.oL, H.o1, H.o2, H.o3, H.od, H.ne, H.nb⟩
  · obtain ⟨o, e⟩ := th' L H.oL
    exact Nat.le_trans H.above (Nat.le_of_lt (Heap.lt_size e))
  · rcases hb with rfl | rfl | hb
    · exact (hP _ z).2.1 rfl
    · exact (hP _ z).2.2.1 rfl
    · exact hb (hP b z).1
theorem LawH.keeps (H : LawH w base Out X L x xx d C kvs h) (k : ∀ b o, h.get? b = some o → h'.get? b = some o) : LawH w base Out X L x xx d C kvs h' :=
  H.mv (fun _ => False) (fun b o _ e => k b o e) (fun _ z => z.elim) (fun _ z _ => z.elim) (let ⟨v, c⟩ := H.ct; ⟨v, c.keeps k⟩)
theorem LawH.neL (H : LawH w base Out X L x xx d C kvs h) : x ≠ L ∧ xx ≠ L ∧ d ≠ L ∧ x ≠ L + 1 + 1 + 1 ∧ xx ≠ L + 1 + 1 + 1 ∧ d ≠ L + 1 + 1 + 1 ∧ d ≠ L + 1 ∧ d ≠ L + 1 + 1 ∧ x ≠ d ∧ xx ≠ d := by
  have n := H.ne
  simp only [List.nodup_cons, List.mem_cons, List.not_mem_nil, or_false, not_or, not_false_eq_true, List.nodup_nil, and_true] at n
  obtain ⟨⟨a1, a2, a3, a4, a5, a6⟩, ⟨b2, b3, b4, b5, b6⟩, ⟨c3, c4, c5, c6⟩, ⟨d4, d5, d6⟩, ⟨e5, e6⟩, f6⟩ := n
  exact ⟨Ne.symm a4, Ne.symm a5, Ne.symm a6, Ne.symm d4, Ne.symm d5, Ne.symm d6, Ne.symm b6, Ne.symm c6, e6, f6⟩
/-- the frame is written -/
theorem LawH.frame (H : LawH w base Out X L x xx d C kvs h) (hs : Heap.SameBut L h h') (th : ∃ o, h'.get? L = some o) : LawH w base Out X L x xx d C kvs h' := by
  have n := H.neL
  exact H.mv (fun b => b = L) (fun b o z e => (hs.2 b z).trans e) (fun b z => by rw [z]; exact ⟨.inl H.oL, Ne.symm n.1, Ne.symm n.2.1, Ne.symm n.2.2.1, nn01 L, nn02 L, H.nb L (.head _)⟩) (fun b z _ => by rw [z]; exact th) (let ⟨v, c⟩ := H.ct; ⟨v, c.sameBut hs (Ne.symm (nn03 L))⟩)
/-- the topic's cell is written -/
theorem LawH.topic (H : LawH w base Out X L x xx d C kvs h) {v : Option Value} (hs : Heap.SameBut (L + 1 + 1 + 1) h h') (hc : h'.IsCell (L + 1 + 1 + 1) v) : LawH w base Out X L x xx d C kvs h' := by
  have n := H.neL
  exact H.mv (fun b => b = L + 1 + 1 + 1) (fun b o z e => (hs.2 b z).trans e) (fun b z => by rw [z]; exact ⟨.inl H.o3, Ne.symm n.2.2.2.1, Ne.symm n.2.2.2.2.1, Ne.symm n.2.2.2.2.2.1, Ne.symm (nn13 L), Ne.symm (nn23 L), H.nb _ (by simp)⟩) (fun b z _ => by rw [z]; exact (let ⟨o, e, _⟩ := hc; ⟨o, e⟩)) ⟨v, hc⟩
/-- the matcher is written -/
theorem LawH.setM (H : LawH w base Out X L x xx d C kvs h) (k : ∀ b o, Out b → h.get? b = some o → h'.get? b = some o) (M' : Mat w Out h' x C') (hX : ∀ b, X b → Out b) : LawH w base Out X L x xx d C' kvs h' := by
  obtain ⟨root, T, M⟩ := H.mat
  obtain ⟨xx', root', T', M'⟩ := M'
  have e : xx' = xx := by
    have h1 := k _ _ H.ox M.at_
    rw [M'.at_] at h1
    have := Option.some.inj h1
    injection this with _ h2
    exact Option.some.inj h2
  subst e
  have th : ∀ b, Out b → ∃ o, h'.get? b = some o := fun b hb => by obtain ⟨o, e⟩ := H.on.there b hb; exact ⟨o, k b o hb e⟩
  refine ⟨⟨fun b o e => k b o (H.on.out b o e) (H.on.keep b o e), ?_, H.on.out, th⟩, H.above, ⟨root', T', ⟨M'.at_, M'.dict, .inl M'.ox, .inl M'.oxx, trieOut M'.tr fun b hb => .inl (hb.elim id (hX b))⟩⟩, H.ox, H.oxx, dictKeep H.dict fun o e => k d o H.od e, cellKeep H.cm fun o e => k _ o H.o1 e, cellKeep H.cs fun o e => k _ o H.o2 e, ?_,
    H.oL, H.o1, H.o2, H.o3, H.od, H.ne, H.nb⟩
  · obtain ⟨o, e⟩ := th L H.oL
    exact Nat.le_trans H.above (Nat.le_of_lt (Heap.lt_size e))
  · obtain ⟨v, c⟩ := H.ct
    exact ⟨v, cellKeep c fun o e => k _ o H.o3 e⟩
/-- standing is written -/
theorem LawH.setD (H : LawH w base Out X L x xx d C kvs h) (hs : Heap.SameBut d h h') (hd : h'.DictOf (strKind PR w) d kvs') : LawH w base Out X L x xx d C kvs' h' := by
  have n := H.neL
  have k : ∀ b o, b ≠ d → h.get? b = some o → h'.get? b = some o := fun b o z e => (hs.2 b z).trans e
  have th : ∀ b, Out b → ∃ o, h'.get? b = some o := fun b hb => by
    by_cases z : b = d
    · obtain ⟨o, _, _, e, _⟩ := hd; exact ⟨o, z ▸ e⟩
    · obtain ⟨o, e⟩ := H.on.there b hb; exact ⟨o, k b o z e⟩
  obtain ⟨root, T, M⟩ := H.mat
  refine ⟨⟨fun b o e => k b o (fun z => by rw [z, H.nb d (by simp)] at e; cases e) (H.on.keep b o e), ?_, H.on.out, th⟩, H.above, ⟨root, T, matKeep M fun b o hb e => k b o (fun z => ?_) e⟩, H.ox, H.oxx, hd,
    cellKeep H.cm fun o e => k _ o (Ne.symm n.2.2.2.2.2.2.1) e, cellKeep H.cs fun o e => k _ o (Ne.symm n.2.2.2.2.2.2.2.1) e, ?_, H.oL, H.o1, H.o2, H.o3, H.od, H.ne, H.nb⟩
  · obtain ⟨o, e⟩ := th L H.oL
    exact Nat.le_trans H.above (Nat.le_of_lt (Heap.lt_size e))
  · rcases hb with rfl | rfl | hb
    · exact n.2.2.2.2.2.2.2.2.1 z
    · exact n.2.2.2.2.2.2.2.2.2 z
    · exact hb (.inl (z ▸ H.od))
  · obtain ⟨v, c⟩ := H.ct
    exact ⟨v, cellKeep c fun o e => k _ o (Ne.symm n.2.2.2.2.2.1) e⟩
/-- one more address that is no part of the trie -/
theorem LawH.addX (H : LawH w base Out X L x xx d C kvs h) {I : Addr} (hI : h.get? I = none) : LawH w base Out (fun b => X b ∨ b = I) L x xx d C kvs h := by
  obtain ⟨root, T, M⟩ := H.mat
  refine ⟨H.on, H.above, ⟨root, T, ⟨M.at_, M.dict, .inl H.ox, .inl H.oxx, trieOut M.tr fun b hb => ?_⟩⟩, H.ox, H.oxx, H.dict, H.cm, H.cs, H.ct, H.oL, H.o1, H.o2, H.o3, H.od, H.ne, H.nb⟩
  rcases hb with hb | hb | rfl
  · exact .inl (.inl hb)
  · exact .inl (.inr hb)
  · exact .inr fun o e => by rw [hI] at e; cases e
/-- they are there: now they count among the others -/
theorem LawH.enter (H : LawH w base Out X L x xx d C kvs h) (hX : ∀ b, X b → ∃ o, h.get? b = some o) : LawH w base (fun b => Out b ∨ X b) (fun _ => False) L x xx d C kvs h := by
  obtain ⟨root, T, M⟩ := H.mat
  exact ⟨⟨H.on.keep, H.on.size, fun b o e => .inl (H.on.out b o e), fun b hb => hb.elim (H.on.there b) (hX b)⟩, H.above, ⟨root, T, ⟨M.at_, M.dict, .inl (.inl H.ox), .inl (.inl H.oxx), trieOut M.tr fun b hb => .inl (hb.elim id fun z => z.elim)⟩⟩, .inl H.ox, .inl H.oxx,
    H.dict, H.cm, H.cs, H.ct, .inl H.oL, .inl H.o1, .inl H.o2, .inl H.o3, .inl H.od, H.ne, H.nb⟩
theorem LawH.leave (H : LawH w base (fun b => Out b ∨ X b) (fun _ => False) L x xx d C kvs h) (H₀ : LawH w base Out X L x xx d C' kvs' h') : LawH w base Out X L x xx d C kvs h := by
  obtain ⟨root, T, M⟩ := H.mat
  exact ⟨⟨H.on.keep, H.on.size, H₀.on.out, fun b hb => H.on.there b (.inl hb)⟩, H.above, ⟨root, T, ⟨M.at_, M.dict, .inl H₀.ox, .inl H₀.oxx, trieOut M.tr fun b hb => .inl (.inl hb)⟩⟩, H₀.ox, H₀.oxx, H.dict, H.cm, H.cs, H.ct, H₀.oL, H₀.o1, H₀.o2, H₀.o3, H₀.od, H.ne, H.nb⟩
/-- a new base under the old one -/
theorem LawH.rebase (H : LawH w base Out X L x xx d C kvs h) {base' : Heap} (k : ∀ b o, base'.get? b = some o → base.get? b = some o) (z : base'.objs.size ≤ base.objs.size) : LawH w base' Out X L x xx d C kvs h :=
  ⟨⟨fun b o e => H.on.keep b o (k b o e), Nat.le_trans z H.on.size, fun b o e => H.on.out b o (k b o e), H.on.there⟩, Nat.le_trans z H.above, H.mat, H.ox, H.oxx, H.dict, H.cm, H.cs, H.ct, H.oL, H.o1, H.o2, H.o3, H.od, H.ne, fun b hb => by
    cases q : base'.get? b with
    | none => rfl
    | some o => exact absurd (k b o q) (by rw [H.nb b hb]; intro z; cases z)⟩
end
section
variable {w : World} {A : Around} {E : Value → Shared → Prop} {s : Shared} {h₀ : Heap} {L : Addr} {m : Str → Option Value}
theorem lnK {x : Str} {pos : Pos} {v : Value} {Q : Value → Shared → Prop} (c : Cx w h₀) (F : Fr h₀ L s.heap m) (e : nsIn (KK w) mainGlobals x = some (some v)) (h : Q v s)
    (hx : (lawEnv L).kindOf x = some .globalImplicit := by rfl) (hd : (x == ("__debug__" : Str)) = false := by decide) : wpAny (model PR w) A (eval (.Name x pos) (lawEnv L)) Q E s :=
  let ⟨_, _, g, _, _⟩ := c.G
  Name_function_global rfl hx (loadGlobal_global (env := lawEnv L) (g.keeps F.keep) (mg_of c.X g e) h) hd
theorem lnB {x : Str} {pos : Pos} {v : Value} {Q : Value → Shared → Prop} (c : Cx w h₀) (F : Fr h₀ L s.heap m) (e : nsIn (KK w) mainGlobals x = some none) (hv : bootBuiltins x = some v) (hn : x ≠ "__name__") (h : Q v s)
    (hx : (lawEnv L).kindOf x = some .globalImplicit := by rfl) (hd : (x == ("__debug__" : Str)) = false := by decide) : wpAny (model PR w) A (eval (.Name x pos) (lawEnv L)) Q E s :=
  let ⟨_, _, g, b, mbe⟩ := c.G
  Name_function_global rfl hx (loadGlobal_builtin (env := lawEnv L) (g.keeps F.keep) (mg_none_of c.X g e) (b.keeps F.keep) ((mbe x hn).trans hv) h) hd
theorem lLd {M : Model} {x : Str} {pos : Pos} {v : Value} {Q : Value → Shared → Prop} (F : Fr h₀ L s.heap m) (hv : m x = some v) (h : Q v s)
    (hl : (lawEnv L).kindOf x = some .local := by rfl) (hd : (x == ("__debug__" : Str)) = false := by decide) : wpAny M A (eval (.Name x pos) (lawEnv L)) Q E s := ldLoc F hv h rfl hl hd
theorem lMat {M : Model} {pos : Pos} {v : Value} {Q : Value → Shared → Prop} (hc : s.heap.IsCell (L + 1) (some v)) (h : Q v s) : wpAny M A (eval (.Name "matcher" pos) (lawEnv L)) Q E s :=
  wpAny_Name (wpAny_loadName_cell (c := L + 1) rfl rfl rfl hc h) (by decide)
theorem lStd {M : Model} {pos : Pos} {v : Value} {Q : Value → Shared → Prop} (hc : s.heap.IsCell (L + 1 + 1) (some v)) (h : Q v s) : wpAny M A (eval (.Name "standing" pos) (lawEnv L)) Q E s :=
  wpAny_Name (wpAny_loadName_cell (c := L + 1 + 1) rfl rfl rfl hc h) (by decide)
theorem lTop {M : Model} {pos : Pos} {v : Value} {Q : Value → Shared → Prop} (hc : s.heap.IsCell (L + 1 + 1 + 1) (some v)) (h : Q v s) : wpAny M A (eval (.Name "topic" pos) (lawEnv L)) Q E s :=
  wpAny_Name (wpAny_loadName_cell (c := L + 1 + 1 + 1) rfl rfl rfl hc h) (by decide)
theorem lSt {M : Model} {x : Str} {v : Value} {Q : Unit → Shared → Prop} (F : Fr h₀ L s.heap m)
    (h : ∀ h', Fr h₀ L h' (fun y => if y = x then some v else m y) → Heap.SameBut L s.heap h' → Q () { s with heap := h', toks := s.toks + 1 })
    (hl : (lawEnv L).kindOf x = some .local := by rfl) : wpAny M A (storeName (lawEnv L) x v) Q E s :=
  wpAny_storeName_local hl F.ns (fun h' hn hs => h h' (F.set hn hs) hs) (by rfl)
end
section
variable {w : World} {A : Around} {E : Value → Shared → Prop} {s : Shared} {env : Env}
/-- `for x in range(n)`, with what is known of its iterator -/
theorem for_rangeX {R : Result → Shared → Prop} {x : Str} {px : Pos} {body : List Stmt} {t : Tok} {k : Int} (n : Nat) (hkn : k = n) (hn' : n < 2 ^ 40) (hh : A.handled = none) (J : Addr → Nat → Shared → Prop)
    (h : ∀ I, s.heap.get? I = none →
      (∀ h' tk, (∀ b o, s.heap.get? b = some o → h'.get? b = some o) → J I 0 { s with heap := h', toks := tk }) ∧
      (∀ i s₁ h' tk, J I i s₁ → (∀ b o, b ≠ I → s₁.heap.get? b = some o → h'.get? b = some o) → J I i { s₁ with heap := h', toks := tk }) ∧
      (∀ i v s₁ oI, i < n → J I i s₁ → s₁.heap.get? I = some oI → oI.cls = .type "range_iterator" → wpAny (model PR w) A (storeName env x (.int (i : Nat) v)) (fun _ s₂ => wpAny (model PR w) A (execs body env) (fun f s₃ => match f with
          | .next | .cont => J I (i + 1) s₃ ∧ s₃.heap.get? I = some oI
          | .brk => R (.ok .next) s₃
          | .ret v => R (.ok (.ret v)) s₃) (fun _ _ => False) s₂) (fun _ _ => False) s₁) ∧
      (∀ s₁, J I n s₁ → R (.ok .next) s₁)) :
    wpAny (model PR w) A (call (.type "range") [.int k t]) (fun xv s₁ => wpAny (model PR w) A (pyIter xv) (fun it s₂ => codeAny (model PR w) A (.forLoop (.Name x px) it body [] env) R s₂) E s₁) E s := by
  subst hkn
  refine call_range_1 ?_
  refine wpAny_pyIter_range (IsRange.new _ _ _ _ _ _ _) (small_one (by omega) (by omega) (by omega) (by omega)) ?_
  dsimp only
  rw [rangeSize_one, show (if (0 : Int) < (n : Int) then (n : Int) - 0 else 0) = (n : Int) - 0 by split <;> omega]
  have hI0 : s.heap.get? (s.heap.push { cls := .type "range", data := .fields #[.int 0 s.toks, .int n t, .int 1 (s.toks + 1)] }).objs.size = none := Heap.get?_none_of_le (by simp [Heap.push])
  have hat : ∀ ob : Obj, ob.isFreed = false → ((s.heap.push { cls := .type "range", data := .fields #[.int 0 s.toks, .int n t, .int 1 (s.toks + 1)] }).push ob).get? (s.heap.push { cls := .type "range", data := .fields #[.int 0 s.toks, .int n t, .int 1 (s.toks + 1)] }).objs.size = some ob := fun ob hf => Heap.get?_push_size _ hf
  have hkp : ∀ (ob : Obj) b o, s.heap.get? b = some o → ((s.heap.push { cls := .type "range", data := .fields #[.int 0 s.toks, .int n t, .int 1 (s.toks + 1)] }).push ob).get? b = some o := fun ob b o e => Heap.get?_push_of_some _ (Heap.get?_push_of_some _ e)
  generalize (s.heap.push { cls := .type "range", data := .fields #[.int 0 s.toks, .int n t, .int 1 (s.toks + 1)] }).objs.size = I at *
  obtain ⟨h1, h2, h3, h4⟩ := h I hI0
  refine for_W (Walks.range hh I 0 1 n) (J I) (fun i s₁ h' tk j k => h2 i s₁ h' tk j fun b o hb e => k b o (by simpa using hb) e) ?_ h4 (h1 _ _ (hkp _)) ?_
  · rintro i v s₁ hi ⟨tv, rfl⟩ hJ hS
    have := h3 i tv s₁ _ hi hJ hS rfl
    simp only [Int.zero_add, Int.mul_one] at hS ⊢
    refine wpAny_mono this (fun _ s₂ h₂ => wpAny_mono h₂ (fun f s₃ h₃ => ?_) fun _ _ e => e.elim) fun _ _ e => e.elim
    simp only [Int.zero_add, Int.mul_one] at h₃
    cases f with
    | next => exact h₃
    | cont => exact h₃
    | brk => exact h₃
    | ret v => exact h₃
  · show IsRangeIter _ I _ _ _
    simpa using hat _ rfl
end
end Mine
end
section
open PySem PySem.W PySem.W.X PyProof.Rows PySem.Calls
set_option Elab.async false
set_option maxRecDepth 100000
set_option maxHeartbeats 4000000
namespace Mine
def lst (i : Nat) : Stmt := nth (stBody lawSt) i
section
variable {w : World} {A : Around} {E : Value → Shared → Prop} {s : Shared}
/-- what the first loop keeps -/
structure L1 (w : World) (base : Heap) (Out X : Addr → Prop) (L x xx d S : Addr) (many : Int) (n : Nat) (h : Heap) : Prop where
  ex : ∃ m G C tm, Fr base L h m ∧ m "script" = some (.ref S) ∧ m "many" = some (.int many tm) ∧ LawH w base Out X L x xx d C (G.map kv) h ∧ Inv G C ∧ G.length ≤ n
theorem L1.frame {w : World} {base h : Heap} {Out X : Addr → Prop} {L x xx d S : Addr} {many : Int} {n : Nat} (H : L1 w base Out X L x xx d S many n h) : ∃ m, Fr base L h m := let ⟨m, _, _, _, F, _⟩ := H.ex; ⟨m, F⟩
theorem frTurn {base h g' h' : Heap} {L : Addr} {m : Str → Option Value} (F : Fr base L h m) (T : KtsTurn [L] h g') (k : ∀ b o, g'.get? b = some o → h'.get? b = some o) (hb : base.get? L = none) : Fr base L h' m := by
  obtain ⟨o, es, ep, ho, hd, r⟩ := F.ns
  obtain ⟨sl, hs⟩ := T.frame L o ho (.head _)
  exact ⟨⟨_, es, ep, k _ _ hs, hd, r⟩, fun b o e => k b o (T.other b o (F.keep b o e) (fun z => by rw [List.mem_singleton.mp z, hb] at e; cases e)), F.above⟩
theorem LawH.turn {w : World} {base h g' h' : Heap} {Out X : Addr → Prop} {L x xx d : Addr} {C : Path → Value} {kvs : List (Str × Value)} (H : LawH w base Out X L x xx d C kvs h) (T : KtsTurn [L] h g') (k : ∀ b o, g'.get? b = some o → h'.get? b = some o) (th : ∃ o, h'.get? L = some o) : LawH w base Out X L x xx d C kvs h' := by
  have n := H.neL
  have kk : ∀ b o, ¬ b = L → h.get? b = some o → h'.get? b = some o := fun b o z e => k b o (T.other b o e fun y => z (List.mem_singleton.mp y))
  exact H.mv (fun b => b = L) kk (fun b z => by rw [z]; exact ⟨.inl H.oL, Ne.symm n.1, Ne.symm n.2.1, Ne.symm n.2.2.1, nn01 L, nn02 L, H.nb L (.head _)⟩) (fun b z _ => by rw [z]; exact th) (let ⟨v, c⟩ := H.ct; ⟨v, cellKeep c fun o e => kk _ o (Ne.symm (nn03 L)) e⟩)
theorem mulOk2 {i : Nat} (h : i < 100) : IntMulOk (2 : Int) (i : Int) := by
  mul_fits
theorem lNum {l r : Expr} {op : Operator} {bp : Pos} {np sp cp : Pos} {base : Heap} {L S : Addr} {m : Str → Option Value} {vs : List Value} {ns : List Int} {pp : Int} {Q : Value → Shared → Prop} (c : Cx w base) (F : Fr base L s.heap m) (m1 : m "script" = some (.ref S)) (ok : Ok A 5) (hS : base.IsList S vs.toArray) (hI : IntsAre vs ns) (hvs : vs.length ≤ 63)
    (h0 : 0 ≤ pp) (h1 : pp < 2 ^ 20) (he : ∀ (Q : Value → Shared → Prop), (∀ t tk, Q (.int pp t) { s with toks := tk }) → wpAny (model PR w) A (eval (.BinOp l op r bp) (lawEnv L)) Q E s)
    (h : ∀ h' tk t, (∀ b o, s.heap.get? b = some o → h'.get? b = some o) → Q (.int (ns.getD pp.toNat 0) t) { s with heap := h', toks := tk }) :
    wpAny (model PR w) A (eval (.Call (.Name "_law_number" np) [.Name "script" sp, .BinOp l op r bp] [] cp) (lawEnv L)) Q E s := by
  refine wpAny_Call_NameR (lnK c F (by kernel_rfl) (v := .ref 93) ?_)
  refine callWith_K c.X rfl ?_
  refine spliced_cons (lLd F m1 (spliced_cons (he _ fun t tk => spliced_nil ⟨(c.keeps F.keep).X, ?_⟩)))
  have hS' : s.heap.IsList S vs.toArray := Heap.IsList.at hS fun o e => F.keep _ _ e
  exact wpAny_call (number_spec (s := { s with toks := tk }) (c.keeps F.keep) ok hS' hI (by omega) h0 h1 fun h' tk' t' k => h h' tk' t' k)
/-- `not _law_lacks(matcher, key, b)` where the key is not there -/
theorem lLacks {base : Heap} {Out X : Addr → Prop} {L x xx d : Addr} {m : Str → Option Value} {C : Path → Value} {kvs : List (Str × Value)} {fl : List Str} {tk₀ : Tok} {b : Bool} {k : Nat} {np mp kp bp cp : Pos} {up : Pos} {whole : Sem Value} {p : Program} {loose : List Str} {mean : ExcName → Option Value} {mg mb : Str → Option Value} {Q : Bool → Shared → Prop}
    (c : Cx w base) (TB : Top p loose mean mg mb base) (ok : Ok A 14) (K : Below A base [lawEnv L] s.heap) (F : Fr base L s.heap m) (hk : m "key" = some (.str (keyOf fl) tk₀)) (H : LawH w base Out X L x xx d C kvs s.heap) (hX : ∀ b, X b → Out b)
    (hC : ∀ p, Val (C p)) (hf : OkF fl) (hn : C fl = .none)
    (h : ∀ h' tk g', KtsTurn [L] s.heap g' → (∀ b o, g'.get? b = some o → h'.get? b = some o) → Q false { s with heap := h', toks := tk }) :
    wpAny (model PR w) A (isTrue (.UnaryOp .Not (.Call (.Name "_law_lacks" np) [.Name "matcher" mp, .Name "key" kp, .Constant (.bool b) k bp] [] cp) up) (lawEnv L) whole) Q E s := by
  obtain ⟨root, T, M⟩ := H.mat
  refine isTrue_not (isTrue_plain (wpAny_Call_NameR (lnK c F (by kernel_rfl) (v := .ref 121) ?_)))
  refine callWith_K c.X rfl (spliced_cons (lMat H.cm (spliced_cons (lLd F hk (spliced_cons (wpAny_Constant_bool (k := k) (pos := bp) (spliced_nil ⟨(c.keeps F.keep).X, ?_⟩)))))))
  refine wpAny_call (lacks_spec (base := base) (outer := [lawEnv L]) c ok H.on ⟨_, _, _, ⟨M.at_, M.dict, H.ox, H.oxx, trieOut M.tr fun b hb => .inl (.inl hb)⟩⟩ hC hf.split hf.short hf.ne (Nat.le_trans hf.len (by decide)) hn c K TB ?_ fun h' tk g' T' k' => ?_)
  · intro b hb
    obtain ⟨o, es, ep, ho, hd, _⟩ := F.ns
    rw [List.mem_singleton.mp hb]
    exact ⟨o, es, ep, ho, hd⟩
  · exact wpAny_truthy_bool (h h' tk g' T' k')
theorem lawTurn {base : Heap} {Out : Addr → Prop} {L x xx d S I : Addr} {vs : List Value} {ns : List Int} {n i : Nat} {tv : Tok} {p : Program} {loose : List Str} {mean : ExcName → Option Value} {mg mb : Str → Option Value} {Q : Flow → Shared → Prop} {oI : Obj} {body : List Stmt}
    (hbody : body = (match lst 3 with | .For _ _ b _ _ => b | _ => []))
    (c : Cx w base) (TB : Top p loose mean mg mb base) (ok : Ok A 30) (K : ∀ h, (∃ m, Fr base L h m) → Below A base [lawEnv L] h) (hS : base.IsList S vs.toArray) (hI : IntsAre vs ns) (hvs : vs.length ≤ 63) (hi : i < 7) (dsys : (d == sysModules) = false)
    (hLI : L ≠ I) (hoI : s.heap.get? I = some oI) (hcI : oI.cls ≠ .type "dict") (H : L1 w base Out (fun b => b = I) L x xx d S n i s.heap)
    (hQ : ∀ h' tk, L1 w base Out (fun b => b = I) L x xx d S n (i + 1) h' → h'.get? I = some oI → Q .next { s with heap := h', toks := tk }) :
    wpAny (model PR w) A (storeName (lawEnv L) "k" (.int (i : Nat) tv)) (fun _ s₂ => wpAny (model PR w) A (execs body (lawEnv L)) Q (fun _ _ => False) s₂) (fun _ _ => False) s := by
  subst hbody
  obtain ⟨m, G, C, tm, F, m1, m2, HL, IV, hl⟩ := H.ex
  refine lSt F fun h₁ F₁ S₁ => ?_
  have HL₁ := HL.frame S₁ (let ⟨o, _, _, e, _⟩ := F₁.ns; ⟨o, e⟩)
  have hoI₁ : h₁.get? I = some oI := (S₁.2 I (Ne.symm hLI)).trans hoI
  have HE := HL₁.enter (fun b hb => ⟨oI, by rw [hb]; exact hoI₁⟩)
  -- key
  refine wpAny_execs_cons (wpAny_Assign_Name ?_)
  refine wpAny_Call_NameR (lnK (s := { s with heap := h₁, toks := s.toks + 1 }) c F₁ (by kernel_rfl) (v := .ref 107) ?_)
  refine callWith_K c.X rfl (spliced_cons ?_)
  refine lNum (s := { s with heap := h₁, toks := s.toks + 1 }) (pp := 2 + 2 * (i : Int)) c F₁ (mo (by decide) m1) (ok.le (by decide)) hS hI hvs (by omega) (by omega) (fun Q hq => ?_) fun h₂ tk₂ t₂ k₂ => ?_
  · exact wpAny_BinOp (wpAny_Constant_int (wpAny_BinOp (wpAny_Constant_int (lLd (s := { s with heap := h₁, toks := _ }) F₁ rfl (PyProof.Rows.mul_int (PyProof.Rows.add_int (hq _ _)) (mulOk2 (by omega)))))))
  dsimp only at k₂
  have F₂ := frUp F₁ k₂
  have H₂ := HL₁.keeps k₂
  refine spliced_nil ⟨(c.keeps F₂.keep).X, ?_⟩
  refine wpAny_call (filter_spec (c.keeps F₂.keep) (ok.le (by decide)) fun h₃ tk₃ t₃ k₃ => ?_)
  dsimp only at k₃ ⊢
  have F₃ := frUp F₂ k₃
  have H₃ := H₂.keeps k₃
  generalize hfl : flOf (ns.getD (2 + 2 * (i : Int)).toNat 0) = fl
  have hf : OkF fl := ⟨_, hfl.symm⟩
  refine lSt F₃ fun h₄ F₄ S₄ => ?_
  dsimp only at S₄ ⊢
  have H₄ := H₃.frame S₄ (let ⟨o, _, _, e, _⟩ := F₄.ns; ⟨o, e⟩)
  have hoI₄ : h₄.get? I = some oI := (S₄.2 I (Ne.symm hLI)).trans (k₃ _ _ (k₂ _ _ hoI₁))
  have m1₁ := mo (v := Value.int (i : Int) tv) (show ("script" : Str) ≠ "k" by decide) m1
  have m2₁ := mo (v := Value.int (i : Int) tv) (show ("many" : Str) ≠ "k" by decide) m2
  have m1₂ := mo (v := Value.str (keyOf fl) t₃) (show ("script" : Str) ≠ "key" by decide) m1₁
  have m2₂ := mo (v := Value.str (keyOf fl) t₃) (show ("many" : Str) ≠ "key" by decide) m2₁
  -- the deed
  refine wpAny_execs_cons (wpAny_If (wpAny_isTrue_Compare1 (wpAny_BinOp ?_)))
  refine lNum (s := { s with heap := h₄, toks := tk₃ + 1 }) (pp := 1 + 2 * (i : Int)) c F₄ m1₂ (ok.le (by decide)) hS hI hvs (by omega) (by omega) (fun Q hq => ?_) fun h₅ tk₅ t₅ k₅ => ?_
  · exact wpAny_BinOp (wpAny_Constant_int (wpAny_BinOp (wpAny_Constant_int (lLd (s := { s with heap := h₄, toks := _ }) F₄ rfl (PyProof.Rows.mul_int (PyProof.Rows.add_int (hq _ _)) (mulOk2 (by omega)))))))
  dsimp only at k₅
  have F₅ := frUp F₄ k₅
  have H₅ := H₄.keeps k₅
  have hoI₅ := k₅ _ _ hoI₄
  have HE := H₅.enter (fun b hb => ⟨oI, by rw [hb]; exact hoI₅⟩)
  refine wpAny_Constant_int (mod_int' (by decide) (wpAny_Constant_int (wpAny_lt_int (wpAny_truthy_bool ?_))))
  dsimp only
  by_cases hdeed : (ns.getD (1 + 2 * (i : Int)).toNat 0).fmod 3 < 2
  · rw [decide_eq_true hdeed, if_pos rfl]
    refine wpAny_execs_cons (wpAny_Assign_Subscript (wpAny_BinOp (lLd F₅ rfl (wpAny_Constant_int (PyProof.Rows.add_int (lMat H₅.cm (lLd F₅ rfl ?_)))))))
    obtain ⟨root, T, M⟩ := HE.mat
    obtain ⟨hs0, tk0, n0, hxx0⟩ := M.dict
    have I₅ : InstAt h₅ x (matO xx) 82 (some (dictOf [⟨hs0, .str "_root" tk0, .ref root⟩] n0)) := ⟨M.at_, rfl, rfl, hxx0⟩
    refine ksp_setItem (K := KK w) F₅ c.X I₅ (f := 58) (by kernel_rfl) (by kernel_rfl) (by kernel_rfl) (wpAny_call (set_spec c (ok.le (by decide)) HE.on ⟨_, _, _, ⟨M.at_, M.dict, HE.ox, HE.oxx, trieOut M.tr fun b hb => .inl (.inl hb)⟩⟩ hf.split hf.uu hf.short fun h₆ tk₆ k₆ M₆ => ?_))
    dsimp only at k₆ M₆ ⊢
    have H₆ := HE.setM k₆ M₆ (fun b z => z.elim)
    have F₆ : Fr base L h₆ _ := ⟨F₅.ns.at' fun o e => k₆ _ o HE.oL e, H₆.on.keep, F₅.above⟩
    refine wpAny_execs_cons (wpAny_Assign_Subscript (wpAny_BinOp (lLd F₆ rfl (wpAny_Constant_int (PyProof.Rows.add_int (lStd H₆.cs (lLd F₆ rfl ?_)))))))
    refine wpAny_setItem_pairs (strKind_is PR w (keyOf fl) t₃) H₆.dict (fun h₇ d₇ S₇ => ?_) (by rw [List.length_map, sizeLine_eq]; omega)
    dsimp only at d₇ S₇ ⊢
    rw [IV.stored hf] at d₇
    have H₇ := H₆.setD S₇ d₇
    refine wpAny_execs_nil (wpAny_execs_nil ?_)
    have n := H₇.neL
    have hdI : d ≠ I := fun z => by
      obtain ⟨o, _, _, e, hc, _⟩ := H₅.dict
      rw [z, hoI₅] at e
      cases e
      exact hcI hc.1
    refine hQ h₇ _ ⟨_, _, _, tm, ⟨F₆.ns.at' fun o e => (S₇.2 _ (Ne.symm n.2.2.1)).trans e, H₇.on.keep, F₆.above⟩, m1₂, m2₂, H₇.leave H₅, IV.set hf, Nat.le_trans stG_len (Nat.succ_le_succ hl)⟩ ?_
    exact (S₇.2 I (Ne.symm hdI)).trans (k₆ _ _ (.inr rfl) hoI₅)
  · rw [decide_eq_false hdeed, if_neg (by decide)]
    refine wpAny_execs_cons (wpAny_If (wpAny_isTrue_Compare1 (lLd F₅ rfl (lStd H₅.cs (wpAny_notIn_of (strKind_is PR w (keyOf fl) t₃) dsys H₅.dict.mapOf (wpAny_truthy_bool ?_))))))
    have n := H₅.neL
    have KK₅ := K h₅ ⟨_, F₅⟩
    cases hin : (valueAt (G.map kv) (keyOf fl)).isSome with
    | false =>
      rw [if_pos (by rfl)]
      have hnone := IV.at_none hf hin
      refine wpAny_execs_cons (wpAny_If ?_)
      refine lLacks c TB (ok.le (by decide)) KK₅ F₅ rfl HE (fun b z => z.elim) IV.val hf hnone fun h₆ tk₆ g₆ T₆ k₆ => ?_
      rw [if_neg (by decide)]
      refine wpAny_execs_nil (wpAny_execs_nil (wpAny_execs_nil (wpAny_execs_nil ?_)))
      have F₆ := frTurn F₅ T₆ k₆ (H₅.nb L (.head _))
      exact hQ h₆ _ ⟨_, G, C, tm, F₆, m1₂, m2₂, H₅.turn T₆ k₆ (let ⟨o, _, _, e, _⟩ := F₆.ns; ⟨o, e⟩), IV, Nat.le_succ_of_le hl⟩ (k₆ _ _ (T₆.other I oI hoI₅ fun z => hLI (List.mem_singleton.mp z).symm))
    | true =>
      rw [if_neg (by decide)]
      have hsome := IV.at_some hf hin
      obtain ⟨root, T, M⟩ := HE.mat
      obtain ⟨hs0, tk0, n0, hxx0⟩ := M.dict
      have I₅ : InstAt h₅ x (matO xx) 82 (some (dictOf [⟨hs0, .str "_root" tk0, .ref root⟩] n0)) := ⟨M.at_, rfl, rfl, hxx0⟩
      refine wpAny_execs_cons (wpAny_Delete (wpAny_deleteEach_cons (wpAny_delete_Subscript (lMat H₅.cm (lLd F₅ rfl ?_)))))
      refine ownDel (K := KK w) F₅ c.X I₅ (by kernel_rfl) (f := 72) (by kernel_rfl) (by kernel_rfl) (wpAny_call (del_spec c (ok.le (by decide)) HE.on ⟨_, _, _, ⟨M.at_, M.dict, HE.ox, HE.oxx, trieOut M.tr fun b hb => .inl (.inl hb)⟩⟩ IV.val hf.split hf.short hf.ne (Nat.le_trans hf.len (by decide)) (fun _ h₆ tk₆ k₆ M₆ => ?_) fun z => absurd z hsome))
      dsimp only at k₆ M₆ ⊢
      have H₆ := HE.setM k₆ M₆ (fun b z => z.elim)
      have F₆ : Fr base L h₆ _ := ⟨F₅.ns.at' fun o e => k₆ _ o HE.oL e, H₆.on.keep, F₅.above⟩
      refine wpAny_deleteEach_nil ?_
      refine wpAny_execs_cons (wpAny_Delete (wpAny_deleteEach_cons (wpAny_delete_Subscript (lStd H₆.cs (lLd F₆ rfl ?_)))))
      refine wpAny_delItem_slot H₆.dict.typeIs (by decide) PySem.F.slot_dict_delitem (call_meetsIn PySem.F.slot_dict_delitem H₆.dict.typeIs PySem.F.entry_dict_delitem (PySem.F.args_dict_delitem_2 _ _) (meets_dict_delitem_pairs (PySem.strKind PR w) d (strKind_is PR w (keyOf fl) t₃))
        ⟨_, H₆.dict, by rw [List.length_map, sizeLine_eq]; omega, hin, fun h₇ d₇ S₇ => ?_⟩)
      show wpAny _ _ (deleteEach [] _) _ _ _
      refine wpAny_deleteEach_nil ?_
      dsimp only at S₇ d₇ ⊢
      rw [IV.without hf] at d₇
      have H₇ := H₆.setD S₇ d₇
      have F₇ : Fr base L h₇ _ := ⟨F₆.ns.at' fun o e => (S₇.2 _ (Ne.symm n.2.2.1)).trans e, H₇.on.keep, F₆.above⟩
      have hdI : d ≠ I := fun z => by
        obtain ⟨o, _, _, e, hc, _⟩ := H₅.dict
        rw [z, hoI₅] at e
        cases e
        exact hcI hc.1
      have hoI₇ : h₇.get? I = some oI := (S₇.2 I (Ne.symm hdI)).trans (k₆ _ _ (.inr rfl) hoI₅)
      have IV₇ := IV.del (fl := fl)
      refine wpAny_execs_cons (wpAny_If ?_)
      refine lLacks (C := updC C fl .none) c TB (ok.le (by decide)) (K h₇ ⟨_, F₇⟩) F₇ rfl H₇ (fun b z => z.elim) IV₇.val hf (by unfold updC; rw [if_pos rfl]) fun h₈ tk₈ g₈ T₈ k₈ => ?_
      rw [if_neg (by decide)]
      refine wpAny_execs_nil (wpAny_execs_nil (wpAny_execs_nil (wpAny_execs_nil ?_)))
      have F₈ := frTurn F₇ T₈ k₈ (H₅.nb L (.head _))
      exact hQ h₈ _ ⟨_, _, _, tm, F₈, m1₂, m2₂, (H₇.turn T₈ k₈ (let ⟨o, _, _, e, _⟩ := F₈.ns; ⟨o, e⟩)).leave H₅, IV₇, Nat.le_trans dlG_len (Nat.le_succ_of_le hl)⟩ (k₈ _ _ (T₈.other I oI hoI₇ fun z => hLI (List.mem_singleton.mp z).symm))
theorem loop1 {base : Heap} {Out : Addr → Prop} {L x xx d S : Addr} {vs : List Value} {ns : List Int} {n : Nat} {p : Program} {loose : List Str} {mean : ExcName → Option Value} {mg mb : Str → Option Value} {Q : Flow → Shared → Prop}
    (c : Cx w base) (TB : Top p loose mean mg mb base) (ok : Ok A 30) (K : ∀ h, (∃ m, Fr base L h m) → Below A base [lawEnv L] h) (hS : base.IsList S vs.toArray) (hI : IntsAre vs ns) (hvs : vs.length ≤ 63) (hn : n ≤ 7) (dsys : (d == sysModules) = false)
    (H : L1 w base Out (fun _ => False) L x xx d S n 0 s.heap)
    (hQ : ∀ h' tk X, L1 w base Out X L x xx d S n 7 h' → Q .next { s with heap := h', toks := tk }) :
    wpAny (model PR w) A (exec (lst 3) (lawEnv L)) Q (fun _ _ => False) s := by
  obtain ⟨m, G, C, tm, F, m1, m2, HL, IV, hl⟩ := H.ex
  refine wpAny_For ?_
  refine wpAny_Call_NameR (lnB c F (by kernel_rfl) (v := .type "range") (by kernel_rfl) (by decide +kernel) ?_)
  refine callWith_type1 (spliced_cons (lLd F m2 (spliced_nil ?_)))
  refine for_rangeX n rfl (by omega) ok.hd (fun I i s₁ => ∃ h tk, s₁ = { s with heap := h, toks := tk } ∧ L1 w base Out (fun b => b = I) L x xx d S n i h) (fun I hI0 => ⟨?_, ?_, ?_, ?_⟩)
  · intro h' tk k
    have HX := HL.addX hI0
    obtain ⟨root, T, M⟩ := HX.mat
    have HX' : LawH w base Out (fun b => b = I) L x xx d C (G.map kv) s.heap := ⟨HX.on, HX.above, ⟨root, T, ⟨M.at_, M.dict, .inl HX.ox, .inl HX.oxx, trieOut M.tr fun b hb => .inl (hb.elim .inl fun z => .inr (.inr z))⟩⟩, HX.ox, HX.oxx, HX.dict, HX.cm, HX.cs, HX.ct, HX.oL, HX.o1, HX.o2, HX.o3, HX.od, HX.ne, HX.nb⟩
    exact ⟨h', tk, rfl, ⟨m, G, C, tm, frUp F k, m1, m2, HX'.keeps k, IV, hl⟩⟩
  · rintro i s₁ h' tk' ⟨h, tk, rfl, H₁⟩ hk
    obtain ⟨m', G', C', tm', F', m1', m2', HL', IV', hl'⟩ := H₁.ex
    refine ⟨h', tk', rfl, ⟨m', G', C', tm', frBut F' hk (nsNe F.ns hI0) (frNone F hI0), m1', m2', ?_, IV', hl'⟩⟩
    have hthere : ∀ b, (∃ o, s.heap.get? b = some o) → b ≠ I := fun b ⟨o, e⟩ z => by rw [z, hI0] at e; cases e
    have fresh : ∀ b, Out b → b ≠ I := fun b hb => hthere b (HL.on.there b hb)
    exact HL'.mv (fun b => b = I) (fun b o z e => hk b o z e) (fun b z => by
      rw [z]
      exact ⟨.inr rfl, Ne.symm (fresh _ HL.ox), Ne.symm (fresh _ HL.oxx), Ne.symm (fresh _ HL.od), Ne.symm (fresh _ HL.o1), Ne.symm (fresh _ HL.o2), frNone F hI0⟩) (fun b z hb => absurd z (fresh b hb)) (let ⟨v, c⟩ := HL'.ct; ⟨v, cellKeep c fun o e => hk _ o (fresh _ HL.o3) e⟩)
  · rintro i v s₁ oI hi ⟨h, tk, rfl, H₁⟩ hoI hcI
    refine wpAny_mono (lawTurn (s := { s with heap := h, toks := tk }) (I := I) (oI := oI) (Q := fun f s₃ => f = .next ∧ (∃ h tk, s₃ = { s with heap := h, toks := tk } ∧ L1 w base Out (fun b => b = I) L x xx d S n (i + 1) h) ∧ s₃.heap.get? I = some oI)
      rfl c TB ok K hS hI hvs (by omega) dsys (nsNe F.ns hI0) hoI (by rw [hcI]; decide) H₁ fun h' tk' H' e => ⟨rfl, ⟨h', tk', rfl, H'⟩, e⟩) (fun _ s₂ h₂ => wpAny_mono h₂ (fun f s₃ h₃ => ?_) fun _ _ e => e.elim) fun _ _ e => e.elim
    obtain ⟨rfl, h1, h2⟩ := h₃
    exact ⟨h1, h2⟩
  · rintro s₁ ⟨h, tk, rfl, H₁⟩
    obtain ⟨m', G', C', tm', F', m1', m2', HL', IV', hl'⟩ := H₁.ex
    exact hQ h tk _ ⟨m', G', C', tm', F', m1', m2', HL', IV', Nat.le_trans hl' hn⟩
end
end Mine
end
section
open PySem PySem.W PySem.W.X PyProof.Rows PySem.Calls
set_option Elab.async false
set_option maxRecDepth 100000
set_option maxHeartbeats 4000000
namespace Mine
abbrev clLaw (L : Addr) : List (Str × Addr) := [("standing", L + 1 + 1), ("matcher", L + 1)]
theorem pairedAll {l₁ l₂ : List Value} {F : Value → Value → Prop} {P : Value → Prop} (h : Paired F l₁ l₂) (hp : ∀ x y, F x y → P y) : ∀ y ∈ l₂, P y := by
  induction h with
  | nil => intro y hy; cases hy
  | cons h _ ih =>
    intro y hy
    rcases List.mem_cons.mp hy with rfl | hy
    · exact hp _ _ h
    · exact ih y hy
section
variable {w : World} {A : Around} {E : Value → Shared → Prop} {s : Shared}
theorem kvAt {G : GT} {C : Path → Value} (IV : Inv G C) {i : Nat} {k : Str} {v : Value} (h : (G.map kv)[i]? = some (k, v)) : ∃ fl n t, OkF fl ∧ k = keyOf fl ∧ v = .int n t ∧ (∃ t', C fl = .int n t') ∧ G[i]? = some (fl, n, t) := by
  rw [List.getElem?_map] at h
  obtain ⟨g, hg, e⟩ := Option.map_eq_some_iff.mp h
  have hm := List.mem_of_getElem? hg
  have hc := (IV.ci g.1 g.2.1).2 ⟨g.2.2, hm⟩
  refine ⟨g.1, g.2.1, g.2.2, IV.ok g hm, ?_, ?_, ?_, hg⟩
  · have := congrArg Prod.fst e; exact this.symm
  · have := congrArg Prod.snd e; exact this.symm
  · unfold ci at hc
    rcases IV.val g.1 with z | ⟨n, t, z⟩
    · rw [z] at hc; cases hc
    · rw [z] at hc; cases hc; exact ⟨t, z⟩
theorem cmpTest {base : Heap} {Out X : Addr → Prop} {L x xx d : Addr} {m : Str → Option Value} {G : GT} {C : Path → Value} {Q : Flow → Shared → Prop}
    (c : Cx w base) (ok : Ok A 30) (F : Fr base L s.heap m) (H : LawH w base Out X L x xx d C (G.map kv) s.heap) (IV : Inv G C) (hl : G.length ≤ 7) (dsys : (d == sysModules) = false)
    (hQ : ∀ h' tk, (∀ b o, s.heap.get? b = some o → h'.get? b = some o) → Q .next { s with heap := h', toks := tk }) :
    wpAny (model PR w) A (exec (lst 4) (lawEnv L)) Q (fun _ _ => False) s := by
  refine wpAny_If (isTrue_plain (wpAny_Call_NameR (lnB c F (by kernel_rfl) (v := .builtin "any") (by kernel_rfl) (by decide +kernel) ?_)))
  refine Calls.callWith_builtin rfl (evalArgs_plain (spliced_cons ?_))
  refine wpAny_ListComp_free (cl := clLaw L) (fun _ => true) (fun _ y => y = .bool false) rfl (by decide) rfl (by decide) rfl ?_
  refine lStd H.cs ?_
  obtain ⟨ep, hda⟩ := H.dict.dictAt
  refine wpAny_pyIter_dict dsys hda ?_
  have hz : s.heap.get? s.heap.objs.size = none := Heap.get?_none_of_le (Nat.le_refl _)
  have fresh : ∀ b, (∃ o, s.heap.get? b = some o) → b ≠ s.heap.objs.size := fun b ⟨o, e⟩ z => by rw [z, hz] at e; cases e
  have fout : ∀ b, Out b → b ≠ s.heap.objs.size := fun b hb => fresh b (H.on.there b hb)
  have hdI : d ≠ s.heap.objs.size := fout d H.od
  have hIo := fun ob hf => Heap.get?_push_size (h := s.heap) (o := ob) hf
  have kp : ∀ (ob : Obj) b o, s.heap.get? b = some o → (s.heap.push ob).get? b = some o := fun ob b o e => Heap.get?_push_of_some _ e
  have HX := H.addX hz
  have bI : base.get? s.heap.objs.size = none := by
    cases q : base.get? s.heap.objs.size with
    | none => rfl
    | some o => rw [H.on.keep _ _ q] at hz; cases hz
  -- amid the walk
  have mid : ∀ (ob : Obj) (h₃ : Heap), (∀ b o, b ∉ [s.heap.objs.size] → (s.heap.push ob).get? b = some o → h₃.get? b = some o) → LawH w base Out (fun b => X b ∨ b = s.heap.objs.size) L x xx d C (G.map kv) h₃ := fun ob h₃ k =>
    (HX.keeps (kp ob)).mv (fun b => b = s.heap.objs.size) (fun b o z e => k b o (fun y => z (List.mem_singleton.mp y)) e) (fun b z => by
      rw [z]
      exact ⟨.inr (.inr rfl), Ne.symm (fout _ H.ox), Ne.symm (fout _ H.oxx), Ne.symm (fout _ H.od), Ne.symm (fout _ H.o1), Ne.symm (fout _ H.o2), bI⟩) (fun b z hb => absurd z (fout b hb))
      (let ⟨v, c⟩ := H.ct; ⟨v, cellKeep c fun o e => k _ o (fun y => fout _ H.o3 (List.mem_singleton.mp y)) (kp ob _ _ e)⟩)
  refine ⟨s.heap.objs.size, _, _, (G.map kv).length, _, _, rfl, Walks.dictKeys ok.hd s.heap.objs.size d hdI (G.map kv) ep, by rw [List.length_map, sizeLine_eq]; omega, ⟨⟨_, hIo _ rfl, rfl, rfl⟩, hda.push _⟩, ?_, ⟨?_, ?_⟩, ?_⟩
  · intro b hb
    show b < (s.heap.push _).objs.size
    rw [Heap.size_push]
    rcases List.mem_cons.mp hb with rfl | hb
    · exact Nat.lt_succ_self _
    · rw [List.mem_singleton.mp hb]
      obtain ⟨o, _, _, e, _⟩ := H.dict
      exact Nat.lt_succ_of_lt (Heap.lt_size e)
  · intro D i v s₃ m₃ E' hC hP hn hm hk ht
    exact wpAny_tests_nil ⟨rfl, s₃.heap, s₃.toks, rfl, fun _ _ e => e⟩
  · intro D i v s₃ m₃ E' hC hP _ hn hm hk ht
    obtain ⟨k, y, hky, hkv⟩ := hP
    obtain ⟨tk, rfl⟩ := Value.isStrOf_shape hkv
    obtain ⟨fl, n, t, hf, rfl, rfl, ⟨t', hCf⟩, hg⟩ := kvAt IV hky
    have H₃ := mid _ _ hk
    obtain ⟨root, T, M⟩ := H₃.mat
    obtain ⟨hs0, tk0, n0, hxx0⟩ := M.dict
    have I₃ : InstAt s₃.heap x (matO xx) 82 (some (dictOf [⟨hs0, .str "_root" tk0, .ref root⟩] n0)) := ⟨M.at_, rfl, rfl, hxx0⟩
    have F₃ : Fr base L s₃.heap m := ⟨F.ns.at' fun o e => hk _ o (fun y => fout _ H.oL (List.mem_singleton.mp y)) (kp _ _ _ e), H₃.on.keep, F.above⟩
    have cs := c.keeps F₃.keep
    refine wpAny_Compare1 (Subscript_ ?_)
    refine wpAny_Name (wpAny_loadName_cell (c := L + 1) rfl rfl rfl H₃.cm ?_) (by decide)
    refine wpAny_Name (wpAny_loadName_local rfl rfl hn hm ?_) (by decide)
    refine sub_K (K := KK w) F₃ c.X I₃ (f := 65) (by kernel_rfl) (by kernel_rfl) (by kernel_rfl) (wpAny_call (get_spec cs (ok.in1.le (by decide) : Ok A.in1 10) ⟨_, _, _, M⟩ IV.val hf.split hf.short (fun _ h₄ tk₄ k₄ => ?_) fun z => absurd z (by rw [hCf]; intro y; cases y)))
    dsimp only
    rw [hCf]
    refine Subscript_ ?_
    refine wpAny_Name (wpAny_loadName_cell (c := L + 1 + 1) rfl rfl rfl (H₃.cs.keeps k₄) ?_) (by decide)
    refine wpAny_Name (wpAny_loadName_local rfl rfl (hn.keeps k₄) hm ?_) (by decide)
    refine dItem (strKind_is PR w (keyOf fl) tk) ((H₃.keeps k₄).dict.mapOf) (v := .int n t) ?_ ?_ (by rfl)
    · rw [IV.valueAt hf, find_mem IV.nd (List.mem_of_getElem? hg)]; rfl
    refine PyProof.Rows.ne_int ⟨by simp, h₄, _, rfl, k₄⟩
  · intro D h' tk ys vs hD hlD hpl hlen hP hF hk
    refine spliced_nil ?_
    refine call_any_walk (wpAny_pyIter_list hlD ?_)
    have hDI : D ≠ h'.objs.size := by obtain ⟨o, ho, _⟩ := hlD; exact Nat.ne_of_lt (Heap.lt_size ho)
    have hall : ∀ y ∈ ys.toList, y = Value.bool false := pairedAll hF fun _ _ e => e
    refine ⟨h'.objs.size, _, _, ys.size, _, _, fun _ => false, rfl, Walks.list (A := A.in1) ok.hd h'.objs.size D hDI ys, ⟨⟨_, Heap.get?_push_size _ rfl, rfl, rfl⟩, hlD.at fun o e => Heap.get?_push_of_some _ e⟩, ?_, fun h'' tk' k'' => ?_⟩
    · intro i v s₄ Q₄ E₄ hv hq
      have : v ∈ ys.toList := by
        obtain ⟨h1, rfl⟩ := Array.getElem?_eq_some_iff.mp hv
        simp
      rw [hall v this]
      exact wpAny_truthy_bool hq
    · refine wpAny_truthy_bool ?_
      rw [show ((List.range ys.size).any fun _ => false) = false by simp]
      rw [if_neg (by decide)]
      refine wpAny_execs_nil (hQ h'' tk' fun b o e => ?_)
      have e1 : b ∉ [s.heap.objs.size] := fun y => fresh b ⟨o, e⟩ (List.mem_singleton.mp y)
      have e2 := hk b o e1 (kp _ _ _ e)
      exact k'' b o (fun y => Nat.ne_of_lt (Heap.lt_size e2) (List.mem_singleton.mp y)) (Heap.get?_push_of_some _ e2)
end
end Mine
end
section
open PySem PySem.W PySem.W.X PyProof.Rows PySem.Calls
set_option Elab.async false
set_option maxRecDepth 100000
set_option maxHeartbeats 4000000
namespace Mine
section
variable {w : World} {A : Around} {E : Value → Shared → Prop} {s : Shared}
theorem blockC {stmts : List Stmt} {env : Env} {R : Result → Shared → Prop}
    (h : wpAny (CM w) A (execs stmts env) (fun f s' => R (.ok f) s') (notedBy (CM w) A env fun e s' => R (.error e) s') s) : codeAny (CM w) A (.block stmts env) R s := by
  refine codeAny_of_tree ?_
  rw [cden rfl]
  show wpAny _ _ (do return PySem.Fin.done (← (execs stmts env).onRaise (fun x => do noteFrame x env; theTreesLotGoes x))) _ _ s
  exact wpAny_bind (wpAny_noted (wpAny_mono h (fun f s' h' => wpAny_pure h') fun _ _ h' => h'))
/-- a for statement's loop whose turns raise nothing -/
theorem forC {R : Result → Shared → Prop} {target : Expr} {it : Value} {body : List Stmt} {env : Env} (I : Nat → Shared → Prop)
    (turn : ∀ n s, I n s → wpAny (CM w) A (pyNext it) (fun r s₁ => match r with
      | none => R (.ok .next) s₁
      | some v => wpAny (CM w) A (assign target env v) (fun _ s₂ => wpAny (CM w) A (execs body env) (fun f s₃ => match f with
          | .next | .cont => ∃ m, m < n ∧ I m s₃
          | .brk => R (.ok .next) s₃
          | .ret v => R (.ok (.ret v)) s₃) (fun _ _ => False) s₂) (fun _ _ => False) s₁) (fun _ _ => False) s)
    (n : Nat) (h : I n s) (ht : ∀ v, letOwnedTupleGo target it v = pure () := by intro _; rfl) : codeAny (CM w) A (.forLoop target it body [] env) R s := by
  refine codeAny_loop' rfl I (fun n s hI => ?_) n h
  rw [cden rfl]
  show wpAny _ _ ((forTurn target it body [] env).onRaise (fun x => do noteFrame x env; theTreesLotGoes x)) _ _ s
  refine wpAny_noted ?_
  simp only [forTurn]
  refine wpAny_bind (wpAny_standAt (wpAny_bind (wpAny_onRaise (wpAny_mono (turn n s hI) (fun r s₁ h₁ => ?_) fun _ _ h' => h'.elim))))
  cases r with
  | none => exact wpAny_pure (.inr ⟨rfl, blockC (wpAny_execs_nil h₁)⟩)
  | some v =>
    refine wpAny_bind (wpAny_of_eq (ht v) ?_)
    refine wpAny_bind (wpAny_mono h₁ (fun _ s₂ h₂ => wpAny_bind (wpAny_mono h₂ (fun f s₃ h₃ => ?_) fun _ _ h' => h'.elim)) fun _ _ h' => h'.elim)
    cases f with
    | next => exact wpAny_pure (.inl ⟨rfl, h₃⟩)
    | cont => exact wpAny_pure (.inl ⟨rfl, h₃⟩)
    | brk => exact wpAny_pure h₃
    | ret v => exact wpAny_pure h₃
/-- the start of a list comprehension's loop -/
theorem compStartC {elt target iter : Expr} {ifs : List Expr} {rest : List Comprehension} {scope : Scope} {pos : Pos} {it acc : Value} {env : Env} {R : Result → Shared → Prop}
    (h0 : codeAny (CM w) A (.compLoop (.ListComp elt (⟨target, iter, ifs, 0⟩ :: rest) scope pos) 0 it acc env) R s)
    (h : wpAny (CM w) A (pyIter it) (fun it' s' => codeAny (CM w) A (.compLoop (.ListComp elt (⟨target, iter, ifs, 0⟩ :: rest) scope pos) 0 it' acc env) R s') (fun _ _ => False) s) :
    codeAny (CM w) A (.compStart (.ListComp elt (⟨target, iter, ifs, 0⟩ :: rest) scope pos) 0 it acc env) R s := by
  refine codeAny_of_tree ?_
  rw [cden rfl]
  show wpAny _ _ ((compStart (.ListComp elt (⟨target, iter, ifs, 0⟩ :: rest) scope pos) 0 it acc env).onRaise (fun x => do noteFrame x env; standAt theWindowsPlace)) _ _ s
  refine wpAny_notedAt ?_
  unfold compStart
  show wpAny _ _ (ask >>= _) _ _ s
  refine wpAny_bind (wpAny_askSetting (wpAny_ite ?_))
  split
  · first
      | exact wpAny_bind (wpAny_pure (wpAny_pure (And.intro rfl h0)))
      | exact wpAny_pure (And.intro rfl h0)
  · first
      | exact wpAny_bind (wpAny_rule (wpAny_bind (wpAny_standAt (wpAny_bind (wpAny_mono h (fun it' s' h' => wpAny_pure (And.intro rfl h')) fun _ _ x => x.elim)))))
      | (refine wpAny_bind (wpAny_rule ?_); show wpAny _ _ (standAt iter.pos >>= _) _ _ s; exact wpAny_bind (wpAny_standAt (wpAny_bind (wpAny_mono h (fun it' s' h' => wpAny_pure (And.intro rfl h')) fun _ _ x => x.elim))))
/-- the loop of a list comprehension with one test -/
theorem compC {elt target iter c : Expr} {scope : Scope} {pos : Pos} {it acc : Value} {env : Env} {R : Result → Shared → Prop} (I : Nat → Shared → Prop)
    (turn : ∀ n s, I n s → wpAny (CM w) A (pyNext it) (fun r s₁ => match r with
      | none => R (.ok .next) s₁
      | some v => wpAny (CM w) A (assign target env v) (fun _ s₂ => wpAny (CM w) A (isTrue c env (eval c env)) (fun ok s₃ =>
            if ok = true then wpAny (CM w) A (eval elt env) (fun x s₄ => wpAny (CM w) A (call (.builtin "list.append") [acc, x]) (fun _ s₅ => ∃ m, m < n ∧ I m s₅) (fun _ _ => False) s₄) (fun _ _ => False) s₃
            else ∃ m, m < n ∧ I m s₃) (fun _ _ => False) s₂) (fun _ _ => False) s₁) (fun _ _ => False) s)
    (n : Nat) (h : I n s) (ht : ∀ v, letOwnedTupleGo target it v = pure () := by intro _; rfl) :
    codeAny (CM w) A (.compLoop (.ListComp elt [⟨target, iter, [c], 0⟩] scope pos) 0 it acc env) R s := by
  refine codeAny_loop rfl I (fun n s hI => ?_) n h
  rw [cden rfl]
  show wpAny _ A ((compTurn (.ListComp elt [⟨target, iter, [c], 0⟩] scope pos) 0 it acc env).onRaise (fun x => do noteFrame x env; theTreesLotGoes x)) _ _ s
  refine wpAny_noted ?_
  rw [compTurn_list]
  refine wpAny_bind (wpAny_standAt (wpAny_bind (wpAny_mono (turn n s hI) (fun r s₁ h₁ => ?_) fun _ _ h' => h'.elim)))
  cases r with
  | none => exact wpAny_pure h₁
  | some v =>
    refine wpAny_bind (wpAny_of_eq (ht v) ?_)
    refine wpAny_bind (wpAny_mono h₁ (fun _ s₂ h₂ => ?_) fun _ _ h' => h'.elim)
    simp only [List.forIn_cons, List.forIn_nil, if_true]
    refine wpAny_bind (wpAny_bind (wpAny_bind (wpAny_mono h₂ (fun ok s₃ h₃ => wpAny_pure (wpAny_pure ?_)) fun _ _ h' => h'.elim)))
    cases ok with
    | false => exact wpAny_pure ⟨rfl, h₃⟩
    | true => exact wpAny_bind (wpAny_bind (wpAny_mono h₃ (fun x s₄ h₄ => wpAny_bind (wpAny_mono h₄ (fun _ s₅ h₅ => wpAny_pure (wpAny_pure ⟨rfl, h₅⟩)) fun _ _ h' => h'.elim)) fun _ _ h' => h'.elim))
end
end Mine
end
section
open PySem PySem.W PySem.W.X PyProof.Rows PySem.Calls
set_option Elab.async false
set_option maxRecDepth 100000
set_option maxHeartbeats 4000000
namespace Mine
def body5 : List Stmt := match lst 5 with | .For _ _ b _ _ => b | _ => []
abbrev clTop (L : Addr) : List (Str × Addr) := [("topic", L + 1 + 1 + 1)]
def acVal : Stmt → Expr
  | .Assign _ v _ => v
  | _ => default
def acScope : Expr → Scope
  | .ListComp _ _ s _ => s
  | _ => default
abbrev acEnv (L Cf : Addr) : Env := compEnvC (acScope (acVal (nth body5 1))) (clTop L) Cf (lawEnv L)
section
variable {w : World} {A : Around} {E : Value → Shared → Prop} {s : Shared}
theorem assignComp {M : Model} {env : Env} {elt iter : Expr} {x y : Str} {px py : Pos} {ifs : List Expr} {scope : Scope} {cl : List (Str × Addr)} {pos spos : Pos} {Q : Flow → Shared → Prop}
    (hsw : swapsWith (.ListComp elt [⟨.Name x px, iter, ifs, 0⟩] scope pos) (some (.Name y py)) spos.line env = pure true)
    (hclos : closureFor scope env = pure cl) (hkind : scope.kind = .function) (hnames : ∀ z ∈ scope.names, z.2 = .local → scope.names.lookup z.1 = some .local)
    (h : wpAny M A (eval iter env) (fun xv s₁ => wpAny M A (pyIter xv) (fun it s₂ => wpAny M A (newList []) (fun acc s₃ => wpAny M A (newFunctionEnv scope env.globals cl [] env.qual none .none (some env)) (fun cenv s₄ =>
      codeAny M A (.compStart (.ListComp elt [⟨.Name x px, iter, ifs, 0⟩] scope pos) 0 it acc { cenv with scope := relabel scope env }) (compPost M A E (some (assign (.Name y py) env)) (fun _ s' => Q .next s') acc cenv.locals) s₄) E s₃) E s₂) E s₁) E s)
    (hs : ∀ x, foldedSetIterable iter env x = pure x := by intro _; rfl) :
    wpAny M A (exec (.Assign [.Name y py] (.ListComp elt [⟨.Name x px, iter, ifs, 0⟩] scope pos) spos) env) Q E s := by
  rw [exec_Assign_Name_used _ _ _ _ hsw]
  refine wpAny_bind (wpAny_standAt (wpAny_bind ?_))
  show wpAny _ A (do let _ ← comprehension (.ListComp elt [⟨.Name x px, iter, ifs, 0⟩] scope pos) scope env _ (newList []) false (eval iter env) (some (assign (.Name y py) env))) _ _ s
  exact wpAny_bind (wpAny_mono (wpAny_comprehension_free (use := some (assign (.Name y py) env)) (Q := fun _ s' => Q .next s') rfl hs hclos hkind hnames h) (fun _ s' hq => wpAny_pure (wpAny_pure hq)) fun _ _ e => e)
theorem gTop {Cf L : Addr} {hb : Heap} {x : Str} {pos : Pos} {v : Value} {Q : Value → Shared → Prop} (c : Cx w hb) (k : ∀ b o, hb.get? b = some o → s.heap.get? b = some o) (e : nsIn (KK w) mainGlobals x = some (some v)) (h : Q v s)
    (hx : (acEnv L Cf).kindOf x = some .globalImplicit := by rfl) (hd : (x == ("__debug__" : Str)) = false := by decide) : wpAny (model PR w) A (eval (.Name x pos) (acEnv L Cf)) Q E s :=
  let ⟨_, _, g, _, _⟩ := c.G
  Name_function_global rfl hx (loadGlobal_global (env := acEnv L Cf) (g.keeps k) (mg_of c.X g e) h) hd
/-- amid the comprehension -/
structure CI (s : Shared) (D Cf : Nat) (LL : List (Str × Tok)) (s' : Shared) : Prop where
  heap : ∀ b o, b ≠ 74 → s.heap.get? b = some o → s'.heap.get? b = some o
  hsz : s.heap.objs.size ≤ s'.heap.objs.size
  tb : Tb s'.heap
  fix : SFix s'
  fin : FinAt 0 s'
  os : s'.os = s.os
  acc : s'.heap.PlainList D (sv LL).toArray
  ns : ∃ m, s'.heap.Ns Cf m
theorem Tb.atF {h h' : Heap} (x : Tb h) (k : ∀ b o vs, o.data = .fields vs → h.get? b = some o → h'.get? b = some o) : Tb h' := by
  obtain ⟨⟨o, vs, file, tf, flags, tg, inF, text, tt, e, r⟩, ps, hps, ht, hor⟩ := x
  refine ⟨⟨o, vs, file, tf, flags, tg, inF, text, tt, k _ _ _ r.2.1 e, r⟩, ps, k _ _ _ rfl hps, ht, hor.elim .inl fun ⟨c'', e', hr⟩ => .inr ⟨c'', e', ?_⟩⟩
  obtain ⟨c, o, vs, tq, e, ho, hd, hq⟩ := hr
  exact ⟨c, o, vs, tq, e, k _ _ _ hd ho, hd, hq⟩
theorem Tb.but2 {h h' : Heap} {I Cf d : Addr} {i n ep : Nat} {m : Str → Option Value} (x : Tb h) (hI : h.IsKeyIter I d i n ep) (hC : h.Ns Cf m) (k : ∀ b o, b ≠ I → b ≠ Cf → h.get? b = some o → h'.get? b = some o) : Tb h' := by
  obtain ⟨oI, hoI, hcI, hdI⟩ := hI
  obtain ⟨oC, es, ep', hoC, hdC, _⟩ := hC
  obtain ⟨⟨o, vs, file, tf, flags, tg, inF, text, tt, e, r⟩, ps, hps, ht, hor⟩ := x
  have kk : ∀ b o, h.get? b = some o → o.cls ≠ .type "dict_keyiterator" → (∀ es ep, o.data ≠ .dict es ep) → h'.get? b = some o := fun b o e h1 h2 => k b o (fun z => by rw [z, hoI] at e; cases e; exact h1 hcI) (fun z => by rw [z, hoC] at e; cases e; exact h2 _ _ hdC) e
  refine ⟨⟨o, vs, file, tf, flags, tg, inF, text, tt, kk _ _ e (by rw [r.1]; decide) (fun es ep z => by rw [r.2.1] at z; cases z), r⟩, ps, kk _ _ hps (fun z => by cases z) (fun es ep z => by cases z), ht, hor.elim .inl fun ⟨c'', e', hr⟩ => .inr ⟨c'', e', ?_⟩⟩
  obtain ⟨c, o, vs, tq, e, ho, hd, hq⟩ := hr
  refine ⟨c, o, vs, tq, e, k _ _ (fun z => ?_) (fun z => ?_) ho, hd, hq⟩
  · rw [z, hoI] at ho; cases ho; rw [hdI] at hd; cases hd; cases hq
  · rw [z, hoC] at ho; cases ho; rw [hdC] at hd; cases hd
theorem aloneStmt {hb : Heap} {Out X : Addr → Prop} {L x xx d : Addr} {m : Str → Option Value} {G : GT} {C : Path → Value} {Q : Flow → Shared → Prop} {tp : Str} {tt : Tok} {tl : List Str}
    (u : Und w hb s.heap) (F : Fr hb L s.heap m) (H : LawH w hb Out X L x xx d C (G.map kv) s.heap) (hs : SFix s) (hfin : FinAt 0 s) (ok : Ok A 70) (IV : Inv G C) (hl : G.length ≤ 7) (dsys : (d == sysModules) = false)
    (ht : s.heap.IsCell (L + 1 + 1 + 1) (some (.str tp tt))) (hsp : Txt.split tp "/" = tl) (hkl : tp.length ≤ 100) (htl : tl.length ≤ 3) (hpt : plainT tl)
    (hQ : ∀ s' AL LL, (∀ b o, b ≠ 74 → b ≠ L → s.heap.get? b = some o → s'.heap.get? b = some o) → s.heap.objs.size ≤ s'.heap.objs.size → Tb s'.heap → SFix s' → FinAt 0 s' → s'.os = s.os → Fr hb L s'.heap (fun y => if y = "alone" then some (.ref AL) else m y) →
      s'.heap.IsList AL (sv LL).toArray → LL.map (·.1) = (G.filter (fun g => mt (!Txt.startswith tp "$") tl g.1)).map (fun g => keyOf g.1) → Q .next s') :
    wpAny (CM w) A (exec (nth body5 1) (lawEnv L)) Q (fun _ _ => False) s := by
  refine assignComp (cl := clTop L) (scope := acScope (acVal (nth body5 1))) (by rfl) (by rfl) rfl (by decide) ?_
  refine lStd H.cs ?_
  obtain ⟨ep, hda⟩ := H.dict.dictAt
  refine liftF (wpAny_pyIter_dict dsys hda ⟨hs, ?_⟩)
  have hz : ∀ b : Nat, s.heap.objs.size ≤ b → s.heap.get? b = none := fun b hb => Heap.get?_none_of_le hb
  have l74 : (74 : Nat) < s.heap.objs.size := by
    obtain ⟨_, ps, hps, _⟩ := u.tb
    exact Heap.lt_size hps
  have n74 : ∀ b o, s.heap.get? b = some o → (∀ ps, o.data ≠ .fields ps) → b ≠ 74 := fun b o e hd z => by
    obtain ⟨_, ps, hps, _⟩ := u.tb
    rw [z, hps] at e; cases e; exact hd _ rfl
  have d74 : d ≠ 74 := by obtain ⟨o, es, ep, e, _, hd, _⟩ := H.dict; exact n74 d o e fun ps z => by rw [hd] at z; cases z
  have L74 : L ≠ 74 := by obtain ⟨o, es, ep, e, hd, _⟩ := F.ns; exact n74 L o e fun ps z => by rw [hd] at z; cases z
  have t74 : L + 1 + 1 + 1 ≠ 74 := by obtain ⟨o, e, hd⟩ := ht; exact n74 _ o e fun ps z => by rw [hd] at z; cases z
  generalize hI : s.heap.objs.size = I at *
  have hIo : (s.heap.push { cls := .type "dict_keyiterator", data := .fields #[.ref d, .int 0 0, .int (G.map kv).length 0, .int ep 0] }).get? I = some { cls := .type "dict_keyiterator", data := .fields #[.ref d, .int 0 0, .int (G.map kv).length 0, .int ep 0] } := by
    rw [← hI]; exact Heap.get?_push_size _ rfl
  have hz2 : (s.heap.push { cls := .type "dict_keyiterator", data := .fields #[.ref d, .int 0 0, .int (G.map kv).length 0, .int ep 0] }).objs.size = I + 1 := by rw [Heap.size_push, hI]
  have kp2 : ∀ b o, s.heap.get? b = some o → (s.heap.push { cls := .type "dict_keyiterator", data := .fields #[.ref d, .int 0 0, .int (G.map kv).length 0, .int ep 0] }).get? b = some o := fun b o e => Heap.get?_push_of_some _ e
  generalize s.heap.push { cls := .type "dict_keyiterator", data := .fields #[.ref d, .int 0 0, .int (G.map kv).length 0, .int ep 0] } = h₂ at *
  refine wpAny_newObj_type ?_ (by size_fits)
  dsimp only
  rw [hz2]
  have hDo : (h₂.push { cls := .type "list", data := .seq ([] : List Value).toArray }).get? (I + 1) = some { cls := .type "list", data := .seq ([] : List Value).toArray } := by rw [← hz2]; exact Heap.get?_push_size _ rfl
  have hz3 : (h₂.push { cls := .type "list", data := .seq ([] : List Value).toArray }).objs.size = I + 1 + 1 := by rw [Heap.size_push, hz2]
  have kp3 : ∀ b o, h₂.get? b = some o → (h₂.push { cls := .type "list", data := .seq ([] : List Value).toArray }).get? b = some o := fun b o e => Heap.get?_push_of_some _ e
  generalize h₂.push { cls := .type "list", data := .seq ([] : List Value).toArray } = h₃ at *
  refine wpAny_newFunctionEnv (by decide) (fun y hy => nomatch hy) (fun h₄ hn₄ S₄ => ?_) rfl
  dsimp only at hn₄ S₄ ⊢
  rw [hz3] at hn₄ S₄ ⊢
  have hdI : d ≠ I := fun z => by
    obtain ⟨o, _, _, e, _⟩ := H.dict
    have := Heap.lt_size e; rw [z, hI] at this; exact Nat.lt_irrefl _ this
  have k24 : ∀ b o, b ≠ I + 1 + 1 → h₂.get? b = some o → h₄.get? b = some o := fun b o h1 e => S₄.extBut b o h1 (Heap.get?_push_of_some _ (kp3 b o e))
  have old : ∀ b o, s.heap.get? b = some o → b < I := fun b o e => by have := Heap.lt_size e; rwa [hI] at this
  have ks4 : ∀ b o, s.heap.get? b = some o → h₄.get? b = some o := fun b o e => k24 b o (Nat.ne_of_lt (Nat.lt_of_lt_of_le (old b o e) (by omega))) (kp2 b o e)
  have hz4 : h₄.objs.size = I + 1 + 1 + 1 := by rw [S₄.1, Heap.size_push, hz3]
  have start : CI s (I + 1) (I + 1 + 1) [] { s with heap := h₄, toks := s.toks + ([] : List (Str × Value)).length } :=
    ⟨fun b o _ e => ks4 b o e, by show s.heap.objs.size ≤ h₄.objs.size; rw [hI, hz4]; omega, u.tb.keeps ks4, hs, hfin, rfl, ⟨0, S₄.extBut _ _ (nn12 I) (Heap.get?_push_of_some _ hDo)⟩, ⟨_, hn₄⟩⟩
  have startI : h₄.IsKeyIter I d 0 (G.map kv).length ep := ⟨_, k24 _ _ (nn02 I) hIo, rfl, rfl⟩
  have loop : ∀ s₀, CI s (I + 1) (I + 1 + 1) [] s₀ → s₀.heap.IsKeyIter I d 0 (G.map kv).length ep → codeAny (CM w) A (.compLoop (acVal (nth body5 1)) 0 (.ref I) (.ref (I + 1)) (acEnv L (I + 1 + 1)))
      (fun r s' => r = .ok .next ∧ ∃ LL, CI s (I + 1) (I + 1 + 1) LL s' ∧ LL.map (·.1) = (G.filter (fun g => mt (!Txt.startswith tp "$") tl g.1)).map (fun g => keyOf g.1)) s₀ := by
    intro s₀ h0 h0I
    refine compC (fun n s' => ∃ i LL, n = (G.map kv).length + 1 - i ∧ i ≤ (G.map kv).length ∧ CI s (I + 1) (I + 1 + 1) LL s' ∧ s'.heap.IsKeyIter I d i (G.map kv).length ep ∧ LL.map (·.1) = ((G.take i).filter (fun g => mt (!Txt.startswith tp "$") tl g.1)).map (fun g => keyOf g.1)) ?_ ((G.map kv).length + 1) ⟨0, [], rfl, Nat.zero_le _, h0, h0I, rfl⟩
    rintro n s₁ ⟨i, LL, rfl, hi, h1, h1I, hLL⟩
    obtain ⟨m', hn'⟩ := h1.ns
    have hdI' : d ≠ I + 1 ∧ d ≠ I + 1 + 1 := by
      obtain ⟨o, _, _, e, _⟩ := H.dict
      have := old d o e
      exact ⟨Nat.ne_of_lt (Nat.lt_succ_of_lt this), Nat.ne_of_lt (Nat.lt_succ_of_lt (Nat.lt_succ_of_lt this))⟩
    have hda₁ : s₁.heap.DictAt (PySem.strKind PR w) d (G.map kv) ep := hda.at' fun o e => h1.heap d o d74 e
    have W := Walks.dictKeys (prog := PR) (w := w) (knd := PySem.strKind PR w) (A := A) ok.hd I d hdI (G.map kv) ep
    by_cases hlt : i < (G.map kv).length
    · refine liftF (W.item i s₁ _ _ hlt ⟨h1I, hda₁⟩ fun v h₅ tk₅ hP hSt k₅ => ⟨h1.fix, ?_⟩)
      obtain ⟨k, y, hky, hkv⟩ := hP
      obtain ⟨tk, rfl⟩ := Value.isStrOf_shape hkv
      obtain ⟨fl, n, t, hf, rfl, rfl, ⟨t', hCf⟩, hg⟩ := kvAt IV hky
      have nI : ∀ b, b ≠ I → b ∉ [I] := fun b h1 z => h1 (List.mem_singleton.mp z)
      dsimp only
      have hn₅ : h₅.Ns (I + 1 + 1) m' := hn'.at' fun o e => k₅ _ o (nI _ (Ne.symm (nn02 I))) e
      refine wpAny_assign_Name (wpAny_storeName_local (by rfl) hn₅ (fun h₆ hn₆ S₆ => ?_) (by rfl))
      have k16 : ∀ b o, b ≠ I → b ≠ I + 1 + 1 → s₁.heap.get? b = some o → h₆.get? b = some o := fun b o a1 a2 e => S₆.extBut b o a2 (k₅ b o (nI b a1) e)
      have ks6 : ∀ b o, b ≠ 74 → s.heap.get? b = some o → h₆.get? b = some o := fun b o a1 e => k16 b o (Nat.ne_of_lt (old b o e)) (Nat.ne_of_lt (Nat.lt_of_lt_of_le (old b o e) (by omega))) (h1.heap b o a1 e)
      have k1s : ∀ b o, s₁.heap.get? b = some o → ∃ o', h₆.get? b = some o' := fun b o e => by
        by_cases a2 : b = I + 1 + 1
        · rw [a2]; obtain ⟨o, _, _, e, _⟩ := hn₆; exact ⟨o, e⟩
        · by_cases a1 : b = I
          · rw [a1]; obtain ⟨o, e, _⟩ := hSt.1; exact ⟨o, S₆.extBut _ _ (nn02 I) e⟩
          · exact ⟨o, k16 b o a1 a2 e⟩
      have hI₆ : h₆.IsKeyIter I d (i + 1) (G.map kv).length ep := hSt.1.at fun o e => S₆.extBut _ _ (nn02 I) e
      have tb₆ : Tb h₆ := h1.tb.but2 h1I hn' k16
      have z₆ : I < h₆.objs.size := by obtain ⟨o, e, _⟩ := hI₆; exact Heap.lt_size e
      have ub₆ : ∀ b o, hb.get? b = some o → h₆.get? b = some o := fun b o e => ks6 b o (fun z => by rw [z, u.no74] at e; cases e) (u.keep b o e)
      have u₆ : Und w hb h₆ := ⟨u.c, u.bi, ub₆, by have := u.size; omega, u.no74, tb₆⟩
      have ht₆ : h₆.IsCell (L + 1 + 1 + 1) (some (.str tp tt)) := cellKeep ht fun o e => ks6 _ o t74 e
      refine isTrue_plain (wpAny_Call_NameR (liftF (gTop (s := { s₁ with heap := h₆, toks := tk₅ + 1 }) u.c ub₆ (by kernel_rfl) (v := .ref 128) ⟨h1.fix, ?_⟩)))
      refine callWith_K (K := KK w) u.c.X rfl ?_
      refine spliced_cons (wpAny_Name (wpAny_loadName_local (by rfl) (by rfl) hn₆ (if_pos rfl) ?_) (by decide))
      refine spliced_cons (wpAny_Name (wpAny_loadName_cell (c := L + 1 + 1 + 1) (by rfl) (by rfl) (by rfl) ht₆ ?_) (by decide))
      refine spliced_nil ⟨(u.c.keeps ub₆).X, wpAny_call (alone_spec u₆ h1.fix (ok.le (by decide)) hf.split hf.uu hf.short hsp hkl htl fun s₇ K₇ => ?_)⟩
      refine wpAny_truthy_bool ?_
      rw [alone_mt hpt]
      have I74 : I ≠ 74 := Nat.ne_of_gt l74
      have D74 : I + 1 ≠ 74 := by omega
      have C74 : I + 1 + 1 ≠ 74 := by omega
      have acc₆ : h₆.PlainList (I + 1) (sv LL).toArray := h1.acc.at fun o e => k16 _ o (Ne.symm (nn01 I)) (nn12 I) e
      have h7 : CI s (I + 1) (I + 1 + 1) LL s₇ := ⟨fun b o a1 e => K₇.heap b o a1 (ks6 b o a1 e), by have := K₇.hsz; dsimp only at this; omega, K₇.tb, K₇.fix, fun k y _ e => by
          rcases Nat.lt_or_ge k s₁.gens.size with a | a
          · exact h1.fin k y (Nat.zero_le _) ((K₇.gens k a).symm.trans e)
          · exact K₇.fin k y a e, K₇.os.trans h1.os, acc₆.at fun o e => K₇.heap _ o D74 e, ⟨_, hn₆.at' fun o e => K₇.heap _ o C74 e⟩⟩
      have h7I : s₇.heap.IsKeyIter I d (i + 1) (G.map kv).length ep := hI₆.at fun o e => K₇.heap _ o I74 e
      have hlt' : i < G.length := by simpa using hlt
      have htake : (G.take (i + 1)).filter (fun g => mt (!Txt.startswith tp "$") tl g.1) = (G.take i).filter (fun g => mt (!Txt.startswith tp "$") tl g.1) ++ (if mt (!Txt.startswith tp "$") tl fl = true then [(fl, n, t)] else []) := by
        rw [List.take_add_one, hg, List.filter_append]
        cases hm : mt (!Txt.startswith tp "$") tl fl <;> simp [hm]
      cases hm : mt (!Txt.startswith tp "$") tl fl with
      | false =>
        rw [if_neg (by decide)]
        refine ⟨(G.map kv).length + 1 - (i + 1), by omega, i + 1, LL, rfl, hlt, h7, h7I, ?_⟩
        rw [htake, hm, hLL]; simp
      | true =>
        rw [if_pos rfl]
        have hn₇ := hn₆.at' fun o e => K₇.heap _ o C74 e
        refine wpAny_Name (wpAny_loadName_local (by rfl) (by rfl) hn₇ (if_pos rfl) ?_) (by decide)
        have hLs : LL.length ≤ 7 := by
          have := congrArg List.length hLL
          rw [List.length_map, List.length_map] at this
          have e2 : ((G.take i).filter (fun g => mt (!Txt.startswith tp "$") tl g.1)).length ≤ (G.take i).length := List.length_filter_le ..
          have e3 : (G.take i).length ≤ G.length := List.length_take_le' ..
          omega
        refine liftF (wpAny_list_append_plain h7.acc (fun h₈ l₈ S₈ => ⟨K₇.fix, ?_⟩) (by rw [List.size_toArray, List.length_map, sizeLine_eq]; omega))
        refine ⟨(G.map kv).length + 1 - (i + 1), by omega, i + 1, LL ++ [(keyOf fl, tk)], rfl, hlt, ⟨fun b o a1 e => S₈.extBut b o ?_ (h7.heap b o a1 e), by rw [S₈.1]; exact h7.hsz, ?_, K₇.fix, h7.fin, h7.os, ?_, ⟨_, hn₇.sameBut S₈ (Ne.symm (nn12 I))⟩⟩, h7I.at fun o e => S₈.extBut _ _ (nn01 I) e, ?_⟩
        · have := old b o e; exact Nat.ne_of_lt (Nat.lt_succ_of_lt this)
        · refine K₇.tb.atF fun b o vs hd e => S₈.extBut b o (fun z => ?_) e
          obtain ⟨nD, hD⟩ := h7.acc
          rw [z, hD] at e; cases e; cases hd
        · have : (sv (LL ++ [(keyOf fl, tk)])).toArray = (sv LL).toArray.push (.str (keyOf fl) tk) := by simp
          rw [this]; exact l₈
        · rw [htake, hm, List.map_append, hLL]; simp
    · have hin : i = (G.map kv).length := by omega
      subst hin
      refine liftF (W.done s₁ _ _ ⟨h1I, hda₁⟩ fun h₅ tk₅ k₅ => ⟨h1.fix, ?_⟩)
      have nI : ∀ b, b ≠ I → b ∉ [I] := fun b h1 z => h1 (List.mem_singleton.mp z)
      refine ⟨rfl, LL, ⟨fun b o a1 e => k₅ b o (nI b (Nat.ne_of_lt (old b o e))) (h1.heap b o a1 e), ?_, ?_, h1.fix, h1.fin, h1.os, h1.acc.at fun o e => k₅ _ o (nI _ (Ne.symm (nn01 I))) e, ⟨m', hn'.at' fun o e => k₅ _ o (nI _ (Ne.symm (nn02 I))) e⟩⟩, ?_⟩
      · obtain ⟨nD, hD⟩ := h1.acc
        have := Heap.lt_size (k₅ _ _ (nI _ (Ne.symm (nn01 I))) hD)
        show s.heap.objs.size ≤ h₅.objs.size
        rw [hI]; exact Nat.le_of_lt (Nat.lt_of_succ_lt this)
      · exact h1.tb.but2 h1I hn' fun b o a1 _ e => k₅ b o (nI b a1) e
      · rw [hLL, List.length_map, List.take_length]
  refine codeAny_mono (compStartC (loop _ start startI) (liftF (wpAny_pyIter_keyiter startI ⟨hs, loop _ start startI⟩))) fun r s₉ h₉ => ?_
  obtain ⟨rfl, LL, h9, hLL⟩ := h₉
  show wpAny (CM w) A (assign _ (lawEnv L) (.ref (I + 1))) _ _ s₉
  have F₉ : Fr hb L s₉.heap m := ⟨F.ns.at' fun o e => h9.heap _ o L74 e, fun b o e => h9.heap b o (fun z => by rw [z, u.no74] at e; cases e) (u.keep b o e), F.above⟩
  have hLI : L < I := by obtain ⟨o, _, _, e, _⟩ := F.ns; exact old L o e
  refine wpAny_assign_Name (lSt F₉ fun h' F' S' => ?_)
  obtain ⟨mc, hnc⟩ := h9.ns
  refine ⟨mc, hnc.sameBut S' (Nat.ne_of_gt (Nat.lt_of_lt_of_le hLI (Nat.le_add_right I 2))), fun h'' S'' => ?_⟩
  have S'' : Heap.SameBut (I + 1 + 1) h' h'' := S''
  have k9 : ∀ b o, b ≠ L → b ≠ I + 1 + 1 → s₉.heap.get? b = some o → h''.get? b = some o := fun b o a1 a2 e => S''.extBut b o a2 (S'.extBut b o a1 e)
  have oldC : ∀ b, b < I → b ≠ I + 1 + 1 := fun b h1 => Nat.ne_of_lt (Nat.lt_of_lt_of_le h1 (Nat.le_add_right I 2))
  have hbI : ∀ b o, hb.get? b = some o → b < I := fun b o e => old b o (u.keep b o e)
  have LC : L ≠ I + 1 + 1 := oldC L hLI
  have z₉ : I ≤ h''.objs.size := by
    obtain ⟨o, _, _, e, _⟩ := F'.ns
    have h1 := h9.hsz
    have h2 : h'.objs.size = s₉.heap.objs.size := S'.1
    have h3 : h''.objs.size = h'.objs.size := S''.1
    rw [hI] at h1
    rw [h3, h2]; exact h1
  refine hQ _ (I + 1) LL (fun b o a1 a2 e => k9 b o a2 (oldC b (old b o e)) (h9.heap b o a1 e)) z₉ ?_ h9.fix h9.fin h9.os ⟨F'.ns.sameBut S'' LC, fun b o e => S''.extBut b o (oldC b (hbI b o e)) (F'.keep b o e), F'.above⟩ ?_ hLL
  · refine h9.tb.atF fun b o vs hd e => k9 b o (fun z => ?_) (fun z => ?_) e
    · obtain ⟨oL, _, _, eL, dL, _⟩ := F₉.ns
      rw [z, eL] at e; cases e; rw [dL] at hd; cases hd
    · obtain ⟨oL, _, _, eL, dL, _⟩ := hnc
      rw [z, eL] at e; cases e; rw [dL] at hd; cases hd
  · exact (h9.acc.at fun o e => k9 _ o (Nat.ne_of_gt (Nat.lt_of_lt_of_le hLI (Nat.le_succ I))) (nn12 I) e).isList
end
end Mine
end
section
open PySem PySem.W PySem.W.X PyProof.Rows PySem.Calls
set_option Elab.async false
set_option maxRecDepth 100000
set_option maxHeartbeats 4000000
namespace Mine
abbrev clStd (L : Addr) : List (Str × Addr) := [("standing", L + 1 + 1)]
theorem sortedAll_facts (h : Heap) (vs : List Value) (out : Array Value) : (∃ n, (sortedAll h vs out).get? (h.objs.size + 1) = some (seqObj "list" out n)) ∧ (∀ b o, h.get? b = some o → (sortedAll h vs out).get? b = some o) ∧ h.objs.size ≤ (sortedAll h vs out).objs.size := by
  have hsz : ((h.push (seqObj "list" #[] 0)).update h.objs.size (Obj.mapSeq (· ++ vs.toArray))).objs.size = h.objs.size + 1 := by rw [Heap.size_update, Heap.size_push]
  have hoL : (((h.push (seqObj "list" #[] 0)).update h.objs.size (Obj.mapSeq (· ++ vs.toArray))).push (seqObj "list" vs.toArray 0)).get? (h.objs.size + 1) = some (seqObj "list" vs.toArray 0) := by
    rw [← hsz]; exact Heap.get?_push_size _ rfl
  have u1 := get?_update_seq hoL (fun _ => (#[] : Array Value))
  have u2 := Heap.get?_push_of_some (seqObj "list" #[] 0) (Heap.get?_push_of_some (seqObj "tuple" vs.toArray 0) u1)
  have u3 := get?_update_seq u2 (fun _ => out)
  refine ⟨⟨_, u3⟩, fun b o e => ?_, ?_⟩
  · have hb := Heap.lt_size e
    have n1 : h.objs.size ≠ b := Nat.ne_of_gt hb
    have n2 : h.objs.size + 1 ≠ b := Nat.ne_of_gt (Nat.lt_succ_of_lt hb)
    unfold sortedAll sortedHeap
    rw [Heap.get?_update_other _ _ n2]
    refine Heap.get?_push_of_some _ (Heap.get?_push_of_some _ ?_)
    rw [Heap.get?_update_other _ _ n2]
    refine Heap.get?_push_of_some _ ?_
    rw [Heap.get?_update_other _ _ n1]
    exact Heap.get?_push_of_some _ e
  · unfold sortedAll sortedHeap
    rw [Heap.size_update, Heap.size_push, Heap.size_push, Heap.size_update, Heap.size_push, hsz]
    omega
section
variable {w : World} {A : Around} {E : Value → Shared → Prop} {s : Shared}
theorem intsOf {G : GT} {F : Value → Value → Prop} (hF : ∀ v y, F v y → ∀ g ∈ G, (∃ t, v = .str (keyOf g.1) t) → ∃ t, y = .int g.2.1 t) : ∀ (l : GT) (LL : List (Str × Tok)) (ys : List Value), (∀ g ∈ l, g ∈ G) → LL.map (·.1) = l.map (fun g => keyOf g.1) → Paired F (sv LL) ys → IntsAre ys (l.map (·.2.1))
  | [], LL, ys, _, e, h => by
    have : LL = [] := by simpa using e
    subst this
    cases h; exact .nil
  | g :: l, LL, ys, hl, e, h => by
    cases LL with
    | nil => cases e
    | cons a LL =>
      rw [List.map_cons, List.map_cons] at e
      obtain ⟨e1, e2⟩ := List.cons.inj e
      cases h with
      | cons h1 h2 =>
        obtain ⟨t, rfl⟩ := hF _ _ h1 g (hl g (.head _)) ⟨a.2, by rw [← e1]⟩
        exact .cons _ _ (intsOf hF l LL _ (fun g hg => hl g (.tail _ hg)) e2 h2)
/-- `sorted([standing[key] for key in alone])` -/
theorem sortVals {base : Heap} {Out X : Addr → Prop} {L x xx d AL : Addr} {m : Str → Option Value} {G Gf : GT} {C : Path → Value} {LL : List (Str × Tok)} {Q : Value → Shared → Prop}
    (c : Cx w base) (ok : Ok A 30) (F : Fr base L s.heap m) (H : LawH w base Out X L x xx d C (G.map kv) s.heap) (IV : Inv G C) (hm : m "alone" = some (.ref AL)) (hAL : s.heap.IsList AL (sv LL).toArray) (hsub : ∀ g ∈ Gf, g ∈ G) (hLL : LL.map (·.1) = Gf.map (fun g => keyOf g.1)) (hlen : Gf.length ≤ 7)
    (hQ : ∀ h' tk r n (out : Array Value) (ns' : List Int), (∀ b o, s.heap.get? b = some o → h'.get? b = some o) → h'.get? r = some (seqObj "list" out n) → IntsAre out.toList ns' → ns'.Perm (Gf.map (·.2.1)) → ns'.Pairwise (· ≤ ·) → Q (.ref r) { s with heap := h', toks := tk })
    {e : Expr} (he : e = (match nth body5 2 with | .If (.Compare _ _ [e] _) _ _ _ => e | _ => default)) :
    wpAny (model PR w) A (eval e (lawEnv L)) Q E s := by
  subst he
  refine Call_name1 rfl (lnB c F (by kernel_rfl) (v := .builtin "sorted") (by kernel_rfl) (by decide +kernel) ?_)
  refine callWith_builtin1 ?_
  refine wpAny_ListComp_free (cl := clStd L) (fun _ => true) (fun v y => ∀ g ∈ G, (∃ t, v = .str (keyOf g.1) t) → ∃ t, y = .int g.2.1 t) rfl (by decide) rfl (by decide) rfl ?_
  refine lLd F hm (wpAny_pyIter_list hAL ?_)
  have hz : s.heap.get? s.heap.objs.size = none := Heap.get?_none_of_le (Nat.le_refl _)
  have hAI : AL ≠ s.heap.objs.size := by obtain ⟨o, ho, _⟩ := hAL; exact Nat.ne_of_lt (Heap.lt_size ho)
  have kp : ∀ (ob : Obj) b o, s.heap.get? b = some o → (s.heap.push ob).get? b = some o := fun ob b o e => Heap.get?_push_of_some _ e
  have fresh : ∀ b o, s.heap.get? b = some o → b ∉ [s.heap.objs.size] := fun b o e z => by rw [List.mem_singleton.mp z, hz] at e; cases e
  have hLl : LL.length = Gf.length := by have := congrArg List.length hLL; simpa using this
  refine ⟨s.heap.objs.size, _, _, (sv LL).toArray.size, _, _, rfl, Walks.list ok.hd s.heap.objs.size AL hAI (sv LL).toArray, by rw [List.size_toArray, List.length_map, sizeLine_eq]; omega, ⟨⟨_, Heap.get?_push_size _ rfl, rfl, rfl⟩, hAL.at fun o e => kp _ _ _ e⟩, ?_, ⟨?_, ?_⟩, ?_⟩
  · intro b hb
    show b < (s.heap.push _).objs.size
    rw [Heap.size_push]
    rcases List.mem_cons.mp hb with rfl | hb
    · exact Nat.lt_succ_self _
    · rw [List.mem_singleton.mp hb]
      obtain ⟨o, e, _⟩ := hAL
      exact Nat.lt_succ_of_lt (Heap.lt_size e)
  · intro D i v s₃ m₃ E' hC hP hn hm' hk ht
    exact wpAny_tests_nil ⟨rfl, s₃.heap, s₃.toks, rfl, fun _ _ e => e⟩
  · intro D i v s₃ m₃ E' hC hP _ hn hm' hk ht
    have k3 : ∀ b o, s.heap.get? b = some o → s₃.heap.get? b = some o := fun b o e => hk b o (fresh b o e) (kp _ b o e)
    have hP' : (sv LL)[i]? = some v := by simpa using hP
    rw [List.getElem?_map] at hP'
    obtain ⟨a, ha, rfl⟩ := Option.map_eq_some_iff.mp hP'
    have hkey : ∃ g ∈ Gf, keyOf g.1 = a.1 := by
      have h1 : (LL.map (·.1))[i]? = some a.1 := by rw [List.getElem?_map, ha]; rfl
      rw [hLL, List.getElem?_map] at h1
      obtain ⟨g, hg, e⟩ := Option.map_eq_some_iff.mp h1
      exact ⟨g, List.mem_of_getElem? hg, e⟩
    obtain ⟨g, hg, hgk⟩ := hkey
    have hgG := hsub g hg
    have hf := IV.ok g hgG
    have H₃ := H.keeps k3
    refine Subscript_ ?_
    refine wpAny_Name (wpAny_loadName_cell (c := L + 1 + 1) rfl rfl rfl H₃.cs ?_) (by decide)
    refine wpAny_Name (wpAny_loadName_local rfl rfl hn hm' ?_) (by decide)
    refine dItem (strKind_is PR w a.1 a.2) H₃.dict.mapOf (v := .int g.2.1 g.2.2) ?_ ?_ (by rfl)
    · rw [← hgk, IV.valueAt hf, find_mem IV.nd hgG]; rfl
    refine ⟨fun g' hg' ⟨t, ht'⟩ => ?_, s₃.heap, _, rfl, fun _ _ e => e⟩
    have e1 : keyOf g'.1 = keyOf g.1 := by
      injection ht' with e1 _
      exact e1.symm.trans hgk.symm
    have e2 := (IV.ok g' hg').inj hf e1
    have e3 := find_mem IV.nd hg'
    have e4 := find_mem IV.nd hgG
    rw [e2, e4] at e3
    have e5 := Option.some.inj e3
    have : g.2.1 = g'.2.1 := by
      have := congrArg (fun z => z.2.1) e5
      exact this
    exact ⟨g.2.2, by rw [this]⟩
  · intro D h' tk ys vs hD hlD hpl hlen' hP hF hk
    have hvs : vs = sv LL := by
      apply List.ext_getElem?
      intro j
      rcases Nat.lt_or_ge j vs.length with hj | hj
      · have h1 := hP j vs[j] (List.getElem?_eq_getElem hj)
        rw [List.getElem?_eq_getElem hj]
        have : (sv LL)[j]? = some vs[j] := by simpa using h1
        exact this.symm
      · rw [List.getElem?_eq_none hj, List.getElem?_eq_none]
        have : (sv LL).toArray.size = (sv LL).length := by simp
        omega
    rw [List.filter_eq_self.mpr (fun _ _ => rfl), hvs] at hF
    have hint := intsOf (G := G) (fun v y h => h) Gf LL ys.toList hsub hLL hF
    have hlD' : h'.IsList D ys.toList.toArray := by simpa using hlD
    have h64 : ys.toList.length < 64 := by have := hint.length; rw [List.length_map] at this; omega
    refine sorted_ints (s := { s with heap := h', toks := tk }) hlD' hint h64 fun out ns' a1 a2 a3 => ?_
    obtain ⟨⟨n, hn⟩, kk, hz'⟩ := sortedAll_facts h' ys.toList out
    exact hQ _ _ _ n out ns' (fun b o e => kk b o (hk b o (fresh b o e) (kp _ b o e))) hn a1 a2 a3
/-- the code table and the frame may change -/
theorem LawH.mv74 {hb h h' : Heap} {Out X : Addr → Prop} {L x xx d : Addr} {m : Str → Option Value} {C : Path → Value} {kvs : List (Str × Value)} (H : LawH w hb Out X L x xx d C kvs h) (k : ∀ b o, b ≠ 74 → b ≠ L → h.get? b = some o → h'.get? b = some o) (h74 : Out 74) (tb : Tb h) (tb' : Tb h') (no74 : hb.get? 74 = none) (F : h'.Ns L m) :
    LawH w hb Out X L x xx d C kvs h' := by
  obtain ⟨_, ps, hps, _⟩ := tb
  obtain ⟨_, ps', hps', _⟩ := tb'
  obtain ⟨root, T, M⟩ := H.mat
  obtain ⟨hs0, tk0, n0, hxx0⟩ := M.dict
  have n := H.neL
  have ne : ∀ b o, h.get? b = some o → (∀ ps, o.data ≠ .fields ps) → 74 ≠ b := fun b o e hd z => by rw [← z, hps] at e; cases e; exact hd _ rfl
  have e1 : 74 ≠ x := fun z => by have := M.at_; rw [← z, hps] at this; cases this
  have e2 : 74 ≠ xx := fun z => by rw [← z, hps] at hxx0; cases hxx0
  have e3 : 74 ≠ d := by obtain ⟨o, es, ep, e, _, hd, _⟩ := H.dict; exact ne d o e fun ps z => by rw [hd] at z; cases z
  have e4 : 74 ≠ L + 1 := by obtain ⟨o, e, hd⟩ := H.cm; exact ne _ o e fun ps z => by rw [hd] at z; cases z
  have e5 : 74 ≠ L + 1 + 1 := by obtain ⟨o, e, hd⟩ := H.cs; exact ne _ o e fun ps z => by rw [hd] at z; cases z
  obtain ⟨v3, c3⟩ := H.ct
  have e6 : 74 ≠ L + 1 + 1 + 1 := by obtain ⟨o, e, hd⟩ := c3; exact ne _ o e fun ps z => by rw [hd] at z; cases z
  refine H.mv (fun b => b = 74 ∨ b = L) (fun b o z e => k b o (fun y => z (.inl y)) (fun y => z (.inr y)) e) (fun b z => ?_) (fun b z _ => ?_) ⟨v3, cellKeep c3 fun o e => k _ o (Ne.symm e6) (Ne.symm (nn03 L)) e⟩
  · rcases z with z | z
    · rw [z]; exact ⟨.inl h74, e1, e2, e3, e4, e5, no74⟩
    · rw [z]; exact ⟨.inl H.oL, Ne.symm n.1, Ne.symm n.2.1, Ne.symm n.2.2.1, nn01 L, nn02 L, H.nb L (.head _)⟩
  · rcases z with z | z
    · rw [z]; exact ⟨_, hps'⟩
    · rw [z]; obtain ⟨o, _, _, e, _⟩ := F; exact ⟨o, e⟩
/-- `if sorted(matcher.iter_match(topic)) != sorted([standing[key] for key in alone]): return False` -/
theorem sortStmt {hb : Heap} {Out X : Addr → Prop} {L x xx d AL : Addr} {m : Str → Option Value} {G : GT} {C : Path → Value} {LL : List (Str × Tok)} {Q : Flow → Shared → Prop} {tp : Str} {tt : Tok} {tl : List Str}
    (u : Und w hb s.heap) (F : Fr hb L s.heap m) (H : LawH w hb Out X L x xx d C (G.map kv) s.heap) (hs : SFix s) (ok : Ok A 70) (IV : Inv G C) (hl : G.length ≤ 7) (h74 : Out 74)
    (ht : s.heap.IsCell (L + 1 + 1 + 1) (some (.str tp tt))) (hsp : Txt.split tp "/" = tl) (hkl : tp.length ≤ 100) (htl : tl.length ≤ 3) (hpt : plainT tl)
    (hm : m "alone" = some (.ref AL)) (hAL : s.heap.IsList AL (sv LL).toArray) (hLL : LL.map (·.1) = (G.filter (fun g => mt (!Txt.startswith tp "$") tl g.1)).map (fun g => keyOf g.1))
    (hQ : ∀ s', (∀ b o, b ≠ 74 → s.heap.get? b = some o → s'.heap.get? b = some o) → Tb s'.heap → SFix s' → (∀ k : Nat, k < s.gens.size → s'.gens[k]? = s.gens[k]?) → FinAt s.gens.size s' → s'.os = s.os → Q .next s') :
    wpAny (CM w) A (exec (nth body5 2) (lawEnv L)) Q (fun _ _ => False) s := by
  obtain ⟨_, ps, hps, _⟩ := id u.tb
  obtain ⟨root, T, M⟩ := H.mat
  obtain ⟨hs0, tk0, n0, hxx0⟩ := M.dict
  have hx : x ≠ 74 := fun z => by have := M.at_; rw [z, hps] at this; cases this
  have hxx : xx ≠ 74 := fun z => by rw [z, hps] at hxx0; cases hxx0
  have hCv := IV.val
  have hvs := Yc_ints hCv (!Txt.startswith tp "$") tl []
  have hlen := Yc_len hCv (!Txt.startswith tp "$") tl [] htl
  refine wpAny_If (wpAny_isTrue_Compare1 ?_)
  refine Call_name1 rfl (liftF (lnB u.c F (by kernel_rfl) (v := .builtin "sorted") (by kernel_rfl) (by decide +kernel) ⟨hs, ?_⟩))
  refine callWith_builtin1 (liftF (iterCall u (ok.le (by decide)) M hCv (.inl h74) hx hxx hsp hkl (Nat.le_trans htl (by decide)) (fun Q h => lMat H.cm h) (fun Q h => lTop ht (h _)) fun ga Ca s₅ g₅ k₅ z₅ zC tb₅ gn₅ os₅ => ?_))
  have hs₅ : SFix s₅ := by
    obtain ⟨c, gn₅⟩ := gn₅
    intro i x hx
    rw [gn₅] at hx
    exact (hs.pushGen (x := .fresh c) trivial) i x hx
  refine ⟨hs₅, ?_⟩
  have kb5 : ∀ b o, hb.get? b = some o → s₅.heap.get? b = some o := fun b o e => k₅ b o (fun z => by rw [z, u.no74] at e; cases e) (u.keep b o e)
  refine sortedC g₅ (ok.le (by omega)) (u.c.nl.keeps kb5) hs₅ hvs hlen fun r s₆ out ns' E₆ hr hr0 a1 a2 a3 => ?_
  obtain ⟨n₆, hr⟩ := hr
  have kk6 : ∀ b o, b ≠ 74 → s.heap.get? b = some o → s₆.heap.get? b = some o := fun b o h1 e => by
    have hlt := Heap.lt_size e
    have e5 := k₅ b o h1 e
    exact E₆.heap b o (Heap.lt_size e5) (Nat.ne_of_lt (Nat.lt_of_lt_of_le hlt zC)) (Nat.ne_of_lt (Heap.lt_size e5)) e5
  have n74 : ∀ b o, s.heap.get? b = some o → (∀ ps, o.data ≠ .fields ps) → b ≠ 74 := fun b o e hd z => by rw [z, hps] at e; cases e; exact hd _ rfl
  have L74 : L ≠ 74 := by obtain ⟨o, es, ep, e, hd, _⟩ := F.ns; exact n74 L o e fun ps z => by rw [hd] at z; cases z
  have AL74 : AL ≠ 74 := by obtain ⟨o, e, _, n, hd⟩ := hAL; exact n74 AL o e fun ps z => by rw [hd] at z; cases z
  have F₆ : Fr hb L s₆.heap m := ⟨F.ns.at' fun o e => kk6 _ o L74 e, fun b o e => kk6 b o (fun z => by rw [z, u.no74] at e; cases e) (u.keep b o e), F.above⟩
  have tb₆ : Tb s₆.heap := tb₅.eaten g₅ E₆
  have H₆ := H.mv74 (fun b o a1 _ e => kk6 b o a1 e) h74 u.tb tb₆ u.no74 F₆.ns
  have hAL₆ : s₆.heap.IsList AL (sv LL).toArray := Heap.IsList.at hAL fun o e => kk6 _ o AL74 e
  have hfl : (G.filter (fun g => mt (!Txt.startswith tp "$") tl g.1)).length ≤ 7 := Nat.le_trans (List.length_filter_le ..) hl
  refine liftF (sortVals (Gf := G.filter (fun g => mt (!Txt.startswith tp "$") tl g.1)) u.c (ok.le (by decide)) F₆ H₆ IV hm hAL₆ (fun g hg => (List.mem_filter.mp hg).1) hLL hfl (fun h₇ tk₇ r₇ n₇ out₇ ns₇ k₇ hr₇ b1 b2 b3 => ⟨E₆.fix, ?_⟩) rfl)
  have okc : A.units + 64 < cLine := by have := ok.units; have h2 : cLine = 9900 := rfl; omega
  refine liftF (ne_intsK (s := { s₆ with heap := h₇, toks := tk₇ }) (vs := out.toList) (us := out₇.toList) (by simpa using isListSeq (k₇ _ _ hr)) a1 (by simpa using isListSeq hr₇) b1 okc ⟨E₆.fix, ?_⟩)
  have heq : ns' = ns₇ := List.Perm.eq_of_pairwise (le := (· ≤ ·)) (fun a b _ _ => Int.le_antisymm) a3 b3 (a2.trans ((IV.answers hpt).trans b2.symm))
  rw [decide_eq_true heq]
  refine wpAny_truthy_bool ?_
  rw [if_neg (by decide)]
  refine wpAny_execs_nil (hQ _ (fun b o a1 e => k₇ _ _ (kk6 b o a1 e)) (tb₆.keeps k₇) E₆.fix (fun k hk => ?_) E₆.fin (E₆.os.trans os₅))
  refine (E₆.gens k hk).trans ?_
  obtain ⟨c, gn₅⟩ := gn₅
  rw [gn₅, Array.getElem?_push, if_neg (Nat.ne_of_lt hk)]
end
end Mine
end
section
open PySem PySem.W PySem.W.X PyProof.Rows PySem.Calls
set_option Elab.async false
set_option maxRecDepth 100000
set_option maxHeartbeats 4000000
namespace Mine
section
variable {w : World} {A : Around} {E : Value → Shared → Prop} {s : Shared}
theorem topicStmt {base : Heap} {L S : Addr} {m : Str → Option Value} {vs : List Value} {ns : List Int} {n i : Nat} {tm tv : Tok} {v0 : Option Value} {Q : Flow → Shared → Prop}
    (c : Cx w base) (ok : Ok A 30) (F : Fr base L s.heap m) (m1 : m "script" = some (.ref S)) (m2 : m "many" = some (.int n tm)) (m3 : m "k" = some (.int (i : Nat) tv)) (hn : n ≤ 7) (hi : i < 4)
    (hS : base.IsList S vs.toArray) (hI : IntsAre vs ns) (hvs : vs.length ≤ 63) (ht : s.heap.IsCell (L + 1 + 1 + 1) v0)
    (hQ : ∀ h' tk t N, (∀ b o, b ≠ L + 1 + 1 + 1 → s.heap.get? b = some o → h'.get? b = some o) → h'.IsCell (L + 1 + 1 + 1) (some (.str (Txt.join "/" (tpOf N)) t)) → Q .next { s with heap := h', toks := tk }) :
    wpAny (model PR w) A (exec (nth body5 0) (lawEnv L)) Q (fun _ _ => False) s := by
  refine wpAny_Assign_Name ?_
  refine wpAny_Call_method (T := "str") (id := "str.join") rfl rfl rfl PySem.F.plainAttrs_str PySem.F.slot_str_join rfl ?_
  refine cStr fun t₁ => ⟨typeIs_str _ _ _, fun a e => (by cases e), ?_⟩
  refine Calls.callWith_builtin rfl (evalArgs_plain (spliced_cons (Subscript_ ?_)))
  refine wpAny_Call_NameR (lnK (s := { s with toks := s.toks + 1 }) c F (by kernel_rfl) (v := .ref 100) ?_)
  refine callWith_K c.X rfl (spliced_cons ?_)
  refine lNum (s := { s with toks := s.toks + 1 }) (pp := 1 + 2 * (n : Int) + (i : Int)) c F m1 (ok.le (by decide)) hS hI hvs (by omega) (by omega) (fun Q hq => ?_) fun h₂ tk₂ t₂ k₂ => ?_
  · refine wpAny_BinOp (wpAny_BinOp (wpAny_Constant_int (wpAny_BinOp (wpAny_Constant_int (lLd (s := { s with toks := _ }) F m2 (PyProof.Rows.mul_int (PyProof.Rows.add_int ?_) (mulOk2 (by omega))))))))
    exact lLd (s := { s with toks := _ }) F m3 (PyProof.Rows.add_int (hq _ _))
  dsimp only at k₂
  have F₂ := frUp F k₂
  generalize ns.getD (1 + 2 * (n : Int) + (i : Int)).toNat 0 = N
  refine spliced_cons (Tuple_ (k := 0) ?_)
  refine spliced_cons (wpAny_Constant_str (k := 0) (pos := default) (spliced_cons (wpAny_Constant_str (k := 0) (pos := default) (spliced_cons (wpAny_Constant_str (k := 0) (pos := default) (spliced_cons (wpAny_Constant_str (k := 0) (pos := default) (spliced_cons (wpAny_Constant_str (k := 0) (pos := default) (spliced_nil ?_))))))))))
  refine newT (spliced_nil ?_) (by size_fits)
  dsimp only
  have F₃ := F₂.push (tupO [.str "a" tk₂, .str "b" (tk₂ + 1), .str "" (tk₂ + 1 + 1), .str "$s" (tk₂ + 1 + 1 + 1), .str "c" (tk₂ + 1 + 1 + 1 + 1)])
  refine ⟨(c.keeps F₃.keep).X, wpAny_call (levels_spec (W := [("a", tk₂), ("b", tk₂ + 1), ("", tk₂ + 1 + 1), ("$s", tk₂ + 1 + 1 + 1), ("c", tk₂ + 1 + 1 + 1 + 1)]) rfl (c.keeps F₃.keep) (ok.le (by decide))
    ⟨_, Heap.get?_push_size _ rfl, rfl, _, rfl⟩ (fun h₄ tk₄ r l tr LL k₄ e hr P₄ hr0 hl0 hrl => ?_))⟩
  dsimp only at k₄ ⊢
  refine wpAny_Constant_int ?_
  refine item_tupleT (j := 0) (x := .ref l) ⟨_, hr, rfl, _, rfl⟩ (by decide) (by decide) (by rfl) (by rfl) ?_
  refine spliced_nil ?_
  have he : LL.map (·.1) = tpOf N := e
  have hsh := tp_len N
  have hw : ((tpOf N).map (·.length)).sum ≤ 2 * (tpOf N).length := weight_le fun x hx => WT_short x (tp_mem N x hx)
  refine SC.join P₄.isList he (joinOk_of_weight (by omega) (by decide)) fun t' k => ?_
  have kk : ∀ b o, s.heap.get? b = some o → h₄.get? b = some o := fun b o q => k₄ _ _ (Heap.get?_push_of_some _ (k₂ b o q))
  refine wpAny_storeName_cell (c := L + 1 + 1 + 1) rfl rfl rfl (ht.keeps kk) fun h₅ c₅ S₅ => ?_
  exact hQ h₅ _ t' N (fun b o hb q => (S₅.2 b hb).trans (kk b o q)) c₅
end
end Mine
end
section
open PySem PySem.W PySem.W.X PyProof.Rows PySem.Calls
set_option Elab.async false
set_option maxRecDepth 100000
set_option maxHeartbeats 4000000
namespace Mine
def forB : Stmt → List Stmt
  | .For _ _ b _ _ => b
  | _ => []
def nearB : List Stmt := forB (nth body5 3)
def farB : List Stmt := forB (nth nearB 0)
theorem svStrs : ∀ LL : List (Str × Tok), StrsAre (sv LL) (LL.map (·.1))
  | [] => .nil
  | (a, t) :: r => .cons a t (svStrs r)
section
variable {w : World} {A : Around} {E : Value → Shared → Prop} {s : Shared}
theorem lSplit {base : Heap} {L : Addr} {m : Str → Option Value} {x k : Str} {xp ap cp kp : Pos} {n : Nat} {t : Tok} {Q : Value → Shared → Prop} (F : Fr base L s.heap m) (hm : m x = some (.str k t)) (hl : (lawEnv L).kindOf x = some .local) (hd : (x == ("__debug__" : Str)) = false) (hk : k.length ≤ 100) (he : (ap.endLine == cp.line) = true)
    (h : ∀ D LL h' tk, LL.map (·.1) = Txt.split k "/" → (∀ b o, s.heap.get? b = some o → h'.get? b = some o) → h'.IsList D (sv LL).toArray → Q (.ref D) { s with heap := h', toks := tk }) :
    wpAny (model PR w) A (eval (.Call (.Attribute (.Name x xp) "split" ap) [.Constant (.str "/") n kp] [] cp) (lawEnv L)) Q E s := by
  refine wpAny_Call_method (T := "str") (id := "str.split") rfl rfl he PySem.F.plainAttrs_str PySem.F.slot_str_split rfl ?_
  refine ldLoc F hm ⟨typeIs_str _ _ _, fun a e => (by cases e), ?_⟩ rfl hl hd
  refine Calls.callWith_builtin rfl (evalArgs_plain (spliced_cons (cStr (k := 0) (pos := default) fun tk => spliced_nil ?_)))
  exact split_call hk fun D LL h' k' hl' k₂ hD => h D LL h' k' hl' k₂ hD
theorem takesTest {base : Heap} {L AL : Addr} {m : Str → Option Value} {G : GT} {C : Path → Value} {LL : List (Str × Tok)} {tl : List Str} {nb : Bool} {gf gn : Path × Int × Tok} {tf tn : Tok} {Q : Bool → Shared → Prop}
    (c : Cx w base) (ok : Ok A 20) (F : Fr base L s.heap m) (IV : Inv G C) (h1 : m "far" = some (.str (keyOf gf.1) tf)) (h2 : m "near" = some (.str (keyOf gn.1) tn)) (h3 : m "alone" = some (.ref AL))
    (hAL : s.heap.IsList AL (sv LL).toArray) (hLL : LL.map (·.1) = (G.filter (fun g => mt nb tl g.1)).map (fun g => keyOf g.1)) (hgf : gf ∈ G) (hgn : gn ∈ G) (hmn : mt nb tl gn.1 = true) (hnb : nb = !Txt.startswith (tl.headD "") "$") (ht0 : tl ≠ [])
    (hQ : ∀ h' tk, (∀ b o, s.heap.get? b = some o → h'.get? b = some o) → Q false { s with heap := h', toks := tk })
    {e : Expr} (he : e = (match nth farB 0 with | .If t _ _ _ => t | _ => default)) {whole : Sem Value} :
    wpAny (model PR w) A (isTrue e (lawEnv L) whole) Q E s := by
  subst he
  refine isTrue_and (wpAny_isTrue_Compare1 (lLd F h1 (lLd F h3 (notin_list_strs hAL (svStrs LL) (wpAny_truthy_bool ?_)))))
  have hf := IV.ok gf hgf
  have hn := IV.ok gn hgn
  cases hin : (!((LL.map (·.1)).any (· == keyOf gf.1))) with
  | false => rw [if_neg (by decide)]; exact hQ _ _ fun _ _ e => e
  | true =>
    rw [if_pos rfl]
    have hno : mt nb tl gf.1 = false := by
      cases hm : mt nb tl gf.1 with
      | false => rfl
      | true =>
        exfalso
        rw [Bool.not_eq_true'] at hin
        rw [hLL, List.any_eq_false] at hin
        exact hin (keyOf gf.1) (List.mem_map_of_mem (f := fun g => keyOf g.1) (List.mem_filter.mpr ⟨hgf, hm⟩)) (by simp)
    have htk : takes gf.1 gn.1 = false := by
      cases htk : takes gf.1 gn.1 with
      | false => rfl
      | true =>
        exfalso
        have := takes_sound (tl := tl) hf.last hn.ne ht0 htk (by rw [← hnb]; exact hmn)
        rw [← hnb, hno] at this
        cases this
    refine isTrue_and (isTrue_plain ?_)
    refine wpAny_Call_NameR (lnK c F (by kernel_rfl) (v := .ref 114) ?_)
    refine callWith_K c.X rfl (spliced_cons ?_)
    refine lSplit F h1 rfl (by decide) hf.short rfl fun Fa LF h₁ tk₁ eF k₁ hFa => ?_
    have F₁ := frUp F k₁
    refine spliced_cons ?_
    refine lSplit (s := { s with heap := h₁, toks := tk₁ }) F₁ h2 rfl (by decide) hn.short rfl fun Na LN h₂ tk₂ eN k₂ hNa => ?_
    have F₂ := frUp F₁ k₂
    dsimp only at k₂ ⊢
    refine spliced_nil ⟨(c.keeps F₂.keep).X, ?_⟩
    refine wpAny_call (takes_spec (far := gf.1) (near := gn.1) (c.keeps F₂.keep) (ok.le (by decide)) (Heap.IsList.at hFa fun o e => k₂ _ _ e) hNa (eF.trans hf.split) (eN.trans hn.split) hf.ne hn.ne (Nat.le_trans hf.len (by decide)) (Nat.le_trans hn.len (by decide)) fun h₃ tk₃ k₃ _ => ?_)
    rw [htk]
    refine wpAny_truthy_bool ?_
    rw [if_neg (by decide)]
    exact hQ _ _ fun b o e => k₃ b o (k₂ b o (k₁ b o e))
theorem nearStmt {base : Heap} {Out X : Addr → Prop} {L x xx d AL : Addr} {m : Str → Option Value} {G : GT} {C : Path → Value} {LL : List (Str × Tok)} {tl : List Str} {nb : Bool} {Q : Flow → Shared → Prop}
    (c : Cx w base) (ok : Ok A 30) (F : Fr base L s.heap m) (H : LawH w base Out X L x xx d C (G.map kv) s.heap) (IV : Inv G C) (dsys : (d == sysModules) = false) (h3 : m "alone" = some (.ref AL))
    (hAL : s.heap.IsList AL (sv LL).toArray) (hLL : LL.map (·.1) = (G.filter (fun g => mt nb tl g.1)).map (fun g => keyOf g.1)) (hnb : nb = !Txt.startswith (tl.headD "") "$") (ht0 : tl ≠ [])
    (hQ : ∀ h' tk m', (∀ b o, b ≠ L → s.heap.get? b = some o → h'.get? b = some o) → Fr base L h' m' → (∀ y : Str, y ≠ "near" → y ≠ "far" → m' y = m y) → Q .next { s with heap := h', toks := tk }) :
    wpAny (model PR w) A (exec (nth body5 3) (lawEnv L)) Q (fun _ _ => False) s := by
  have n := H.neL
  have ALL : AL ≠ L := fun z => by
    obtain ⟨o, e, _, k, hd⟩ := hAL
    obtain ⟨o', _, _, e', hd', _⟩ := F.ns
    rw [z, e'] at e; cases e; rw [hd'] at hd; cases hd
  refine wpAny_For (lLd F h3 ?_)
  refine for_list ok.hd hAL (fun I i s₁ => ∃ h tk m', s₁ = { s with heap := h, toks := tk } ∧ Fr base L h m' ∧ (∀ y : Str, y ≠ "near" → y ≠ "far" → m' y = m y) ∧ (∀ b o, b ≠ L → s.heap.get? b = some o → h.get? b = some o)) fun I hI => ⟨?_, ?_, ?_, ?_⟩
  · intro h' tk k _
    exact ⟨h', tk, m, rfl, frUp F k, fun _ _ _ => rfl, fun b o _ e => k b o e⟩
  · rintro i s₁ h' tk' ⟨h, tk, m', rfl, F', hm', k⟩ hk
    exact ⟨h', tk', m', rfl, frBut F' hk (nsNe F.ns hI) (frNone F hI), hm', fun b o h1 e => hk b o (fun z => by rw [z, hI] at e; cases e) (k b o h1 e)⟩
  · rintro i v s₁ hv ⟨h, tk, m', rfl, F', hm', k⟩ ⟨oI, hoI, _⟩
    have hv' : (sv LL)[i]? = some v := by simpa using hv
    rw [List.getElem?_map] at hv'
    obtain ⟨a, ha, rfl⟩ := Option.map_eq_some_iff.mp hv'
    have hkey : ∃ g ∈ G.filter (fun g => mt nb tl g.1), keyOf g.1 = a.1 := by
      have h1 : (LL.map (·.1))[i]? = some a.1 := by rw [List.getElem?_map, ha]; rfl
      rw [hLL, List.getElem?_map] at h1
      obtain ⟨g, hg, e⟩ := Option.map_eq_some_iff.mp h1
      exact ⟨g, List.mem_of_getElem? hg, e⟩
    obtain ⟨gn, hgn, hgk⟩ := hkey
    obtain ⟨hgnG, hmn⟩ := List.mem_filter.mp hgn
    have hLI : L ≠ I := nsNe F.ns hI
    refine lSt F' fun h₁ F₁ S₁ => ?_
    dsimp only at S₁ hoI ⊢
    have k1 : ∀ b o, b ≠ L → s.heap.get? b = some o → h₁.get? b = some o := fun b o h1 e => (S₁.2 b h1).trans (k b o h1 e)
    have cs₁ : h₁.IsCell (L + 1 + 1) (some (.ref d)) := cellKeep H.cs fun o e => k1 _ o (Ne.symm (nn02 L)) e
    have dict₁ : h₁.DictOf (strKind PR w) d (G.map kv) := dictKeep H.dict fun o e => k1 _ o n.2.2.1 e
    have hAL₁ : h₁.IsList AL (sv LL).toArray := Heap.IsList.at hAL fun o e => k1 _ o ALL e
    have hoI₁ : h₁.get? I = some oI := (S₁.2 I (Ne.symm hLI)).trans hoI
    refine wpAny_execs_cons (wpAny_For (lStd cs₁ ?_))
    obtain ⟨ep, hda⟩ := dict₁.dictAt
    refine wpAny_pyIter_dict dsys hda ?_
    dsimp only
    have hz : h₁.get? h₁.objs.size = none := Heap.get?_none_of_le (Nat.le_refl _)
    have hdJ : d ≠ h₁.objs.size := by obtain ⟨o, _, _, e, _⟩ := dict₁; exact Nat.ne_of_lt (Heap.lt_size e)
    have kp : ∀ (ob : Obj) b o, h₁.get? b = some o → (h₁.push ob).get? b = some o := fun ob b o e => Heap.get?_push_of_some _ e
    have fr1 : ∀ b o, h₁.get? b = some o → b ∉ [h₁.objs.size] := fun b o e z => by rw [List.mem_singleton.mp z, hz] at e; cases e
    refine for_WT (Walks.dictKeys (prog := PR) (w := w) (knd := PySem.strKind PR w) (A := A) ok.hd h₁.objs.size d hdJ (G.map kv) ep)
      (fun j s₂ => ∃ h tk m'', s₂ = { s with heap := h, toks := tk } ∧ Fr base L h m'' ∧ (∀ y : Str, y ≠ "far" → m'' y = (if y = "near" then some (Value.str a.1 a.2) else m' y)) ∧ (∀ b o, b ≠ L → h₁.get? b = some o → h.get? b = some o)) ?_ ?_ ?_ ?_ ⟨⟨_, Heap.get?_push_size _ rfl, rfl, rfl⟩, hda.push _⟩ (fun _ => rfl)
    · rintro j s₂ h' tk' ⟨h, tk, m'', rfl, F'', hm'', k''⟩ hk
      have hLJ : L ≠ h₁.objs.size := Nat.ne_of_lt F₁.ns.lt
      refine ⟨h', tk', m'', rfl, ⟨F''.ns.at' fun o e => hk _ o (fun z => hLJ (List.mem_singleton.mp z)) e, fun b o e => hk b o (fr1 b o (F₁.keep b o e)) (F''.keep b o e), F''.above⟩, hm'', fun b o h1 e => hk b o (fr1 b o e) (k'' b o h1 e)⟩
    · rintro j v s₂ hj hP ⟨h, tk, m'', rfl, F'', hm'', k''⟩ hSt
      obtain ⟨kk, y, hky, hkv⟩ := hP
      obtain ⟨tf, rfl⟩ := Value.isStrOf_shape hkv
      obtain ⟨fl, nn, t, hf, rfl, rfl, _, hg⟩ := kvAt IV hky
      have hgG := List.mem_of_getElem? hg
      refine wpAny_assign_Name (lSt F'' fun h₂ F₂ S₂ => ?_)
      dsimp only at S₂ ⊢
      have k2 : ∀ b o, b ≠ L → h₁.get? b = some o → h₂.get? b = some o := fun b o h1 e => (S₂.2 b h1).trans (k'' b o h1 e)
      have q1 : m'' "near" = some (.str (keyOf gn.1) a.2) := by rw [hm'' _ (by decide), if_pos rfl, hgk]
      have q2 : m'' "alone" = some (.ref AL) := by rw [hm'' _ (by decide), if_neg (by decide), hm' _ (by decide) (by decide), h3]
      refine wpAny_execs_cons (wpAny_If ?_)
      refine takesTest (G := G) (gf := (fl, nn, t)) (gn := gn) (tf := tf) (tn := a.2) (LL := LL) (AL := AL) (tl := tl) (nb := nb) c (ok.le (by decide)) F₂ IV rfl (mo (by decide) q1) (mo (by decide) q2) (Heap.IsList.at hAL₁ fun o e => k2 _ o ALL e) hLL hgG hgnG hmn hnb ht0 (fun h₃ tk₃ k₃ => ?_) rfl
      rw [if_neg (by decide)]
      refine wpAny_execs_nil (wpAny_execs_nil ?_)
      dsimp only at k₃ ⊢
      have F₃ := frUp F₂ k₃
      refine ⟨⟨h₃, tk₃, _, rfl, F₃, fun y hy => (if_neg hy).trans (hm'' y hy), fun b o h1 e => k₃ _ _ (k2 b o h1 e)⟩, ?_⟩
      have hJ : ∀ b, b ∈ [h₁.objs.size, d] → b ≠ L := fun b hb => by
        rcases List.mem_cons.mp hb with rfl | hb
        · exact Nat.ne_of_gt F₁.ns.lt
        · rw [List.mem_singleton.mp hb]; exact n.2.2.1
      exact ⟨hSt.1.at fun o e => k₃ _ _ ((S₂.2 _ (hJ _ (.head _))).trans e), hSt.2.at' fun o e => k₃ _ _ ((S₂.2 _ (hJ _ (.tail _ (.head _)))).trans e)⟩
    · rintro s₂ ⟨h, tk, m'', rfl, F'', hm'', k''⟩
      refine wpAny_execs_nil ?_
      dsimp only
      refine ⟨⟨h, tk, m'', rfl, F'', fun y h1 h2 => (hm'' y h2).trans ((if_neg h1).trans (hm' y h1 h2)), fun b o h1 e => k'' b o h1 (k1 b o h1 e)⟩, fun b hb o e => ?_⟩
      have hbL : b ≠ L := by
        rcases hb with rfl | rfl
        · exact Ne.symm hLI
        · exact ALL
      exact k'' b o hbL ((S₁.2 b hbL).trans e)
    · refine ⟨_, _, _, rfl, F₁.push _, fun y _ => rfl, fun b o _ e => kp _ b o e⟩
  · rintro s₁ ⟨h, tk, m', rfl, F', hm', k⟩
    exact hQ h tk m' k F' hm'
end
end Mine
end
section
open PySem PySem.W PySem.W.X PyProof.Rows PySem.Calls
set_option Elab.async false
set_option maxRecDepth 100000
set_option maxHeartbeats 4000000
namespace Mine
/-- what the second loop keeps -/
structure L2 (w : World) (hb : Heap) (Out X : Addr → Prop) (L x xx d S : Addr) (n : Nat) (G : GT) (C : Path → Value) (s₀ s : Shared) : Prop where
  und : Und w hb s.heap
  fr : ∃ m tm, Fr hb L s.heap m ∧ m "script" = some (.ref S) ∧ m "many" = some (.int (n : Nat) tm)
  law : LawH w hb Out X L x xx d C (G.map kv) s.heap
  fix : SFix s
  fin : FinAt 0 s
  os : s.os = s₀.os
section
variable {w : World} {A : Around} {E : Value → Shared → Prop} {s : Shared}
theorem undOf {hb h : Heap} {L : Addr} {m : Str → Option Value} (c : Cx w hb) (bi : Bi hb) (no74 : hb.get? 74 = none) (F : Fr hb L h m) (tb : Tb h) : Und w hb h := ⟨c, bi, F.keep, Nat.le_trans F.above (Nat.le_of_lt F.ns.lt), no74, tb⟩
theorem turn5 {s₀ : Shared} {hb : Heap} {Out X : Addr → Prop} {L x xx d S : Addr} {vs : List Value} {ns : List Int} {n i : Nat} {tv : Tok} {G : GT} {C : Path → Value} {Q : Flow → Shared → Prop}
    (ok : Ok A 70) (hS : hb.IsList S vs.toArray) (hI : IntsAre vs ns) (hvs : vs.length ≤ 63) (hn : n ≤ 7) (hi : i < 4) (dsys : (d == sysModules) = false) (h74 : Out 74) (IV : Inv G C) (hl : G.length ≤ 7)
    (H : L2 w hb Out X L x xx d S n G C s₀ s)
    (hQ : ∀ s', L2 w hb Out X L x xx d S n G C s₀ s' → (∀ b o, b ≠ 74 → b ≠ L → b ≠ L + 1 + 1 + 1 → s.heap.get? b = some o → s'.heap.get? b = some o) → Q .next s') :
    wpAny (CM w) A (storeName (lawEnv L) "k" (.int (i : Nat) tv)) (fun _ s₂ => wpAny (CM w) A (execs body5 (lawEnv L)) Q (fun _ _ => False) s₂) (fun _ _ => False) s := by
  obtain ⟨m, tm, F, m1, m2⟩ := H.fr
  have u := H.und
  refine lSt F fun h₁ F₁ S₁ => ?_
  have HL₁ := H.law.frame S₁ (let ⟨o, _, _, e, _⟩ := F₁.ns; ⟨o, e⟩)
  have tb₁ : Tb h₁ := u.tb.atF fun b o vs hd e => S₁.extBut b o (fun z => by
    obtain ⟨oL, _, _, eL, dL, _⟩ := F.ns
    rw [z, eL] at e; cases e; rw [dL] at hd; cases hd) e
  have mm1 := mo (v := Value.int (i : Nat) tv) (show ("script" : Str) ≠ "k" by decide) m1
  have mm2 := mo (v := Value.int (i : Nat) tv) (show ("many" : Str) ≠ "k" by decide) m2
  obtain ⟨v0, ct₁⟩ := HL₁.ct
  show wpAny (CM w) A (execs [nth body5 0, nth body5 1, nth body5 2, nth body5 3] (lawEnv L)) Q _ _
  -- topic
  refine wpAny_execs_cons (liftF (topicStmt (s := { s with heap := h₁, toks := s.toks + 1 }) u.c (ok.le (by decide)) F₁ mm1 mm2 rfl hn hi hS hI hvs ct₁ fun h₂ tk₂ tt N k₂ c₂ => ?_))
  refine ⟨H.fix, ?_⟩
  dsimp only at k₂ ⊢
  have L3 : L ≠ L + 1 + 1 + 1 := nn03 L
  have F₂ : Fr hb L h₂ _ := ⟨F₁.ns.at' fun o e => k₂ _ o L3 e, fun b o e => k₂ b o (fun z => by rw [z, H.law.nb _ (by simp)] at e; cases e) (F₁.keep b o e), F₁.above⟩
  have tb₂ : Tb h₂ := tb₁.atF fun b o vs hd e => k₂ b o (fun z => by
    obtain ⟨oC, eC, dC⟩ := ct₁
    rw [z, eC] at e; cases e; rw [dC] at hd; cases hd) e
  have n := H.law.neL
  have H₂ : LawH w hb Out X L x xx d C (G.map kv) h₂ := HL₁.mv (fun b => b = L + 1 + 1 + 1) (fun b o z e => k₂ b o z e) (fun b z => by rw [z]; exact ⟨.inl HL₁.o3, Ne.symm n.2.2.2.1, Ne.symm n.2.2.2.2.1, Ne.symm n.2.2.2.2.2.1, Ne.symm (nn13 L), Ne.symm (nn23 L), HL₁.nb _ (by simp)⟩) (fun b z _ => by rw [z]; exact (let ⟨o, e, _⟩ := c₂; ⟨o, e⟩)) ⟨_, c₂⟩
  have u₂ := undOf u.c u.bi u.no74 F₂ tb₂
  -- alone
  refine wpAny_execs_cons (aloneStmt (s := { s with heap := h₂, toks := tk₂ }) u₂ F₂ H₂ H.fix H.fin ok IV hl dsys c₂ (tp_split N) (tp_short N) (tp_len N).1 (tp_plain N) fun s₃ AL LL k₃ z₃ tb₃ fix₃ fin₃ os₃ F₃ hAL hLL => ?_)
  dsimp only at k₃ os₃ ⊢
  have u₃ := undOf u.c u.bi u.no74 F₃ tb₃
  have H₃ := H₂.mv74 k₃ h74 tb₂ tb₃ u.no74 F₃.ns
  obtain ⟨_, ps₂, hps₂, _⟩ := id tb₂
  have t74 : L + 1 + 1 + 1 ≠ 74 := fun z => by
    obtain ⟨o, e, hd⟩ := c₂
    rw [z, hps₂] at e; cases e; cases hd
  have L74 : L ≠ 74 := fun z => by
    obtain ⟨o, _, _, e, hd, _⟩ := F₂.ns
    rw [z, hps₂] at e; cases e; cases hd
  have c₃ := cellKeep c₂ fun o e => k₃ _ o t74 (Ne.symm L3) e
  -- the answers
  refine wpAny_execs_cons (sortStmt (s := s₃) u₃ F₃ H₃ fix₃ ok IV hl h74 c₃ (tp_split N) (tp_short N) (tp_len N).1 (tp_plain N) (if_pos rfl) hAL hLL fun s₄ k₄ tb₄ fix₄ g₄ fin₄ os₄ => ?_)
  dsimp only
  have F₄ : Fr hb L s₄.heap _ := ⟨F₃.ns.at' fun o e => k₄ _ o L74 e, fun b o e => k₄ b o (fun z => by rw [z, u.no74] at e; cases e) (F₃.keep b o e), F₃.above⟩
  have H₄ := H₃.mv74 (fun b o a1 _ e => k₄ b o a1 e) h74 tb₃ tb₄ u.no74 F₄.ns
  obtain ⟨_, ps₃, hps₃, _⟩ := id tb₃
  have AL74 : AL ≠ 74 := fun z => by
    obtain ⟨o, e, hc, _⟩ := hAL
    rw [z, hps₃] at e; cases e; cases hc
  have hAL₄ : s₄.heap.IsList AL (sv LL).toArray := Heap.IsList.at hAL fun o e => k₄ _ o AL74 e
  have fin₄' : FinAt 0 s₄ := fun k y _ e => by
    rcases Nat.lt_or_ge k s₃.gens.size with a | a
    · exact fin₃ k y (Nat.zero_le _) ((g₄ k a).symm.trans e)
    · exact fin₄ k y a e
  -- near and far
  have hnb : (!Txt.startswith (Txt.join "/" (tpOf N)) "$") = !Txt.startswith ((tpOf N).headD "") "$" := by rw [start_join _ (tp_len N).2]
  refine wpAny_execs_cons (liftF (nearStmt (s := s₄) u.c (ok.le (by decide)) F₄ H₄ IV dsys (if_pos rfl) hAL₄ hLL hnb (tp_len N).2 fun h₅ tk₅ m₅ k₅ F₅ hm₅ => ⟨fix₄, ?_⟩))
  refine wpAny_execs_nil (hQ _ ⟨?_, ?_, ?_, fix₄, fin₄', os₄.trans (os₃.trans H.os)⟩ fun b o a1 a2 a3 e => ?_)
  · exact undOf u.c u.bi u.no74 F₅ (tb₄.atF fun b o vs hd e => k₅ b o (fun z => by
      obtain ⟨oL, _, _, eL, dL, _⟩ := F₄.ns
      rw [z, eL] at e; cases e; rw [dL] at hd; cases hd) e)
  · refine ⟨m₅, tm, F₅, ?_, ?_⟩
    · rw [hm₅ _ (by decide) (by decide), if_neg (by decide)]; exact mm1
    · rw [hm₅ _ (by decide) (by decide), if_neg (by decide)]; exact mm2
  · exact H₄.mv (fun b => b = L) (fun b o z e => k₅ b o z e) (fun b z => by rw [z]; exact ⟨.inl H₄.oL, Ne.symm n.1, Ne.symm n.2.1, Ne.symm n.2.2.1, nn01 L, nn02 L, H₄.nb L (.head _)⟩) (fun b z _ => by rw [z]; obtain ⟨o, _, _, e, _⟩ := F₅.ns; exact ⟨o, e⟩)
      (let ⟨v, c⟩ := H₄.ct; ⟨v, cellKeep c fun o e => k₅ _ o (Ne.symm L3) e⟩)
  · exact k₅ b o a2 (k₄ b o a1 (k₃ b o a1 a2 (k₂ b o a3 ((S₁.2 b a2).trans e))))
end
end Mine
end
section
open PySem PySem.W PySem.W.X PyProof.Rows PySem.Calls
set_option Elab.async false
set_option maxRecDepth 100000
set_option maxHeartbeats 4000000
namespace Mine
section
variable {w : World} {A : Around} {E : Value → Shared → Prop} {s : Shared}
theorem Tb.butR {h h' : Heap} {I : Addr} {a b c : Int} (x : Tb h) (hI : IsRangeIter h I a b c) (k : ∀ b o, b ≠ I → h.get? b = some o → h'.get? b = some o) : Tb h' := by
  have hoI : h.get? I = some { cls := .type "range_iterator", data := .fields #[rawInt a, rawInt b, rawInt c] } := hI
  obtain ⟨⟨o, vs, file, tf, flags, tg, inF, text, tt, e, r⟩, ps, hps, ht, hor⟩ := x
  have kk : ∀ b o, h.get? b = some o → o.cls ≠ .type "range_iterator" → h'.get? b = some o := fun b o e h1 => k b o (fun z => by rw [z, hoI] at e; cases e; exact h1 rfl) e
  refine ⟨⟨o, vs, file, tf, flags, tg, inF, text, tt, kk _ _ e (by rw [r.1]; decide), r⟩, ps, kk _ _ hps (fun z => by cases z), ht, hor.elim .inl fun ⟨c'', e', hr⟩ => .inr ⟨c'', e', ?_⟩⟩
  obtain ⟨c, o, vs, tq, e, ho, hd, hq⟩ := hr
  refine ⟨c, o, vs, tq, e, k _ _ (fun z => ?_) ho, hd, hq⟩
  rw [z, hoI] at ho; cases ho; cases hd; cases hq
theorem loop5 {s₀ : Shared} {hb : Heap} {Out X : Addr → Prop} {L x xx d S : Addr} {vs : List Value} {ns : List Int} {n : Nat} {G : GT} {C : Path → Value} {Q : Flow → Shared → Prop}
    (ok : Ok A 70) (hS : hb.IsList S vs.toArray) (hI : IntsAre vs ns) (hvs : vs.length ≤ 63) (hn : n ≤ 7) (dsys : (d == sysModules) = false) (h74 : Out 74) (IV : Inv G C) (hl : G.length ≤ 7)
    (H : L2 w hb Out X L x xx d S n G C s₀ s)
    (hQ : ∀ s' X', L2 w hb Out X' L x xx d S n G C s₀ s' → Q .next s') :
    wpAny (CM w) A (exec (lst 5) (lawEnv L)) Q (fun _ _ => False) s := by
  obtain ⟨m, tm, F, m1, m2⟩ := H.fr
  have u := H.und
  refine wpAny_For ?_
  refine wpAny_Call_NameR (liftF (lnB u.c F (by kernel_rfl) (v := .type "range") (by kernel_rfl) (by decide +kernel) ⟨H.fix, ?_⟩))
  refine callWith_type1 (spliced_cons (wpAny_Constant_int (k := 0) (pos := default) (spliced_nil ?_)))
  refine liftF (call_range_1 ⟨H.fix, ?_⟩)
  refine liftF (wpAny_pyIter_range (IsRange.new _ _ _ _ _ _ _) (small_one (by decide) (by decide) (by decide) (by decide)) ⟨H.fix, ?_⟩)
  dsimp only
  have hI0 : s.heap.get? (s.heap.push { cls := .type "range", data := .fields #[.int 0 (s.toks + 1), .int 4 s.toks, .int 1 (s.toks + 1 + 1)] }).objs.size = none := Heap.get?_none_of_le (by simp [Heap.push])
  have hat : ∀ ob : Obj, ob.isFreed = false → ((s.heap.push { cls := .type "range", data := .fields #[.int 0 (s.toks + 1), .int 4 s.toks, .int 1 (s.toks + 1 + 1)] }).push ob).get? (s.heap.push { cls := .type "range", data := .fields #[.int 0 (s.toks + 1), .int 4 s.toks, .int 1 (s.toks + 1 + 1)] }).objs.size = some ob := fun ob hf => Heap.get?_push_size _ hf
  have hkp : ∀ (ob : Obj) b o, s.heap.get? b = some o → ((s.heap.push { cls := .type "range", data := .fields #[.int 0 (s.toks + 1), .int 4 s.toks, .int 1 (s.toks + 1 + 1)] }).push ob).get? b = some o := fun ob b o e => Heap.get?_push_of_some _ (Heap.get?_push_of_some _ e)
  rw [rangeSize_one, if_pos (by decide)]
  generalize hII : (s.heap.push { cls := .type "range", data := .fields #[.int 0 (s.toks + 1), .int 4 s.toks, .int 1 (s.toks + 1 + 1)] }).objs.size = I at *
  have fresh : ∀ b o, s.heap.get? b = some o → b ≠ I := fun b o e z => by rw [z, hI0] at e; cases e
  have fout : ∀ b, Out b → b ≠ I := fun b hb => let ⟨o, e⟩ := H.law.on.there b hb; fresh b o e
  have bI : hb.get? I = none := frNone F hI0
  have hLI : L ≠ I := nsNe F.ns hI0
  have HX : LawH w hb Out (fun b => b = I) L x xx d C (G.map kv) s.heap := by
    have HX := H.law.addX hI0
    obtain ⟨root, T, M⟩ := HX.mat
    exact ⟨HX.on, HX.above, ⟨root, T, ⟨M.at_, M.dict, .inl HX.ox, .inl HX.oxx, trieOut M.tr fun b hb => .inl (hb.elim .inl fun z => .inr (.inr z))⟩⟩, HX.ox, HX.oxx, HX.dict, HX.cm, HX.cs, HX.ct, HX.oL, HX.o1, HX.o2, HX.o3, HX.od, HX.ne, HX.nb⟩
  have I74 : I ≠ 74 := fun z => by
    obtain ⟨_, ps, hps, _⟩ := u.tb
    exact fresh _ _ hps z.symm
  have I3 : I ≠ L + 1 + 1 + 1 := Ne.symm (fout _ H.law.o3)
  have W := Walks.range (prog := PR) (w := w) (A := A) ok.hd I 0 1 4
  have nI : ∀ b, b ≠ I → b ∉ [I] := fun b h1 z => h1 (List.mem_singleton.mp z)
  -- the iterator moves
  have moved : ∀ (s₁ : Shared) h' tk a b c, L2 w hb Out (fun b => b = I) L x xx d S n G C s₀ s₁ → IsRangeIter s₁.heap I a b c → (∀ b o, b ∉ [I] → s₁.heap.get? b = some o → h'.get? b = some o) → L2 w hb Out (fun b => b = I) L x xx d S n G C s₀ { s₁ with heap := h', toks := tk } := by
    intro s₁ h' tk a b c H₁ hr k
    have k' : ∀ b o, b ≠ I → s₁.heap.get? b = some o → h'.get? b = some o := fun b o h1 e => k b o (nI b h1) e
    obtain ⟨m', tm', F', q1, q2⟩ := H₁.fr
    have F'' := frBut F' k' hLI bI
    exact ⟨undOf u.c u.bi u.no74 F'' (H₁.und.tb.butR hr k'), ⟨m', tm', F'', q1, q2⟩, H₁.law.mv (fun b => b = I) (fun b o z e => k' b o z e) (fun b z => by
      rw [z]
      exact ⟨.inr rfl, Ne.symm (fout _ H.law.ox), Ne.symm (fout _ H.law.oxx), Ne.symm (fout _ H.law.od), Ne.symm (fout _ H.law.o1), Ne.symm (fout _ H.law.o2), bI⟩) (fun b z hb => absurd z (fout b hb)) (let ⟨v, c⟩ := H₁.law.ct; ⟨v, cellKeep c fun o e => k' _ o (Ne.symm I3) e⟩), H₁.fix, H₁.fin, H₁.os⟩
  refine forC (fun q s' => ∃ i, q = 4 + 1 - i ∧ i ≤ 4 ∧ L2 w hb Out (fun b => b = I) L x xx d S n G C s₀ s' ∧ IsRangeIter s'.heap I (0 + (i : Nat) * 1) (((4 : Nat) : Int) - (i : Nat)) 1) ?_ (4 + 1) ⟨0, rfl, Nat.zero_le _, ?_, ?_⟩ (fun _ => rfl)
  · rintro q s₁ ⟨i, rfl, hi, H₁, hr⟩
    by_cases hlt : i < 4
    · refine liftF (W.item i s₁ _ _ hlt hr fun v h' tk hP hS' hk => ⟨H₁.fix, ?_⟩)
      obtain ⟨tv, rfl⟩ := hP
      have H₂ := moved s₁ h' tk _ _ _ H₁ hr hk
      simp only [Int.zero_add, Int.mul_one] at hS' ⊢
      refine wpAny_assign_Name (wpAny_mono (turn5 (s₀ := s₀) (s := { s₁ with heap := h', toks := tk }) (i := i) ok hS hI hvs hn hlt dsys h74 IV hl H₂ (Q := fun f s₃ => f = .next ∧ L2 w hb Out (fun b => b = I) L x xx d S n G C s₀ s₃ ∧ IsRangeIter s₃.heap I ((i + 1 : Nat) : Int) (((4 : Nat) : Int) - ((i + 1 : Nat) : Int)) 1)
        fun s' H' k' => ⟨rfl, H', k' _ _ I74 (Ne.symm hLI) I3 hS'⟩) (fun _ s₂ h₂ => wpAny_mono h₂ (fun f s₃ h₃ => ?_) fun _ _ e => e) fun _ _ e => e)
      obtain ⟨rfl, h3, h4⟩ := h₃
      exact ⟨4 + 1 - (i + 1), by omega, i + 1, rfl, hlt, h3, by simpa using h4⟩
    · have hin : i = 4 := by omega
      subst hin
      refine liftF (W.done s₁ _ _ hr fun h' tk hk => ⟨H₁.fix, ?_⟩)
      exact hQ _ _ (moved s₁ h' tk _ _ _ H₁ hr hk)
  · refine ⟨u.keeps (hkp _) (by show _ ≤ (Heap.push _ _).objs.size; rw [Heap.size_push, Heap.size_push]; omega), ⟨m, tm, frUp F (hkp _), m1, m2⟩, HX.keeps (hkp _), H.fix, H.fin, H.os⟩
  · show IsRangeIter _ I _ _ _
    simpa using hat _ rfl
end
end Mine
end
section
open PySem PySem.W PySem.W.X PyProof.Rows PySem.Calls
set_option Elab.async false
set_option maxRecDepth 100000
set_option maxHeartbeats 4000000
namespace Mine
section
variable {w : World} {A : Around} {E : Value → Shared → Prop} {s : Shared}
/-- a call of a def with cells, in the calmed model -/
theorem callCC {R : Result → Shared → Prop} {f : Addr} {st : Stmt} {nm q : Str} {code : Addr} {vals : List Value} {binds : List (Str × Value)} (c : Cx w s.heap) (hroom : A.depth < recursionLimit)
    (ho : ∃ pm, (KK w).lookup f = some (fnObj (fdOf st nm q pm code))) (hcd : codeIn (KK w) (.ref code) q = true)
    (hbind : ∀ pm, bindArgs (fdOf st nm q pm code) ⟨vals, []⟩ = pure binds)
    (hkind : ∀ x ∈ binds, (stScope st).names.lookup x.1 = some .local ∨ ((stScope st).names.lookup x.1 = some .cell ∧ ((cellsFrom (s.heap.objs.size + 1) (stScope st).names []).lookup x.1).isSome = true))
    (h : ∀ h₁ tk, Fr s.heap s.heap.objs.size h₁ (bindL (envOfC q (stScope st) s.heap.objs.size f (.ref code)).kindOf binds fun _ => none) →
      Cl s.heap.objs.size (cellsFrom (s.heap.objs.size + 1) (stScope st).names []) h₁ (bindC (envOfC q (stScope st) s.heap.objs.size f (.ref code)).kindOf binds fun _ => none) →
      wpAny (CM w) (A.deeper (envOfC q (stScope st) s.heap.objs.size f (.ref code))) (execs (stBody st) (envOfC q (stScope st) s.heap.objs.size f (.ref code)))
        (fun fl s' => R (.ok (.ret (match fl with | .ret v => v | _ => .none))) s') (fun _ _ => False) { s with heap := h₁, toks := tk })
    (hco : (stScope st).isCoroutine = false := by rfl) (hgen : (stScope st).isGenerator = false := by rfl) (hk : (stScope st).kind = .function := by rfl) :
    codeAny (CM w) A (.call (.ref f) ⟨vals, []⟩) R s := by
  obtain ⟨pm, ho⟩ := ho
  refine codeC_call_function (fd := fdOf st nm q pm code) (body := stBody st) hroom (c.X _ _ ho) rfl hco hgen rfl (codeRec_of c.X hcd) ?_
  rw [hbind pm]
  refine wpAny_pure (wpAny_newFunctionEnv_cells hk hkind fun env he s' X => ?_)
  subst he
  obtain ⟨h₁, tk, rfl, _⟩ := X.toInCall.done
  refine ⟨c.nl.keeps X.toInCall.keep, codeC_func ?_⟩
  exact wpAny_mono (h h₁ tk ⟨X.toInCall.ns, X.toInCall.keep, X.toInCall.fresh⟩ ⟨X.cell, X.apart, X.above⟩) (fun _ _ x => x) fun _ _ x => x.elim
theorem lookupNone74 : (KK w).lookup 74 = none := by kernel_rfl
theorem Cx.hide {h : Heap} (c : Cx w h) (ht : ∃ ps, h.get? 74 = some (tabObj ps)) : Cx w (hideAll h [74]) := by
  obtain ⟨ps, hps⟩ := ht
  have nNs : ∀ {a m}, h.Ns a m → (hideAll h [74]).Ns a m := fun ⟨o, es, ep, e, hd, r⟩ => ⟨o, es, ep, hideAll_get _ e (fun z => by rw [List.mem_singleton.mp z, hps] at e; cases e; cases hd), hd, r⟩
  obtain ⟨mg, mb, g, b, hb⟩ := c.G
  obtain ⟨mc, nc, hq⟩ := c.nl
  refine ⟨fun a o e => hideAll_get _ (c.X a o e) (fun z => ?_), ⟨mg, mb, nNs g, nNs b, hb⟩, ⟨mc, nNs nc, hq⟩⟩
  rw [List.mem_singleton.mp z, lookupNone74] at e
  cases e
theorem Bi.hide {h : Heap} (x : Bi h) (ht : ∃ ps, h.get? 74 = some (tabObj ps)) : Bi (hideAll h [74]) := by
  obtain ⟨ps, hps⟩ := ht
  have nNs : ∀ {a m}, h.Ns a m → (hideAll h [74]).Ns a m := fun ⟨o, es, ep, e, hd, r⟩ => ⟨o, es, ep, hideAll_get _ e (fun z => by rw [List.mem_singleton.mp z, hps] at e; cases e; cases hd), hd, r⟩
  obtain ⟨mg, bm, o, g, a, b, c, d, e, r⟩ := x.bi
  exact ⟨mg, bm, o, nNs g, a, b, c, d, hideAll_get _ e (fun z => d (List.mem_singleton.mp z)), r⟩
end
end Mine
end
section
open PySem PySem.W PySem.W.X PyProof.Rows PySem.Calls
set_option Elab.async false
set_option maxRecDepth 100000
set_option maxHeartbeats 4000000
namespace Mine
section
variable {w : World} {A : Around} {E : Value → Shared → Prop} {s : Shared}
theorem fixNil {s : Shared} (h : s.gens = #[]) : SFix s := fun i x hx => by rw [h] at hx; simp at hx
theorem finNil {s : Shared} (h : s.gens = #[]) : FinAt 0 s := fun i x _ hx => by rw [h] at hx; simp at hx
theorem law_spec {R : Result → Shared → Prop} {S : Addr} {vs : List Value} {ns : List Int} {p : Program} {loose : List Str} {mean : ExcName → Option Value} {mg mb : Str → Option Value}
    (TB : Top p loose mean mg mb s.heap) (c : Cx w s.heap) (bi : Bi s.heap) (KT : s.heap.get? 74 = some (tabObj #[])) (hS : s.heap.IsList S vs.toArray) (hI : IntsAre vs ns) (hvs : vs.length ≤ 63) (hg : s.gens = #[])
    (h : ∀ s', (∀ b o, b ≠ 74 → s.heap.get? b = some o → s'.heap.get? b = some o) → Tb s'.heap → s'.os = s.os → FinAt 0 s' → R (.ok (.ret (.bool true))) s') :
    codeAny (CM w) callerA (.call (.ref 133) ⟨[.ref S], []⟩) R s := by
  have okA : Ok callerA 72 := ⟨by decide +kernel, by decide +kernel, rfl⟩
  refine callCC (st := lawSt) (nm := "law") (q := "law") (code := 132) (binds := [("script", .ref S)]) c okA.room ⟨_, rfl⟩ (by kernel_rfl) (fun pm => by kernel_rfl) ?_ (fun h₁ tk F K => ?_)
  · intro y hy; left
    rcases List.mem_cons.mp hy with rfl | hy
    · rfl
    · cases hy
  have ok : Ok (callerA.deeper (lawEnv s.heap.objs.size)) 71 := okA.deeper _
  generalize hA : callerA.deeper (lawEnv s.heap.objs.size) = A at ok
  show wpAny (CM w) A (execs [lst 0, lst 1, lst 2, lst 3, lst 4, lst 5, lst 6] (lawEnv s.heap.objs.size)) _ _ _
  have cm₁ := K.cell "matcher" (s.heap.objs.size + 1) rfl
  have cs₁ := K.cell "standing" (s.heap.objs.size + 1 + 1) rfl
  have ct₁ := K.cell "topic" (s.heap.objs.size + 1 + 1 + 1) rfl
  have m1 : (bindL (lawEnv s.heap.objs.size).kindOf [("script", Value.ref S)] fun _ => none) "script" = some (.ref S) := rfl
  generalize bindL (lawEnv s.heap.objs.size).kindOf [("script", Value.ref S)] (fun _ => none) = m at *
  have l74 : (74 : Nat) < s.heap.objs.size := Heap.lt_size KT
  -- matcher = MQTTMatcher()
  refine wpAny_execs_cons (liftF (wpAny_Assign_Name (wpAny_Call_NameR (lnK c F (by kernel_rfl) (v := .ref 82) (callWith_K0 (K := KK w) (c.keeps F.keep).X rfl (ok.one (mat_new (c.keeps F.keep).X fun h₂ tk₂ x xx a dx d' N => ?_)))))))
  dsimp only at N
  have cm₂ := cm₁.keeps N.keeps
  refine wpAny_storeName_cell (c := s.heap.objs.size + 1) rfl rfl rfl cm₂ fun h₃ cm₃ S₃ => ⟨fixNil hg, ?_⟩
  dsimp only at cm₃ S₃ ⊢
  have hnew : ∀ b : Nat, s.heap.objs.size ≤ b → s.heap.get? b = none := fun b hb => Heap.get?_none_of_le hb
  obtain ⟨oL₁, hoL₁⟩ : ∃ o, h₁.get? s.heap.objs.size = some o := let ⟨o, _, _, e, _⟩ := F.ns; ⟨o, e⟩
  have ht1 := h
  generalize hL : s.heap.objs.size = L at *
  have nd := N.nd
  simp only [List.nodup_cons, List.mem_cons, List.not_mem_nil, or_false, not_or, not_false_eq_true, List.nodup_nil, and_true] at nd
  obtain ⟨⟨nxxx, nxa, nxd, nxdd⟩, ⟨nxxa, nxxd, nxxdd⟩, _⟩ := nd
  have ne : ∀ b o, h₁.get? b = some o → ∀ b', h₁.get? b' = none → b ≠ b' := fun b o e b' e' z => by rw [z, e'] at e; cases e
  obtain ⟨o1, e1, d1⟩ := id cm₁
  obtain ⟨o2, e2, d2⟩ := id cs₁
  obtain ⟨o3, e3, d3⟩ := id ct₁
  have x1 : x ≠ L + 1 := Ne.symm (ne _ _ e1 _ N.fm)
  have xx1 : xx ≠ L + 1 := Ne.symm (ne _ _ e1 _ N.fxx)
  have k13 : ∀ b o, b ≠ L + 1 → h₁.get? b = some o → h₃.get? b = some o := fun b o h1 e => (S₃.2 b h1).trans (N.keeps b o e)
  obtain ⟨hs0, tk0, n0, hxx0⟩ := N.dict
  have M₂ : MatX w (fun b => (∃ o, h₁.get? b = some o) ∨ b = x ∨ b = xx) h₂ x xx a _ (fun _ => .none) := newMatX N (fun b hb => by
    rcases hb with ⟨o, ho⟩ | rfl | rfl
    · exact ⟨ne _ _ ho _ N.fa, ne _ _ ho _ N.fx, ne _ _ ho _ N.fd⟩
    · exact ⟨nxa, nxd, nxdd⟩
    · exact ⟨nxxa, nxxd, nxxdd⟩) (.inr (.inl rfl)) (.inr (.inr rfl))
  have M₃ := matKeep M₂ fun b o hb' e => (S₃.2 b (by
    rcases hb' with rfl | rfl | hb'
    · exact x1
    · exact xx1
    · exact fun z => hb' (.inl ⟨o1, z ▸ e1⟩))).trans e
  have F₃ : Fr s.heap L h₃ m := frOwn (frUp F N.keeps) S₃ (Ne.symm (nn01 L)) (hnew _ (Nat.le_succ L))
  -- standing = {}
  refine wpAny_execs_cons (liftF (wpAny_Assign_Name (wpAny_Dict_empty ?_)))
  dsimp only
  have hd0 : h₃.get? h₃.objs.size = none := Heap.get?_none_of_le (Nat.le_refl _)
  have d0 : (h₃.push { cls := .type "dict", data := .dict #[] }).DictOf (PySem.strKind PR w) h₃.objs.size [] := Heap.DictOf.new h₃
  have kp : ∀ b o, h₃.get? b = some o → (h₃.push { cls := .type "dict", data := .dict #[] }).get? b = some o := fun b o e => Heap.get?_push_of_some _ e
  have hzz : (h₃.push { cls := .type "dict", data := .dict #[] }).objs.size = h₃.objs.size + 1 := Heap.size_push ..
  generalize h₃.push { cls := .type "dict", data := .dict #[] } = h₃' at *
  generalize hdd : h₃.objs.size = d at *
  have ex3 : ∀ b o, h₁.get? b = some o → ∃ o', h₃.get? b = some o' := fun b o e => by
    by_cases z : b = L + 1
    · rw [z]; obtain ⟨o, e, _⟩ := cm₃; exact ⟨o, e⟩
    · exact ⟨o, k13 b o z e⟩
  have dne : ∀ b, (∃ o, h₃.get? b = some o) → b ≠ d := fun b ⟨o, e⟩ z => by rw [z, hd0] at e; cases e
  have cs₃ : h₃'.IsCell (L + 1 + 1) _ := ⟨o2, kp _ _ (k13 _ _ (Ne.symm (nn12 L)) e2), d2⟩
  refine wpAny_storeName_cell (c := L + 1 + 1) rfl rfl rfl cs₃ fun h₄ cs₄ S₄ => ⟨fixNil hg, ?_⟩
  dsimp only at cs₄ S₄ ⊢
  have k34 : ∀ b o, b ≠ L + 1 + 1 → h₃.get? b = some o → h₄.get? b = some o := fun b o h1 e => (S₄.2 b h1).trans (kp b o e)
  have F₄ : Fr s.heap L h₄ m := frOwn (frUp F₃ kp) S₄ (Ne.symm (nn02 L)) (hnew _ (Nat.le_add_right L 2))
  have x2 : x ≠ L + 1 + 1 := Ne.symm (ne _ _ e2 _ N.fm)
  have xx2 : xx ≠ L + 1 + 1 := Ne.symm (ne _ _ e2 _ N.fxx)
  have x3 : x ≠ L + 1 + 1 + 1 := Ne.symm (ne _ _ e3 _ N.fm)
  have xx3 : xx ≠ L + 1 + 1 + 1 := Ne.symm (ne _ _ e3 _ N.fxx)
  have xL : x ≠ L := Ne.symm (ne _ _ hoL₁ _ N.fm)
  have xxL : xx ≠ L := Ne.symm (ne _ _ hoL₁ _ N.fxx)
  have xd : x ≠ d := dne x ⟨_, M₃.at_⟩
  have xxd : xx ≠ d := by obtain ⟨_, _, _, e⟩ := M₃.dict; exact dne xx ⟨_, e⟩
  have dL : L ≠ d := dne L (ex3 _ _ hoL₁)
  have d1' : L + 1 ≠ d := dne _ (ex3 _ _ e1)
  have d2' : L + 1 + 1 ≠ d := dne _ (ex3 _ _ e2)
  have d3' : L + 1 + 1 + 1 ≠ d := dne _ (ex3 _ _ e3)
  have cm₄ : h₄.IsCell (L + 1) (some (.ref x)) := cellKeep cm₃ fun o e => k34 _ o (nn12 L) e
  have ct₄ : h₄.IsCell (L + 1 + 1 + 1) _ := cellKeep ct₁ fun o e => k34 _ o (Ne.symm (nn23 L)) (k13 _ o (Ne.symm (nn13 L)) e)
  have dict₄ : h₄.DictOf (PySem.strKind PR w) d [] := d0.sameBut S₄ (Ne.symm d2')
  have M₃' : MatX w (fun b => ((((∃ o, h₁.get? b = some o) ∨ b = x ∨ b = xx) ∨ b = d) ∨ False)) h₃ x xx a _ (fun _ => .none) := ⟨M₃.at_, M₃.dict, .inl (.inl (.inr (.inl rfl))), .inl (.inl (.inr (.inr rfl))), trieOut M₃.tr fun b hb => by
    rcases hb with (hb | rfl) | hb
    · exact .inl hb
    · exact .inr fun o e => by rw [hd0] at e; cases e
    · exact hb.elim⟩
  have M₄ := matKeep M₃' fun b o hb e => k34 b o (by
    rcases hb with rfl | rfl | hb
    · exact x2
    · exact xx2
    · exact fun z => hb (.inl (.inl (.inl ⟨o2, z ▸ e2⟩)))) e
  have bnone : ∀ b, h₁.get? b = none → s.heap.get? b = none := fun b e => by
    cases q : s.heap.get? b with
    | none => rfl
    | some o => rw [F.keep _ _ q] at e; cases e
  have sle : s.heap.objs.size ≤ L := Nat.le_of_eq hL
  have H₄ : LawH w s.heap (fun b => (((∃ o, h₁.get? b = some o) ∨ b = x ∨ b = xx) ∨ b = d)) (fun _ => False) L x xx d (fun _ => .none) ([].map kv) h₄ := by
    refine ⟨⟨F₄.keep, Nat.le_trans sle (Nat.le_of_lt F₄.ns.lt), fun b o e => .inl (.inl ⟨o, F.keep b o e⟩), fun b hb => ?_⟩, sle, ⟨a, _, M₄⟩, .inl (.inr (.inl rfl)), .inl (.inr (.inr rfl)), dict₄, cm₄, cs₄, ⟨_, ct₄⟩,
      .inl (.inl ⟨_, hoL₁⟩), .inl (.inl ⟨_, e1⟩), .inl (.inl ⟨_, e2⟩), .inl (.inl ⟨_, e3⟩), .inr rfl, ?_, ?_⟩
    · have th3 : ∀ b, (∃ o, h₃.get? b = some o) → ∃ o, h₄.get? b = some o := fun b ⟨o, e⟩ => by
        by_cases z : b = L + 1 + 1
        · rw [z]; obtain ⟨o, e, _⟩ := cs₄; exact ⟨o, e⟩
        · exact ⟨o, k34 b o z e⟩
      rcases hb with (⟨o, e⟩ | rfl | rfl) | rfl
      · exact th3 b (ex3 b o e)
      · exact th3 _ ⟨_, M₃.at_⟩
      · obtain ⟨_, _, _, e⟩ := M₃.dict; exact th3 _ ⟨_, e⟩
      · obtain ⟨o, _, _, e, _⟩ := dict₄; exact ⟨o, e⟩
    · simp only [List.nodup_cons, List.mem_cons, List.not_mem_nil, or_false, not_or, not_false_eq_true, List.nodup_nil, and_true]
      exact ⟨⟨nn01 L, nn02 L, nn03 L, Ne.symm xL, Ne.symm xxL, dL⟩, ⟨nn12 L, nn13 L, Ne.symm x1, Ne.symm xx1, d1'⟩, ⟨nn23 L, Ne.symm x2, Ne.symm xx2, d2'⟩, ⟨Ne.symm x3, Ne.symm xx3, d3'⟩, ⟨nxxx, xd⟩, xxd⟩
    · intro b hb
      simp only [List.mem_cons, List.not_mem_nil, or_false] at hb
      rcases hb with rfl | rfl | rfl | rfl | rfl | rfl | rfl
      · exact hnew _ (Nat.le_refl _)
      · exact hnew _ (Nat.le_succ L)
      · exact hnew _ (Nat.le_add_right L 2)
      · exact hnew _ (Nat.le_add_right L 3)
      · exact bnone _ N.fm
      · exact bnone _ N.fxx
      · cases q : s.heap.get? b with
        | none => rfl
        | some o => exact absurd rfl (dne b (ex3 _ _ (F.keep _ _ q)))
  generalize hOut : (fun b => (((∃ o, h₁.get? b = some o) ∨ b = x ∨ b = xx) ∨ b = d)) = Out at H₄
  have o74 : Out 74 := by rw [← hOut]; exact .inl (.inl ⟨_, F.keep _ _ KT⟩)
  have dsys : (d == sysModules) = false := by
    rw [beq_eq_false_iff_ne]
    intro z
    have h1 : L < d := Nat.lt_of_lt_of_le (Heap.lt_size (k13 _ _ (nn01 L) hoL₁)) (Nat.le_of_eq hdd)
    have h2 : 74 < d := Nat.lt_trans l74 h1
    rw [z] at h2
    exact absurd h2 (by decide)
  -- many = _law_number(script, 0) % 8
  have hm0 : 0 ≤ (ns.getD 0 0).fmod 8 := Int.fmod_nonneg_of_pos _ (by decide)
  have hm1 : (ns.getD 0 0).fmod 8 < 8 := Int.fmod_lt_of_pos _ (by decide)
  obtain ⟨n, hn⟩ : ∃ n : Nat, (ns.getD 0 0).fmod 8 = n := ⟨((ns.getD 0 0).fmod 8).toNat, by omega⟩
  have hn7 : n ≤ 7 := by omega
  refine wpAny_execs_cons (liftF (wpAny_Assign_Name (wpAny_BinOp (wpAny_Call_NameR (lnK (s := { s with heap := h₄, toks := tk₂ }) c F₄ (by kernel_rfl) (v := .ref 93) ?_)))))
  refine callWith_K c.X rfl (spliced_cons (lLd (s := { s with heap := h₄, toks := tk₂ }) F₄ m1 (spliced_cons (wpAny_Constant_int (k := 0) (pos := default) (spliced_nil ⟨(c.keeps F₄.keep).X, ?_⟩)))))
  refine wpAny_call (number_spec (s := { s with heap := h₄, toks := tk₂ + 1 }) (c.keeps F₄.keep) (ok.le (by decide)) (Heap.IsList.at hS fun o e => F₄.keep _ _ e) hI (by omega) (by decide) (by decide) fun h₅ tk₅ t₅ k₅ => ?_)
  dsimp only at k₅ ⊢
  refine wpAny_Constant_int (mod_int' (by decide) ?_)
  rw [show ns.getD (Int.toNat 0) 0 = ns.getD 0 0 from rfl, hn]
  have F₅ := frUp F₄ k₅
  refine lSt F₅ fun h₆ F₆ S₆ => ⟨fixNil hg, ?_⟩
  dsimp only at S₆ ⊢
  have H₆ := (H₄.keeps k₅).frame S₆ (let ⟨o, _, _, e, _⟩ := F₆.ns; ⟨o, e⟩)
  -- the deeds
  have KB : ∀ h, (∃ m, Fr s.heap L h m) → Below A s.heap [lawEnv L] h := fun h ⟨m, F⟩ => by
    rw [← hA]; exact pushX (below_caller s.heap) F rfl rfl
  have bL : L1 w s.heap Out (fun _ => False) L x xx d S n 0 h₆ := ⟨_, [], _, _, F₆, mo (by decide) m1, if_pos rfl, H₆, Inv.nil, Nat.le_refl _⟩
  refine wpAny_execs_cons (liftF (loop1 (s := { s with heap := h₆, toks := tk₅ + 1 + 1 + 1 }) c TB (ok.le (by decide)) KB hS hI hvs hn7 dsys bL fun h₇ tk₇ X₇ L₇ => ⟨fixNil hg, ?_⟩))
  dsimp only
  obtain ⟨m₇, G, C, tm, F₇, q1, q2, H₇, IV, hl⟩ := L₇.ex
  -- each standing filter tells its value
  refine wpAny_execs_cons (liftF (cmpTest (s := { s with heap := h₇, toks := tk₇ }) c (ok.le (by decide)) F₇ H₇ IV hl dsys fun h₈ tk₈ k₈ => ⟨fixNil hg, ?_⟩))
  dsimp only at k₈ ⊢
  have F₈ := frUp F₇ k₈
  have H₈ := H₇.keeps k₈
  -- the topics
  have hbk : ∀ b o, (hideAll s.heap [74]).get? b = some o → s.heap.get? b = some o := fun b o e => of_hideAll _ e
  have hbz : (hideAll s.heap [74]).objs.size = s.heap.objs.size := hideAll_size _ _
  have c' := c.hide ⟨_, KT⟩
  have bi' := bi.hide ⟨_, KT⟩
  have no74 : (hideAll s.heap [74]).get? 74 = none := hideAll_none _ (.head _)
  have tb₀ : Tb s.heap := Tb.start c.X KT
  have F₈' : Fr (hideAll s.heap [74]) L h₈ m₇ := ⟨F₈.ns, fun b o e => F₈.keep b o (hbk b o e), by rw [hbz]; exact F₈.above⟩
  have S₀ : (hideAll s.heap [74]).IsList S vs.toArray := by
    obtain ⟨o, e, hc, k, hd⟩ := hS
    exact ⟨o, hideAll_get _ e (fun z => by rw [List.mem_singleton.mp z, KT] at e; cases e; cases hc), hc, k, hd⟩
  have L₈ : L2 w (hideAll s.heap [74]) Out X₇ L x xx d S n G C s { s with heap := h₈, toks := tk₈ } :=
    ⟨undOf c' bi' no74 F₈' (tb₀.keeps F₈.keep), ⟨m₇, tm, F₈', q1, q2⟩, H₈.rebase hbk (Nat.le_of_eq hbz), fixNil hg, finNil hg, rfl⟩
  refine wpAny_execs_cons (loop5 (s := { s with heap := h₈, toks := tk₈ }) (ok.le (by decide)) S₀ hI hvs hn7 dsys o74 IV hl L₈ fun s₉ X₉ L₉ => ?_)
  dsimp only
  -- return True
  refine wpAny_execs_cons (wpAny_Return_some (wpAny_Constant_bool ?_))
  obtain ⟨m₉, tm₉, F₉, _⟩ := L₉.fr
  exact h s₉ (fun b o h1 e => F₉.keep b o (hideAll_get _ e fun z => h1 (List.mem_singleton.mp z))) L₉.und.tb L₉.os L₉.fin
end
end Mine
end
section
open PySem PySem.W PySem.W.X PyProof.Rows
set_option Elab.async false
set_option maxRecDepth 100000
set_option maxHeartbeats 8000000
namespace Mine
theorem oldOf {w : World} {h h' : Heap} (X : (KK w).In h) (KT : h.get? 74 = some (tabObj #[])) (k : ∀ b o, b ≠ 74 → h.get? b = some o → h'.get? b = some o) (tb : Tb h') : OldK h h' := by
  obtain ⟨C, ps, hps, ht, hor⟩ := tb
  obtain ⟨C₀, ps₀, hps₀, _⟩ := Tb.start X KT
  rw [KT] at hps₀
  have e0 : ps₀ = #[] := by
    have := Option.some.inj hps₀
    injection this with _ _ h3
    injection h3 with h4
    exact h4.symm
  subst e0
  refine OldK.step_table (OldK.refl h) (c₀ := 78) (c := 78) (P := 74) (ps₀ := #[]) (ps := #[]) (more := ps) (C₀.tab KT) (C₀.tab KT) (by simpa using C.tab hps) (fun b o h1 e => k b o h1 e) (by decide)
theorem finish {w : World} {s₁ s' : Shared} {cl : Str → Option Addr} {mean : ExcName → Option Value} {nsl : List Int} (hold : OldK s₁.heap s'.heap) (hos : s'.os = s₁.os) (hfin : FinAt 0 s') :
    GoodC PySem.Challenge.rw_ci0031_01.row.claim cl mean [ofPy (PyData.list (nsl.map PyData.int))] s₁ (.ok (.ret (.bool true))) s' := by
  have hall : ∀ y ∈ s'.gens, y = .finished := fun y hy => by
    obtain ⟨i, hi, rfl⟩ := Array.mem_iff_getElem.1 hy
    exact hfin i _ (Nat.zero_le _) (Array.getElem?_eq_getElem hi)
  refine ⟨⟨.inl ⟨.bool true, ofPy (.bool true), [], rfl, fun cls => ?_, ?_, ?_, fun _ => ⟨List.nodup_nil, fun a h => nomatch h⟩⟩, hold, hos, fun y hy => by rw [hall y hy]; rfl⟩, fun y hy => by rw [hall y hy]; rfl⟩
  · rfl
  · exact .bool true
  · first
    | kernel_rfl
    | with_unfolding_all rfl
    | (show (WShape.has _ _ _ && _) = true; simp)
end Mine
end
section
open PySem PySem.W PySem.W.X PyProof.Rows
set_option Elab.async false
set_option maxRecDepth 100000
set_option maxHeartbeats 8000000
namespace Mine
theorem cxOf {w : World} {p : Program} {loose : List Str} {mean : ExcName → Option Value} {mg mb : Str → Option Value} {h : Heap} (X : (KK w).In h) (T : Top p loose mean mg mb h) : Cx w h := ⟨X, ⟨mg, mb, T.g, T.b, T.builtins⟩, T.nolimit⟩
theorem biOf {p : Program} {loose : List Str} {mean : ExcName → Option Value} {mg mb : Str → Option Value} {h : Heap} (T : Top p loose mean mg mb h) (KT : h.get? 74 = some (tabObj #[])) : Bi h := by
  obtain ⟨bm, ob, b1, b2, b3, b4, b5, b6⟩ := T.bmain
  refine ⟨mg, bm, ob, T.g, b1, b2, fun z => ?_, fun z => ?_, b3, b4, b5, b6⟩
  · obtain ⟨o, es, ep, e, hd, _⟩ := T.g
    rw [z, e] at b3; cases b3; rw [hd] at b6; cases b6
  · rw [z, KT] at b3; cases b3; cases b4
theorem law_goal {w : World} {s₁ : Shared} {S : Addr} {vs : List Value} {ns : List Int} {p : Program} {loose : List Str} {mean mean' : ExcName → Option Value} {mg mb : Str → Option Value} {cl : Str → Option Addr}
    (KX : (hd.heap_39 w.params).In s₁.heap) (KT : ∀ P ∈ [74], s₁.heap.get? P = some (tabObj #[])) (T : Top p loose mean mg mb s₁.heap) (hL : s₁.heap.IsList S vs.toArray) (hI : IntsAre vs ns) (hn : ns.length ≤ 63) (hg : s₁.gens = #[]) :
    wpAny (CM w) callerA (call (.ref 133) [.ref S]) (fun v s' => GoodC PySem.Challenge.rw_ci0031_01.row.claim cl mean' [ofPy (PyData.list (ns.map PyData.int))] s₁ (.ok (.ret v)) s')
      (fun e s' => GoodC PySem.Challenge.rw_ci0031_01.row.claim cl mean' [ofPy (PyData.list (ns.map PyData.int))] s₁ (.error e) s') s₁ := by
  have KT' := KT 74 (.head _)
  refine wpAny_call (law_spec T (cxOf KX T) (biOf T KT') KT' hL hI (by rw [hI.length]; exact hn) hg fun s' k tb os fin => ?_)
  exact finish (w := w) (oldOf KX KT' k tb) os fin
end Mine
set_option maxRecDepth 100000 in
set_option maxHeartbeats 8000000 in
theorem PySem.Challenge.cw_ci0031_01_holds : PySem.Challenge.rw_ci0031_01.Holds := by
  refine Mine.hd (by
    k_fill
    intro w s₀ s₁ mg mb G Y fa o pm cd doc dV kV ho hd hcd hD hmg hg args vals as hpre hlay hrd hwl hlo
    have KX := km_in_of Y
    have KT := km_tabs_of Y
    refine Ground.open G ?_
    intro T B D TE TW
    wrow_args hpre hlay hrd hwl hlo
    x_fa T KX hmg
    all_lens
    exact Mine.law_goal KX KT T (by assumption) (by assumption) (by omega) hg)
end
