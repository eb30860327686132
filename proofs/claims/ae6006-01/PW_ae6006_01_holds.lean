import PyProof.Rows.All
import KE.KSuperObj
import Open.Tops
import Wide.FinOn
import OpenK.AllK
import Wide.All
import Lean
import PySem.Challenge.RW_ae6006_01
set_option Elab.async false
section
open PySem PySem.W PySem.W.X PySem.W.ZRun PyProof.Rows
set_option maxRecDepth 100000
set_option maxHeartbeats 0
namespace Mine
open_shared tp for PySem.Challenge.pw_ae6006_01 leaving 0
end Mine
end
section
open PySem PySem.W PySem.W.X PyProof.Rows
set_option maxRecDepth 100000
set_option maxHeartbeats 4000000
namespace Mine
open PySem.W.ZFast
abbrev Tab := List (Nat × Obj)
noncomputable def tget (T : Tab) (i : Nat) : Option Obj :=
  List.rec (motive := fun _ => Option Obj) none (fun p _ ih => match Nat.beq p.1 i with | true => some p.2 | false => ih) T
theorem tget_nil (i : Nat) : tget [] i = none := rfl
theorem tget_cons (p : Nat × Obj) (T : Tab) (i : Nat) : tget (p :: T) i = if p.1 = i then some p.2 else tget T i := by
  show (match Nat.beq p.1 i with | true => some p.2 | false => tget T i) = _
  rw [BT.beq_eq]
  by_cases h : p.1 = i <;> simp [h]
abbrev StF := (Nat → Pos) → List (Code × Pos) → Sem Fin
abbrev Obs := List ((Nat → StF) × StF)
inductive Out where
  | fin (f : Fin) (T : Tab) (m i : Nat) (log : List (Addr × Nat)) (ob : Obs)
  | exc (e : Value) (T : Tab) (m i : Nat) (log : List (Addr × Nat)) (ob : Obs)
  | call (c' : Code) (hd : Option Value) (k : Result → Sem Fin) (T : Tab) (m i : Nat) (log : List (Addr × Nat)) (ob : Obs)
  | stuck (n : Nat)
structure Kt where
  c : Code
  hd : Option Value
  k : Result → Sem Fin
def pat : Code → List Kt → (Nat → Pos) → List (Code × Pos) → List (Code × Pos)
  | _, [], _, rest => rest
  | cc, f :: κ, ps, rest => (cc, ps 0) :: pat f.c κ (fun j => ps (j + 1)) rest
def pos0 : Pos := ⟨0, 0, 0, 0⟩
def reframe (y : Nat) (e : Env) : Env := { e with frame := match e.frame with | some _ => some y | none => none }
def rehead (y : Nat) : List (Code × Pos) → List (Code × Pos)
  | [] => []
  | p :: l => (match p.1 with | .func b e => .func b (reframe y e) | c => c, p.2) :: l
theorem rehead_self (l : List (Code × Pos)) : ∃ y, rehead y l = l := by
  cases l with
  | nil => exact ⟨0, rfl⟩
  | cons p l =>
    obtain ⟨c, p⟩ := p
    cases c with
    | func b e =>
      obtain ⟨s, lo, gl, ce, q, f, co, fr, bu⟩ := e
      cases fr with
      | none => exact ⟨0, rfl⟩
      | some y => exact ⟨y, rfl⟩
    | _ => exact ⟨0, rfl⟩
def headFrame : List (Code × Pos) → Nat
  | [] => 0
  | p :: _ => match p.1 with | .func _ e => e.frame.getD 0 | _ => 0
theorem rehead_head (l : List (Code × Pos)) : rehead (headFrame l) l = l := by
  cases l with
  | nil => rfl
  | cons p l =>
    obtain ⟨c, p⟩ := p
    cases c with
    | func b e =>
      obtain ⟨s, lo, gl, ce, q, f, co, fr, bu⟩ := e
      cases fr <;> rfl
    | _ => rfl
noncomputable def denZ : Code → Sem Fin := zw11892475500146522536 tableZ
theorem denZ_eq (c : Code) : denote table c = denZ c := by
  unfold denZ
  rw [← ze11892475500146522536, ← tableZ_eq]
noncomputable def dotLocals : Str := ⟨#[46, 60, 108, 111, 99, 97, 108, 115, 62, 46]⟩
noncomputable def funZ (self : Addr) (fd : FuncData) (args : Args) : Sem Fin := match fd.scope.isGenerator, fd.scope.isCoroutine with
  | false, false => match fd.code with
    | .ref a => .load a none fun o => match o.data with
      | .fields vs => match vs.toList with
        | [] => .unsupported "code"
        | _ :: l => match l with
          | [] => .unsupported "code"
          | v :: _ => match v with
            | .str q _ => R.bindR (zw9782568553167038054 fd args) fun bs =>
                R.bindR (zw11113344188204177931 fd.scope fd.globals fd.closure bs (zw3133850215942858360 q dotLocals) (some self) fd.code none fd.builtins) fun env =>
                match fd.body with
                | .stmts b => .pure (.again (.func b env))
                | .expr e => .pure (.again (.expr e env))
            | _ => .unsupported "code"
      | _ => .unsupported "code"
    | _ => .unsupported "code"
  | _, _ => .unsupported "code"
noncomputable def listB : List Nat → List Nat → Bool :=
  List.rec (motive := fun _ => List Nat → Bool) (fun b => match b with | [] => true | _ :: _ => false) (fun x _ ih b => match b with | [] => false | y :: b => match Nat.beq x y with | true => ih b | false => false)
theorem listB_nil (b : List Nat) : listB [] b = match b with | [] => true | _ :: _ => false := rfl
theorem listB_cons (x : Nat) (a b : List Nat) : listB (x :: a) b = match b with | [] => false | y :: b => match Nat.beq x y with | true => listB a b | false => false := rfl
theorem listB_eq : ∀ (a b : List Nat), listB a b = decide (a = b)
  | [], b => by rw [listB_nil]; cases b <;> simp
  | x :: a, b => by
    rw [listB_cons]
    cases b with
    | nil => simp
    | cons y b =>
      show (match Nat.beq x y with | true => listB a b | false => false) = _
      rw [listB_eq a b, BT.beq_eq]
      by_cases h : x = y <;> simp [h]
noncomputable def strB (a b : Str) : Bool := listB a.cps.toList b.cps.toList
theorem strB_eq (a b : Str) : strB a b = (a == b) := by
  unfold strB
  rw [listB_eq, Bool.eq_iff_iff]
  simp only [decide_eq_true_eq, beq_iff_eq]
  constructor
  · intro h
    cases a; cases b
    simp only [Str.mk.injEq]
    exact Array.toList_inj.mp h
  · rintro rfl; rfl
noncomputable def lookB (n : Str) : List (Str × NameKind) → Option NameKind :=
  List.rec (motive := fun _ => Option NameKind) none (fun p _ ih => match strB n p.1 with | true => some p.2 | false => ih)
theorem lookB_eq (n : Str) : ∀ l : List (Str × NameKind), lookB n l = l.lookup n
  | [] => rfl
  | p :: l => by
    show (match strB n p.1 with | true => some p.2 | false => lookB n l) = _
    rw [strB_eq, lookB_eq n l, List.lookup]
    cases n == p.1 <;> rfl
def superS : Str := ⟨#[115, 117, 112, 101, 114]⟩
def classS : Str := ⟨#[95, 95, 99, 108, 97, 115, 115, 95, 95]⟩
theorem superS_eq : ("super" : Str) = superS := by decide +kernel
theorem classS_eq : ("__class__" : Str) = classS := by decide +kernel
structure SuperCall where
  id : Str
  p0 : Pos
  p1 : Pos
  attr : Str
  apos : Pos
  args : List Expr
  kws : List Keyword
  pos : Pos
  spos : Pos
noncomputable def superOf : Stmt → Option SuperCall
  | .Expr (.Call (.Attribute (.Call (.Name id p0) [] [] p1) attr apos) args kws pos) spos => some ⟨id, p0, p1, attr, apos, args, kws, pos, spos⟩
  | _ => none
noncomputable def isImplicit : Option NameKind → Bool
  | some .globalImplicit => true
  | _ => false
noncomputable def isFree : Option NameKind → Bool
  | some .free => true
  | _ => false
noncomputable def superOk (env : Env) (x : SuperCall) : Bool :=
  match strB x.id superS with
  | true => match strB x.attr classS with
    | false => match isImplicit (lookB superS env.scope.names) with
      | true => match isFree (lookB classS env.scope.names) with
        | true => match env.scope.kind with
          | .function => true
          | _ => false
        | false => false
      | false => false
    | true => false
  | false => false
noncomputable def superT (env : Env) (p1 : Pos) : Sem Value := match env.func with
  | none => .unsupported "super"
  | some f => R.bindR (zw16755525298939948312 (.ref f)) fun fd => match fd.params.posonlyargs with
    | _ :: _ => .unsupported "super"
    | [] => match fd.params.args with
      | [] => .unsupported "super"
      | first :: _ => .ask fun S => match env.code with
        | .ref c => R.bindR (zw6609576154772507232 (.ref c) 2) fun v => match v with
          | .str file _ => match strB S.program.main.file file with
            | true => match lookB superS S.program.main.scope.names with
              | none => .at p1 fun _ => R.bindR (zw8468629109055619292 env superS) fun g => R.bindR (zw8468629109055619292 env classS) fun cls => R.bindR (zw8468629109055619292 env first.arg) fun self => R.bindR (zw10380811246957099773 cls) fun aType =>
                  match aType with
                  | true => match g with
                    | .type T => match strB (Str.ofString T) superS with
                      | true => zw11478286150595567475 (.type T) [cls, self] []
                      | false => .unsupported "super"
                    | _ => .unsupported "super"
                  | false => .unsupported "super"
              | some _ => .unsupported "super"
            | false => .unsupported "super"
          | _ => .unsupported "super"
        | _ => .unsupported "super"
noncomputable def superSt (env : Env) (x : SuperCall) : Sem Flow :=
  .at x.spos fun _ => R.bindR (superT env x.p1) fun ov => .at x.apos.atName fun _ => R.bindR (zw13401596951702201221 (.Call (.Name x.id x.p0) [] [] x.p1) x.attr x.apos x.pos env ov (x.args.length + x.kws.length) (zw4897270859577272712 x.pos (zw13897175071876407860 x.args env)) (zw621762911399731506 x.pos (zw11621922129505618389 x.kws env))) fun v =>
    zw12372662630863984472 (.Call (.Attribute (.Call (.Name x.id x.p0) [] [] x.p1) x.attr x.apos) x.args x.kws x.pos) x.spos v
noncomputable def execA (env : Env) (st : Stmt) : Sem Flow := match superOf st with
  | none => zw12563942051412417395 [st] env
  | some x => match superOk env x with
    | true => superSt env x
    | false => zw12563942051412417395 [st] env
noncomputable def execsA (env : Env) : List Stmt → Sem Flow :=
  List.rec (motive := fun _ => Sem Flow) (.pure .next) (fun st _ ih => R.bindR (execA env st) fun f => match f with | .next => ih | f => .pure f)
noncomputable def anySuper : List Stmt → Bool :=
  List.rec (motive := fun _ => Bool) false (fun st _ ih => match superOf st with | some _ => true | none => ih)
noncomputable def altT (b : List Stmt) (env : Env) : Sem Fin :=
  .point [] fun _ => R.bindR (Sem.onRaise (execsA env b) (zw9442747609961115081 env)) fun f => match f with | .ret v => .pure (.done (.ret v)) | _ => .pure (.done (.ret .none))
noncomputable def enterT (c : Code) : Sem Fin := match c with
  | .call f args => match f with
    | .ref a => .load a none fun o => match o.data with
      | .func fd => funZ a fd args
      | _ => denZ c
    | _ => denZ c
  | .func b env => match anySuper b with
    | true => altT b env
    | false => denZ c
  | _ => denZ c
noncomputable def deepOk (c : Code) (κ : List Kt) (dep : Nat) : Bool := match c with
  | .call f _ => match f with
    | .ref _ => Nat.blt (List.rec (motive := fun _ => Nat) dep (fun f _ ih => Nat.add (zw1243936422450756474 f.c) ih) κ) 1000
    | _ => true
  | _ => true
abbrev RunTy := List Nat → Nat → Code → Option Value → List Kt → Sem Fin → Tab → Nat → Nat → List (Addr × Nat) → Obs → Out
noncomputable def stepR (S : Setting) (K : Nat → Option Obj) (n t d dep : Nat) (ih : RunTy) : RunTy :=
  fun ora calls cc hdl κ tr T m i log ob => match tr with
      | .pure f => match f with
        | .again c => match κ with
          | [] => .fin (.again c) T m i log ob
          | _ :: _ => match zw17772548960776305114 c with
            | true => match deepOk c κ dep with
              | true => ih ora calls c hdl κ (enterT c) T m i log ob
              | false => .stuck 10
            | false => .stuck 11
        | .done r => match κ with
          | [] => .fin (.done r) T m i log ob
          | f :: κ => ih ora calls f.c f.hd κ (f.k (.ok r)) T m i log ob
      | .raise e => match κ with
        | [] => .exc e T m i log ob
        | f :: κ => ih ora calls f.c f.hd κ (f.k (.error e)) T m i log ob
      | .rule _ k => ih ora calls cc hdl κ (k ()) T m i log ob
      | .at _ k => ih ora calls cc hdl κ (k ()) T m i log ob
      | .point _ k => ih ora calls cc hdl κ (k ()) T m i log ob
      | .ask k => ih ora calls cc hdl κ (k S) T m i log ob
      | .handled own k => match own with
        | false => ih ora calls cc hdl κ (k hdl) T m i log ob
        | true => .stuck 2
      | .fresh k => ih ora calls cc hdl κ (k (t + i)) T m (i + 1) log ob
      | .choose _ n k => match n with
        | 0 => .stuck 20
        | n + 1 => match n with
          | 0 => ih ora calls cc hdl κ (k 0) T m i log ob
          | _ + 1 => .stuck 21
      | .load a _ k => match ora with
        | [] => .stuck 3
        | e :: ora => match e with
          | 0 => match K a with
            | some o => ih ora calls cc hdl κ (k o) T m i log ob
            | none => .stuck (a + 1000)
          | j + 1 => match tget T j with
            | some o => ih ora calls cc hdl κ (k o) T m i ((a, j) :: log) ob
            | none => .stuck 5
      | .update a _ f k => match ora with
        | [] => .stuck 6
        | e :: ora => match e with
          | 0 => .stuck 7
          | j + 1 => match tget T j with
            | some o => match (f o).isFreed with
              | false => ih ora calls cc hdl κ (k ()) ((j, f o) :: T) m i ((a, j) :: log) ob
              | true => .stuck 12
            | none => .stuck 8
      | .alloc o k => match o.isFreed with
        | false => ih ora calls cc hdl κ (k (n + m)) ((d + m, o) :: T) (m + 1) i log ob
        | true => .stuck 13
      | .call c' hd _ _ k => match calls with
        | 0 => match κ with
          | [] => .call c' hd k T m i log ob
          | _ :: _ => .stuck 14
        | calls + 1 => match okMark hd with
          | true => match deepOk c' (⟨cc, hdl, k⟩ :: κ) dep with
            | true => ih ora calls c' (hd.or hdl) (⟨cc, hdl, k⟩ :: κ) (enterT c') T m i log ob
            | false => .stuck 15
          | false => .stuck 16
      | .stack k => match κ with
        | [] => .stuck 30
        | _ :: _ => ih ora calls cc hdl κ (k (rehead 0 (pat cc κ (fun _ => pos0) []))) T m i log ((fun y ps rest => k (rehead y (pat cc κ ps rest)), fun _ _ => k (rehead 0 (pat cc κ (fun _ => pos0) []))) :: ob)
      | _ => .stuck 9
noncomputable def run (S : Setting) (K : Nat → Option Obj) (n t d dep : Nat) (fuel : Nat) : RunTy :=
  Nat.rec (motive := fun _ => RunTy) (fun _ _ _ _ _ _ _ _ _ _ _ => .stuck 1) (fun _ ih => stepR S K n t d dep ih) fuel
theorem run_zero (S : Setting) (K : Nat → Option Obj) (n t d dep : Nat) : run S K n t d dep 0 = fun _ _ _ _ _ _ _ _ _ _ _ => .stuck 1 := rfl
theorem run_succ (S : Setting) (K : Nat → Option Obj) (n t d dep fuel : Nat) : run S K n t d dep (fuel + 1) = stepR S K n t d dep (run S K n t d dep fuel) := rfl
end Mine
end
section
open PySem PySem.W PySem.W.X PySem.Calls PyProof.Rows
set_option maxRecDepth 100000
set_option maxHeartbeats 4000000
namespace Mine
open PySem.W.ZFast
def logOf : Out → List (Addr × Nat)
  | .fin _ _ _ _ l _ => l
  | .exc _ _ _ _ l _ => l
  | .call _ _ _ _ _ _ l _ => l
  | .stuck _ => []
def obsOf : Out → Obs
  | .fin _ _ _ _ _ o => o
  | .exc _ _ _ _ _ o => o
  | .call _ _ _ _ _ _ _ o => o
  | .stuck _ => []
def stuckOf : Out → Bool
  | .stuck _ => true
  | _ => false
theorem run_log (S : Setting) (K : Nat → Option Obj) (n t d dep : Nat) : ∀ (fuel : Nat) (ora : List Nat) (calls : Nat) (cc : Code) (hdl : Option Value) (κ : List Kt) (tr : Sem Fin) (T : Tab) (m i : Nat) (log : List (Addr × Nat)) (ob : Obs),
    stuckOf (run S K n t d dep fuel ora calls cc hdl κ tr T m i log ob) = true ∨ ((∀ p ∈ log, p ∈ logOf (run S K n t d dep fuel ora calls cc hdl κ tr T m i log ob)) ∧ ∀ p ∈ ob, p ∈ obsOf (run S K n t d dep fuel ora calls cc hdl κ tr T m i log ob)) := by
  intro fuel
  induction fuel with
  | zero => intro _ _ _ _ _ _ _ _ _ _ _; exact .inl rfl
  | succ fuel ih =>
    intro ora calls cc hdl κ tr T m i log ob
    rw [run_succ]
    unfold stepR
    repeat' (first | exact .inl rfl | exact .inr ⟨fun _ h => h, fun _ h => h⟩ | exact ih _ _ _ _ _ _ _ _ _ _ _ | exact (ih _ _ _ _ _ _ _ _ _ _ _).imp id (fun H => ⟨fun p hp => H.1 p (by first | exact hp | exact List.mem_cons_of_mem _ hp), fun p hp => H.2 p (by first | exact hp | exact List.mem_cons_of_mem _ hp)⟩) | split)
end Mine
end
section
open PySem PySem.W PySem.W.X PySem.Calls PyProof.Rows
set_option maxRecDepth 100000
set_option maxHeartbeats 4000000
namespace Mine
open PySem.W.ZFast
theorem dotLocals_eq : (".<locals>." : Str) = dotLocals := by decide +kernel
theorem fun_sound {M : Model} {B : Around} {Γ : Ctx} (hΓ : Γ.In B) {a : Addr} {fd : FuncData} {args : Args} {Q : Fin → Shared → Prop} {E : Value → Pos → Shared → Prop} {p : Pos} {s : Shared}
    (h : Sem.wp M Γ (funZ a fd args) (fun fin _ s' => s'.heap.NoLimit ∧ Q fin s') E p s) (hd : B.depth < recursionLimit) : Sem.wp M Γ (callFunction a fd args) (fun fin _ s' => Q fin s') E p s := by
  unfold funZ at h
  split at h
  next hg hc =>
    split at h
    next c hcode =>
      rw [Sem.wp_load] at h
      obtain ⟨o, ho, h⟩ := h
      split at h
      next vs hdat =>
        split at h
        next => exact h.elim
        next hl0 l hl =>
          split at h
          next => exact h.elim
          next v l' =>
            split at h
            next q tk =>
              have hv : vs[1]? = some (.str q tk) := by
                rw [← Array.getElem?_toList, hl]; rfl
              rw [← R.bindR_eq, ← ze9782568553167038054, ← ze11113344188204177931, ← ze3133850215942858360, ← dotLocals_eq] at h
              unfold callFunction
              simp only [hcode, hg, hc]
              simp only [field, fieldsOf, Sem.wp_bind', Sem.wp_cmd_load]
              refine ⟨o, ho, ?_⟩
              rw [hdat]
              simp only [hv, Sem.wp_pure', Sem.wp_bind']
              have h : Sem.wp M Γ (bindArgs fd args >>= fun bs => newFunctionEnv fd.scope fd.globals fd.closure bs (q ++ (".<locals>." : Str)) (some a) fd.code none fd.builtins >>= fun env =>
                match fd.body with
                | .stmts b => Sem.pure (.again (.func b env))
                | .expr e => Sem.pure (.again (.expr e env))) (fun fin _ s' => s'.heap.NoLimit ∧ Q fin s') E p s := h
              simp only [Sem.wp_bind', hcode] at h
              refine Sem.wp_mono _ _ _ (fun bs p1 s1 h1 => ?_) (fun _ _ _ h => h) _ _ h
              refine Sem.wp_mono _ _ _ (fun env p2 s2 h2 => ?_) (fun _ _ _ h => h) _ _ h1
              have key : s2.heap.NoLimit ∧ Q (.again (match fd.body with | .stmts b => Code.func b env | .expr e => Code.expr e env)) s2 := by
                revert h2
                cases fd.body <;> exact fun h2 => h2
              exact Sem.wp_mono _ _ _ (fun _ p3 s3 h3 => by subst h3; exact key.2) (fun _ _ _ h => h.elim) _ _ (wpAny_enterFrame (M := M) (E := fun _ _ => False) (Q := fun _ s' => s' = s2) key.1 hd rfl Γ p2 hΓ)
            next => exact h.elim
      next => exact h.elim
    next => exact h.elim
  next => exact h.elim
end Mine
end
section
open PySem PySem.W PySem.W.X PySem.Calls PyProof.Rows
set_option maxRecDepth 100000
set_option maxHeartbeats 4000000
namespace Mine
open PySem.W.ZFast
theorem wp_noComps {M : Model} {Γ : Ctx} {b : List Stmt} {env : Env} (hΓ : Γ.code = .func b env) {Q : List Env → Pos → Shared → Prop} {E : Value → Pos → Shared → Prop} {p : Pos} {s : Shared} (h : Q [] p s) :
    Sem.wp M Γ comprehensionsAround Q E p s := by
  unfold comprehensionsAround callersCodes
  simp only [Sem.wp_bind', PySem.stack, Sem.wp_stack, hΓ]
  show Sem.wp M Γ (if (some env.frame != some env.frame) = true then _ else _) _ _ _ _
  split
  next hc => exact absurd (show (some env.frame != some env.frame) = true from hc) (by simp)
  next => exact h
theorem ofString_inj {a b : String} (h : Str.ofString a = Str.ofString b) : a = b := by
  rw [Str.ofString_eq_toList, Str.ofString_eq_toList, Str.mk.injEq] at h
  have h : a.toList.map Char.toNat = b.toList.map Char.toNat := by simpa using h
  have hi : Function.Injective Char.toNat := fun x y h => Char.ext (UInt32.toNat_inj.mp h)
  exact String.toList_inj.mp ((List.map_inj_right (fun x y h => hi h)).mp h)
theorem super_base {M : Model} {Γ : Ctx} {b : List Stmt} {env : Env} (hΓ : Γ.code = .func b env) {id attr : Str} {p0 p1 : Pos} {whole : Sem Value} (hi : id = superS) (ha : attr ≠ classS)
    (hk : env.scope.names.lookup superS = some .globalImplicit) (hc : env.scope.names.lookup classS = some .free)
    {Q : Value → Pos → Shared → Prop} {E : Value → Pos → Shared → Prop} {p : Pos} {s : Shared} (h : Sem.wp M Γ (superT env p1) Q E p s) :
    Sem.wp M Γ (attributeBase (.Call (.Name id p0) [] [] p1) attr env whole) Q E p s := by
  subst hi
  unfold superT at h
  simp only [← R.bindR_eq, ← ze16755525298939948312, ← ze6609576154772507232, ← ze8468629109055619292, ← ze10380811246957099773, ← ze11478286150595567475] at h
  have ha' : (attr == classS) = false := by simp [ha]
  have hk' : env.kindOf superS = some .globalImplicit := hk
  have hc' : env.kindOf classS = some .free := hc
  unfold attributeBase
  simp only [superS_eq, classS_eq, bne_self_eq_false, ha', hk', hc', Bool.or_false, Bool.or_self, Bool.false_eq_true, if_false]
  split at h
  next => exact h.elim
  next f hf =>
    simp only [hf, Option.isSome_some, if_true, pure_bind, hc', bne_self_eq_false, Bool.false_eq_true, if_false]
    rw [Sem.wp_bind'] at ⊢
    rw [Sem.wp_bind] at h
    refine Sem.wp_mono _ _ _ (fun fd p₁ s₁ h => ?_) (fun _ _ _ h => h) _ _ h
    split at h
    next => exact h.elim
    next hp =>
      split at h
      next => exact h.elim
      next first l hl =>
        simp only [hp, hl, List.nil_append, List.head?_cons]
        rw [Sem.wp_ask] at h
        split at h
        next c hcode =>
          simp only [hcode]
          rw [Sem.wp_bind', Sem.wp_cmd_ask, Sem.wp_bind'] at ⊢
          rw [Sem.wp_bind] at h
          refine Sem.wp_mono _ _ _ (fun v p₂ s₂ h => ?_) (fun _ _ _ h => h) _ _ h
          split at h
          next file tk =>
            split at h
            next hfile =>
              rw [strB_eq] at hfile
              split at h
              next hl =>
                rw [lookB_eq] at hl
                simp only [hfile, if_true]
                show Sem.wp M Γ (if (M.prog.main.scope.names.lookup superS).isSome = true then _ else _ : Sem Value) _ _ _ _
                rw [if_neg (by rw [show M.prog.main.scope.names.lookup superS = none from hl]; simp)]
                simp only [Sem.wp_bind', Sem.wp_cmd_rule, Sem.wp_cmd_standAt]
                rw [Sem.wp_at, Sem.wp_bind] at h
                refine Sem.wp_mono _ _ _ (fun g p₃ s₃ h => ?_) (fun _ _ _ h => h) _ _ h
                rw [Sem.wp_bind] at h
                refine Sem.wp_mono _ _ _ (fun cls p₄ s₄ h => ?_) (fun _ _ _ h => h) _ _ h
                refine wp_noComps hΓ ?_
                rw [Sem.wp_bind] at h
                refine Sem.wp_mono _ _ _ (fun self p₅ s₅ h => ?_) (fun _ _ _ h => h) _ _ h
                rw [Sem.wp_bind] at h
                refine Sem.wp_mono _ _ _ (fun ty p₆ s₆ h => ?_) (fun _ _ _ h => h) _ _ h
                split at h
                next =>
                  cases g with
                  | type T =>
                    cases hT : strB (Str.ofString T) superS with
                    | true =>
                      simp only [hT] at h
                      rw [strB_eq, ← superS_eq] at hT
                      have hT' : T = "super" := ofString_inj (beq_iff_eq.mp hT)
                      subst hT'
                      exact h
                    | false => simp only [hT] at h; exact h.elim
                  | _ => exact h.elim
                next => exact h.elim
              next => exact h.elim
            next => exact h.elim
          next => exact h.elim
        next => exact h.elim
theorem superOk_iff {env : Env} {x : SuperCall} (h : superOk env x = true) : x.id = superS ∧ x.attr ≠ classS ∧ env.scope.names.lookup superS = some .globalImplicit ∧ env.scope.names.lookup classS = some .free ∧ env.scope.kind = .function := by
  unfold superOk at h
  split at h
  next h1 =>
    split at h
    next h2 =>
      split at h
      next h3 =>
        split at h
        next h4 =>
          split at h
          next h5 =>
            rw [strB_eq] at h1 h2
            rw [lookB_eq] at h3 h4
            refine ⟨beq_iff_eq.mp h1, by simpa using h2, ?_, ?_, h5⟩
            · revert h3; cases env.scope.names.lookup superS with
              | none => intro h3; cases h3
              | some k => cases k <;> first | (intro; rfl) | (intro h3; cases h3)
            · revert h4; cases env.scope.names.lookup classS with
              | none => intro h3; cases h3
              | some k => cases k <;> first | (intro; rfl) | (intro h3; cases h3)
          next => cases h
        next => cases h
      next => cases h
    next => cases h
  next => cases h
theorem superOf_eq {st : Stmt} {x : SuperCall} (h : superOf st = some x) : st = .Expr (.Call (.Attribute (.Call (.Name x.id x.p0) [] [] x.p1) x.attr x.apos) x.args x.kws x.pos) x.spos := by
  unfold superOf at h
  split at h
  · cases h; rfl
  · cases h
theorem execs_one {M : Model} {Γ : Ctx} {st : Stmt} {env : Env} {Q : Flow → Pos → Shared → Prop} {E : Value → Pos → Shared → Prop} {p : Pos} {s : Shared} (h : Sem.wp M Γ (execs [st] env) Q E p s) : Sem.wp M Γ (exec st env) Q E p s := by
  have h : Sem.wp M Γ (exec st env >>= fun f => match f with | .next => execs [] env | f => pure f) Q E p s := h
  rw [Sem.wp_bind'] at h
  refine Sem.wp_mono _ _ _ (fun f _ _ h => ?_) (fun _ _ _ h => h) _ _ h
  cases f <;> exact h
theorem execA_sound {M : Model} {Γ : Ctx} {b : List Stmt} {env : Env} (hΓ : Γ.code = .func b env) {st : Stmt} {Q : Flow → Pos → Shared → Prop} {E : Value → Pos → Shared → Prop} {p : Pos} {s : Shared}
    (h : Sem.wp M Γ (execA env st) Q E p s) : Sem.wp M Γ (exec st env) Q E p s := by
  unfold execA at h
  split at h
  next => rw [← ze12563942051412417395] at h; exact execs_one h
  next x hx =>
    split at h
    next hok =>
      obtain ⟨hi, ha, hk, hc, hkind⟩ := superOk_iff hok
      rw [superOf_eq hx]
      unfold superSt at h
      simp only [← R.bindR_eq, ← ze13401596951702201221, ← ze4897270859577272712, ← ze13897175071876407860, ← ze621762911399731506, ← ze11621922129505618389, ← ze12372662630863984472] at h
      have hint : interactive env = false := by unfold interactive; rw [hkind]; rfl
      rw [arm_exec_Expr, hint]
      simp only [Bool.false_eq_true, if_false]
      rw [Sem.wp_bind', Sem.wp_cmd_standAt]
      rw [Sem.wp_at, Sem.wp_bind] at h
      show Sem.wp M Γ (pure false >>= fun b => if b = true then _ else _) _ _ _ _
      rw [Sem.wp_bind', Sem.wp_pure', if_neg (by simp), Sem.wp_bind']
      show Sem.wp M Γ ((attributeBase (.Call (.Name x.id x.p0) [] [] x.p1) x.attr env (eval (.Call (.Name x.id x.p0) [] [] x.p1) env)) >>= fun ov => standAt x.apos.atName >>= fun _ => _) _ _ _ _
      rw [Sem.wp_bind']
      refine super_base hΓ hi ha hk hc (Sem.wp_mono _ _ _ (fun ov p₁ s₁ h => ?_) (fun _ _ _ h => h) _ _ h)
      rw [Sem.wp_bind', Sem.wp_cmd_standAt]
      rw [Sem.wp_at, Sem.wp_bind] at h
      exact h
    next => rw [← ze12563942051412417395] at h; exact execs_one h
theorem execsA_sound {M : Model} {Γ : Ctx} {b : List Stmt} {env : Env} (hΓ : Γ.code = .func b env) : ∀ (l : List Stmt) {Q : Flow → Pos → Shared → Prop} {E : Value → Pos → Shared → Prop} {p : Pos} {s : Shared}
    (_ : Sem.wp M Γ (execsA env l) Q E p s), Sem.wp M Γ (execs l env) Q E p s
  | [], _, _, _, _, h => h
  | st :: l, Q, E, p, s, h => by
    have h : Sem.wp M Γ (R.bindR (execA env st) fun f => match f with | .next => execsA env l | f => .pure f) Q E p s := h
    rw [← R.bindR_eq, Sem.wp_bind] at h
    show Sem.wp M Γ (exec st env >>= fun f => match f with | .next => execs l env | f => pure f) Q E p s
    rw [Sem.wp_bind']
    refine execA_sound hΓ (Sem.wp_mono _ _ _ (fun f p₁ s₁ h => ?_) (fun _ _ _ h => h) _ _ h)
    cases f with
    | next => exact execsA_sound hΓ l h
    | _ => exact h
theorem alt_sound {M : Model} {Γ : Ctx} {b : List Stmt} {env : Env} (hΓ : Γ.code = .func b env) {Q : Fin → Pos → Shared → Prop} {E : Value → Pos → Shared → Prop} {p : Pos} {s : Shared} (h : Sem.wp M Γ (altT b env) Q E p s) :
    Sem.wp M Γ (denote table (.func b env)) Q E p s := by
  unfold altT at h
  rw [Sem.wp_point, ← R.bindR_eq, ← ze9442747609961115081, Sem.wp_bind, Sem.wp_onRaise] at h
  show Sem.wp M Γ (PySem.point >>= fun _ => Sem.onRaise (execs b env) (PySem.«leaving» env) >>= fun f => match f with | .ret v => ret v | _ => ret .none) Q E p s
  rw [Sem.wp_bind', Sem.wp_cmd_point, Sem.wp_bind', Sem.wp_onRaise]
  refine execsA_sound hΓ b (Sem.wp_mono _ _ _ (fun f p₁ s₁ h => ?_) (fun _ _ _ h => h) _ _ h)
  cases f <;> exact h
end Mine
end
section
open PySem PySem.W PySem.W.X PySem.Calls PyProof.Rows
set_option maxRecDepth 100000
set_option maxHeartbeats 4000000
namespace Mine
open PySem.W.ZFast
def isRefCall : Code → Bool
  | .call (.ref _) _ => true
  | _ => false
theorem enter_sound {prog : Program} {w : World} {B : Around} {Γ : Ctx} (hΓ : Γ.In B) {c : Code} (hc : Γ.code = c) {Q : Fin → Shared → Prop} {E : Value → Pos → Shared → Prop} {p : Pos} {s : Shared}
    (h : Sem.wp (model prog w) Γ (enterT c) (fun fin _ s' => s'.heap.NoLimit ∧ Q fin s') E p s) (hd : isRefCall c = true → B.depth < recursionLimit) : Sem.wp (model prog w) Γ (denote table c) (fun fin _ s' => Q fin s') E p s := by
  have other : Sem.wp (model prog w) Γ (denZ c) (fun fin _ s' => s'.heap.NoLimit ∧ Q fin s') E p s → Sem.wp (model prog w) Γ (denote table c) (fun fin _ s' => Q fin s') E p s := fun h => by
    rw [denZ_eq]
    exact Sem.wp_mono _ _ _ (fun _ _ _ x => x.2) (fun _ _ _ x => x) _ _ h
  unfold enterT at h
  split at h
  next f args =>
    split at h
    next a =>
      rw [Sem.wp_load] at h
      obtain ⟨o, ho, h⟩ := h
      split at h
      next fd hfd =>
        have z := fun_sound hΓ h (hd rfl)
        show Sem.wp (model prog w) Γ (callAny (.ref a) args) _ _ p s
        simp only [callAny, Sem.wp_bind', Sem.wp_cmd_load]
        refine ⟨o, ho, ?_⟩
        rw [hfd]
        exact z
      next =>
        rw [denZ_eq]
        exact Sem.wp_mono _ _ _ (fun _ _ _ x => x.2) (fun _ _ _ x => x) _ _ h
    next => exact other h
  next b env =>
    split at h
    next => exact alt_sound hc (Sem.wp_mono _ _ _ (fun _ _ _ x => x.2) (fun _ _ _ x => x) _ _ h)
    next => exact other h
  next => exact other h
structure FrA where
  Γ : Ctx
  p : Pos
  hd : Option Value
  k : Result → Sem Fin
section
variable (M : Model) (Q : Fin → Shared → Prop) (E : Value → Shared → Prop)
mutual
def QK : List FrA → Fin → Shared → Prop
  | [], fin, s => Q fin s
  | f :: κ, fin, s => s.heap.NoLimit ∧ match fin with
      | .done r => Sem.wp M f.Γ (f.k (.ok r)) (fun a _ s => QK κ a s) (fun e _ s => EK κ e s) f.p s
      | .again c => c.quiet = true ∧ ∀ p, wpCode M (f.Γ.enter c f.hd f.p) (fun r s' => Sem.wp M f.Γ (f.k r) (fun a _ s => QK κ a s) (fun e _ s => EK κ e s) f.p s') p s
def EK : List FrA → Value → Shared → Prop
  | [], e, s => E e s
  | f :: κ, e, s => Sem.wp M f.Γ (f.k (.error e)) (fun a _ s => QK κ a s) (fun e _ s => EK κ e s) f.p s
end
def Rest (f : FrA) (φ : List FrA) (r : Result) (s : Shared) : Prop := Sem.wp M f.Γ (f.k r) (fun a _ s => QK M Q E φ a s) (fun e _ s => EK M Q E φ e s) f.p s
theorem QK_nil (fin : Fin) (s : Shared) : QK M Q E [] fin s = Q fin s := by simp only [QK]
theorem EK_nil (e : Value) (s : Shared) : EK M Q E [] e s = E e s := by simp only [EK]
theorem QK_done (f : FrA) (φ : List FrA) (r : Flow) (s : Shared) : QK M Q E (f :: φ) (.done r) s = (s.heap.NoLimit ∧ Rest M Q E f φ (.ok r) s) := by simp only [QK, Rest]
theorem QK_again (f : FrA) (φ : List FrA) (c : Code) (s : Shared) : QK M Q E (f :: φ) (.again c) s = (s.heap.NoLimit ∧ c.quiet = true ∧ ∀ p, wpCode M (f.Γ.enter c f.hd f.p) (Rest M Q E f φ) p s) := by simp only [QK, Rest]; rfl
theorem EK_cons (f : FrA) (φ : List FrA) (e : Value) (s : Shared) : EK M Q E (f :: φ) e s = Rest M Q E f φ (.error e) s := by simp only [EK, Rest]
end
theorem getD_at {l : List Nat} {i : Nat} (h : i < l.length) : l.getD i 0 = l[i] := by simp [List.getD, h]
section
variable (ds : List Nat) (n : Nat)
def adr (i : Nat) : Nat := match Nat.blt i ds.length with | true => ds.getD i 0 | false => n + (i - ds.length)
theorem adr_lt {i : Nat} (h : i < ds.length) : adr ds n i = ds.getD i 0 := by
  unfold adr
  rw [show Nat.blt i ds.length = true from Nat.ble_eq_true_of_le h]
theorem adr_ge {j : Nat} : adr ds n (ds.length + j) = n + j := by
  unfold adr
  have : Nat.blt (ds.length + j) ds.length = false := by
    cases q : Nat.blt (ds.length + j) ds.length with
    | false => rfl
    | true => have := Nat.le_of_ble_eq_true q; omega
  rw [this]
  simp
end
structure Fit (K : Nat → Option Obj) (ds : List Nat) (h₀ : Heap) : Prop where
  low : ∀ a ∈ ds, @LT.lt Nat _ a h₀.objs.size
  nodup : ds.Nodup
  top : ∀ a o, K a = some o → h₀.get? a = some o ∧ a ∉ ds
  nolimit : h₀.NoLimit
  statics : cStatics ∉ ds
structure Inv (ds : List Nat) (h₀ h : Heap) (T : Tab) (m : Nat) : Prop where
  size : h.objs.size = h₀.objs.size + m
  own : ∀ i o, tget T i = some o → i < ds.length + m ∧ h.get? (adr ds h₀.objs.size i) = some o
  keep : ∀ b o, h₀.get? b = some o → b ∉ ds → h.get? b = some o
section
variable {K : Nat → Option Obj} {ds : List Nat} {h₀ h : Heap} {T : Tab} {m : Nat}
theorem Inv.nolimit (F : Fit K ds h₀) (I : Inv ds h₀ h T m) : h.NoLimit := F.nolimit.at fun o e => I.keep _ o e F.statics
theorem Inv.top (F : Fit K ds h₀) (I : Inv ds h₀ h T m) {a : Addr} {o : Obj} (e : K a = some o) : h.get? a = some o := I.keep a o (F.top a o e).1 (F.top a o e).2
theorem adr_inj (F : Fit K ds h₀) {i j : Nat} (hi : i < ds.length + m) (hj : j < ds.length + m) (e : adr ds h₀.objs.size i = adr ds h₀.objs.size j) : i = j := by
  rcases Nat.lt_or_ge i ds.length with a | a <;> rcases Nat.lt_or_ge j ds.length with b | b
  · rw [adr_lt ds _ a, adr_lt ds _ b] at e
    rw [getD_at a, getD_at b] at e
    have P := List.pairwise_iff_getElem.mp F.nodup
    rcases Nat.lt_trichotomy i j with q | q | q
    · exact absurd e (P i j a b q)
    · exact q
    · exact absurd e.symm (P j i b a q)
  · obtain ⟨k, rfl⟩ := Nat.exists_eq_add_of_le b
    rw [adr_lt ds _ a, adr_ge] at e
    have := F.low _ (List.getElem_mem a)
    rw [getD_at a] at e
    omega
  · obtain ⟨k, rfl⟩ := Nat.exists_eq_add_of_le a
    rw [adr_lt ds _ b, adr_ge] at e
    have := F.low _ (List.getElem_mem b)
    rw [getD_at b] at e
    omega
  · obtain ⟨k, rfl⟩ := Nat.exists_eq_add_of_le a
    obtain ⟨l, rfl⟩ := Nat.exists_eq_add_of_le b
    rw [adr_ge, adr_ge] at e
    omega
theorem Inv.alloc (I : Inv ds h₀ h T m) {o : Obj} (hf : o.isFreed = false) : Inv ds h₀ (h.push o) ((ds.length + m, o) :: T) (m + 1) := by
  refine ⟨by rw [Heap.size_push, I.size, Nat.add_assoc], fun i o' e => ?_, fun b o' e hb => Heap.get?_push_of_some _ (I.keep b o' e hb)⟩
  rw [tget_cons] at e
  by_cases hi : ds.length + m = i
  · rw [if_pos hi] at e
    cases e
    subst hi
    refine ⟨by omega, ?_⟩
    rw [adr_ge, ← I.size]
    exact Heap.get?_push_size _ hf
  · rw [if_neg hi] at e
    have z := I.own i o' e
    exact ⟨by omega, Heap.get?_push_of_some _ z.2⟩
theorem Inv.update (F : Fit K ds h₀) (I : Inv ds h₀ h T m) {j : Nat} {o : Obj} {f : Obj → Obj} (e : tget T j = some o) (hf : (f o).isFreed = false) :
    Inv ds h₀ (h.update (adr ds h₀.objs.size j) f) ((j, f o) :: T) m := by
  have z := I.own j o e
  refine ⟨by rw [Heap.size_after_update, I.size], fun i o' e' => ?_, fun b o' e' hb => ?_⟩
  · rw [tget_cons] at e'
    by_cases hi : j = i
    · subst hi
      rw [if_pos rfl] at e'
      cases e'
      exact ⟨z.1, Heap.get?_update_self f z.2 hf⟩
    · rw [if_neg hi] at e'
      have y := I.own i o' e'
      refine ⟨y.1, ?_⟩
      rw [Heap.get?_update_other _ _ (fun q => hi (adr_inj F z.1 y.1 q))]
      exact y.2
  · rw [Heap.get?_update_other]
    · exact I.keep b o' e' hb
    · rintro rfl
      rcases Nat.lt_or_ge j ds.length with a | a
      · apply hb
        rw [adr_lt ds _ a, getD_at a]
        exact List.getElem_mem a
      · obtain ⟨k, rfl⟩ := Nat.exists_eq_add_of_le a
        rw [adr_ge] at e'
        have : @LT.lt Nat _ (h₀.objs.size + k) h₀.objs.size := Heap.lt_size e'
        omega
end
end Mine
end
section
open PySem PySem.W PySem.W.X PySem.Calls PyProof.Rows
set_option maxRecDepth 100000
set_option maxHeartbeats 4000000
namespace Mine
open PySem.W.ZFast
noncomputable def deepSum (dep : Nat) (κ : List Kt) : Nat := List.rec (motive := fun _ => Nat) dep (fun f _ ih => Nat.add (zw1243936422450756474 f.c) ih) κ
theorem deepSum_cons (dep : Nat) (f : Kt) (κ : List Kt) : deepSum dep (f :: κ) = f.c.weight + deepSum dep κ := by
  show Nat.add (zw1243936422450756474 f.c) (deepSum dep κ) = _
  rw [← ze1243936422450756474]; rfl
theorem mark_ne {hd : Option Value} (h : okMark hd = true) : hd ≠ some byPass := by
  intro e
  subst e
  simp [okMark] at h
inductive Al (A : Around) : List Kt → List FrA → Ctx → Around → Code → Option Value → Prop
  | nil (cc : Code) {Γ : Ctx} (h : Γ.In A) : Al A [] [] Γ A cc A.handled
  | cons {κ : List Kt} {φ : List FrA} {Γ : Ctx} {B : Around} {cc : Code} {hdl : Option Value} (c' : Code) (p : Pos) (hd : Option Value) (k : Result → Sem Fin) (hnb : okMark hd = true) :
      Al A κ φ Γ B cc hdl → Al A (⟨cc, hdl, k⟩ :: κ) (⟨Γ, p, hd, k⟩ :: φ) (Γ.enter c' hd p) ((B.mark hd).under c') c' (hd.or hdl)
section
variable {A : Around} {κ : List Kt} {φ : List FrA} {Γ : Ctx} {B : Around} {cc : Code} {hdl : Option Value} {dep : Nat}
theorem Al.inB (x : Al A κ φ Γ B cc hdl) : Γ.In B := by
  induction x with
  | nil cc h => exact h
  | cons c' p hd k hnb _ ih => exact (ih.enter c' hd p (mark_ne hnb)).in
theorem Al.handled (x : Al A κ φ Γ B cc hdl) : B.handled = hdl := by
  induction x with
  | nil => rfl
  | cons c' p hd k _ _ ih => rw [← ih]; rfl
theorem Al.deep (hA : A.depth ≤ dep) (x : Al A κ φ Γ B cc hdl) : B.depth ≤ deepSum dep κ + cc.weight := by
  induction x with
  | nil => exact Nat.le_trans hA (Nat.le_add_right _ _)
  | cons c' p hd k _ _ ih =>
    rw [deepSum_cons]
    show _ + c'.weight ≤ _
    have : ∀ (B : Around), (B.mark hd).depth = B.depth := fun _ => rfl
    rw [this]
    simp only
    omega
theorem Al.stack (x : Al A κ φ Γ B cc hdl) : κ ≠ [] → ∀ p : Pos, ∃ (ps : Nat → Pos) (rest : List (Code × Pos)), (Γ.code, p) :: Γ.below = pat cc κ ps rest := by
  induction x with
  | nil => intro hk; exact absurd rfl hk
  | @cons κ φ Γ B cc hdl c' p' hd k _ x ih =>
    intro _ p
    cases x with
    | nil cc h => exact ⟨fun _ => p, (Γ.code, p') :: Γ.below, rfl⟩
    | @cons κ φ Γ B cc hdl c'' p'' hd' k' _ x =>
      obtain ⟨ps, rest, e⟩ := ih (by simp) p'
      refine ⟨fun j => match j with | 0 => p | j + 1 => ps j, rest, ?_⟩
      exact congrArg (List.cons (c', p)) e
end
end Mine
end
section
open PySem PySem.W PySem.W.X PySem.Calls PyProof.Rows
set_option maxRecDepth 100000
set_option maxHeartbeats 4000000
namespace Mine
open PySem.W.ZFast
section
variable (M : Model) (A : Around) (Q : Fin → Shared → Prop) (E : Value → Shared → Prop) (ds : List Nat) (h₀ : Heap) (g : Array GenState) (t : Nat) (os : OsState)
def LogOk (log : List (Addr × Nat)) : Prop := ∀ p ∈ log, p.1 = adr ds h₀.objs.size p.2
def ObOk (ob : Obs) : Prop := ∀ p ∈ ob, ∀ y, p.1 y = p.2
theorem ObOk.of {ob : Obs} (h0 : ob.map (fun p => p.1 0) = ob.map (fun p => p.2)) (hs : ob.map (fun p y => p.1 (y + 1)) = ob.map (fun p => p.1)) : ObOk ob := by
  induction ob with
  | nil => intro p hp; cases hp
  | cons q ob ih =>
    simp only [List.map_cons, List.cons.injEq] at h0 hs
    intro p hp y
    cases hp with
    | head =>
      induction y with
      | zero => exact h0.1
      | succ y iy => rw [← iy]; exact congrFun hs.1 y
    | tail _ hp => exact ih h0.2 hs.2 p hp y
def Good : Out → Prop
  | .fin f T m i log ob => LogOk ds h₀ log ∧ ObOk ob ∧ ∀ h dr, Inv ds h₀ h T m → Q f ⟨h, g, dr, t + i, os⟩
  | .exc e T m i log ob => LogOk ds h₀ log ∧ ObOk ob ∧ ∀ h dr, Inv ds h₀ h T m → E e ⟨h, g, dr, t + i, os⟩
  | .call c hd k T m i log ob => LogOk ds h₀ log ∧ ObOk ob ∧ okMark hd = true ∧ ∀ h dr, Inv ds h₀ h T m → codeAny M (A.mark hd) c (fun r s' => wpAny M A (k r) Q E s') ⟨h, g, dr, t + i, os⟩
  | .stuck _ => False
end
section
variable {prog : Program} {w : World} {A : Around} {Q : Fin → Shared → Prop} {E : Value → Shared → Prop} {ds : List Nat} {h₀ : Heap} {g : Array GenState} {t : Nat} {os : OsState} {K : Nat → Option Obj} {dep : Nat}
theorem Good.log {o : Out} (G : Good (model prog w) A Q E ds h₀ g t os o) : LogOk ds h₀ (logOf o) := by
  cases o with
  | fin => exact G.1
  | exc => exact G.1
  | call => exact G.1
  | stuck => exact G.elim
theorem Good.ob {o : Out} (G : Good (model prog w) A Q E ds h₀ g t os o) : ObOk (obsOf o) := by
  cases o with
  | fin => exact G.2.1
  | exc => exact G.2.1
  | call => exact G.2.1
  | stuck => exact G.elim
theorem Good.not_stuck {o : Out} (G : Good (model prog w) A Q E ds h₀ g t os o) : stuckOf o = false := by
  cases o with
  | stuck => exact G.elim
  | _ => rfl
theorem weight_call (f : Value) (a : Args) : (Code.call f a).weight = 0 := rfl
theorem deepOk_lt {κ φ Γ B c hdl} (hA : A.depth ≤ dep) (x : Al A κ φ Γ B c hdl) (ok : deepOk c κ dep = true) (hr : isRefCall c = true) : B.depth < recursionLimit := by
  have z := x.deep hA
  unfold isRefCall at hr
  split at hr
  next a args =>
    rw [weight_call] at z
    have : deepSum dep κ < 1000 := Nat.le_of_ble_eq_true ok
    show _ < 1000
    omega
  next => cases hr
theorem code_in {B : Around} {Γ : Ctx} {c : Code} {hd : Option Value} {p p' : Pos} {k : Result → Sem Fin} {φ : List FrA} {s : Shared} (hΓ : (Γ.enter c hd p).In B)
    (h : Sem.wp (model prog w) (Γ.enter c hd p) (enterT c) (fun a _ s => QK (model prog w) Q E (⟨Γ, p, hd, k⟩ :: φ) a s) (fun e _ s => EK (model prog w) Q E (⟨Γ, p, hd, k⟩ :: φ) e s) p' s)
    (hd' : isRefCall c = true → B.depth < recursionLimit) :
    wpCode (model prog w) (Γ.enter c hd p) (Rest (model prog w) Q E ⟨Γ, p, hd, k⟩ φ) p' s := by
  rw [wpCode_iff_wp]
  refine Sem.wp_mono _ _ _ (fun fin p'' s' x => ?_) (fun _ _ _ x => x) _ _ (enter_sound (hc := rfl) (Q := fun fin s' => match fin with
      | .done r => Rest (model prog w) Q E ⟨Γ, p, hd, k⟩ φ (.ok r) s'
      | .again c => c.quiet = true ∧ ∀ p'', wpCode (model prog w) (Γ.enter c hd p) (Rest (model prog w) Q E ⟨Γ, p, hd, k⟩ φ) p'' s')
    (E := fun e _ s' => Rest (model prog w) Q E ⟨Γ, p, hd, k⟩ φ (.error e) s') hΓ
    (Sem.wp_mono _ _ _ (fun fin p'' s' x => ?_) (fun e _ s' x => by rw [EK_cons] at x; exact x) _ _ h) hd')
  · cases fin with
    | done r => exact x
    | again c => exact ⟨x.1, x.2 p''⟩
  · cases fin with
    | done r => rw [QK_done] at x; exact x
    | again c => rw [QK_again] at x; exact x
theorem run_sound (F : Fit K ds h₀) (hA : A.depth ≤ dep) : ∀ (fuel : Nat) (ora : List Nat) (calls : Nat) (cc : Code) (hdl : Option Value) (κ : List Kt) (tr : Sem Fin) (T : Tab) (m i : Nat) (log : List (Addr × Nat)) (ob : Obs) (φ : List FrA) (Γ : Ctx) (B : Around) (h : Heap) (dr : Drawn) (p : Pos),
    Good (model prog w) A Q E ds h₀ g t os (run ⟨prog, w.params⟩ K h₀.objs.size t ds.length dep fuel ora calls cc hdl κ tr T m i log ob) → Inv ds h₀ h T m → Al A κ φ Γ B cc hdl →
    Sem.wp (model prog w) Γ tr (fun a _ s => QK (model prog w) Q E φ a s) (fun e _ s => EK (model prog w) Q E φ e s) p ⟨h, g, dr, t + i, os⟩ := by
  intro fuel
  induction fuel with
  | zero => intro _ _ _ _ _ _ _ _ _ _ _ _ _ _ _ _ _ G; exact G.elim
  | succ fuel ih =>
    intro ora calls cc hdl κ tr T m i log ob φ Γ B h dr p G I L
    rw [run_succ] at G
    cases tr with
    | pure fin =>
      rw [Sem.wp_pure]
      cases fin with
      | again c =>
        cases L with
        | nil => rw [QK_nil]; exact G.2.2 h dr I
        | @cons κ φ Γ B cc hdl c' p' hd k hnb L =>
          simp only [stepR] at G
          split at G
          next hq =>
            split at G
            next hdp =>
              rw [QK_again]
              refine ⟨I.nolimit F, ?_, fun p'' => ?_⟩
              · rw [ze17772548960776305114]; exact hq
              · have L' : Al A (⟨cc, hdl, k⟩ :: κ) (⟨Γ, p', hd, k⟩ :: φ) (Γ.enter c hd p') ((B.mark hd).under c) c (hd.or hdl) := .cons c p' hd k hnb L
                exact code_in L'.inB (ih _ _ _ _ _ _ _ _ _ _ _ _ _ _ _ _ _ G I L') fun hr => deepOk_lt hA L' hdp hr
            next => exact G.elim
          next => exact G.elim
      | done r =>
        cases L with
        | nil => rw [QK_nil]; exact G.2.2 h dr I
        | @cons κ φ Γ B cc hdl c' p' hd k hnb L =>
          rw [QK_done]
          exact ⟨I.nolimit F, ih _ _ _ _ _ _ _ _ _ _ _ _ _ _ _ _ _ G I L⟩
    | raise e =>
      rw [Sem.wp_raise]
      cases L with
      | nil => rw [EK_nil]; exact G.2.2 h dr I
      | @cons κ φ Γ B cc hdl c' p' hd k hnb L =>
        rw [EK_cons]
        exact ih _ _ _ _ _ _ _ _ _ _ _ _ _ _ _ _ _ G I L
    | rule _ k => rw [Sem.wp_rule]; exact ih _ _ _ _ _ _ _ _ _ _ _ _ _ _ _ _ _ G I L
    | «at» _ k => rw [Sem.wp_at]; exact ih _ _ _ _ _ _ _ _ _ _ _ _ _ _ _ _ _ G I L
    | point _ k => rw [Sem.wp_point]; exact ih _ _ _ _ _ _ _ _ _ _ _ _ _ _ _ _ _ G I L
    | ask k => rw [Sem.wp_ask]; exact ih _ _ _ _ _ _ _ _ _ _ _ _ _ _ _ _ _ G I L
    | handled own k =>
      cases own with
      | true => exact G.elim
      | false =>
        have e : (if false = true then Γ.own else Γ.handled) = hdl := by
          rw [if_neg (by simp), L.inB.1, L.handled]
        rw [Sem.wp]
        rw [e]
        exact ih _ _ _ _ _ _ _ _ _ _ _ _ _ _ _ _ _ G I L
    | fresh k => rw [Sem.wp_fresh]; exact ih _ _ _ _ _ _ _ _ _ _ _ _ _ _ _ _ _ G I L
    | choose src k' k =>
      cases k' with
      | zero => exact G.elim
      | succ k' =>
        cases k' with
        | succ _ => exact G.elim
        | zero =>
          rw [Sem.wp_choose]
          refine ⟨by decide, ?_⟩
          rw [show ((model prog w).w.draws src ((⟨h, g, dr, t + i, os⟩ : Shared).drawn.get src) % (0 + 1)) = 0 from Nat.mod_one _]
          exact ih _ _ _ _ _ _ _ _ _ _ _ _ _ _ _ _ _ G I L
    | load a part k =>
      simp only [stepR] at G
      rw [Sem.wp_load]
      split at G
      next => exact G.elim
      next e ora =>
        split at G
        next =>
          split at G
          next o ho => exact ⟨o, I.top F ho, ih _ _ _ _ _ _ _ _ _ _ _ _ _ _ _ _ _ G I L⟩
          next => exact G.elim
        next j =>
          split at G
          next o ho =>
            have hl := run_log ⟨prog, w.params⟩ K h₀.objs.size t ds.length dep fuel ora calls cc hdl κ (k o) T m i ((a, j) :: log) ob
            rw [G.not_stuck] at hl
            have ea : a = adr ds h₀.objs.size j := G.log _ ((hl.resolve_left (by simp)).1 _ (.head _))
            exact ⟨o, by rw [ea]; exact (I.own _ _ ho).2, ih _ _ _ _ _ _ _ _ _ _ _ _ _ _ _ _ _ G I L⟩
          next => exact G.elim
    | update a part f k =>
      simp only [stepR] at G
      rw [Sem.wp_update]
      split at G
      next => exact G.elim
      next e ora =>
        split at G
        next => exact G.elim
        next j =>
          split at G
          next o ho =>
            split at G
            next hf =>
              have hl := run_log ⟨prog, w.params⟩ K h₀.objs.size t ds.length dep fuel ora calls cc hdl κ (k ()) ((j, f o) :: T) m i ((a, j) :: log) ob
              rw [G.not_stuck] at hl
              have ea : a = adr ds h₀.objs.size j := G.log _ ((hl.resolve_left (by simp)).1 _ (.head _))
              have I' := I.update F ho hf
              have hg : (⟨h, g, dr, t + i, os⟩ : Shared).heap.get? a = some o := by rw [ea]; exact (I.own _ _ ho).2
              refine ⟨by rw [hg]; rfl, ?_⟩
              rw [ea]
              exact ih _ _ _ _ _ _ _ _ _ _ _ _ _ _ _ _ _ G I' L
            next => exact G.elim
          next => exact G.elim
    | alloc o k =>
      simp only [stepR] at G
      rw [Sem.wp_alloc]
      split at G
      next hf =>
        have I' := I.alloc hf
        rw [show (⟨h, g, dr, t + i, os⟩ : Shared).heap.objs.size = h₀.objs.size + m from I.size]
        exact ih _ _ _ _ _ _ _ _ _ _ _ _ _ _ _ _ _ G I' L
      next => exact G.elim
    | stack k =>
      simp only [stepR] at G
      rw [Sem.wp]
      split at G
      next => exact G.elim
      next f κ =>
        have hl := run_log ⟨prog, w.params⟩ K h₀.objs.size t ds.length dep fuel ora calls cc hdl (f :: κ) (k (rehead 0 (pat cc (f :: κ) (fun _ => pos0) []))) T m i log ((fun y ps rest => k (rehead y (pat cc (f :: κ) ps rest)), fun _ _ => k (rehead 0 (pat cc (f :: κ) (fun _ => pos0) []))) :: ob)
        rw [G.not_stuck] at hl
        obtain ⟨ps, rest, es⟩ := L.stack (by simp) p
        rw [es]
        have eo := G.ob _ ((hl.resolve_left (by simp)).2 _ (.head _)) (headFrame (pat cc (f :: κ) ps rest))
        have := congrFun (congrFun eo ps) rest
        simp only [rehead_head] at this
        rw [this]
        exact ih _ _ _ _ _ _ _ _ _ _ _ _ _ _ _ _ _ G I L
    | call c' hd gd l k =>
      simp only [stepR] at G
      rw [Sem.wp_call]
      split at G
      next =>
        cases L with
        | nil cc hΓ =>
          have G' := G.2.2.2 h dr I
          refine wpCode_mono (fun r s' x => ?_) (G' (Γ.enter c' hd p) p rfl (hΓ.enter c' hd p (mark_ne G.2.2.1)))
          refine Sem.wp_mono _ _ _ (fun fin _ s'' y => by rw [QK_nil]; exact y) (fun e _ s'' y => by rw [EK_nil]; exact y) _ _ (x Γ p hΓ)
        | cons => exact G.elim
      next calls =>
        split at G
        next hm =>
          split at G
          next hdp =>
            have L' : Al A (⟨cc, hdl, k⟩ :: κ) (⟨Γ, p, hd, k⟩ :: φ) (Γ.enter c' hd p) ((B.mark hd).under c') c' (hd.or hdl) := .cons c' p hd k hm L
            exact code_in L'.inB (ih _ _ _ _ _ _ _ _ _ _ _ _ _ _ _ _ _ G I L') fun hr => deepOk_lt hA L' hdp hr
          next => exact G.elim
        next => exact G.elim
    | _ => exact G.elim
end
end Mine
end
section
open PySem PySem.W PySem.W.X PySem.Calls PyProof.Rows
set_option maxRecDepth 100000
set_option maxHeartbeats 4000000
namespace Mine
open PySem.W.ZFast
def mkP (P : Params) (b1 b2 b3 : Bool) : Params := { P with followText := fun s => if s = "special-get-raises" then b1 else if s = "comprehension-iter-twice" then b2 else if s = "set-order" then b3 else P.followText s }
abbrev pw : Program := PySem.Challenge.pw_ae6006_01
def topMask : Nat := 463168355223834365445092988466339517715490641462644160634940224879425002471423
noncomputable def Ktop (P : Params) (a : Nat) : Option Obj := match Nat.beq (Nat.land (Nat.shiftRight topMask a) 1) 1 with
  | true => (tp.tree_280 P).get a
  | false => none
def tabFrom : Nat → List Obj → Tab
  | _, [] => []
  | i, o :: os => (i, o) :: tabFrom (i + 1) os
theorem tget_tabFrom : ∀ (os : List Obj) (i j : Nat) (o : Obj), tget (tabFrom i os) j = some o → i ≤ j ∧ os[j - i]? = some o
  | [], _, _, _, h => by cases h
  | p :: os, i, j, o, h => by
    rw [tabFrom, tget_cons] at h
    by_cases e : i = j
    · rw [if_pos e] at h
      cases h
      subst e
      exact ⟨Nat.le_refl _, by simp⟩
    · rw [if_neg e] at h
      obtain ⟨h1, h2⟩ := tget_tabFrom os (i + 1) j o h
      refine ⟨by omega, ?_⟩
      have : j - i = (j - (i + 1)) + 1 := by omega
      rw [this, List.getElem?_cons_succ]
      exact h2
theorem inv_start {ds : List Nat} {os : List Obj} {h : Heap} (hl : os.length = ds.length) (hs : ∀ i (h1 : i < ds.length) (h2 : i < os.length), h.get? ds[i] = some os[i]) : Inv ds h h (tabFrom 0 os) 0 := by
  refine ⟨rfl, fun i o e => ?_, fun b o e _ => e⟩
  obtain ⟨_, e⟩ := tget_tabFrom os 0 i o e
  rw [Nat.sub_zero] at e
  obtain ⟨h1, h2⟩ := List.getElem?_eq_some_iff.mp e
  have h3 : i < ds.length := hl ▸ h1
  refine ⟨by omega, ?_⟩
  rw [adr_lt ds _ h3, getD_at h3, hs i h3 h1, h2]
theorem run_any {w : World} {A : Around} {Q : Fin → Shared → Prop} {E : Value → Shared → Prop} {ds : List Nat} {os : List Obj} {h : Heap} {g : Array GenState} {dr : Drawn} {t : Nat} {o : OsState} {K : Nat → Option Obj} {dep : Nat} {fuel : Nat} {ora : List Nat} {calls : Nat} {cc : Code} {tr : Sem Fin}
    (F : Fit K ds h) (hA : A.depth ≤ dep) (hl : os.length = ds.length) (hs : ∀ i (h1 : i < ds.length) (h2 : i < os.length), h.get? ds[i] = some os[i])
    (G : Good (model pw w) A Q E ds h g t o (run ⟨pw, w.params⟩ K h.objs.size t ds.length dep fuel ora calls cc A.handled [] tr (tabFrom 0 os) 0 0 [] [])) :
    wpAny (model pw w) A tr Q E ⟨h, g, dr, t, o⟩ := fun Γ p hΓ => by
  have z := run_sound F hA fuel ora calls cc A.handled [] tr (tabFrom 0 os) 0 0 [] [] [] Γ A h dr p G (inv_start hl hs) (.nil cc hΓ)
  refine Sem.wp_mono _ _ _ (fun fin _ s y => by rw [QK_nil] at y; exact y) (fun e _ s y => by rw [EK_nil] at y; exact y) _ _ z
end Mine
end
section
open PySem PySem.W PySem.W.X PySem.Calls PyProof.Rows
set_option maxRecDepth 100000
set_option maxHeartbeats 4000000
namespace Mine
open PySem.W.ZFast
noncomputable def dec : Nat → Nat → List Nat :=
  fun f => Nat.rec (motive := fun _ => Nat → List Nat) (fun _ => []) (fun _ ih x => Nat.mod x 256 :: ih (Nat.div x 256)) f
def isFin : Out → Bool
  | .fin .. => true
  | _ => false
def isExc : Out → Bool
  | .exc .. => true
  | _ => false
def isCall : Out → Bool
  | .call _ hd _ _ _ _ _ _ => okMark hd
  | _ => false
def finOf : Out → Fin
  | .fin f _ _ _ _ _ => f
  | _ => .done .next
def excOf : Out → Value
  | .exc e _ _ _ _ _ => e
  | _ => .none
def tabOf : Out → Tab
  | .fin _ T _ _ _ _ => T
  | .exc _ T _ _ _ _ => T
  | .call _ _ _ T _ _ _ _ => T
  | .stuck _ => []
def numOf : Out → Nat
  | .fin _ _ m _ _ _ => m
  | .exc _ _ m _ _ _ => m
  | .call _ _ _ _ m _ _ _ => m
  | .stuck _ => 0
def tokOf : Out → Nat
  | .fin _ _ _ i _ _ => i
  | .exc _ _ _ i _ _ => i
  | .call _ _ _ _ _ i _ _ => i
  | .stuck _ => 0
def codeOf : Out → Code
  | .call c _ _ _ _ _ _ _ => c
  | _ => .func [] default
def hdOf : Out → Option Value
  | .call _ hd _ _ _ _ _ _ => hd
  | _ => none
noncomputable def treeOf : Out → Result → Sem Fin
  | .call _ _ k _ _ _ _ _ => k
  | _ => fun _ => .unsupported ""
def Fine (ds : List Nat) (n : Nat) (o : Out) : Prop :=
  (logOf o).map (·.1) = (logOf o).map (fun p => adr ds n p.2) ∧ (obsOf o).map (fun p => p.1 0) = (obsOf o).map (fun p => p.2) ∧ (obsOf o).map (fun p y => p.1 (y + 1)) = (obsOf o).map (fun p => p.1)
theorem logOk_of {ds : List Nat} {h₀ : Heap} {log : List (Addr × Nat)} (h : log.map (·.1) = log.map (fun p => adr ds h₀.objs.size p.2)) : LogOk ds h₀ log := by
  intro p hp
  have := List.map_inj_left.mp h
  exact this p hp
section
variable {M : Model} {A : Around} {Q : Fin → Shared → Prop} {E : Value → Shared → Prop} {ds : List Nat} {h₀ : Heap} {g : Array GenState} {t : Nat} {os : OsState}
theorem good_fin {out : Out} (hk : isFin out = true) (F : Fine ds h₀.objs.size out) (hQ : ∀ h dr, Inv ds h₀ h (tabOf out) (numOf out) → Q (finOf out) ⟨h, g, dr, t + tokOf out, os⟩) : Good M A Q E ds h₀ g t os out := by
  cases out with
  | fin f T m i log ob => exact ⟨logOk_of F.1, ObOk.of F.2.1 F.2.2, hQ⟩
  | _ => cases hk
theorem good_exc {out : Out} (hk : isExc out = true) (F : Fine ds h₀.objs.size out) (hQ : ∀ h dr, Inv ds h₀ h (tabOf out) (numOf out) → E (excOf out) ⟨h, g, dr, t + tokOf out, os⟩) : Good M A Q E ds h₀ g t os out := by
  cases out with
  | exc f T m i log ob => exact ⟨logOk_of F.1, ObOk.of F.2.1 F.2.2, hQ⟩
  | _ => cases hk
theorem good_call {out : Out} (hk : isCall out = true) (F : Fine ds h₀.objs.size out)
    (hQ : ∀ h dr, Inv ds h₀ h (tabOf out) (numOf out) → codeAny M (A.mark (hdOf out)) (codeOf out) (fun r s' => wpAny M A (treeOf out r) Q E s') ⟨h, g, dr, t + tokOf out, os⟩) : Good M A Q E ds h₀ g t os out := by
  cases out with
  | call c hd k T m i log ob => exact ⟨logOk_of F.1, ObOk.of F.2.1 F.2.2, hk, hQ⟩
  | _ => cases hk
end
theorem Inv.get {ds : List Nat} {h₀ h : Heap} {T : Tab} {m : Nat} (I : Inv ds h₀ h T m) {i : Nat} {o : Obj} (e : tget T i = some o) : h.get? (adr ds h₀.objs.size i) = some o := (I.own i o e).2
theorem Inv.same {ds : List Nat} {h₀ h : Heap} {T : Tab} {m : Nat} (I : Inv ds h₀ h T m) {b : Nat} {o : Obj} (e : h₀.get? b = some o) (hd : ∀ i (hi : i < ds.length), ds[i] = b → tget T i = some o) : h.get? b = some o := by
  by_cases hb : b ∈ ds
  · obtain ⟨i, hi, rfl⟩ := List.getElem_of_mem hb
    have := I.get (hd i hi rfl)
    rwa [adr_lt ds _ hi, getD_at hi] at this
  · exact I.keep b o e hb
noncomputable def flowT (t : Sem Flow) : Sem Fin := R.bindR t fun f => .pure (.done f)
noncomputable def valT (t : Sem Value) : Sem Fin := R.bindR t fun v => .pure (.done (.ret v))
noncomputable def boolT (t : Sem Bool) : Sem Fin := R.bindR t fun v => match v with | true => .pure (.done .next) | false => .pure (.done .brk)
section
variable {M : Model} {A : Around} {E : Value → Shared → Prop} {s : Shared}
theorem wpAny_flowT {t : Sem Flow} {Q : Flow → Shared → Prop} (h : wpAny M A (flowT t) (fun fin s' => match fin with | .done f => Q f s' | .again _ => False) E s) : wpAny M A t Q E s := fun Γ p hΓ => by
  have := h Γ p hΓ
  unfold flowT at this
  rw [← R.bindR_eq, Sem.wp_bind] at this
  exact this
theorem wpAny_valT {t : Sem Value} {Q : Value → Shared → Prop} (h : wpAny M A (valT t) (fun fin s' => match fin with | .done (.ret v) => Q v s' | _ => False) E s) : wpAny M A t Q E s := fun Γ p hΓ => by
  have := h Γ p hΓ
  unfold valT at this
  rw [← R.bindR_eq, Sem.wp_bind] at this
  exact this
theorem wpAny_boolT {t : Sem Bool} {Q : Bool → Shared → Prop} (h : wpAny M A (boolT t) (fun fin s' => match fin with | .done .next => Q true s' | .done .brk => Q false s' | _ => False) E s) : wpAny M A t Q E s := fun Γ p hΓ => by
  have := h Γ p hΓ
  unfold boolT at this
  rw [← R.bindR_eq, Sem.wp_bind] at this
  refine Sem.wp_mono _ _ _ (fun b _ _ h => ?_) (fun _ _ _ h => h) _ _ this
  cases b <;> exact h
theorem wp_execs_append {env : Env} {l₂ : List Stmt} {Q : Flow → Shared → Prop} {Γ : Ctx} (hΓ : Γ.In A) : ∀ (l₁ : List Stmt) {p : Pos} {s : Shared}, Sem.wp M Γ (execs l₁ env) (fun f _ s' => match f with | .next => wpAny M A (execs l₂ env) Q E s' | f => Q f s') (fun e _ s' => E e s') p s →
    Sem.wp M Γ (execs (l₁ ++ l₂) env) (fun f _ s' => Q f s') (fun e _ s' => E e s') p s
  | [], p, s, h => (show wpAny M A (execs l₂ env) Q E s from h) Γ p hΓ
  | st :: l₁, p, s, h => by
    rw [execs_cons, Sem.wp_bind'] at h
    show Sem.wp M Γ (execs (st :: (l₁ ++ l₂)) env) _ _ p s
    rw [execs_cons, Sem.wp_bind']
    refine Sem.wp_mono M Γ _ (fun f p' s' h' => ?_) (fun _ _ _ h' => h') _ _ h
    cases f with
    | next => exact wp_execs_append hΓ l₁ h'
    | _ => exact h'
theorem wpAny_execs_append {env : Env} {l₂ : List Stmt} {Q : Flow → Shared → Prop} (l₁ : List Stmt) (h : wpAny M A (execs l₁ env) (fun f s' => match f with | .next => wpAny M A (execs l₂ env) Q E s' | f => Q f s') E s) : wpAny M A (execs (l₁ ++ l₂) env) Q E s :=
  fun Γ p hΓ => wp_execs_append hΓ l₁ (h Γ p hΓ)
end
theorem codeAny_enter {w : World} {A : Around} {c : Code} {R : Result → Shared → Prop} {s : Shared} (hd : isRefCall c = true → (A.under c).depth < recursionLimit)
    (h : wpAny (model pw w) (A.under c) (enterT c) (fun fin s' => s'.heap.NoLimit ∧ match fin with | .done f => R (.ok f) s' | .again c' => c'.quiet = true ∧ codeAny (model pw w) A c' R s') (fun e s' => R (.error e) s') s) : codeAny (model pw w) A c R s := by
  refine PySem.codeAny_of_treeAt fun Γ p hc hΓ => ?_
  exact enter_sound (Q := fun fin s' => match fin with | .done f => R (.ok f) s' | .again c' => c'.quiet = true ∧ codeAny (model pw w) A c' R s') (E := fun e _ s' => R (.error e) s') hΓ hc (h Γ p hΓ) hd
noncomputable def unitT (t : Sem Unit) : Sem Fin := R.bindR t fun _ => .pure (.done .next)
theorem wpAny_unitT {M : Model} {A : Around} {E : Value → Shared → Prop} {s : Shared} {t : Sem Unit} {Q : Unit → Shared → Prop} (h : wpAny M A (unitT t) (fun _ s' => Q () s') E s) : wpAny M A t Q E s := fun Γ p hΓ => by
  have := h Γ p hΓ
  unfold unitT at this
  rw [← R.bindR_eq, Sem.wp_bind] at this
  exact this
noncomputable def takeZ (target : Expr) (it v : Value) (env : Env) : Sem Unit := R.bindR (zw1578499551869305889 target it v) fun _ => zw17772580674575903948 target env v
theorem wpAny_assoc {α β γ : Type} {M : Model} {A : Around} {E : Value → Shared → Prop} {s : Shared} {a : Sem α} {b : α → Sem β} {c : β → Sem γ} {Q : γ → Shared → Prop} (h : wpAny M A ((a >>= b) >>= c) Q E s) : wpAny M A (a >>= fun x => b x >>= c) Q E s := fun Γ p hΓ => by
  have h := h Γ p hΓ
  simp only [Sem.wp_bind'] at h ⊢
  exact h
theorem codeAny_forT {w : World} {A : Around} {s : Shared} {Y : Result → Shared → Prop} {target : Expr} {it : Value} {body orelse : List Stmt} {env : Env} (I : Nat → Shared → Prop)
    (turn : ∀ n s, I n s → wpAny (model pw w) A (pyNext it) (fun r s₁ => match r with
      | none => wpAny (model pw w) A (execs orelse env) (fun f s₃ => Y (.ok f) s₃) (notedBy (model pw w) A env fun e s' => Y (.error e) s') s₁
      | some v => wpAny (model pw w) A (takeZ target it v env) (fun _ s₂ => wpAny (model pw w) A (execs body env) (fun f s₃ => match f with
          | .next => ∃ m, m < n ∧ I m s₃
          | .cont => ∃ m, m < n ∧ I m s₃
          | .brk => Y (.ok .next) s₃
          | .ret v => Y (.ok (.ret v)) s₃) (notedBy (model pw w) A env fun e s' => Y (.error e) s') s₂) (notedBy (model pw w) A env fun e s' => Y (.error e) s') s₁) (notedBy (model pw w) A env fun e s' => Y (.error e) s') s)
    (n : Nat) (h : I n s) : codeAny (model pw w) A (.forLoop target it body orelse env) Y s := by
  refine codeAny_loop' rfl I (fun n s hI => ?_) n h
  show wpAny _ _ ((forTurn target it body orelse env).onRaise (fun x => do noteFrame x env; theTreesLotGoes x)) _ _ s
  refine wpAny_noted ?_
  simp only [forTurn]
  refine wpAny_bind (wpAny_standAt (wpAny_bind (wpAny_onRaise (wpAny_mono (turn n s hI) (fun r s₁ h₁ => ?_) fun _ _ h' => wpAny_standAt h'))))
  cases r with
  | none => exact wpAny_pure (.inr ⟨rfl, codeAny_block h₁⟩)
  | some v =>
    have h₁ : wpAny (model pw w) A (takeZ target it v env) _ _ s₁ := h₁
    have e : takeZ target it v env = (letOwnedTupleGo target it v >>= fun _ => assign target env v) := by
      unfold takeZ
      rw [← R.bindR_eq, ← ze1578499551869305889, ← ze17772580674575903948]
      rfl
    rw [e] at h₁
    refine wpAny_assoc (a := letOwnedTupleGo target it v) (b := fun _ => assign target env v) (wpAny_bind (wpAny_mono h₁ (fun _ s₂ h₂ => wpAny_bind (wpAny_mono h₂ (fun f s₃ h₃ => ?_) fun _ _ h' => h')) fun _ _ h' => h'))
    cases f with
    | next => exact wpAny_pure (.inl ⟨rfl, h₃⟩)
    | cont => exact wpAny_pure (.inl ⟨rfl, h₃⟩)
    | brk => exact wpAny_pure h₃
    | ret v => exact wpAny_pure h₃
end Mine
end
section
open PySem PySem.W PySem.W.X PySem.Calls PyProof.Rows
set_option maxRecDepth 100000
set_option maxHeartbeats 4000000
namespace Mine
open PySem.W.ZFast
noncomputable def fdOf (P : Params) (a : Nat) : FuncData := match (tp.tree_280 P).get a with
  | some o => match o.data with
    | .func fd => fd
    | _ => default
  | none => default
def bodyOf (fd : FuncData) : List Stmt := match fd.body with | .stmts b => b | _ => []
noncomputable def P0 : Params := (aWorld 1).params
noncomputable def bodyN : List Stmt := bodyOf (fdOf P0 174)
theorem bodyN_any (P : Params) : bodyOf (fdOf P 174) = bodyN := by kernel_rfl
theorem bodyN_len : bodyN.length = 5 := by kernel_rfl
def nthSt : List Stmt → Nat → Stmt
  | [], _ => .Pass ⟨0, 0, 0, 0⟩
  | s :: _, 0 => s
  | _ :: l, n + 1 => nthSt l n
def forTg : Stmt → Expr
  | .For t _ _ _ _ => t
  | _ => .Name ⟨#[]⟩ ⟨0, 0, 0, 0⟩
def forIt : Stmt → Expr
  | .For _ t _ _ _ => t
  | _ => .Name ⟨#[]⟩ ⟨0, 0, 0, 0⟩
def forBd : Stmt → List Stmt
  | .For _ _ t _ _ => t
  | _ => []
def forPos : Stmt → Pos
  | .For _ _ _ _ p => p
  | _ => ⟨0, 0, 0, 0⟩
theorem bodyN_eq : bodyN = [nthSt bodyN 0, nthSt bodyN 1, nthSt bodyN 2, .For (forTg (nthSt bodyN 3)) (forIt (nthSt bodyN 3)) (forBd (nthSt bodyN 3)) [] (forPos (nthSt bodyN 3)), nthSt bodyN 4] := by kernel_rfl
end Mine
end
section
open PySem PySem.W PySem.W.X PySem.Calls PyProof.Rows
set_option maxRecDepth 100000
set_option maxHeartbeats 4000000
set_option exponentiation.threshold 1000
namespace Mine
open PySem.W.ZFast
structure Okay (P : Params) (h : Heap) : Prop where
  top : ∀ a o, Ktop P a = some o → h.get? a = some o
  nolimit : h.NoLimit
  size : ∃ n, h.objs.size = n + 258
structure OkS (P : Params) (g : Array GenState) (o : OsState) (s : Shared) : Prop extends Okay P s.heap where
  gens : g = s.gens
  os : o = s.os
instance okCoe {P : Params} {h : Heap} {g : Array GenState} {dr : Drawn} {t : Nat} {o : OsState} : CoeTail (Okay P h) (OkS P g o ⟨h, g, dr, t, o⟩) := ⟨fun x => ⟨x, rfl, rfl⟩⟩
instance okCoe2 {P : Params} {g : Array GenState} {o : OsState} {s : Shared} : CoeOut (OkS P g o s) (Okay P s.heap) := ⟨fun x => x.toOkay⟩
structure But (ds : List Nat) (h h' : Heap) : Prop where
  keep : ∀ b o, h.get? b = some o → b ∉ ds → h'.get? b = some o
  size : @LE.le Nat _ h.objs.size h'.objs.size
theorem But.refl (ds : List Nat) (h : Heap) : But ds h h := ⟨fun _ _ e _ => e, Nat.le_refl _⟩
theorem But.trans {ds : List Nat} {h h' h'' : Heap} (x : But ds h h') (y : But ds h' h'') : But ds h h'' := ⟨fun b o e n => y.keep b o (x.keep b o e n) n, Nat.le_trans x.size y.size⟩
theorem But.mono {ds ds' : List Nat} {h h' : Heap} (x : But ds h h') (s : ∀ a ∈ ds, a ∈ ds') : But ds' h h' := ⟨fun b o e n => x.keep b o e fun m => n (s b m), x.size⟩
def Low (P : Params) (a : Nat) : Prop := Ktop P a = none ∧ a ≠ cStatics
theorem Ktop_high {P : Params} {a : Nat} (h : 258 ≤ a) : Ktop P a = none := by
  have e : Nat.shiftRight topMask a = 0 := by
    show topMask >>> a = 0
    rw [Nat.shiftRight_eq_div_pow]
    refine Nat.div_eq_of_lt (Nat.lt_of_lt_of_le (m := 2 ^ 258) (by decide) (Nat.pow_le_pow_right (by decide) h))
  unfold Ktop
  rw [e]
theorem Low.high {P : Params} {a : Nat} (h : 258 ≤ a) : Low P a := ⟨Ktop_high h, fun e => by rw [e] at h; exact absurd h (by decide)⟩
theorem Low.pool {P : Params} {a : Nat} (h : 214 ≤ a) (h' : a ≤ 229) : Low P a := by
  refine ⟨?_, fun e => by rw [e] at h; exact absurd h (by decide)⟩
  have : Nat.land (Nat.shiftRight topMask a) 1 = 0 := by
    obtain ⟨k, rfl⟩ := Nat.exists_eq_add_of_le h
    have hk : k < 16 := by omega
    have : ∀ k < 16, Nat.land (Nat.shiftRight topMask (214 + k)) 1 = 0 := by decide
    exact this k hk
  unfold Ktop
  rw [this]
section
variable {P : Params} {h : Heap}
theorem Okay.fit (ok : Okay P h) {ds : List Nat} (hl : ∀ a ∈ ds, Low P a) (hg : ∀ a ∈ ds, ∃ o, h.get? a = some o) (hn : ds.Nodup) : Fit (Ktop P) ds h where
  low a ha := by obtain ⟨o, ho⟩ := hg a ha; exact Heap.lt_size ho
  nodup := hn
  top a o e := ⟨ok.top a o e, fun m => by rw [(hl a m).1] at e; cases e⟩
  nolimit := ok.nolimit
  statics m := (hl _ m).2 rfl
theorem Okay.but (ok : Okay P h) {ds : List Nat} {h' : Heap} (hl : ∀ a ∈ ds, Low P a) (b : But ds h h') : Okay P h' where
  top a o e := b.keep a o (ok.top a o e) fun m => by rw [(hl a m).1] at e; cases e
  nolimit := ok.nolimit.at fun o e => b.keep _ o e fun m => (hl _ m).2 rfl
  size := by
    obtain ⟨n, hn⟩ := ok.size
    have := b.size
    exact ⟨h'.objs.size - 258, by omega⟩
theorem Inv.but {ds : List Nat} {h h' : Heap} {T : Tab} {m : Nat} (I : Inv ds h h' T m) : But ds h h' := ⟨I.keep, by rw [I.size]; exact Nat.le_add_right _ _⟩
end
def Slots (h : Heap) : List Nat → List Obj → Prop
  | [], [] => True
  | a :: ds, o :: os => h.get? a = some o ∧ Slots h ds os
  | _, _ => False
theorem Slots.len {h : Heap} : ∀ {ds : List Nat} {os : List Obj}, Slots h ds os → os.length = ds.length
  | [], [], _ => rfl
  | _ :: _, _ :: _, x => congrArg (· + 1) (Slots.len x.2)
  | [], _ :: _, x => x.elim
  | _ :: _, [], x => x.elim
theorem Slots.at {h : Heap} : ∀ {ds : List Nat} {os : List Obj}, Slots h ds os → ∀ i (h1 : i < ds.length) (h2 : i < os.length), h.get? ds[i] = some os[i]
  | _ :: _, _ :: _, x, 0, _, _ => x.1
  | _ :: _, _ :: _, x, i + 1, h1, h2 => Slots.at x.2 i (Nat.lt_of_succ_lt_succ h1) (Nat.lt_of_succ_lt_succ h2)
  | [], _, _, i, h1, _ => absurd h1 (Nat.not_lt_zero i)
  | _ :: _, [], x, _, _, _ => x.elim
theorem run_seg {w : World} {A : Around} {Q : Fin → Shared → Prop} {E : Value → Shared → Prop} {h : Heap} {g : Array GenState} {dr : Drawn} {t : Nat} {o : OsState} (ok : Okay w.params h) {n : Nat} (hn : h.objs.size = n + 258)
    (ds : List Nat) (os : List Obj) (dep fuel : Nat) {ora : List Nat} {calls : Nat} {cc : Code} {tr : Sem Fin}
    (hl : ∀ a ∈ ds, Low w.params a) (hd : ds.Nodup) (hs : Slots h ds os) (hA : A.depth ≤ dep) (hh : A.handled = none)
    (G : Good (model pw w) A Q E ds h g t o (run ⟨pw, w.params⟩ (Ktop w.params) (n + 258) t ds.length dep fuel ora calls cc none [] tr (tabFrom 0 os) 0 0 [] [])) :
    wpAny (model pw w) A tr Q E ⟨h, g, dr, t, o⟩ := by
  rw [← hn, ← hh] at G
  have hlen := hs.len
  refine run_any (ok.fit hl (fun a ha => ?_) hd) hA hlen hs.at G
  obtain ⟨i, hi, rfl⟩ := List.getElem_of_mem ha
  exact ⟨_, hs.at i hi (hlen ▸ hi)⟩
def Unch (T : Tab) : Nat → List Obj → Prop
  | _, [] => True
  | i, o :: os => tget T i = some o ∧ Unch T (i + 1) os
theorem Unch.at {T : Tab} : ∀ {os : List Obj} {i j : Nat} (_ : Unch T i os) (h : j < os.length), tget T (i + j) = some os[j]
  | _ :: _, _, 0, u, _ => u.1
  | _ :: _, i, j + 1, u, h => by
    have := Unch.at (j := j) u.2 (Nat.lt_of_succ_lt_succ h)
    rw [Nat.add_right_comm] at this
    exact this
  | [], _, j, _, h => absurd h (Nat.not_lt_zero j)
theorem Inv.butTake {ds : List Nat} {os : List Obj} {h h' : Heap} {T : Tab} {m c : Nat} (I : Inv ds h h' T m) (hs : Slots h ds os) (U : Unch T c (os.drop c)) : But (ds.take c) h h' := by
  refine ⟨fun b o e n => I.same e fun i hi q => ?_, I.but.size⟩
  have hci : c ≤ i := by
    rcases Nat.lt_or_ge i c with x | x
    · exact absurd (by rw [← q]; exact List.mem_take_iff_getElem.mpr ⟨i, by omega, rfl⟩) n
    · exact x
  obtain ⟨j, rfl⟩ := Nat.exists_eq_add_of_le hci
  have hlen := hs.len
  have := U.at (j := j) (by rw [List.length_drop]; omega)
  rw [this]
  have hg := hs.at (c + j) hi (hlen ▸ hi)
  rw [q, e] at hg
  rw [List.getElem_drop]
  exact hg.symm
section
variable {w : World} {A : Around} {Q : Fin → Shared → Prop} {E : Value → Shared → Prop} {h : Heap} {g : Array GenState} {dr : Drawn} {t : Nat} {o : OsState} {n : Nat} {ora : List Nat} {calls : Nat} {cc : Code} {tr : Sem Fin}
structure After (w : World) (ds : List Nat) (c n m : Nat) (T : Tab) (h h' : Heap) : Prop where
  but : But (ds.take c) h h'
  ok : Okay w.params h'
  get : ∀ i o, tget T i = some o → h'.get? (adr ds (n + 258) i) = some o
  size : h'.objs.size = n + 258 + m
theorem After.of {ds : List Nat} {os : List Obj} {c m : Nat} {T : Tab} {h' : Heap} (ok : Okay w.params h) (hn : h.objs.size = n + 258) (hl : ∀ a ∈ ds, Low w.params a) (hs : Slots h ds os) (I : Inv ds h h' T m) (U : Unch T c (os.drop c)) : After w ds c n m T h h' :=
  ⟨I.butTake hs U, ok.but hl I.but, fun i o e => hn ▸ I.get e, by rw [I.size, hn]⟩
theorem run_fin (ok : Okay w.params h) (hn : h.objs.size = n + 258) (ds : List Nat) (os : List Obj) (c dep fuel : Nat) (hl : ∀ a ∈ ds, Low w.params a) (hd : ds.Nodup) (hs : Slots h ds os) (hA : A.depth ≤ dep) (hh : A.handled = none) (out : Out)
    (ho : out = run ⟨pw, w.params⟩ (Ktop w.params) (n + 258) t ds.length dep fuel ora calls cc none [] tr (tabFrom 0 os) 0 0 [] [])
    (hk : isFin out = true) (F : Fine ds (n + 258) out) (U : Unch (tabOf out) c (os.drop c)) (hQ : ∀ h' dr', After w ds c n (numOf out) (tabOf out) h h' → Q (finOf out) ⟨h', g, dr', t + tokOf out, o⟩) : wpAny (model pw w) A tr Q E ⟨h, g, dr, t, o⟩ := by
  refine run_seg (ora := ora) (calls := calls) (cc := cc) ok hn ds os dep fuel hl hd hs hA hh ?_
  rw [← ho]
  exact good_fin hk (hn ▸ F) fun h' dr' I => hQ h' dr' (.of ok hn hl hs I U)
theorem run_exc (ok : Okay w.params h) (hn : h.objs.size = n + 258) (ds : List Nat) (os : List Obj) (c dep fuel : Nat) (hl : ∀ a ∈ ds, Low w.params a) (hd : ds.Nodup) (hs : Slots h ds os) (hA : A.depth ≤ dep) (hh : A.handled = none) (out : Out)
    (ho : out = run ⟨pw, w.params⟩ (Ktop w.params) (n + 258) t ds.length dep fuel ora calls cc none [] tr (tabFrom 0 os) 0 0 [] [])
    (hk : isExc out = true) (F : Fine ds (n + 258) out) (U : Unch (tabOf out) c (os.drop c)) (hQ : ∀ h' dr', After w ds c n (numOf out) (tabOf out) h h' → E (excOf out) ⟨h', g, dr', t + tokOf out, o⟩) : wpAny (model pw w) A tr Q E ⟨h, g, dr, t, o⟩ := by
  refine run_seg (ora := ora) (calls := calls) (cc := cc) ok hn ds os dep fuel hl hd hs hA hh ?_
  rw [← ho]
  exact good_exc hk (hn ▸ F) fun h' dr' I => hQ h' dr' (.of ok hn hl hs I U)
theorem run_call (ok : Okay w.params h) (hn : h.objs.size = n + 258) (ds : List Nat) (os : List Obj) (c dep fuel : Nat) (hl : ∀ a ∈ ds, Low w.params a) (hd : ds.Nodup) (hs : Slots h ds os) (hA : A.depth ≤ dep) (hh : A.handled = none) (out : Out)
    (ho : out = run ⟨pw, w.params⟩ (Ktop w.params) (n + 258) t ds.length dep fuel ora calls cc none [] tr (tabFrom 0 os) 0 0 [] [])
    (hk : isCall out = true) (hd0 : hdOf out = none) (F : Fine ds (n + 258) out) (U : Unch (tabOf out) c (os.drop c))
    (hQ : ∀ h' dr', After w ds c n (numOf out) (tabOf out) h h' → codeAny (model pw w) A (codeOf out) (fun r s' => wpAny (model pw w) A (treeOf out r) Q E s') ⟨h', g, dr', t + tokOf out, o⟩) : wpAny (model pw w) A tr Q E ⟨h, g, dr, t, o⟩ := by
  refine run_seg (ora := ora) (calls := calls) (cc := cc) ok hn ds os dep fuel hl hd hs hA hh ?_
  rw [← ho]
  exact good_call hk (hn ▸ F) fun h' dr' I => by
    rw [hd0]
    exact hQ h' dr' (.of ok hn hl hs I U)
end
end Mine
end
section
open PySem PySem.W PySem.W.X PySem.Calls PyProof.Rows
set_option maxRecDepth 100000
set_option maxHeartbeats 4000000
namespace Mine
open PySem.W.ZFast
def bts (l : List Nat) : Array UInt8 := (l.map UInt8.ofNat).toArray
def sHeaders : Str := ⟨#[104, 101, 97, 100, 101, 114, 115]⟩
def sParsed : Str := ⟨#[95, 112, 97, 114, 115, 101, 100]⟩
def sNew : Str := ⟨#[110, 101, 119, 95, 104, 101, 97, 100, 101, 114, 115]⟩
def sSeen : Str := ⟨#[115, 101, 101, 110, 95, 99, 111, 110, 116, 101, 110, 116, 95, 108, 101, 110, 103, 116, 104]⟩
def sSaw : Str := ⟨#[115, 97, 119, 95, 116, 114, 97, 110, 115, 102, 101, 114, 95, 101, 110, 99, 111, 100, 105, 110, 103]⟩
def sName : Str := ⟨#[110, 97, 109, 101]⟩
def sValue : Str := ⟨#[118, 97, 108, 117, 101]⟩
def sRaw : Str := ⟨#[114, 97, 119, 95, 110, 97, 109, 101]⟩
def sLengths : Str := ⟨#[108, 101, 110, 103, 116, 104, 115]⟩
def sHint : Str := ⟨#[101, 114, 114, 111, 114, 95, 115, 116, 97, 116, 117, 115, 95, 104, 105, 110, 116]⟩
def ents (hs : Nat → Int) (tk : Nat → Nat) : Nat → List (Str × Value) → List DictEntry
  | _, [] => []
  | j, p :: l => ⟨hs j, .str p.1 (tk j), p.2⟩ :: ents hs tk (j + 1) l
def frm (hs : Nat → Int) (tk : Nat → Nat) (ep : Nat) (sl : Array (Option Value)) (l : List (Str × Value)) : Obj := ⟨.type "frame", none, .dict (ents hs tk 0 l).toArray ep, sl⟩
def lstO (arr : Array Value) (ep : Nat) : Obj := ⟨.type "list", none, .seq arr ep, #[]⟩
def tupO (l : List Value) (ep : Nat) : Obj := ⟨.type "tuple", none, .seq l.toArray ep, #[]⟩
def iterO (l : Value) (i : Nat) : Obj := ⟨.type "list_iterator", none, .fields #[l, .int i 0], #[]⟩
noncomputable def objAt (o : Out) (i : Nat) : Obj := (tget (tabOf o) i).getD default
def entL (o : Obj) : List DictEntry := match o.data with | .dict es _ => es.toList | _ => []
def hsOf (o : Obj) (j : Nat) : Int := ((entL o).map (·.hash)).getD j 0
def keyTok : Value → Nat | .str _ t => t | .bytes _ t => t | .int _ t => t | _ => 0
def tkOf (o : Obj) (j : Nat) : Nat := keyTok (((entL o).map (·.key)).getD j .none)
def vlOf (o : Obj) (j : Nat) : Value := ((entL o).map (·.val)).getD j .none
def epOf (o : Obj) : Nat := match o.data with | .dict _ e => e | .seq _ e => e | _ => 0
def sqOf (o : Obj) : List Value := match o.data with | .seq xs _ => xs.toList | .fields xs => xs.toList | _ => []
def sqTok (o : Obj) (j : Nat) : Nat := keyTok ((sqOf o).getD j .none)
def LocAt (h : Heap) (L : Nat) (l : List (Str × Value)) : Prop := ∃ hs tk ep sl, h.get? L = some (frm hs tk ep sl l)
noncomputable def stN : Stmt := nthSt bodyN 3
noncomputable def envN (L : Nat) : Env := callEnv (fdOf P0 174) L 174
noncomputable def bN (i : Nat) : Stmt := nthSt (forBd stN) i
theorem forBd_eq : forBd stN = [bN 0, bN 1, bN 2, bN 3, bN 4, bN 5] := by kernel_rfl
def locN (hv : Value) (pa : Bool) (NH : Nat) (seen saw : Value) (rest : List (Str × Value)) : List (Str × Value) := (sHeaders, hv) :: (sParsed, .bool pa) :: (sNew, .ref NH) :: (sSeen, seen) :: (sSaw, saw) :: rest
inductive Old where
  | zero
  | one (c : Value)
  | two (c d : Value)
def Old.out (r : Old) (a b : Value) : List (Str × Value) := (sName, a) :: (sValue, b) :: match r with | .zero => [] | .one c => [(sRaw, c)] | .two c d => [(sRaw, c), (sLengths, d)]
def Old.inn (r : Old) (a b : Value) : List (Str × Value) := match r with | .zero => [] | r => r.out a b
end Mine
end
section
open PySem PySem.W PySem.W.X PySem.Calls PyProof.Rows
set_option maxRecDepth 100000
set_option maxHeartbeats 4000000
namespace Mine
open PySem.W.ZFast
noncomputable def outTake (P : Params) (b : Bool × Bool × Bool) (n t L pr it : Nat) (hs : Nat → Int) (tk : Nat → Nat) (ep : Nat) (sl : Array (Option Value)) (l : List (Str × Value)) (nb vb : Array UInt8) (t1 t2 ep3 : Nat) (lv : Value) (k : Nat) (dt : Option Addr) (sx : Array (Option Value)) : Out :=
  run ⟨pw, mkP P b.1 b.2.1 b.2.2⟩ (Ktop (mkP P b.1 b.2.1 b.2.2)) (n + 258) t 3 500 70 (dec 70 454086624987863925390843861025176130390126926021773401642358124547173122563) 1000 default none [] (unitT (takeZ (forTg stN) (.ref it) (.ref pr) (envN L)))
    (tabFrom 0 [frm hs tk ep sl l, tupO [.bytes nb t1, .bytes vb t2] ep3, ⟨.type "list_iterator", dt, .fields #[lv, .int k 0], sx⟩]) 0 0 [] []
abbrev fin3 (o : Out) (ds : List Nat) (n : Nat) : Prop := isFin o = true ∧ (logOf o).map (·.1) = (logOf o).map (fun p => adr ds n p.2) ∧ (obsOf o).map (fun p => p.1 0) = (obsOf o).map (fun p => p.2) ∧ (obsOf o).map (fun p y => p.1 (y + 1)) = (obsOf o).map (fun p => p.1)
abbrev frm0 (o : Out) (sl : Array (Option Value)) (l : List (Str × Value)) : Prop := tget (tabOf o) 0 = some (frm (hsOf (objAt o 0)) (tkOf (objAt o 0)) (epOf (objAt o 0)) sl l)
theorem takeR (P : Params) (b1 b2 b3 : Bool) (n t L pr it : Nat) (hs : Nat → Int) (tk : Nat → Nat) (ep : Nat) (sl : Array (Option Value)) (hv : Value) (pa : Bool) (NH : Nat) (seen saw a b : Value) (r : Old) (nb vb : Array UInt8) (t1 t2 ep3 : Nat) (lv : Value) (k : Nat) (dt : Option Addr) (sx : Array (Option Value)) :
    let o := outTake P (b1, b2, b3) n t L pr it hs tk ep sl (locN hv pa NH seen saw (r.inn a b)) nb vb t1 t2 ep3 lv k dt sx
    fin3 o [L, pr, it] (n + 258) ∧ Unch (tabOf o) 1 [tupO [.bytes nb t1, .bytes vb t2] ep3, ⟨.type "list_iterator", dt, .fields #[lv, .int k 0], sx⟩] ∧ finOf o = .done .next ∧ frm0 o sl (locN hv pa NH seen saw (r.out (.bytes nb t1) (.bytes vb t2))) := by
  cases b1 <;> cases r <;> refine ⟨⟨?_, ?_, ?_, ?_⟩, ⟨?_, ?_, ?_⟩, ?_, ?_⟩
  all_goals first | exact True.intro | (show _ = _; kernel_rfl)
theorem params_split (P : Params) : ∃ b1 b2 b3, P = mkP P b1 b2 b3 := by
  refine ⟨P.followText "special-get-raises", P.followText "comprehension-iter-twice", P.followText "set-order", ?_⟩
  have e : (fun s => if s = "special-get-raises" then P.followText "special-get-raises" else if s = "comprehension-iter-twice" then P.followText "comprehension-iter-twice" else if s = "set-order" then P.followText "set-order" else P.followText s) = P.followText := by
    funext s
    by_cases h1 : s = "special-get-raises"
    · rw [if_pos h1, h1]
    · rw [if_neg h1]
      by_cases h2 : s = "comprehension-iter-twice"
      · rw [if_pos h2, h2]
      · rw [if_neg h2]
        by_cases h3 : s = "set-order"
        · rw [if_pos h3, h3]
        · rw [if_neg h3]
  unfold mkP
  rw [e]
structure Ar (A : Around) : Prop where
  deep : A.depth ≤ 500
  handled : A.handled = none
structure ArK (k : Nat) (A : Around) : Prop where
  deep : A.depth + k ≤ 500
  handled : A.handled = none
theorem ArK.weak {k : Nat} {A : Around} (a : ArK k A) : Ar A := ⟨Nat.le_trans (Nat.le_add_right _ _) a.deep, a.handled⟩
theorem ArK.less {k j : Nat} {A : Around} (a : ArK k A) (h : j ≤ k) : ArK j A := ⟨Nat.le_trans (Nat.add_le_add_left h _) a.deep, a.handled⟩
theorem ArK.under {k : Nat} {A : Around} {c : Code} (a : ArK (k + 1) A) (h : c.weight ≤ 1) : ArK k (A.under c) := ⟨by have := a.deep; show A.depth + c.weight + k ≤ 500; omega, a.handled⟩
theorem ne_of_obj {h : Heap} {a b : Nat} {o o' : Obj} (ha : h.get? a = some o) (hb : h.get? b = some o') (hne : o ≠ o') : a ≠ b := fun e => hne (by rw [e, hb] at ha; cases ha; rfl)
section
variable {w : World} {A : Around} {E : Value → Shared → Prop} {h : Heap} {g : Array GenState} {dr : Drawn} {t : Nat} {o : OsState}
theorem takeN (ar : Ar A) (ok : Okay w.params h) {L pr it NH k ep3 t1 t2 : Nat} {hv seen saw a b lv : Value} {pa : Bool} {dt : Option Addr} {sx : Array (Option Value)} {nb vb : Array UInt8} {r : Old} (lL : Low w.params L) (lp : Low w.params pr) (li : Low w.params it)
    (hL : LocAt h L (locN hv pa NH seen saw (r.inn a b))) (hp : h.get? pr = some (tupO [.bytes nb t1, .bytes vb t2] ep3)) (hi : h.get? it = some ⟨.type "list_iterator", dt, .fields #[lv, .int k 0], sx⟩)
    {Q : Unit → Shared → Prop} (hQ : ∀ s', But [L] h s'.heap → OkS w.params g o s' → LocAt s'.heap L (locN hv pa NH seen saw (r.out (.bytes nb t1) (.bytes vb t2))) → Q () s') :
    wpAny (model pw w) A (takeZ (forTg stN) (.ref it) (.ref pr) (envN L)) Q E ⟨h, g, dr, t, o⟩ := by
  obtain ⟨hs, tk, ep, sl, hL⟩ := hL
  obtain ⟨n, hn⟩ := ok.size
  obtain ⟨b1, b2, b3, hP⟩ := params_split w.params
  obtain ⟨F, U, hf, h0⟩ := takeR w.params b1 b2 b3 n t L pr it hs tk ep sl hv pa NH seen saw a b r nb vb t1 t2 ep3 lv k dt sx
  refine wpAny_unitT (run_fin ok hn [L, pr, it] [frm hs tk ep sl (locN hv pa NH seen saw (r.inn a b)), tupO [.bytes nb t1, .bytes vb t2] ep3, ⟨.type "list_iterator", dt, .fields #[lv, .int k 0], sx⟩] 1 500 70 ?_ ?_ ⟨hL, hp, hi, trivial⟩ ar.deep ar.handled _ (by unfold outTake; rw [← hP]; rfl) F.1 F.2 U fun h' dr' af => ?_)
  · intro a ha
    simp only [List.mem_cons, List.not_mem_nil, or_false] at ha
    rcases ha with rfl | rfl | rfl <;> assumption
  · have e1 := ne_of_obj hL hp (by intro e; have := congrArg Obj.cls e; simp [frm, tupO, iterO] at this)
    have e2 := ne_of_obj hL hi (by intro e; have := congrArg Obj.cls e; simp [frm, tupO, iterO] at this)
    have e3 := ne_of_obj hp hi (by intro e; have := congrArg Obj.cls e; simp [frm, tupO, iterO] at this)
    simp [e1, e2, e3]
  · exact hQ _ af.but af.ok ⟨_, _, _, _, af.get 0 _ h0⟩
end
end Mine
end
section
open PySem PySem.W PySem.W.X PySem.Calls PyProof.Rows
set_option maxRecDepth 100000
set_option maxHeartbeats 4000000
namespace Mine
open PySem.W.ZFast
def argAt : Code → Nat → Value
  | .call _ a, i => a.pos.getD i .none
  | _, _ => .none
def strP : Value → Str
  | .str s _ => s
  | _ => ⟨#[]⟩
theorem execs_zf (l : List Stmt) (env : Env) : execs l env = zw12563942051412417395 l env := by rw [← ze12563942051412417395]
abbrev exc3 (o : Out) (ds : List Nat) (n : Nat) : Prop := isExc o = true ∧ (logOf o).map (·.1) = (logOf o).map (fun p => adr ds n p.2) ∧ (obsOf o).map (fun p => p.1 0) = (obsOf o).map (fun p => p.2) ∧ (obsOf o).map (fun p y => p.1 (y + 1)) = (obsOf o).map (fun p => p.1)
abbrev call3 (o : Out) (ds : List Nat) (n : Nat) : Prop := isCall o = true ∧ hdOf o = none ∧ (logOf o).map (·.1) = (logOf o).map (fun p => adr ds n p.2) ∧ (obsOf o).map (fun p => p.1 0) = (obsOf o).map (fun p => p.2) ∧ (obsOf o).map (fun p y => p.1 (y + 1)) = (obsOf o).map (fun p => p.1)
noncomputable def outV (P : Params) (n t L : Nat) (hs : Nat → Int) (tk : Nat → Nat) (ep : Nat) (sl : Array (Option Value)) (l : List (Str × Value)) (fuel ora calls : Nat) (tr : Sem Fin) : Out :=
  run ⟨pw, P⟩ (Ktop P) (n + 258) t 1 500 fuel (dec fuel ora) calls default none [] tr (tabFrom 0 [frm hs tk ep sl l]) 0 0 [] []
noncomputable def treeV (L : Nat) : Sem Fin := flowT (zw12563942051412417395 [bN 0] (envN L))
noncomputable abbrev outV1 (P : Params) (n t L : Nat) (hs : Nat → Int) (tk : Nat → Nat) (ep : Nat) (sl : Array (Option Value)) (l : List (Str × Value)) : Out := outV P n t L hs tk ep sl l 120 7618193136875336820277579405402953409129332725574566509626548499268385761879195649 4 (treeV L)
theorem v0R (P : Params) (n t L : Nat) (hs : Nat → Int) (tk : Nat → Nat) (ep : Nat) (sl : Array (Option Value)) (hv : Value) (NH : Nat) (seen saw : Value) (r : Old) (nv vv : Value) :
    let l := locN hv true NH seen saw (r.out nv vv)
    let o := outV P n t L hs tk ep sl l 10 1 0 (treeV L)
    fin3 o [L] (n + 258) ∧ finOf o = .done .next ∧ frm0 o sl l := by
  cases r <;> refine ⟨⟨?_, ?_, ?_, ?_⟩, ?_, ?_⟩
  all_goals (show _ = _; kernel_rfl)
theorem v1R (P : Params) (n t L : Nat) (hs : Nat → Int) (tk : Nat → Nat) (ep : Nat) (sl : Array (Option Value)) (hv : Value) (NH : Nat) (seen saw : Value) (r : Old) (nb vb : Array UInt8) (t1 t2 : Nat) :
    let l := locN hv false NH seen saw (r.out (.bytes nb t1) (.bytes vb t2))
    let o := outV1 P n t L hs tk ep sl l
    call3 o [L] (n + 258) ∧ codeOf o = .call (.ref 88) ⟨[.ref 105, .bytes nb t1, .str (strP (argAt (codeOf o) 2)) (keyTok (argAt (codeOf o) 2)), .bytes nb t1], []⟩ ∧ frm0 o sl l := by
  cases r <;> refine ⟨⟨?_, ?_, ?_, ?_, ?_⟩, ?_, ?_⟩
  all_goals (show _ = _; kernel_rfl)
theorem v2R (P : Params) (n t L n' t' x : Nat) (hs hs' : Nat → Int) (tk tk' : Nat → Nat) (ep ep' : Nat) (sl sl' : Array (Option Value)) (hv : Value) (NH : Nat) (seen saw : Value) (r : Old) (nb vb : Array UInt8) (t1 t2 : Nat) :
    let l := locN hv false NH seen saw (r.out (.bytes nb t1) (.bytes vb t2))
    let o := outV P n' t' L hs' tk' ep' sl' l 20 16842752 1 (treeOf (outV1 P n t L hs tk ep sl l) (.ok (.ret (.ref x))))
    call3 o [L] (n' + 258) ∧ codeOf o = .call (.ref 88) ⟨[.ref 110, .bytes vb t2, .str (strP (argAt (codeOf o) 2)) (keyTok (argAt (codeOf o) 2)), .bytes vb t2], []⟩ ∧ frm0 o sl' l := by
  cases r <;> refine ⟨⟨?_, ?_, ?_, ?_, ?_⟩, ?_, ?_⟩
  all_goals (show _ = _; kernel_rfl)
noncomputable abbrev outV2 (P : Params) (n t L n' t' x : Nat) (hs hs' : Nat → Int) (tk tk' : Nat → Nat) (ep ep' : Nat) (sl sl' : Array (Option Value)) (l : List (Str × Value)) : Out :=
  outV P n' t' L hs' tk' ep' sl' l 20 16842752 1 (treeOf (outV1 P n t L hs tk ep sl l) (.ok (.ret (.ref x))))
theorem v3R (P : Params) (n t L n' t' x n'' t'' y : Nat) (hs hs' hs'' : Nat → Int) (tk tk' tk'' : Nat → Nat) (ep ep' ep'' : Nat) (sl sl' sl'' : Array (Option Value)) (hv : Value) (NH : Nat) (seen saw : Value) (r : Old) (nb vb : Array UInt8) (t1 t2 : Nat) :
    let l := locN hv false NH seen saw (r.out (.bytes nb t1) (.bytes vb t2))
    let o := outV P n'' t'' L hs'' tk'' ep'' sl'' l 10 0 1000 (treeOf (outV2 P n t L n' t' x hs hs' tk tk' ep ep' sl sl' l) (.ok (.ret (.ref y))))
    fin3 o [L] (n'' + 258) ∧ finOf o = .done .next ∧ frm0 o sl'' l := by
  cases r <;> refine ⟨⟨?_, ?_, ?_, ?_⟩, ?_, ?_⟩
  all_goals (show _ = _; kernel_rfl)
theorem But.nil {ds : List Nat} {h h' : Heap} (b : But [] h h') : But ds h h' := b.mono (fun _ m => nomatch m)
theorem LocAt.keep {h h' : Heap} {L : Nat} {l : List (Str × Value)} (x : LocAt h L l) (b : But [] h h') : LocAt h' L l :=
  let ⟨hs, tk, ep, sl, e⟩ := x; ⟨hs, tk, ep, sl, b.keep _ _ e (fun m => nomatch m)⟩
theorem low1 {P : Params} {a : Nat} (h : Low P a) : ∀ x ∈ [a], Low P x := fun x m => by rw [List.mem_singleton.mp m]; exact h
def Passes (w : World) (re : Nat) (b : Array UInt8) : Prop := ∀ {A : Around} {R : Result → Shared → Prop} {h : Heap} {g : Array GenState} {dr : Drawn} {t : Nat} {o : OsState} (msg : Str) (tm t1 : Nat), ArK 2 A → Okay w.params h →
  (∀ x s', But [] h s'.heap → OkS w.params g o s' → R (.ok (.ret (.ref x))) s') → codeAny (model pw w) A (.call (.ref 88) ⟨[.ref re, .bytes b t1, .str msg tm, .bytes b t1], []⟩) R ⟨h, g, dr, t, o⟩
section
variable {w : World} {A : Around} {E : Value → Shared → Prop} {h : Heap} {g : Array GenState} {dr : Drawn} {t : Nat} {o : OsState}
theorem v0N (ar : Ar A) (ok : Okay w.params h) {L NH : Nat} {hv seen saw nv vv : Value} {r : Old} (lL : Low w.params L) (hL : LocAt h L (locN hv true NH seen saw (r.out nv vv)))
    {Q : Flow → Shared → Prop} (hQ : ∀ s', But [L] h s'.heap → OkS w.params g o s' → LocAt s'.heap L (locN hv true NH seen saw (r.out nv vv)) → Q .next s') : wpAny (model pw w) A (execs [bN 0] (envN L)) Q E ⟨h, g, dr, t, o⟩ := by
  obtain ⟨hs, tk, ep, sl, hL⟩ := hL
  obtain ⟨n, hn⟩ := ok.size
  obtain ⟨F, hf, h0⟩ := v0R w.params n t L hs tk ep sl hv NH seen saw r nv vv
  rw [execs_zf]
  refine wpAny_flowT (run_fin ok hn [L] [frm hs tk ep sl (locN hv true NH seen saw (r.out nv vv))] 1 500 10 (low1 lL) (by simp) ⟨hL, trivial⟩ ar.deep ar.handled (outV w.params n t L hs tk ep sl _ 10 1 0 (treeV L)) rfl F.1 F.2 trivial fun h' dr' af => ?_)
  rw [hf]
  exact hQ _ af.but af.ok ⟨_, _, _, _, af.get 0 _ h0⟩
theorem vN (ark : ArK 2 A) (ok : Okay w.params h) {L NH t1 t2 : Nat} {hv seen saw : Value} {nb vb : Array UInt8} {r : Old} (lL : Low w.params L) (hL : LocAt h L (locN hv false NH seen saw (r.out (.bytes nb t1) (.bytes vb t2))))
    (h1 : Passes w 105 nb) (h2 : Passes w 110 vb)
    {Q : Flow → Shared → Prop} (hQ : ∀ s', But [L] h s'.heap → OkS w.params g o s' → LocAt s'.heap L (locN hv false NH seen saw (r.out (.bytes nb t1) (.bytes vb t2))) → Q .next s') : wpAny (model pw w) A (execs [bN 0] (envN L)) Q E ⟨h, g, dr, t, o⟩ := by
  obtain ⟨hs, tk, ep, sl, hL⟩ := hL
  obtain ⟨n, hn⟩ := ok.size
  have ar := ark.weak
  obtain ⟨F, hc, h0⟩ := v1R w.params n t L hs tk ep sl hv NH seen saw r nb vb t1 t2
  rw [execs_zf]
  refine wpAny_flowT (run_call ok hn [L] [frm hs tk ep sl (locN hv false NH seen saw (r.out (.bytes nb t1) (.bytes vb t2)))] 1 500 120 (low1 lL) (by simp) ⟨hL, trivial⟩ ar.deep ar.handled (outV1 w.params n t L hs tk ep sl _) rfl F.1 F.2.1 F.2.2 trivial fun h' dr' af => ?_)
  rw [hc]
  refine h1 _ _ _ ark af.ok fun x s₁ b₁ ok₁ => ?_
  obtain ⟨hs₁, tk₁, ep₁, sl₁, hL₁⟩ : LocAt s₁.heap L (locN hv false NH seen saw (r.out (.bytes nb t1) (.bytes vb t2))) := LocAt.keep ⟨_, _, _, _, af.get 0 _ h0⟩ b₁
  obtain ⟨n₁, hn₁⟩ := ok₁.size
  obtain ⟨h₁, g₁, d₁, t₁, o₁⟩ := s₁
  obtain ⟨ok₁, rfl, rfl⟩ := ok₁
  obtain ⟨F₁, hc₁, h0₁⟩ := v2R w.params n t L n₁ t₁ x hs hs₁ tk tk₁ ep ep₁ sl sl₁ hv NH seen saw r nb vb t1 t2
  refine run_call ok₁ hn₁ [L] [frm hs₁ tk₁ ep₁ sl₁ (locN hv false NH seen saw (r.out (.bytes nb t1) (.bytes vb t2)))] 1 500 20 (low1 lL) (by simp) ⟨hL₁, trivial⟩ ar.deep ar.handled (outV2 w.params n t L n₁ t₁ x hs hs₁ tk tk₁ ep ep₁ sl sl₁ _) rfl F₁.1 F₁.2.1 F₁.2.2 trivial fun h₂ dr₂ af₁ => ?_
  rw [hc₁]
  refine h2 _ _ _ ark af₁.ok fun y s₃ b₃ ok₃ => ?_
  obtain ⟨hs₃, tk₃, ep₃, sl₃, hL₃⟩ : LocAt s₃.heap L (locN hv false NH seen saw (r.out (.bytes nb t1) (.bytes vb t2))) := LocAt.keep ⟨_, _, _, _, af₁.get 0 _ h0₁⟩ b₃
  obtain ⟨n₃, hn₃⟩ := ok₃.size
  obtain ⟨h₃, g₃, d₃, t₃, o₃⟩ := s₃
  obtain ⟨ok₃, rfl, rfl⟩ := ok₃
  obtain ⟨F₃, hf₃, h0₃⟩ := v3R w.params n t L n₁ t₁ x n₃ t₃ y hs hs₁ hs₃ tk tk₁ tk₃ ep ep₁ ep₃ sl sl₁ sl₃ hv NH seen saw r nb vb t1 t2
  refine run_fin ok₃ hn₃ [L] [frm hs₃ tk₃ ep₃ sl₃ (locN hv false NH seen saw (r.out (.bytes nb t1) (.bytes vb t2)))] 1 500 10 (low1 lL) (by simp) ⟨hL₃, trivial⟩ ar.deep ar.handled (outV w.params n₃ t₃ L hs₃ tk₃ ep₃ sl₃ _ 10 0 1000 (treeOf (outV2 w.params n t L n₁ t₁ x hs hs₁ tk tk₁ ep ep₁ sl sl₁ (locN hv false NH seen saw (r.out (.bytes nb t1) (.bytes vb t2)))) (.ok (.ret (.ref y))))) rfl F₃.1 F₃.2 trivial fun h₄ dr₄ af₃ => ?_
  rw [hf₃]
  exact hQ _ (af.but.trans (b₁.nil.trans (af₁.but.trans (b₃.nil.trans af₃.but)))) af₃.ok ⟨_, _, _, _, af₃.get 0 _ h0₃⟩
end
end Mine
end
section
open PySem PySem.W PySem.W.X PySem.Calls PyProof.Rows
set_option maxRecDepth 100000
set_option maxHeartbeats 4000000
namespace Mine
open PySem.W.ZFast
def Old.out3 (r : Old) (a b c : Value) : List (Str × Value) := match r with | .zero => (Old.one c).out a b | .one _ => (Old.one c).out a b | .two _ d => (Old.two c d).out a b
def Old.aft (r : Old) (c : Value) : Old := match r with | .zero => .one c | .one _ => .one c | .two _ d => .two c d
noncomputable def treeS (L : Nat) : Sem Fin := flowT (zw12563942051412417395 [bN 1, bN 2, bN 3] (envN L))
theorem s123R (P : Params) (n t L : Nat) (hs : Nat → Int) (tk : Nat → Nat) (ep : Nat) (sl : Array (Option Value)) (hv : Value) (pa : Bool) (NH : Nat) (seen saw : Value) (r : Old) (nb vb : Array UInt8) (t1 t2 : Nat) :
    let o := outV P n t L hs tk ep sl (locN hv pa NH seen saw (r.out (.bytes nb t1) (.bytes vb t2))) 50 79538856449977354885481431040 1000 (treeS L)
    fin3 o [L] (n + 258) ∧ finOf o = .done .next ∧ frm0 o sl (locN hv pa NH seen saw ((r.aft (.bytes nb t1)).out (.bytes nb t1) (.bytes vb t2))) := by
  cases r <;> refine ⟨⟨?_, ?_, ?_, ?_⟩, ?_, ?_⟩
  all_goals (show _ = _; kernel_rfl)
def RowAt (h : Heap) (a : Nat) (x y z : Array UInt8) : Prop := ∃ t1 t2 t3 ep, h.get? a = some (tupO [.bytes x t1, .bytes y t2, .bytes z t3] ep)
def LstAt (h : Heap) (a : Nat) (arr : Array Value) : Prop := ∃ ep, h.get? a = some (lstO arr ep)
noncomputable def outW (P : Params) (n t L NH : Nat) (hs : Nat → Int) (tk : Nat → Nat) (ep : Nat) (sl : Array (Option Value)) (l : List (Str × Value)) (arr : Array Value) (ep1 : Nat) (fuel ora calls : Nat) (tr : Sem Fin) : Out :=
  run ⟨pw, P⟩ (Ktop P) (n + 258) t 2 500 fuel (dec fuel ora) calls default none [] tr (tabFrom 0 [frm hs tk ep sl l, lstO arr ep1]) 0 0 [] []
noncomputable def treeB (L : Nat) : Sem Fin := flowT (zw12563942051412417395 [bN 4, bN 5] (envN L))
abbrev lst1 (o : Out) (arr : Array Value) : Prop := tget (tabOf o) 1 = some (lstO arr (epOf (objAt o 1)))
abbrev row2 (o : Out) (x y z : Array UInt8) : Prop := tget (tabOf o) 2 = some (tupO [.bytes x (sqTok (objAt o 2) 0), .bytes y (sqTok (objAt o 2) 1), .bytes z (sqTok (objAt o 2) 2)] (epOf (objAt o 2)))
section
variable {w : World} {A : Around} {E : Value → Shared → Prop} {h : Heap} {g : Array GenState} {dr : Drawn} {t : Nat} {o : OsState}
theorem Ar.under {c : Code} (ar : Ar A) (hc : c.weight = 0) : Ar (A.under c) := ⟨by have := ar.deep; show A.depth + c.weight ≤ 500; omega, ar.handled⟩
theorem codeAny_append (ar : Ar A) (ok : Okay w.params h) {l : Nat} {x : Value} {arr : Array Value} (ll : Low w.params l) (hl : LstAt h l arr) (hsz : arr.size ≤ 1000) {R : Result → Shared → Prop}
    (hQ : ∀ s', But [l] h s'.heap → OkS w.params g o s' → LstAt s'.heap l (arr.push x) → R (.ok (.ret .none)) s') : codeAny (model pw w) A (.call (.builtin "list.append") ⟨[.ref l, x], []⟩) R ⟨h, g, dr, t, o⟩ := by
  obtain ⟨ep, hl⟩ := hl
  have hT : (⟨h, g, dr, t, o⟩ : Shared).TypeIs (.ref l) "list" := ⟨_, hl, rfl⟩
  have up := Heap.get?_update_self (Obj.mapSeq (·.push x)) hl rfl
  have sb : But [l] h (h.update l (Obj.mapSeq (·.push x))) := ⟨fun b o e nb => (Heap.get?_update_other _ _ (fun e' => nb (by rw [← e']; simp))).trans e, by rw [Heap.size_update]; exact Nat.le_refl _⟩
  refine codeAny_call_builtin slot_list_append.plain entry_list_append (slot_list_append.check _ _ _ _ _ _ _ _ hT (args_list_append _ _) ?_)
  show wpAny _ _ (updateSeq l (·.push x) >>= fun _ => ret .none) _ _ _
  refine wpAny_bind (wpAny_updateSeq hl rfl (wpAny_pure ?_) (hz := Nat.le_trans hsz (by decide)) (_hz' := by rw [Array.size_push]; exact Nat.le_trans (Nat.succ_le_succ hsz) (by decide)))
  exact hQ _ sb (ok.but (low1 ll) sb) ⟨_, up⟩
end
end Mine
end
section
open PySem PySem.W PySem.W.X PySem.Calls PyProof.Rows
set_option maxRecDepth 100000
set_option maxHeartbeats 4000000
namespace Mine
open PySem.W.ZFast
def plains : List (List Nat × List Nat) := [([65], [97]), ([65, 99, 99, 101, 112, 116], [97, 99, 99, 101, 112, 116]), ([97, 64, 98], [97, 64, 98]), ([66], [98]), ([67], [99]), ([], []), ([68], [100]), ([72, 111, 115, 116], [104, 111, 115, 116]), ([97], [97]), ([97, 99, 99, 101, 112, 116], [97, 99, 99, 101, 112, 116]), ([100], [100])]
def Old.full : Old → Prop | .zero => False | _ => True
theorem Old.aft_full (r : Old) (c : Value) : (r.aft c).full := by cases r <;> trivial
def Old.raw (r : Old) (c : Value) : Old := match r with | .zero => .zero | .one _ => .one c | .two _ d => .two c d
noncomputable abbrev outP1 (P : Params) (b : Bool × Bool × Bool) (n t L NH : Nat) (hs : Nat → Int) (tk : Nat → Nat) (ep : Nat) (sl : Array (Option Value)) (l : List (Str × Value)) (arr : Array Value) (ep1 : Nat) : Out :=
  outW (mkP P b.1 b.2.1 b.2.2) n t L NH hs tk ep sl l arr ep1 60 79538865931676430420005683457 3 (treeB L)
abbrev row2' (o : Out) (x y z : Array UInt8) : Prop := tget (tabOf o) 2 = some (tupO [.bytes x (sqTok (objAt o 2) 0), .bytes y (sqTok (objAt o 2) 1), .bytes z (sqTok (objAt o 2) 2)] (epOf (objAt o 2)))
theorem plain1R (P : Params) (b1 b2 b3 : Bool) (n t L NH : Nat) (hs : Nat → Int) (tk : Nat → Nat) (ep : Nat) (sl : Array (Option Value)) (hv : Value) (pa : Bool) (seen saw : Value) (r : Old) (hr : r.full) (nm lo : List Nat) (hm : (nm, lo) ∈ plains) (vb raw : Array UInt8) (t1 t2 t3 : Nat) (arr : Array Value) (ep1 : Nat) :
    let r' := r.raw (.bytes raw t3)
    let o := outP1 P (b1, b2, b3) n t L NH hs tk ep sl (locN hv pa NH seen saw (r'.out (.bytes (bts nm) t1) (.bytes vb t2))) arr ep1
    call3 o [L, NH] (n + 258) ∧ codeOf o = .call (.builtin "list.append") ⟨[.ref NH, .ref (n + 258)], []⟩ ∧ frm0 o sl (locN hv pa NH seen saw (r'.out (vlOf (objAt o 0) 5) (.bytes vb t2))) ∧ lst1 o arr ∧ row2 o raw (bts lo) vb := by
  simp only [plains, List.mem_cons, List.not_mem_nil, or_false, Prod.mk.injEq] at hm
  cases b1 <;> cases r <;> first | exact hr.elim | skip
  all_goals (rcases hm with ⟨rfl, rfl⟩ | ⟨rfl, rfl⟩ | ⟨rfl, rfl⟩ | ⟨rfl, rfl⟩ | ⟨rfl, rfl⟩ | ⟨rfl, rfl⟩ | ⟨rfl, rfl⟩ | ⟨rfl, rfl⟩ | ⟨rfl, rfl⟩ | ⟨rfl, rfl⟩ | ⟨rfl, rfl⟩ <;> refine ⟨⟨?_, ?_, ?_, ?_, ?_⟩, ?_, ?_, ?_, ?_⟩ <;> (show _ = _; kernel_rfl))
noncomputable def outZ (P : Params) (n t fuel calls : Nat) (tr : Sem Fin) : Out := run ⟨pw, P⟩ (Ktop P) (n + 258) t 0 500 fuel (dec fuel 0) calls default none [] tr (tabFrom 0 []) 0 0 [] []
theorem plain2R (P : Params) (b1 b2 b3 : Bool) (n t n' t' L NH : Nat) (hs : Nat → Int) (tk : Nat → Nat) (ep : Nat) (sl : Array (Option Value)) (hv : Value) (pa : Bool) (seen saw : Value) (r : Old) (hr : r.full) (nm lo : List Nat) (hm : (nm, lo) ∈ plains) (vb raw : Array UInt8) (t1 t2 t3 : Nat) (arr : Array Value) (ep1 : Nat) :
    let r' := r.raw (.bytes raw t3)
    let o := outZ (mkP P b1 b2 b3) n' t' 10 1000 (treeOf (outP1 P (b1, b2, b3) n t L NH hs tk ep sl (locN hv pa NH seen saw (r'.out (.bytes (bts nm) t1) (.bytes vb t2))) arr ep1) (.ok (.ret .none)))
    fin3 o [] (n' + 258) ∧ finOf o = .done .next := by
  simp only [plains, List.mem_cons, List.not_mem_nil, or_false, Prod.mk.injEq] at hm
  cases b1 <;> cases r <;> first | exact hr.elim | skip
  all_goals (rcases hm with ⟨rfl, rfl⟩ | ⟨rfl, rfl⟩ | ⟨rfl, rfl⟩ | ⟨rfl, rfl⟩ | ⟨rfl, rfl⟩ | ⟨rfl, rfl⟩ | ⟨rfl, rfl⟩ | ⟨rfl, rfl⟩ | ⟨rfl, rfl⟩ | ⟨rfl, rfl⟩ | ⟨rfl, rfl⟩ <;> refine ⟨⟨?_, ?_, ?_, ?_⟩, ?_⟩ <;> (show _ = _; kernel_rfl))
theorem low2 {P : Params} {a b : Nat} (h : Low P a) (h' : Low P b) : ∀ x ∈ [a, b], Low P x := fun x m => by
  simp only [List.mem_cons, List.not_mem_nil, or_false] at m
  rcases m with rfl | rfl <;> assumption
theorem low0 {P : Params} : ∀ x ∈ ([] : List Nat), Low P x := fun _ m => nomatch m
theorem LstAt.keep {h h' : Heap} {a : Nat} {arr : Array Value} {ds : List Nat} (x : LstAt h a arr) (b : But ds h h') (n : a ∉ ds) : LstAt h' a arr := let ⟨ep, e⟩ := x; ⟨ep, b.keep _ _ e n⟩
theorem RowAt.keep {h h' : Heap} {a : Nat} {x y z : Array UInt8} {ds : List Nat} (r : RowAt h a x y z) (b : But ds h h') (n : a ∉ ds) : RowAt h' a x y z := let ⟨t1, t2, t3, ep, e⟩ := r; ⟨t1, t2, t3, ep, b.keep _ _ e n⟩
theorem LocAt.keeps {h h' : Heap} {L : Nat} {l : List (Str × Value)} {ds : List Nat} (x : LocAt h L l) (b : But ds h h') (n : L ∉ ds) : LocAt h' L l := let ⟨hs, tk, ep, sl, e⟩ := x; ⟨hs, tk, ep, sl, b.keep _ _ e n⟩
section
variable {w : World} {A : Around} {E : Value → Shared → Prop} {h : Heap} {g : Array GenState} {dr : Drawn} {t : Nat} {o : OsState}
theorem s123N (ar : Ar A) (ok : Okay w.params h) {L NH t1 t2 : Nat} {hv seen saw : Value} {pa : Bool} {nb vb : Array UInt8} {r : Old} (lL : Low w.params L) (hL : LocAt h L (locN hv pa NH seen saw (r.out (.bytes nb t1) (.bytes vb t2))))
    {Q : Flow → Shared → Prop} (hQ : ∀ s', But [L] h s'.heap → OkS w.params g o s' → LocAt s'.heap L (locN hv pa NH seen saw ((r.aft (.bytes nb t1)).out (.bytes nb t1) (.bytes vb t2))) → Q .next s') : wpAny (model pw w) A (execs [bN 1, bN 2, bN 3] (envN L)) Q E ⟨h, g, dr, t, o⟩ := by
  obtain ⟨hs, tk, ep, sl, hL⟩ := hL
  obtain ⟨n, hn⟩ := ok.size
  obtain ⟨F, hf, h0⟩ := s123R w.params n t L hs tk ep sl hv pa NH seen saw r nb vb t1 t2
  rw [execs_zf]
  refine wpAny_flowT (run_fin ok hn [L] [frm hs tk ep sl (locN hv pa NH seen saw (r.out (.bytes nb t1) (.bytes vb t2)))] 1 500 50 (low1 lL) (by simp) ⟨hL, trivial⟩ ar.deep ar.handled (outV w.params n t L hs tk ep sl _ 50 79538856449977354885481431040 1000 (treeS L)) rfl F.1 F.2 trivial fun h' dr' af => ?_)
  rw [hf]
  exact hQ _ af.but af.ok ⟨_, _, _, _, af.get 0 _ h0⟩
theorem plainN (ar : Ar A) (ok : Okay w.params h) {L NH t1 t2 t3 : Nat} {hv seen saw : Value} {pa : Bool} {nm lo : List Nat} (hm : (nm, lo) ∈ plains) {vb raw : Array UInt8} {r : Old} (hr : r.full) {arr : Array Value} (lL : Low w.params L) (lN : Low w.params NH)
    (hL : LocAt h L (locN hv pa NH seen saw ((r.raw (.bytes raw t3)).out (.bytes (bts nm) t1) (.bytes vb t2)))) (hN : LstAt h NH arr) (hsz : arr.size ≤ 1000)
    {Q : Flow → Shared → Prop} (hQ : ∀ a v s', But [L, NH] h s'.heap → OkS w.params g o s' → LocAt s'.heap L (locN hv pa NH seen saw ((r.raw (.bytes raw t3)).out v (.bytes vb t2))) → LstAt s'.heap NH (arr.push (.ref a)) → @LE.le Nat _ h.objs.size a → RowAt s'.heap a raw (bts lo) vb → Q .next s') :
    wpAny (model pw w) A (execs [bN 4, bN 5] (envN L)) Q E ⟨h, g, dr, t, o⟩ := by
  obtain ⟨hs, tk, ep, sl, hL⟩ := hL
  obtain ⟨ep1, hN⟩ := hN
  obtain ⟨n, hn⟩ := ok.size
  obtain ⟨b1, b2, b3, hP⟩ := params_split w.params
  have hne : L ≠ NH := ne_of_obj hL hN (by intro e; have := congrArg Obj.cls e; simp [frm, lstO] at this)
  obtain ⟨F, hc, h0, h1, h2⟩ := plain1R w.params b1 b2 b3 n t L NH hs tk ep sl hv pa seen saw r hr nm lo hm vb raw t1 t2 t3 arr ep1
  rw [execs_zf]
  refine wpAny_flowT (run_call ok hn [L, NH] [frm hs tk ep sl (locN hv pa NH seen saw ((r.raw (.bytes raw t3)).out (.bytes (bts nm) t1) (.bytes vb t2))), lstO arr ep1] 2 500 60 (low2 lL lN) (by simp [hne]) ⟨hL, hN, trivial⟩ ar.deep ar.handled
    (outP1 w.params (b1, b2, b3) n t L NH hs tk ep sl _ arr ep1) (by unfold outP1 outW; rw [← hP]; rfl) F.1 F.2.1 F.2.2 trivial fun h' dr' af => ?_)
  rw [hc]
  have hN' : LstAt h' NH arr := ⟨_, af.get 1 _ h1⟩
  refine codeAny_append ar af.ok lN hN' hsz fun s₁ b₁ ok₁ hN₁ => ?_
  obtain ⟨n₁, hn₁⟩ := ok₁.size
  obtain ⟨h₁, g₁, d₁, t₁, o₁⟩ := s₁
  obtain ⟨ok₁, rfl, rfl⟩ := ok₁
  obtain ⟨F₁, hf₁⟩ := plain2R w.params b1 b2 b3 n t n₁ t₁ L NH hs tk ep sl hv pa seen saw r hr nm lo hm vb raw t1 t2 t3 arr ep1
  refine run_fin ok₁ hn₁ [] [] 0 500 10 low0 (by simp) trivial ar.deep ar.handled (outZ w.params n₁ t₁ 10 1000 (treeOf (outP1 w.params (b1, b2, b3) n t L NH hs tk ep sl (locN hv pa NH seen saw ((r.raw (.bytes raw t3)).out (.bytes (bts nm) t1) (.bytes vb t2))) arr ep1) (.ok (.ret .none)))) rfl (by rw [← hP] at F₁; exact F₁.1) (by rw [← hP] at F₁; exact F₁.2) trivial fun h₂ dr₂ af₁ => ?_
  rw [← hP] at hf₁
  rw [hf₁]
  have l2 : RowAt h' (n + 258) raw (bts lo) vb := ⟨_, _, _, _, af.get 2 _ h2⟩
  have l0 : LocAt h' L _ := ⟨_, _, _, _, af.get 0 _ h0⟩
  have hnN : n + 258 ≠ NH := by have := Heap.lt_size hN; rw [hn] at this; exact Nat.ne_of_gt this
  have bb : But [L, NH] h₁ h₂ := af₁.but.mono (fun _ m => nomatch m)
  have b₁' : But [L, NH] h' h₁ := b₁.mono (fun a m => by simp only [List.mem_cons, List.not_mem_nil, or_false] at m ⊢; exact .inr m)
  refine hQ (n + 258) _ _ (af.but.trans (b₁'.trans bb)) af₁.ok ((l0.keeps b₁ (by simpa using hne)).keeps af₁.but (fun m => nomatch m)) (hN₁.keep af₁.but (fun m => nomatch m)) (by rw [hn]; exact Nat.le_refl _) ((l2.keep b₁ (by simpa using hnN)).keep af₁.but (fun m => nomatch m))
end
end Mine
end
section
open PySem PySem.W PySem.W.X PySem.Calls PyProof.Rows
set_option maxRecDepth 100000
set_option maxHeartbeats 4000000
namespace Mine
open PySem.W.ZFast
def teLow : List Nat := [116, 114, 97, 110, 115, 102, 101, 114, 45, 101, 110, 99, 111, 100, 105, 110, 103]
def chunked : List Nat := [99, 104, 117, 110, 107, 101, 100]
def codings : List (List Nat × List Nat) := [([84, 114, 97, 110, 115, 102, 101, 114, 45, 69, 110, 99, 111, 100, 105, 110, 103], [67, 72, 85, 78, 75, 69, 68]), ([116, 114, 97, 110, 115, 102, 101, 114, 45, 101, 110, 99, 111, 100, 105, 110, 103], [99, 104, 117, 110, 107, 101, 100])]
noncomputable abbrev outT1 (P : Params) (b : Bool × Bool × Bool) (n t L NH : Nat) (hs : Nat → Int) (tk : Nat → Nat) (ep : Nat) (sl : Array (Option Value)) (l : List (Str × Value)) (arr : Array Value) (ep1 : Nat) : Out :=
  outW (mkP P b.1 b.2.1 b.2.2) n t L NH hs tk ep sl l arr ep1 110 5731379311541916979143223041915733718593503489 5 (treeB L)
theorem te1R (P : Params) (b1 b2 b3 : Bool) (n t L NH : Nat) (hs : Nat → Int) (tk : Nat → Nat) (ep : Nat) (sl : Array (Option Value)) (hv : Value) (pa : Bool) (seen : Value) (r : Old) (hr : r.full) (nm vl : List Nat) (hm : (nm, vl) ∈ codings) (raw : Array UInt8) (t1 t2 t3 : Nat) (arr : Array Value) (ep1 : Nat) :
    let r' := r.raw (.bytes raw t3)
    let o := outT1 P (b1, b2, b3) n t L NH hs tk ep sl (locN hv pa NH seen (.bool false) (r'.out (.bytes (bts nm) t1) (.bytes (bts vl) t2))) arr ep1
    call3 o [L, NH] (n + 258) ∧ codeOf o = .call (.builtin "list.append") ⟨[.ref NH, .ref (n + 258)], []⟩ ∧ frm0 o sl (locN hv pa NH seen (.bool true) (r'.out (vlOf (objAt o 0) 5) (vlOf (objAt o 0) 6))) ∧ lst1 o arr ∧ row2 o raw (bts teLow) (bts chunked) := by
  simp only [codings, List.mem_cons, List.not_mem_nil, or_false, Prod.mk.injEq] at hm
  cases b1 <;> cases r <;> first | exact hr.elim | skip
  all_goals (rcases hm with ⟨rfl, rfl⟩ | ⟨rfl, rfl⟩ <;> refine ⟨⟨?_, ?_, ?_, ?_, ?_⟩, ?_, ?_, ?_, ?_⟩ <;> (show _ = _; kernel_rfl))
theorem te2R (P : Params) (b1 b2 b3 : Bool) (n t n' t' L NH : Nat) (hs : Nat → Int) (tk : Nat → Nat) (ep : Nat) (sl : Array (Option Value)) (hv : Value) (pa : Bool) (seen : Value) (r : Old) (hr : r.full) (nm vl : List Nat) (hm : (nm, vl) ∈ codings) (raw : Array UInt8) (t1 t2 t3 : Nat) (arr : Array Value) (ep1 : Nat) :
    let r' := r.raw (.bytes raw t3)
    let o := outZ (mkP P b1 b2 b3) n' t' 10 1000 (treeOf (outT1 P (b1, b2, b3) n t L NH hs tk ep sl (locN hv pa NH seen (.bool false) (r'.out (.bytes (bts nm) t1) (.bytes (bts vl) t2))) arr ep1) (.ok (.ret .none)))
    fin3 o [] (n' + 258) ∧ finOf o = .done .next := by
  simp only [codings, List.mem_cons, List.not_mem_nil, or_false, Prod.mk.injEq] at hm
  cases b1 <;> cases r <;> first | exact hr.elim | skip
  all_goals (rcases hm with ⟨rfl, rfl⟩ | ⟨rfl, rfl⟩ <;> refine ⟨⟨?_, ?_, ?_, ?_⟩, ?_⟩ <;> (show _ = _; kernel_rfl))
section
variable {w : World} {A : Around} {E : Value → Shared → Prop} {h : Heap} {g : Array GenState} {dr : Drawn} {t : Nat} {o : OsState}
theorem teN (ar : Ar A) (ok : Okay w.params h) {L NH t1 t2 t3 : Nat} {hv seen : Value} {pa : Bool} {nm vl : List Nat} (hm : (nm, vl) ∈ codings) {raw : Array UInt8} {r : Old} (hr : r.full) {arr : Array Value} (lL : Low w.params L) (lN : Low w.params NH)
    (hL : LocAt h L (locN hv pa NH seen (.bool false) ((r.raw (.bytes raw t3)).out (.bytes (bts nm) t1) (.bytes (bts vl) t2)))) (hN : LstAt h NH arr) (hsz : arr.size ≤ 1000)
    {Q : Flow → Shared → Prop} (hQ : ∀ a v u s', But [L, NH] h s'.heap → OkS w.params g o s' → LocAt s'.heap L (locN hv pa NH seen (.bool true) ((r.raw (.bytes raw t3)).out v u)) → LstAt s'.heap NH (arr.push (.ref a)) → @LE.le Nat _ h.objs.size a → RowAt s'.heap a raw (bts teLow) (bts chunked) → Q .next s') :
    wpAny (model pw w) A (execs [bN 4, bN 5] (envN L)) Q E ⟨h, g, dr, t, o⟩ := by
  obtain ⟨hs, tk, ep, sl, hL⟩ := hL
  obtain ⟨ep1, hN⟩ := hN
  obtain ⟨n, hn⟩ := ok.size
  obtain ⟨b1, b2, b3, hP⟩ := params_split w.params
  have hne : L ≠ NH := ne_of_obj hL hN (by intro e; have := congrArg Obj.cls e; simp [frm, lstO] at this)
  obtain ⟨F, hc, h0, h1, h2⟩ := te1R w.params b1 b2 b3 n t L NH hs tk ep sl hv pa seen r hr nm vl hm raw t1 t2 t3 arr ep1
  rw [execs_zf]
  refine wpAny_flowT (run_call ok hn [L, NH] [frm hs tk ep sl (locN hv pa NH seen (.bool false) ((r.raw (.bytes raw t3)).out (.bytes (bts nm) t1) (.bytes (bts vl) t2))), lstO arr ep1] 2 500 110 (low2 lL lN) (by simp [hne]) ⟨hL, hN, trivial⟩ ar.deep ar.handled
    (outT1 w.params (b1, b2, b3) n t L NH hs tk ep sl _ arr ep1) (by unfold outT1 outW; rw [← hP]; rfl) F.1 F.2.1 F.2.2 trivial fun h' dr' af => ?_)
  rw [hc]
  have hN' : LstAt h' NH arr := ⟨_, af.get 1 _ h1⟩
  refine codeAny_append ar af.ok lN hN' hsz fun s₁ b₁ ok₁ hN₁ => ?_
  obtain ⟨n₁, hn₁⟩ := ok₁.size
  obtain ⟨h₁, g₁, d₁, t₁, o₁⟩ := s₁
  obtain ⟨ok₁, rfl, rfl⟩ := ok₁
  obtain ⟨F₁, hf₁⟩ := te2R w.params b1 b2 b3 n t n₁ t₁ L NH hs tk ep sl hv pa seen r hr nm vl hm raw t1 t2 t3 arr ep1
  refine run_fin ok₁ hn₁ [] [] 0 500 10 low0 (by simp) trivial ar.deep ar.handled (outZ w.params n₁ t₁ 10 1000 (treeOf (outT1 w.params (b1, b2, b3) n t L NH hs tk ep sl (locN hv pa NH seen (.bool false) ((r.raw (.bytes raw t3)).out (.bytes (bts nm) t1) (.bytes (bts vl) t2))) arr ep1) (.ok (.ret .none)))) rfl (by rw [← hP] at F₁; exact F₁.1) (by rw [← hP] at F₁; exact F₁.2) trivial fun h₂ dr₂ af₁ => ?_
  rw [← hP] at hf₁
  rw [hf₁]
  have l2 : RowAt h' (n + 258) raw (bts teLow) (bts chunked) := ⟨_, _, _, _, af.get 2 _ h2⟩
  have l0 : LocAt h' L _ := ⟨_, _, _, _, af.get 0 _ h0⟩
  have hnN : n + 258 ≠ NH := by have := Heap.lt_size hN; rw [hn] at this; exact Nat.ne_of_gt this
  have bb : But [L, NH] h₁ h₂ := af₁.but.mono (fun _ m => nomatch m)
  have b₁' : But [L, NH] h' h₁ := b₁.mono (fun a m => by simp only [List.mem_cons, List.not_mem_nil, or_false] at m ⊢; exact .inr m)
  refine hQ (n + 258) _ _ _ (af.but.trans (b₁'.trans bb)) af₁.ok ((l0.keeps b₁ (by simpa using hne)).keeps af₁.but (fun m => nomatch m)) (hN₁.keep af₁.but (fun m => nomatch m)) (by rw [hn]; exact Nat.le_refl _) ((l2.keep b₁ (by simpa using hnN)).keep af₁.but (fun m => nomatch m))
end
end Mine
end
section
open PySem PySem.W PySem.W.X PySem.Calls PyProof.Rows
set_option maxRecDepth 100000
set_option maxHeartbeats 4000000
namespace Mine
open PySem.W.ZFast
def sRegex : Str := ⟨#[114, 101, 103, 101, 120]⟩
def sData : Str := ⟨#[100, 97, 116, 97]⟩
def sMsg : Str := ⟨#[109, 115, 103]⟩
def sFargs : Str := ⟨#[102, 111, 114, 109, 97, 116, 95, 97, 114, 103, 115]⟩
noncomputable def bodyV : List Stmt := bodyOf (fdOf P0 88)
noncomputable def envV (L : Nat) : Env := callEnv (fdOf P0 88) L 88
def locV (re : Nat) (b : Array UInt8) (t1 : Nat) (msg : Str) (tm fa : Nat) : List (Str × Value) := [(sRegex, .ref re), (sData, .bytes b t1), (sMsg, .str msg tm), (sFargs, .ref fa)]
def extra : Bool → Array UInt8 → Nat → List Value
  | true, b, t => [.bytes b t]
  | false, _, _ => []
noncomputable def outVE (P : Params) (n t re : Nat) (b : Array UInt8) (t1 : Nat) (msg : Str) (tm : Nat) (x : Bool) : Out :=
  run ⟨pw, P⟩ (Ktop P) (n + 258) t 0 500 30 (dec 30 2427333410363490734964736) 1000 default none [] (enterT (.call (.ref 88) ⟨[.ref re, .bytes b t1, .str msg tm] ++ extra x b t1, []⟩)) (tabFrom 0 []) 0 0 [] []
theorem veR (P : Params) (n t re : Nat) (b : Array UInt8) (t1 : Nat) (msg : Str) (tm : Nat) (x : Bool) :
    let o := outVE P n t re b t1 msg tm x
    fin3 o [] (n + 258) ∧ finOf o = .again (.func bodyV (envV (n + 258 + 1))) ∧ tget (tabOf o) 1 = some (frm (hsOf (objAt o 1)) (tkOf (objAt o 1)) (epOf (objAt o 1)) #[] (locV re b t1 msg tm (n + 258))) := by
  cases x <;> refine ⟨⟨?_, ?_, ?_, ?_⟩, ?_, ?_⟩
  all_goals (show _ = _; kernel_rfl)
def goods : List (Nat × List Nat) := [(105, [65]), (105, [65, 99, 99, 101, 112, 116]), (105, [66]), (105, [67]), (105, [67, 111, 110, 116, 101, 110, 116, 45, 76, 101, 110, 103, 116, 104]), (105, [99, 111, 110, 116, 101, 110, 116, 45, 76, 69, 78, 71, 84, 72]), (105, [67, 79, 78, 84, 69, 78, 84, 45, 108, 101, 110, 103, 116, 104]), (105, [84, 114, 97, 110, 115, 102, 101, 114, 45, 69, 110, 99, 111, 100, 105, 110, 103]), (105, [116, 114, 97, 110, 115, 102, 101, 114, 45, 101, 110, 99, 111, 100, 105, 110, 103]), (105, [68]), (105, [72, 111, 115, 116]), (105, [97]), (105, [97, 99, 99, 101, 112, 116]), (105, [100]), (105, [99, 111, 110, 116, 101, 110, 116, 45, 108, 101, 110, 103, 116, 104]), (110, [98]), (110, [120, 44, 32, 121]), (110, [51]), (110, [51, 44, 32, 51]), (110, [48, 51]), (110, [52, 44, 51]), (110, [120]), (110, [48, 48, 48, 48, 48, 48, 48, 48, 48, 48, 48, 48, 48, 48, 48, 48, 48, 48, 48, 48, 51]), (110, [67, 72, 85, 78, 75, 69, 68]), (110, [99, 104, 117, 110, 107, 101, 100]), (110, [103, 122, 105, 112]), (110, [255, 1]), (110, [104]), (100, [51]), (100, [48, 51]), (100, [48, 48, 48, 48, 48, 48, 48, 48, 48, 48, 48, 48, 48, 48, 48, 48, 48, 48, 48, 48, 51])]
noncomputable def outVB (P : Params) (n t L : Nat) (hs : Nat → Int) (tk : Nat → Nat) (ep : Nat) (sl : Array (Option Value)) (l : List (Str × Value)) : Out :=
  run ⟨pw, P⟩ (Ktop P) (n + 258) t 1 500 80 (dec 80 752690537362324767818752805497537941019386273857537) 1000 default none [] (enterT (.func bodyV (envV L))) (tabFrom 0 [frm hs tk ep sl l]) 0 0 [] []
theorem vbR (P : Params) (n t L : Nat) (hs : Nat → Int) (tk : Nat → Nat) (ep : Nat) (sl : Array (Option Value)) (re : Nat) (b : List Nat) (hm : (re, b) ∈ goods) (t1 : Nat) (msg : Str) (tm fa : Nat) :
    let o := outVB P n t L hs tk ep sl (locV re (bts b) t1 msg tm fa)
    fin3 o [L] (n + 258) ∧ finOf o = .done (.ret (.ref (n + 258 + 2))) := by
  simp only [goods, List.mem_cons, List.not_mem_nil, or_false, Prod.mk.injEq] at hm
  rcases hm with ⟨rfl, rfl⟩ | ⟨rfl, rfl⟩ | ⟨rfl, rfl⟩ | ⟨rfl, rfl⟩ | ⟨rfl, rfl⟩ | ⟨rfl, rfl⟩ | ⟨rfl, rfl⟩ | ⟨rfl, rfl⟩ | ⟨rfl, rfl⟩ | ⟨rfl, rfl⟩ | ⟨rfl, rfl⟩ | ⟨rfl, rfl⟩ | ⟨rfl, rfl⟩ | ⟨rfl, rfl⟩ | ⟨rfl, rfl⟩ | ⟨rfl, rfl⟩ | ⟨rfl, rfl⟩ | ⟨rfl, rfl⟩ | ⟨rfl, rfl⟩ | ⟨rfl, rfl⟩ | ⟨rfl, rfl⟩ | ⟨rfl, rfl⟩ | ⟨rfl, rfl⟩ | ⟨rfl, rfl⟩ | ⟨rfl, rfl⟩ | ⟨rfl, rfl⟩ | ⟨rfl, rfl⟩ | ⟨rfl, rfl⟩ | ⟨rfl, rfl⟩ | ⟨rfl, rfl⟩ | ⟨rfl, rfl⟩ <;> refine ⟨⟨?_, ?_, ?_, ?_⟩, ?_⟩ <;> (show _ = _; kernel_rfl)
theorem But.fresh {ds : List Nat} {h h₁ h₂ : Heap} (x : But [] h h₁) (y : But ds h₁ h₂) (hf : ∀ a ∈ ds, @LE.le Nat _ h.objs.size a) : But [] h h₂ :=
  ⟨fun b o e _ => y.keep b o (x.keep b o e (fun m => nomatch m)) (fun m => absurd (Heap.lt_size e) (Nat.not_lt.mpr (hf b m))), Nat.le_trans x.size y.size⟩
section
variable {w : World} {A : Around} {h : Heap} {g : Array GenState} {dr : Drawn} {t : Nat} {o : OsState}
theorem enterV (ark : ArK 1 A) (ok : Okay w.params h) {re t1 tm : Nat} {b : Array UInt8} {msg : Str} (x : Bool) {R : Result → Shared → Prop}
    (hQ : ∀ L fa s', @LE.le Nat _ h.objs.size L → Low w.params L → But [] h s'.heap → OkS w.params g o s' → LocAt s'.heap L (locV re b t1 msg tm fa) → codeAny (model pw w) A (.func bodyV (envV L)) R s') :
    codeAny (model pw w) A (.call (.ref 88) ⟨[.ref re, .bytes b t1, .str msg tm] ++ extra x b t1, []⟩) R ⟨h, g, dr, t, o⟩ := by
  obtain ⟨n, hn⟩ := ok.size
  obtain ⟨F, hf, h1⟩ := veR w.params n t re b t1 msg tm x
  have hw : (A.under (.call (.ref 88) ⟨[.ref re, .bytes b t1, .str msg tm] ++ extra x b t1, []⟩)).depth = A.depth := rfl
  have hd := ark.weak.deep
  refine codeAny_enter (fun _ => by rw [hw]; exact Nat.lt_of_le_of_lt hd (by decide)) ?_
  refine run_fin ok hn [] [] 0 500 30 low0 (by simp) trivial (by rw [hw]; exact hd) ark.handled (outVE w.params n t re b t1 msg tm x) rfl F.1 F.2 trivial fun h' dr' af => ?_
  rw [hf]
  refine ⟨af.ok.nolimit, rfl, hQ _ (n + 258) _ ?_ ?_ (af.but.mono (fun _ m => nomatch m)) af.ok ⟨_, _, _, _, af.get 1 _ h1⟩⟩
  · rw [hn]; exact Nat.le_add_right _ _
  · exact Low.high (by omega)
theorem passes {re : Nat} {b : List Nat} (hm : (re, b) ∈ goods) (x : Bool) {R : Result → Shared → Prop} (msg : Str) (tm t1 : Nat) (ark : ArK 2 A) (ok : Okay w.params h)
    (hR : ∀ x s', But [] h s'.heap → OkS w.params g o s' → R (.ok (.ret (.ref x))) s') : codeAny (model pw w) A (.call (.ref 88) ⟨[.ref re, .bytes (bts b) t1, .str msg tm] ++ extra x (bts b) t1, []⟩) R ⟨h, g, dr, t, o⟩ := by
  refine enterV (ark.less (by decide)) ok x fun L fa s' hL lL b₁ ok₁ hloc => ?_
  obtain ⟨hs, tk, ep, sl, hloc⟩ := hloc
  obtain ⟨n₁, hn₁⟩ := ok₁.size
  obtain ⟨h₁, g₁, d₁, t₁, o₁⟩ := s'
  obtain ⟨ok₁, rfl, rfl⟩ := ok₁
  obtain ⟨F, hf⟩ := vbR w.params n₁ t₁ L hs tk ep sl re b hm t1 msg tm fa
  have aw : Ar (A.under (.func bodyV (envV L))) := (ark.under (Nat.le_refl _)).weak
  refine codeAny_enter (fun hc => by cases hc) ?_
  refine run_fin ok₁ hn₁ [L] [frm hs tk ep sl (locV re (bts b) t1 msg tm fa)] 1 500 80 (low1 lL) (by simp) ⟨hloc, trivial⟩ aw.deep aw.handled (outVB w.params n₁ t₁ L hs tk ep sl _) rfl F.1 F.2 trivial fun h₂ dr₂ af => ?_
  rw [hf]
  exact ⟨af.ok.nolimit, hR _ _ (b₁.fresh af.but (fun a m => by rw [List.mem_singleton.mp m]; exact hL)) af.ok⟩
theorem passesN {re : Nat} {b : List Nat} (hm : (re, b) ∈ goods) : Passes w re (bts b) := fun msg tm t1 ark ok hR => passes hm true msg tm t1 ark ok hR
end
end Mine
end
section
open PySem PySem.W PySem.W.X PySem.Calls PyProof.Rows
set_option maxRecDepth 100000
set_option maxHeartbeats 4000000
namespace Mine
open PySem.W.ZFast
def kws : Bool → Nat → List (Str × Value)
  | true, _ => []
  | false, t => [(sHint, .int 501 t)]
def hintOf : Bool → Int
  | true => 400
  | false => 501
noncomputable def outE (P : Params) (b : Bool × Bool × Bool) (n t fuel ora : Nat) (c : Code) : Out :=
  run ⟨pw, mkP P b.1 b.2.1 b.2.2⟩ (Ktop (mkP P b.1 b.2.1 b.2.2)) (n + 258) t 0 500 fuel (dec fuel ora) 1000 default none [] (enterT c) (tabFrom 0 []) 0 0 [] []
def cE1 (msg : Str) (tm : Nat) (k : Bool) (tk : Nat) : Code := .call (.ref 78) ⟨[.str msg tm], kws k tk⟩
def cE2 (msg : Str) (tm : Nat) (k : Bool) (tk : Nat) : Code := .call (.builtin "type.__call__") ⟨[.ref 78, .str msg tm], kws k tk⟩
def cE3 (msg : Str) (tm : Nat) (k : Bool) (tk : Nat) : Code := .builtin "type.__call__" ⟨[.ref 78, .str msg tm], kws k tk⟩
theorem e1R (P : Params) (b1 b2 b3 : Bool) (n t : Nat) (msg : Str) (tm : Nat) (k : Bool) (tk : Nat) :
    let o := outE P (b1, b2, b3) n t 10 0 (cE1 msg tm k tk)
    fin3 o [] (n + 258) ∧ finOf o = .again (cE2 msg tm k tk) := by
  cases k <;> refine ⟨⟨?_, ?_, ?_, ?_⟩, ?_⟩
  all_goals (show _ = _; kernel_rfl)
theorem e2R (P : Params) (b1 b2 b3 : Bool) (n t : Nat) (msg : Str) (tm : Nat) (k : Bool) (tk : Nat) :
    let o := outE P (b1, b2, b3) n t 10 0 (cE2 msg tm k tk)
    fin3 o [] (n + 258) ∧ finOf o = .again (cE3 msg tm k tk) := by
  cases k <;> refine ⟨⟨?_, ?_, ?_, ?_⟩, ?_⟩
  all_goals (show _ = _; kernel_rfl)
def excO (d a : Nat) : Obj := ⟨.ref 78, some d, .fields #[.ref a, .none, .none, .none, .bool false, .none], #[]⟩
def hintO (hs : Int) (tk : Nat) (hint : Int) (ti ep : Nat) : Obj := ⟨.type "dict", none, .dict #[⟨hs, .str sHint tk, .int hint ti⟩] ep, #[]⟩
theorem e3R (P : Params) (b1 b2 b3 : Bool) (n t : Nat) (msg : Str) (tm : Nat) (k : Bool) (tk : Nat) :
    let o := outE P (b1, b2, b3) n t 190 864398610419050921599404885047849227465130842950179323328619215149658804165465445436400050315393076150790276909127665993492722484763193215803416109724232362697963096621929159863974031277521931582880227569450766910722593831052047304053442166632032982627491250176 (cE3 msg tm k tk)
    fin3 o [] (n + 258) ∧ finOf o = .done (.ret (.ref (n + 258 + 1))) ∧ tget (tabOf o) 1 = some (excO (n + 258 + 6) (n + 258 + 5)) ∧ tget (tabOf o) 6 = some (hintO (hsOf (objAt o 6) 0) (tkOf (objAt o 6) 0) (hintOf k) (keyTok (vlOf (objAt o 6) 0)) (epOf (objAt o 6))) := by
  cases b1 <;> cases k <;> refine ⟨⟨?_, ?_, ?_, ?_⟩, ?_, ?_, ?_⟩
  all_goals (show _ = _; kernel_rfl)
def ExcAt (h : Heap) (e : Nat) (hint : Int) : Prop := ∃ d a hs tk ti ep, h.get? e = some (excO d a) ∧ h.get? d = some (hintO hs tk hint ti ep)
section
variable {w : World} {A : Around} {h : Heap} {g : Array GenState} {dr : Drawn} {t : Nat} {o : OsState}
theorem newExcN (ark : ArK 2 A) (ok : Okay w.params h) (msg : Str) (tm : Nat) (k : Bool) (tk : Nat) {R : Result → Shared → Prop}
    (hQ : ∀ e s', @LE.le Nat _ h.objs.size e → But [] h s'.heap → OkS w.params g o s' → ExcAt s'.heap e (hintOf k) → R (.ok (.ret (.ref e))) s') : codeAny (model pw w) A (cE1 msg tm k tk) R ⟨h, g, dr, t, o⟩ := by
  obtain ⟨b1, b2, b3, hP⟩ := params_split w.params
  have hd := ark.weak.deep
  obtain ⟨n, hn⟩ := ok.size
  obtain ⟨F, hf⟩ := e1R w.params b1 b2 b3 n t msg tm k tk
  refine codeAny_enter (fun _ => Nat.lt_of_le_of_lt hd (by decide)) ?_
  refine run_fin ok hn [] [] 0 500 10 low0 (by simp) trivial hd ark.handled (outE w.params (b1, b2, b3) n t 10 0 (cE1 msg tm k tk)) (by unfold outE; rw [← hP]; rfl) F.1 F.2 trivial fun h₁ dr₁ af₁ => ?_
  rw [hf]
  refine ⟨af₁.ok.nolimit, by rw [ze17772548960776305114]; kernel_rfl, ?_⟩
  obtain ⟨n₁, hn₁⟩ := af₁.ok.size
  obtain ⟨F, hf⟩ := e2R w.params b1 b2 b3 n₁ (t + tokOf (outE w.params (b1, b2, b3) n t 10 0 (cE1 msg tm k tk))) msg tm k tk
  refine codeAny_enter (fun hc => by cases hc) ?_
  refine run_fin af₁.ok hn₁ [] [] 0 500 10 low0 (by simp) trivial hd ark.handled (outE w.params (b1, b2, b3) n₁ _ 10 0 (cE2 msg tm k tk)) (by unfold outE; rw [← hP]; rfl) F.1 F.2 trivial fun h₂ dr₂ af₂ => ?_
  rw [hf]
  refine ⟨af₂.ok.nolimit, by rw [ze17772548960776305114]; kernel_rfl, ?_⟩
  generalize t + tokOf (outE w.params (b1, b2, b3) n t 10 0 (cE1 msg tm k tk)) + tokOf (outE w.params (b1, b2, b3) n₁ (t + tokOf (outE w.params (b1, b2, b3) n t 10 0 (cE1 msg tm k tk))) 10 0 (cE2 msg tm k tk)) = t₂
  obtain ⟨n₂, hn₂⟩ := af₂.ok.size
  obtain ⟨F, hf, h1, h6⟩ := e3R w.params b1 b2 b3 n₂ t₂ msg tm k tk
  have ar3 : ArK 1 (A.under (cE3 msg tm k tk)) := ark.under (by rw [ze1243936422450756474]; exact Nat.le_of_ble_eq_true (by kernel_rfl))
  refine codeAny_enter (fun hc => by cases hc) ?_
  refine run_fin af₂.ok hn₂ [] [] 0 500 190 low0 (by simp) trivial ar3.weak.deep ar3.handled (outE w.params (b1, b2, b3) n₂ t₂ 190 _ (cE3 msg tm k tk)) (by unfold outE; rw [← hP]; rfl) F.1 F.2 trivial fun h₃ dr₃ af₃ => ?_
  rw [hf]
  have b13 : But [] h h₃ := af₁.but.trans (af₂.but.trans af₃.but)
  refine ⟨af₃.ok.nolimit, hQ _ _ ?_ b13 af₃.ok ⟨_, _, _, _, _, _, af₃.get 1 _ h1, af₃.get 6 _ h6⟩⟩
  have s1 := af₁.but.size
  have s2 := af₂.but.size
  rw [hn₂] at s2
  exact Nat.le_trans (Nat.le_trans s1 s2) (Nat.le_add_right _ _)
end
end Mine
end
section
open PySem PySem.W PySem.W.X PySem.Calls PyProof.Rows
set_option maxRecDepth 100000
set_option maxHeartbeats 4000000
namespace Mine
def heap0 : Heap := ⟨#[], {}⟩
theorem heap0_get (a : Nat) : heap0.get? a = none := by simp [heap0, Heap.get?]
structure Keep (B : Heap) (FL : List Nat) (h : Heap) : Prop where
  old : ∀ b o, B.get? b = some o → b ∉ FL → h.get? b = some o
  frm : ∀ b o, B.get? b = some o → ∃ sl, h.get? b = some { o with slots := sl }
  size : @LE.le Nat _ B.objs.size h.objs.size
theorem Keep.refl (B : Heap) (FL : List Nat) : Keep B FL B := ⟨fun _ _ e _ => e, fun _ o e => ⟨o.slots, e⟩, Nat.le_refl _⟩
def frames (l : List Env) : List Nat := l.filterMap (·.frame)
def TbOk (B h : Heap) (e : Nat) (tb : Value) : Option Value → Prop
  | none => tb = .none
  | some v => ∃ T oT ts, tb = .ref T ∧ T ≠ e ∧ B.get? T = none ∧ h.get? T = some oT ∧ oT.data = .fields ts ∧ ts[3]? = some v
def excT (d a : Nat) (tb : Value) : Obj := ⟨.ref 78, some d, .fields #[.ref a, tb, .none, .none, .bool false, .none], #[]⟩
def HintAt (h : Heap) (d : Nat) (hint : Int) : Prop := ∃ hs tk ti ep sl, h.get? d = some ⟨.type "dict", none, .dict #[⟨hs, .str sHint tk, .int hint ti⟩] ep, sl⟩
def Exc (B h : Heap) (e : Nat) (hint : Int) (fl : Option Value) : Prop := ∃ d a tb, h.get? e = some (excT d a tb) ∧ B.get? e = none ∧ HintAt h d hint ∧ TbOk B h e tb fl
section
variable {M : Model} {A : Around} {E : Value → Shared → Prop} {s : Shared}
theorem newEntryN {B : Heap} {env : Env} {outer : List Env} {L e d a : Nat} {tb head : Value} {hint : Int} {hadNext : Bool} {Q : Unit → Shared → Prop}
    (hfr : A.frames = some (env :: outer)) (hl : s.heap.FunFrames heap0 (env :: outer)) (hf : env.frame = some L)
    (he : s.heap.get? e = some (excT d a tb)) (hen : B.get? e = none) (hh : HintAt s.heap d hint) (hk : Keep B (frames (env :: outer)) s.heap)
    (h : ∀ h', Keep B (frames (env :: outer)) h' → h'.FunFrames heap0 (env :: outer) → Exc B h' e hint (some (rawInt L)) → Q () { s with heap := h' }) :
    wpAny M A (do let a ← frameOf env; let pl ← entryPlaceOf L hadNext; let b ← EntryCells.newEntry head a .none (rawInt L) .none pl; setField (.ref e) 1 b) Q E s := by
  have hene : e ∉ frames (env :: outer) := fun hm => by
    obtain ⟨_, o, ho, hnf⟩ := hl.mem hm
    rw [he] at ho; injection ho with ho; subst ho; exact hnf _ rfl
  refine wpAny_bind (wpAny_frameOf_fun hfr hl hf fun h₁ hs₁ => ?_)
  refine wpAny_bind (wpAny_entryPlaceOf fun pl hpl => ?_)
  unfold EntryCells.newEntry newFields
  refine wpAny_bind (wpAny_newObj_type ?_ (hpl.sizeOk5 _ _ _ _ _))
  have he₁ : h₁.get? e = some (excT d a tb) := (hs₁.2.1 e hene).trans he
  have he₂ := Heap.get?_push_of_some (h := h₁) { cls := .type "traceback", dict := none, data := .fields ([head, .ref L, .none, rawInt L, .none] ++ (if pl.isEmpty then List.replicate 6 Value.none else pl)).toArray } he₁
  refine wpAny_setField he₂ rfl (by simp) (h _ ?_ ?_ ?_)
  all_goals
    have hTe : h₁.objs.size ≠ e := Nat.ne_of_gt (Heap.lt_size he₁)
    have keep : ∀ b o, b ≠ e → h₁.get? b = some o →
        ((h₁.push { cls := .type "traceback", dict := none, data := .fields ([head, .ref L, .none, rawInt L, .none] ++ (if pl.isEmpty then List.replicate 6 Value.none else pl)).toArray }).update e (Obj.mapFields (·.setIfInBounds 1 (Value.ref h₁.objs.size)))).get? b = some o :=
      fun b o hbe hb => by
        rw [Heap.get?_update_other _ _ (Ne.symm hbe)]
        exact Heap.get?_push_of_some _ hb
    have nb : ∀ b o, B.get? b = some o → b ≠ e := fun b o hb q => by rw [q, hen] at hb; cases hb
  · refine ⟨fun b o hb hn => keep b o (nb b o hb) ((hs₁.2.1 b hn).trans (hk.old b o hb hn)), fun b o hb => ?_, ?_⟩
    · obtain ⟨sl, hsl⟩ := hk.frm b o hb
      obtain ⟨sl', hsl'⟩ := hs₁.2.2 b _ hsl
      exact ⟨sl', keep b _ (nb b o hb) hsl'⟩
    · have := hk.size
      simp only [Heap.size_after_update, Heap.size_push]
      rw [hs₁.1]
      omega
  · refine hl.of_keeps fun b o hb hnf => ?_
    obtain ⟨sl, hs⟩ := hs₁.2.2 b o hb
    exact ⟨_, keep b _ (fun q => by rw [q, he] at hb; injection hb with hb; subst hb; exact hnf _ rfl) hs, rfl⟩
  · have he₃ := Heap.get?_update_self (Obj.mapFields (·.setIfInBounds 1 (Value.ref h₁.objs.size))) he₂ rfl
    refine ⟨d, a, .ref h₁.objs.size, he₃, hen, ?_, h₁.objs.size, _, _, rfl, hTe, ?_, (Heap.get?_update_other _ _ (Ne.symm hTe)).trans (Heap.get?_push_size h₁ rfl), rfl, ?_⟩
    · obtain ⟨x1, x2, x3, x4, x5, hd⟩ := hh
      obtain ⟨sl, hd'⟩ := hs₁.2.2 d _ hd
      refine ⟨x1, x2, x3, x4, sl, keep d _ (fun q => ?_) hd'⟩
      rw [q, he] at hd
      injection hd with hd
      have := congrArg Obj.cls hd
      simp [excT] at this
    · cases hq : B.get? h₁.objs.size with
      | none => rfl
      | some o =>
        have h1 := Heap.lt_size hq
        have h2 := hk.size
        rw [hs₁.1] at h1
        exact absurd h1 (Nat.not_lt.mpr h2)
    · rcases hpl with rfl | ⟨_, _, _, _, _, _, _, rfl⟩ <;> simp
theorem Exc.tb {B h : Heap} {e : Nat} {hint : Int} {v : Value} (x : Exc B h e hint (some v)) (f : Value) {FL : List Nat} {l : List Env} (hk : Keep B FL h) (hl : h.FunFrames heap0 l) : ∃ d a T oT ts, h.get? e = some (excT d a (.ref T)) ∧ h.get? T = some oT ∧ oT.data = .fields ts ∧ ts[3]? = some v ∧
    (∀ h', h' = h.update T (Obj.mapFields (·.setIfInBounds 3 f)) → Keep B FL h' ∧ h'.FunFrames heap0 l ∧ Exc B h' e hint (some f) ∧ h'.get? e = some (excT d a (.ref T)) ∧ HintAt h' d hint) := by
  obtain ⟨d, a, tb, he, hen, hh, T, oT, ts, rfl, hTe, hTn, hT, hdT, h3⟩ := x
  refine ⟨d, a, T, oT, ts, he, hT, hdT, h3, fun h' q => ?_⟩
  subst q
  have other : ∀ b, b ≠ T → (h.update T (Obj.mapFields (·.setIfInBounds 3 f))).get? b = h.get? b := fun b hb => Heap.get?_update_other _ _ (Ne.symm hb)
  have nb : ∀ b o, B.get? b = some o → b ≠ T := fun b o hb q => by rw [q, hTn] at hb; cases hb
  have he' := (other e (Ne.symm hTe)).trans he
  have hh' : HintAt (h.update T (Obj.mapFields (·.setIfInBounds 3 f))) d hint := by
    obtain ⟨x1, x2, x3, x4, x5, hd⟩ := hh
    refine ⟨x1, x2, x3, x4, x5, (other d fun q => ?_).trans hd⟩
    rw [q, hT] at hd
    injection hd with hd
    rw [hd] at hdT
    cases hdT
  have sz : 3 < ts.size := (Array.getElem?_eq_some_iff.mp h3).1
  refine ⟨⟨fun b o hb hn => (other b (nb b o hb)).trans (hk.old b o hb hn), fun b o hb => ?_, ?_⟩, hl.of_keeps fun b o hb hnf => ⟨o, (other b fun q => ?_).trans hb, rfl⟩, ⟨d, a, _, he', hen, hh', T, _, _, rfl, hTe, hTn, Heap.get?_update_self _ hT (Obj.isFreed_of_fields (Obj.data_mapFields hdT _)), Obj.data_mapFields hdT _, by simp [sz]⟩, he', hh'⟩
  · obtain ⟨sl, hs⟩ := hk.frm b o hb
    exact ⟨sl, (other b (nb b o hb)).trans hs⟩
  · rw [Heap.size_after_update]; exact hk.size
  · rw [q, hT] at hb; injection hb with hb; subst hb; exact hnf ts hdT
theorem noteN {B : Heap} {env : Env} {outer : List Env} {L e : Nat} {hint : Int} {fl : Option Value} {Q : Unit → Shared → Prop}
    (hfr : A.frames = some (env :: outer)) (hl : s.heap.FunFrames heap0 (env :: outer)) (hf : env.frame = some L) (hk : Keep B (frames (env :: outer)) s.heap) (x : Exc B s.heap e hint fl) (hfl : fl = none ∨ fl = some .none ∨ fl = some (rawInt L))
    (h : ∀ h', Keep B (frames (env :: outer)) h' → h'.FunFrames heap0 (env :: outer) → Exc B h' e hint (some (rawInt L)) → Q () { s with heap := h' }) : wpAny M A (noteFrame (.ref e) env) Q E s := by
  unfold noteFrame
  simp only [hf]
  rcases hfl with rfl | rfl | rfl
  · obtain ⟨d, a, tb, he, hen, hh, rfl⟩ := x
    refine wpAny_bind (wpAny_field he rfl (x := .none) rfl ?_)
    rw [if_neg (by decide)]
    exact newEntryN hfr hl hf he hen hh hk h
  · have hen : B.get? e = none := let ⟨_, _, _, _, hen, _⟩ := x; hen
    obtain ⟨d, a, T, oT, ts, he, hT, hdT, h3, hch⟩ := x.tb .none hk hl
    refine wpAny_bind (wpAny_field he rfl (x := .ref T) rfl ?_)
    rw [if_pos (show (Value.ref T != Value.none) = true from by simp)]
    refine wpAny_bind (wpAny_field hT hdT h3 ?_)
    rw [if_neg (show ¬ ((Value.none == rawInt L) = true) from by simp [rawInt])]
    refine wpAny_bind (wpAny_setField hT hdT (Array.getElem?_eq_some_iff.mp h3).1 ?_)
    obtain ⟨k', l', x', he', hh'⟩ := hch _ rfl
    exact newEntryN (s := { s with heap := s.heap.update T (Obj.mapFields (·.setIfInBounds 3 .none)) }) hfr l' hf he' hen hh' k' h
  · have x0 := x
    obtain ⟨d, a, T, oT, ts, he, hT, hdT, h3, hch⟩ := x.tb .none hk hl
    refine wpAny_bind (wpAny_field he rfl (x := .ref T) rfl ?_)
    rw [if_pos (show (Value.ref T != Value.none) = true from by simp)]
    refine wpAny_bind (wpAny_field hT hdT h3 ?_)
    rw [if_pos (show (rawInt L == rawInt L) = true from by simp)]
    exact wpAny_pure (h _ hk hl x0)
theorem flightN {B : Heap} {l : List Env} {e : Nat} {hint : Int} {v : Value} {FL : List Nat} {fr : Option Nat} {Q : Unit → Shared → Prop} (hl : s.heap.FunFrames heap0 l) (hk : Keep B FL s.heap) (x : Exc B s.heap e hint (some v))
    (h : ∀ h', Keep B FL h' → h'.FunFrames heap0 l → Exc B h' e hint (some (fr.elim .none fun f => rawInt f)) → Q () { s with heap := h' }) : wpAny M A (setFlight (.ref e) fr) Q E s := by
  obtain ⟨d, a, T, oT, ts, he, hT, hdT, h3, hch⟩ := x.tb (fr.elim .none fun f => rawInt f) hk hl
  unfold setFlight
  refine wpAny_bind (wpAny_field he rfl (x := .ref T) rfl ?_)
  rw [if_pos (show (Value.ref T != Value.none) = true from by simp)]
  obtain ⟨k', l', x', _, _⟩ := hch _ rfl
  exact wpAny_setField hT hdT (Array.getElem?_eq_some_iff.mp h3).1 (h _ k' l' x')
theorem leaveN {B : Heap} {env : Env} {outer : List Env} {L e : Nat} {hint : Int} {fl : Option Value} {Q : Unit → Shared → Prop}
    (hfr : A.frames = some (env :: outer)) (hl : s.heap.FunFrames heap0 (env :: outer)) (hf : env.frame = some L) (hk : Keep B (frames (env :: outer)) s.heap) (x : Exc B s.heap e hint fl) (hfl : fl = none ∨ fl = some .none ∨ fl = some (rawInt L))
    (h : ∀ h', Keep B (frames (env :: outer)) h' → h'.FunFrames heap0 (env :: outer) → Exc B h' e hint (some .none) → Q () { s with heap := h' }) : wpAny M A (PySem.«leaving» env (.ref e)) Q E s := by
  unfold PySem.«leaving»
  refine wpAny_bind (noteN hfr hl hf hk x hfl fun h₁ k₁ l₁ x₁ => ?_)
  exact flightN (s := { s with heap := h₁ }) (fr := none) l₁ k₁ x₁ h
theorem backN {B : Heap} {env : Env} {l : List Env} {e : Nat} {hint : Int} {v : Value} {FL : List Nat} (hl : s.heap.FunFrames heap0 l) (hk : Keep B FL s.heap) (x : Exc B s.heap e hint (some v))
    (h : ∀ h', Keep B FL h' → h'.FunFrames heap0 l → Exc B h' e hint (some (env.frame.elim .none fun f => rawInt f)) → E (.ref e) { s with heap := h' }) : cameBackBy M A env E (.ref e) s := by
  unfold cameBackBy
  obtain ⟨d, a, T, oT, ts, he, hT, hdT, h3, hch⟩ := x.tb .none hk hl
  refine wpAny_bind (wpAny_field he rfl (x := .ref T) rfl ?_)
  rw [if_neg (show ¬ ((Value.ref T == Value.none) = true) from by simp)]
  exact flightN hl hk x h
end
end Mine
end
section
open PySem PySem.W PySem.W.X PySem.Calls PyProof.Rows
set_option maxRecDepth 100000
set_option maxHeartbeats 4000000
namespace Mine
open PySem.W.ZFast
noncomputable def outX (P : Params) (n t d a : Nat) (tr : Sem Fin) : Out := run ⟨pw, P⟩ (Ktop P) (n + 258) t 1 500 20 (dec 20 281479288455425) 1000 default none [] tr (tabFrom 0 [excO d a]) 0 0 [] []
abbrev raised (o : Out) (e n d a : Nat) : Prop := exc3 o [e] n ∧ excOf o = .ref e ∧ tget (tabOf o) 0 = some (excO d a)
def bads : List (Nat × List Nat) := [(105, [97, 64, 98]), (105, []), (110, [32, 100]), (110, [101, 0, 102]), (100, [120])]
noncomputable def treeVB (L : Nat) : Sem Fin := flowT (zw12563942051412417395 bodyV (envV L))
noncomputable def outVX (P : Params) (n t L : Nat) (hs : Nat → Int) (tk : Nat → Nat) (ep : Nat) (sl : Array (Option Value)) (l : List (Str × Value)) : Out :=
  run ⟨pw, P⟩ (Ktop P) (n + 258) t 1 500 60 (dec 60 20282720302309677867614307614721) 1 default none [] (treeVB L) (tabFrom 0 [frm hs tk ep sl l]) 0 0 [] []
theorem vxR (P : Params) (n t L : Nat) (hs : Nat → Int) (tk : Nat → Nat) (ep : Nat) (sl : Array (Option Value)) (re : Nat) (b : List Nat) (hm : (re, b) ∈ bads) (t1 : Nat) (msg : Str) (tm fa : Nat) :
    let o := outVX P n t L hs tk ep sl (locV re (bts b) t1 msg tm fa)
    call3 o [L] (n + 258) ∧ codeOf o = cE1 msg tm true 0 ∧ tget (tabOf o) 0 = some (frm (hsOf (objAt o 0)) (tkOf (objAt o 0)) (epOf (objAt o 0)) sl ((entL (objAt o 0)).map fun e => (strP e.key, e.val))) := by
  simp only [bads, List.mem_cons, List.not_mem_nil, or_false, Prod.mk.injEq] at hm
  rcases hm with ⟨rfl, rfl⟩ | ⟨rfl, rfl⟩ | ⟨rfl, rfl⟩ | ⟨rfl, rfl⟩ | ⟨rfl, rfl⟩ <;> refine ⟨⟨?_, ?_, ?_, ?_, ?_⟩, ?_, ?_⟩ <;> (show _ = _; kernel_rfl)
theorem vyR (P : Params) (n t n' t' L e d a : Nat) (hs : Nat → Int) (tk : Nat → Nat) (ep : Nat) (sl : Array (Option Value)) (re : Nat) (b : List Nat) (hm : (re, b) ∈ bads) (t1 : Nat) (msg : Str) (tm fa : Nat) :
    raised (outX P n' t' d a (treeOf (outVX P n t L hs tk ep sl (locV re (bts b) t1 msg tm fa)) (.ok (.ret (.ref e))))) e (n' + 258) d a := by
  simp only [bads, List.mem_cons, List.not_mem_nil, or_false, Prod.mk.injEq] at hm
  rcases hm with ⟨rfl, rfl⟩ | ⟨rfl, rfl⟩ | ⟨rfl, rfl⟩ | ⟨rfl, rfl⟩ | ⟨rfl, rfl⟩ <;> refine ⟨⟨?_, ?_, ?_, ?_⟩, ?_, ?_⟩ <;> (show _ = _; kernel_rfl)
theorem Keep.but {B h h' : Heap} {FL ds : List Nat} (k : Keep B FL h) (b : But ds h h') (hd : ∀ a ∈ ds, B.get? a = none) : Keep B FL h' :=
  have nd : ∀ x o, B.get? x = some o → x ∉ ds := fun x o e m => by rw [hd x m] at e; cases e
  ⟨fun x o e n => b.keep x o (k.old x o e n) (nd x o e), fun x o e => let ⟨sl, q⟩ := k.frm x o e; ⟨sl, b.keep x _ q (nd x o e)⟩, Nat.le_trans k.size b.size⟩
theorem Keep.more {B h : Heap} {FL : List Nat} {L : Nat} (k : Keep B FL h) : Keep B (L :: FL) h := ⟨fun x o e n => k.old x o e fun m => n (List.mem_cons_of_mem _ m), k.frm, k.size⟩
theorem Keep.drop {B h : Heap} {FL : List Nat} {L : Nat} (k : Keep B (L :: FL) h) (n : B.get? L = none) : Keep B FL h :=
  ⟨fun x o e m => k.old x o e fun q => (List.mem_cons.mp q).elim (fun q => by rw [q, n] at e; cases e) m, k.frm, k.size⟩
theorem Keep.new {B h : Heap} {FL : List Nat} {L : Nat} (k : Keep B FL h) (hL : @LE.le Nat _ h.objs.size L) : B.get? L = none := by
  cases q : B.get? L with
  | none => rfl
  | some o => exact absurd (Heap.lt_size q) (Nat.not_lt.mpr (Nat.le_trans k.size hL))
theorem Keep.okay {P : Params} {B h : Heap} {FL : List Nat} (k : Keep B FL h) (ok : Okay P B) (hl : ∀ a ∈ FL, Low P a) : Okay P h where
  top a o e := k.old a o (ok.top a o e) fun m => by rw [(hl a m).1] at e; cases e
  nolimit := ok.nolimit.at fun o e => k.old _ o e fun m => (hl _ m).2 rfl
  size := by
    obtain ⟨n, hn⟩ := ok.size
    have := k.size
    exact ⟨h.objs.size - 258, by omega⟩
theorem FunFrames.but {h h' : Heap} {l : List Env} {ds : List Nat} (x : h.FunFrames heap0 l) (b : But ds h h') (hd : ∀ a ∈ frames l, a ∉ ds) : h'.FunFrames heap0 l := by
  induction l with
  | nil => trivial
  | cons env l ih =>
    obtain ⟨hk, ⟨L, o, hf, hn, ho, hnf⟩, hr⟩ := x
    have hL : L ∈ frames (env :: l) := by unfold frames; simp [hf]
    refine ⟨hk, ⟨L, o, hf, hn, b.keep _ _ ho (hd L hL), hnf⟩, ih hr fun a m => hd a ?_⟩
    unfold frames at m ⊢
    simp only [List.filterMap_cons, hf]
    exact List.mem_cons_of_mem _ m
theorem LocAt.frame {h : Heap} {L : Nat} {l : List (Str × Value)} (x : LocAt h L l) : ∃ o, h.get? L = some o ∧ ∀ vs, o.data ≠ .fields vs := let ⟨_, _, _, _, e⟩ := x; ⟨_, e, fun _ q => by cases q⟩
theorem frCons {h : Heap} {env : Env} {l : List Env} {L : Nat} (x : h.FunFrames heap0 l) (hk : env.scope.kind ≠ .module) (hf : env.frame = some L) (hL : ∃ o, h.get? L = some o ∧ ∀ vs, o.data ≠ .fields vs) : h.FunFrames heap0 (env :: l) :=
  let ⟨o, ho, hd⟩ := hL; ⟨hk, ⟨L, o, hf, heap0_get L, ho, hd⟩, x⟩
theorem ExcAt.exc {B h : Heap} {e : Nat} {hint : Int} (x : ExcAt h e hint) (n : B.get? e = none) : Exc B h e hint none :=
  let ⟨d, a, hs, tk, ti, ep, he, hd⟩ := x; ⟨d, a, .none, he, n, ⟨hs, tk, ti, ep, #[], hd⟩, rfl⟩
theorem envV_kind (L : Nat) : (envV L).scope.kind ≠ .module := by
  have : (match (envV L).scope.kind with | .module => true | _ => false) = false := by kernel_rfl
  intro e
  rw [e] at this
  cases this
theorem envV_frame (L : Nat) : (envV L).frame = some L := rfl
section
variable {w : World} {A : Around} {E : Value → Shared → Prop} {h : Heap} {g : Array GenState} {dr : Drawn} {t : Nat} {o : OsState}
theorem raiseN (ar : Ar A) (ok : Okay w.params h) {e : Nat} {hint : Int} {tr : Sem Fin} {Q : Fin → Shared → Prop} (he : ExcAt h e hint) (le : Low w.params e)
    (hR : ∀ n d a, raised (outX w.params n t d a tr) e (n + 258) d a) (hE : ∀ s', But [] h s'.heap → OkS w.params g o s' → ExcAt s'.heap e hint → E (.ref e) s') : wpAny (model pw w) A tr Q E ⟨h, g, dr, t, o⟩ := by
  obtain ⟨d, a, hs, tk, ti, ep, he, hd⟩ := he
  obtain ⟨n, hn⟩ := ok.size
  obtain ⟨F, hx, h0⟩ := hR n d a
  refine run_exc ok hn [e] [excO d a] 0 500 20 (low1 le) (by simp) ⟨he, trivial⟩ ar.deep ar.handled (outX w.params n t d a tr) rfl F.1 F.2 ⟨h0, trivial⟩ fun h' dr' af => ?_
  rw [hx]
  exact hE _ af.but af.ok ⟨d, a, hs, tk, ti, ep, af.but.keep _ _ he (fun m => nomatch m), af.but.keep _ _ hd (fun m => nomatch m)⟩
theorem fails {B : Heap} {outer : List Env} {re : Nat} {b : List Nat} (hm : (re, b) ∈ bads) (x : Bool) {R : Result → Shared → Prop} (msg : Str) (tm t1 : Nat) (ark : ArK 4 A) (ok : Okay w.params h) (hfr : A.frames = some outer) (hl : h.FunFrames heap0 outer)
    (hk : Keep B (frames outer) h)
    (hR : ∀ e s', g = s'.gens ∧ o = s'.os → Keep B (frames outer) s'.heap → s'.heap.FunFrames heap0 outer → Exc B s'.heap e 400 (some .none) → R (.error (.ref e)) s') : codeAny (model pw w) A (.call (.ref 88) ⟨[.ref re, .bytes (bts b) t1, .str msg tm] ++ extra x (bts b) t1, []⟩) R ⟨h, g, dr, t, o⟩ := by
  refine enterV (ark.less (by decide)) ok x fun L fa s' hL lL b₁ ok₁ hloc => ?_
  obtain ⟨hs, tk, ep, sl, hloc⟩ := hloc
  obtain ⟨n₁, hn₁⟩ := ok₁.size
  obtain ⟨h₁, g₁, d₁, t₁, o₁⟩ := s'
  obtain ⟨ok₁, rfl, rfl⟩ := ok₁
  have arD : ArK 3 (A.deeper (envV L)) := ⟨by have := ark.deep; show A.depth + 1 + 3 ≤ 500; omega, ark.handled⟩
  have nLB : B.get? L = none := hk.new hL
  have nF : ∀ a ∈ frames outer, a ≠ L := fun a m q => by
    obtain ⟨_, o, ho, _⟩ := hl.mem m
    rw [q] at ho
    exact absurd (Heap.lt_size ho) (Nat.not_lt.mpr hL)
  obtain ⟨F, hc, h0⟩ := vxR w.params n₁ t₁ L hs tk ep sl re b hm t1 msg tm fa
  refine codeAny_func ?_
  show wpAny _ _ (execs bodyV (envV L)) _ _ _
  rw [execs_zf]
  refine wpAny_flowT (run_call ok₁ hn₁ [L] [frm hs tk ep sl (locV re (bts b) t1 msg tm fa)] 1 500 60 (low1 lL) (by simp) ⟨hloc, trivial⟩ arD.weak.deep arD.handled (outVX w.params n₁ t₁ L hs tk ep sl _) rfl F.1 F.2.1 F.2.2 trivial fun h₂ dr₂ af => ?_)
  rw [hc]
  refine newExcN (arD.less (by decide)) af.ok msg tm true 0 fun e s₃ hle b₃ ok₃ hx => ?_
  obtain ⟨h₃, g₃, d₃, t₃, o₃⟩ := s₃
  obtain ⟨ok₃, rfl, rfl⟩ := ok₃
  refine raiseN arD.weak ok₃ hx (Low.high (Nat.le_trans (by rw [af.size]; exact Nat.le_trans (Nat.le_add_left 258 n₁) (Nat.le_add_right _ _)) hle)) (fun n d a => vyR w.params n₁ t₁ n t₃ L e d a hs tk ep sl re b hm t1 msg tm fa) fun s₄ b₄ ok₄ hx₄ => ?_
  obtain ⟨h₄, g₄, d₄, t₄, o₄⟩ := s₄
  obtain ⟨ok₄, rfl, rfl⟩ := ok₄
  have fl₁ : h₁.FunFrames heap0 outer := FunFrames.but hl b₁ (fun _ _ m => nomatch m)
  have fl₂ : h₂.FunFrames heap0 outer := FunFrames.but fl₁ af.but (fun a m => by simpa using nF a m)
  have fl₄ : h₄.FunFrames heap0 outer := FunFrames.but fl₂ (b₃.trans b₄) (fun _ _ m => nomatch m)
  have k₁ : Keep B (frames outer) h₁ := hk.but b₁ (fun _ m => nomatch m)
  have k₂ : Keep B (frames outer) h₂ := k₁.but af.but (fun a m => by rw [List.mem_singleton.mp m]; exact nLB)
  have k₄ : Keep B (frames outer) h₄ := k₂.but (b₃.trans b₄) (fun _ m => nomatch m)
  have lo : ∃ o, h₄.get? L = some o ∧ ∀ vs, o.data ≠ .fields vs := ⟨_, (b₃.trans b₄).keep _ _ (af.get 0 _ h0) (fun m => nomatch m), fun _ q => by cases q⟩
  refine leaveN (B := B) (env := envV L) (outer := outer) (L := L) (hint := 400) (fl := none) (by show A.frames.map _ = _; rw [hfr]; rfl) (frCons fl₄ (envV_kind L) (envV_frame L) lo) (envV_frame L) k₄.more (hx₄.exc (k₂.new hle)) (.inl rfl) fun h₅ k₅ l₅ x₅ => ?_
  exact hR e _ ⟨rfl, rfl⟩ (k₅.drop nLB) l₅.2.2 x₅
end
end Mine
end
section
open PySem PySem.W PySem.W.X PySem.Calls PyProof.Rows
set_option maxRecDepth 100000
set_option maxHeartbeats 4000000
namespace Mine
open PySem.W.ZFast
theorem frBut {h h' : Heap} {l : List Env} {L : Nat} (x : h.FunFrames heap0 l) (b : But [L] h h') (hL : ∃ o, h'.get? L = some o ∧ ∀ vs, o.data ≠ .fields vs) : h'.FunFrames heap0 l := by
  induction l with
  | nil => trivial
  | cons env l ih =>
    obtain ⟨hk, ⟨K, o, hf, hn, ho, hnf⟩, hr⟩ := x
    refine ⟨hk, ?_, ih hr⟩
    by_cases q : K = L
    · obtain ⟨o', ho', hd'⟩ := hL
      exact ⟨K, o', hf, hn, q ▸ ho', hd'⟩
    · exact ⟨K, o, hf, hn, b.keep _ _ ho (by simpa using q), hnf⟩
structure Tc (A : Around) (B : Heap) (l : List Env) (h : Heap) : Prop where
  fr : A.frames = some l
  live : h.FunFrames heap0 l
  keep : Keep B (frames l) h
structure TcS (A : Around) (B : Heap) (l : List Env) (g : Array GenState) (o : OsState) (s : Shared) : Prop extends Tc A B l s.heap where
  gens : g = s.gens
  os : o = s.os
instance tcCoe {A : Around} {B h : Heap} {l : List Env} {g : Array GenState} {dr : Drawn} {t : Nat} {o : OsState} : CoeTail (Tc A B l h) (TcS A B l g o ⟨h, g, dr, t, o⟩) := ⟨fun x => ⟨x, rfl, rfl⟩⟩
instance tcCoe2 {A : Around} {B : Heap} {l : List Env} {g : Array GenState} {o : OsState} {s : Shared} : CoeOut (TcS A B l g o s) (Tc A B l s.heap) := ⟨fun x => x.toTc⟩
theorem Tc.nil {A : Around} {B h h' : Heap} {l : List Env} (x : Tc A B l h) (b : But [] h h') : Tc A B l h' := ⟨x.fr, FunFrames.but x.live b (fun _ _ m => nomatch m), x.keep.but b (fun _ m => nomatch m)⟩
theorem Tc.one {A : Around} {B h h' : Heap} {l : List Env} {L : Nat} (x : Tc A B l h) (n : B.get? L = none) (b : But [L] h h') (hL : ∃ o, h'.get? L = some o ∧ ∀ vs, o.data ≠ .fields vs) : Tc A B l h' :=
  ⟨x.fr, frBut x.live b hL, x.keep.but b (fun a m => by rw [List.mem_singleton.mp m]; exact n)⟩
theorem Exc.nil {B h h' : Heap} {e : Nat} {hint : Int} {fl : Option Value} (x : Exc B h e hint fl) (b : But [] h h') : Exc B h' e hint fl := by
  obtain ⟨d, a, tb, he, hn, ⟨x1, x2, x3, x4, x5, hd⟩, ht⟩ := x
  refine ⟨d, a, tb, b.keep _ _ he (fun m => nomatch m), hn, ⟨x1, x2, x3, x4, x5, b.keep _ _ hd (fun m => nomatch m)⟩, ?_⟩
  cases fl with
  | none => exact ht
  | some v =>
    obtain ⟨T, oT, ts, q, hTe, hTn, hT, r⟩ := ht
    exact ⟨T, oT, ts, q, hTe, hTn, b.keep _ _ hT (fun m => nomatch m), r⟩
noncomputable def outZE (P : Params) (n t : Nat) (tr : Sem Fin) : Out := run ⟨pw, P⟩ (Ktop P) (n + 258) t 0 500 10 (dec 10 0) 1000 default none [] tr (tabFrom 0 []) 0 0 [] []
theorem v1eR (P : Params) (n t L n' t' e : Nat) (hs : Nat → Int) (tk : Nat → Nat) (ep : Nat) (sl : Array (Option Value)) (hv : Value) (NH : Nat) (seen saw : Value) (r : Old) (nb vb : Array UInt8) (t1 t2 : Nat) :
    let o := outZE P n' t' (treeOf (outV1 P n t L hs tk ep sl (locN hv false NH seen saw (r.out (.bytes nb t1) (.bytes vb t2)))) (.error (.ref e)))
    exc3 o [] (n' + 258) ∧ excOf o = .ref e := by
  cases r <;> refine ⟨⟨?_, ?_, ?_, ?_⟩, ?_⟩
  all_goals (show _ = _; kernel_rfl)
theorem v2eR (P : Params) (n t L n' t' x n'' t'' e : Nat) (hs hs' : Nat → Int) (tk tk' : Nat → Nat) (ep ep' : Nat) (sl sl' : Array (Option Value)) (hv : Value) (NH : Nat) (seen saw : Value) (r : Old) (nb vb : Array UInt8) (t1 t2 : Nat) :
    let o := outZE P n'' t'' (treeOf (outV2 P n t L n' t' x hs hs' tk tk' ep ep' sl sl' (locN hv false NH seen saw (r.out (.bytes nb t1) (.bytes vb t2)))) (.error (.ref e)))
    exc3 o [] (n'' + 258) ∧ excOf o = .ref e := by
  cases r <;> refine ⟨⟨?_, ?_, ?_, ?_⟩, ?_⟩
  all_goals (show _ = _; kernel_rfl)
section
variable {w : World} {A : Around} {E : Value → Shared → Prop} {h : Heap} {g : Array GenState} {dr : Drawn} {t : Nat} {o : OsState}
def Rises (g : Array GenState) (o : OsState) (A : Around) (B : Heap) (l : List Env) (hint : Int) (fl : Option Value) (E : Value → Shared → Prop) : Prop :=
  ∀ e s', TcS A B l g o s' → Exc B s'.heap e hint fl → E (.ref e) s'
theorem vNf (ark : ArK 4 A) (ok : Okay w.params h) {B : Heap} {l : List Env} {L NH t1 t2 : Nat} {hv seen saw : Value} {nm vl : List Nat} {r : Old} (lL : Low w.params L) (nL : B.get? L = none) (tc : Tc A B l h)
    (okB : Okay w.params B) (lF : ∀ a ∈ frames l, Low w.params a)
    (hL : LocAt h L (locN hv false NH seen saw (r.out (.bytes (bts nm) t1) (.bytes (bts vl) t2)))) (hm : (105, nm) ∈ bads ∨ ((105, nm) ∈ goods ∧ (110, vl) ∈ bads))
    {Q : Flow → Shared → Prop} (hE : Rises g o A B l 400 (some .none) E) : wpAny (model pw w) A (execs [bN 0] (envN L)) Q E ⟨h, g, dr, t, o⟩ := by
  obtain ⟨hs, tk, ep, sl, hL⟩ := hL
  obtain ⟨n, hn⟩ := ok.size
  have ar := ark.weak
  obtain ⟨F, hc, h0⟩ := v1R w.params n t L hs tk ep sl hv NH seen saw r (bts nm) (bts vl) t1 t2
  rw [execs_zf]
  refine wpAny_flowT (run_call ok hn [L] [frm hs tk ep sl (locN hv false NH seen saw (r.out (.bytes (bts nm) t1) (.bytes (bts vl) t2)))] 1 500 120 (low1 lL) (by simp) ⟨hL, trivial⟩ ar.deep ar.handled (outV1 w.params n t L hs tk ep sl _) rfl F.1 F.2.1 F.2.2 trivial fun h' dr' af => ?_)
  rw [hc]
  have l0 : LocAt h' L _ := ⟨_, _, _, _, af.get 0 _ h0⟩
  have tc' := tc.one nL af.but l0.frame
  rcases hm with hm | ⟨hg, hm⟩
  · refine fails (B := B) (outer := l) hm true _ _ _ ark af.ok tc'.fr tc'.live tc'.keep fun e s₁ q₁ k₁ f₁ x₁ => ?_
    obtain ⟨h₁, g₁, d₁, t₁, o₁⟩ := s₁
    obtain ⟨rfl, rfl⟩ := q₁
    have ok₁ : Okay w.params h₁ := k₁.okay okB lF
    obtain ⟨n₁, hn₁⟩ := ok₁.size
    obtain ⟨F₁, hx₁⟩ := v1eR w.params n t L n₁ t₁ e hs tk ep sl hv NH seen saw r (bts nm) (bts vl) t1 t2
    refine run_exc ok₁ hn₁ [] [] 0 500 10 low0 (by simp) trivial ar.deep ar.handled (outZE w.params n₁ t₁ _) rfl F₁.1 F₁.2 trivial fun h₂ dr₂ af₁ => ?_
    rw [hx₁]
    exact hE e _ ((Tc.mk tc.fr f₁ k₁).nil af₁.but) (x₁.nil af₁.but)
  · refine passesN hg _ _ _ (ark.less (by decide)) af.ok fun x s₁ b₁ ok₁ => ?_
    obtain ⟨hs₁, tk₁, ep₁, sl₁, hL₁⟩ : LocAt s₁.heap L (locN hv false NH seen saw (r.out (.bytes (bts nm) t1) (.bytes (bts vl) t2))) := l0.keep b₁
    obtain ⟨n₁, hn₁⟩ := ok₁.size
    obtain ⟨h₁, g₁, d₁, t₁, o₁⟩ := s₁
    obtain ⟨ok₁, rfl, rfl⟩ := ok₁
    obtain ⟨F₁, hc₁, h0₁⟩ := v2R w.params n t L n₁ t₁ x hs hs₁ tk tk₁ ep ep₁ sl sl₁ hv NH seen saw r (bts nm) (bts vl) t1 t2
    refine run_call ok₁ hn₁ [L] [frm hs₁ tk₁ ep₁ sl₁ (locN hv false NH seen saw (r.out (.bytes (bts nm) t1) (.bytes (bts vl) t2)))] 1 500 20 (low1 lL) (by simp) ⟨hL₁, trivial⟩ ar.deep ar.handled (outV2 w.params n t L n₁ t₁ x hs hs₁ tk tk₁ ep ep₁ sl sl₁ _) rfl F₁.1 F₁.2.1 F₁.2.2 trivial fun h₂ dr₂ af₁ => ?_
    rw [hc₁]
    have l2 : LocAt h₂ L _ := ⟨_, _, _, _, af₁.get 0 _ h0₁⟩
    have tc₂ := (tc'.nil b₁).one nL af₁.but l2.frame
    refine fails (B := B) (outer := l) hm true _ _ _ ark af₁.ok tc₂.fr tc₂.live tc₂.keep fun e s₃ q₃ k₃ f₃ x₃ => ?_
    obtain ⟨h₃, g₃, d₃, t₃, o₃⟩ := s₃
    obtain ⟨rfl, rfl⟩ := q₃
    have ok₃ : Okay w.params h₃ := k₃.okay okB lF
    obtain ⟨n₃, hn₃⟩ := ok₃.size
    obtain ⟨F₃, hx₃⟩ := v2eR w.params n t L n₁ t₁ x n₃ t₃ e hs hs₁ tk tk₁ ep ep₁ sl sl₁ hv NH seen saw r (bts nm) (bts vl) t1 t2
    refine run_exc ok₃ hn₃ [] [] 0 500 10 low0 (by simp) trivial ar.deep ar.handled (outZE w.params n₃ t₃ _) rfl F₃.1 F₃.2 trivial fun h₄ dr₄ af₃ => ?_
    rw [hx₃]
    exact hE e _ ((Tc.mk tc.fr f₃ k₃).nil af₃.but) (x₃.nil af₃.but)
end
end Mine
end
section
open PySem PySem.W PySem.W.X PySem.Calls PyProof.Rows
set_option maxRecDepth 100000
set_option maxHeartbeats 400000
namespace Mine
open PySem.W.ZFast
def teNames : List (List Nat) := [[84, 114, 97, 110, 115, 102, 101, 114, 45, 69, 110, 99, 111, 100, 105, 110, 103], teLow]
def gzip : List Nat := [103, 122, 105, 112]
noncomputable abbrev outTX (k : Bool) (P : Params) (b : Bool × Bool × Bool) (n t L NH : Nat) (hs : Nat → Int) (tk : Nat → Nat) (ep : Nat) (sl : Array (Option Value)) (l : List (Str × Value)) (arr : Array Value) (ep1 : Nat) : Out :=
  match k with
  | true => outW (mkP P b.1 b.2.1 b.2.2) n t L NH hs tk ep sl l arr ep1 60 1103823438081 3 (treeB L)
  | false => outW (mkP P b.1 b.2.1 b.2.2) n t L NH hs tk ep sl l arr ep1 90 4740885567116192841985 5 (treeB L)
abbrev made (o : Out) (ds : List Nat) (n : Nat) (k : Bool) : Prop := call3 o ds n ∧ codeOf o = cE1 (strP (argAt (codeOf o) 0)) (keyTok (argAt (codeOf o) 0)) k (match codeOf o with | .call _ a => keyTok ((a.kw.map (·.2)).getD 0 .none) | _ => 0)
theorem tx1R (P : Params) (b1 b2 b3 : Bool) (n t L NH : Nat) (hs : Nat → Int) (tk : Nat → Nat) (ep : Nat) (sl : Array (Option Value)) (hv : Value) (pa : Bool) (seen : Value) (r : Old) (hr : r.full) (nm : List Nat) (hm : nm ∈ teNames) (vb raw : Array UInt8) (t1 t2 t3 : Nat) (arr : Array Value) (ep1 : Nat) :
    let r' := r.raw (.bytes raw t3)
    let o := outTX true P (b1, b2, b3) n t L NH hs tk ep sl (locN hv pa NH seen (.bool true) (r'.out (.bytes (bts nm) t1) (.bytes vb t2))) arr ep1
    made o [L, NH] (n + 258) false ∧ frm0 o sl (locN hv pa NH seen (.bool true) (r'.out (vlOf (objAt o 0) 5) (.bytes vb t2))) ∧ lst1 o arr := by
  simp only [teNames, List.mem_cons, List.not_mem_nil, or_false] at hm
  cases b1 <;> cases r <;> first | exact hr.elim | skip
  all_goals (rcases hm with rfl | rfl <;> refine ⟨⟨⟨?_, ?_, ?_, ?_, ?_⟩, ?_⟩, ?_, ?_⟩ <;> (show _ = _; kernel_rfl))
theorem tx2R (P : Params) (b1 b2 b3 : Bool) (n t L NH : Nat) (hs : Nat → Int) (tk : Nat → Nat) (ep : Nat) (sl : Array (Option Value)) (hv : Value) (pa : Bool) (seen : Value) (r : Old) (hr : r.full) (nm : List Nat) (hm : nm ∈ teNames) (raw : Array UInt8) (t1 t2 t3 : Nat) (arr : Array Value) (ep1 : Nat) :
    let r' := r.raw (.bytes raw t3)
    let o := outTX false P (b1, b2, b3) n t L NH hs tk ep sl (locN hv pa NH seen (.bool false) (r'.out (.bytes (bts nm) t1) (.bytes (bts gzip) t2))) arr ep1
    made o [L, NH] (n + 258) false ∧ frm0 o sl (locN hv pa NH seen (.bool false) (r'.out (vlOf (objAt o 0) 5) (vlOf (objAt o 0) 6))) ∧ lst1 o arr := by
  simp only [teNames, List.mem_cons, List.not_mem_nil, or_false] at hm
  cases b1 <;> cases r <;> first | exact hr.elim | skip
  all_goals (rcases hm with rfl | rfl <;> refine ⟨⟨⟨?_, ?_, ?_, ?_, ?_⟩, ?_⟩, ?_, ?_⟩ <;> (show _ = _; kernel_rfl))
theorem tx1eR (P : Params) (b1 b2 b3 : Bool) (n t n' t' L NH e d a : Nat) (hs : Nat → Int) (tk : Nat → Nat) (ep : Nat) (sl : Array (Option Value)) (hv : Value) (pa : Bool) (seen : Value) (r : Old) (hr : r.full) (nm : List Nat) (hm : nm ∈ teNames) (vb raw : Array UInt8) (t1 t2 t3 : Nat) (arr : Array Value) (ep1 : Nat) :
    raised (outX (mkP P b1 b2 b3) n' t' d a (treeOf (outTX true P (b1, b2, b3) n t L NH hs tk ep sl (locN hv pa NH seen (.bool true) ((r.raw (.bytes raw t3)).out (.bytes (bts nm) t1) (.bytes vb t2))) arr ep1) (.ok (.ret (.ref e))))) e (n' + 258) d a := by
  simp only [teNames, List.mem_cons, List.not_mem_nil, or_false] at hm
  cases b1 <;> cases r <;> first | exact hr.elim | skip
  all_goals (rcases hm with rfl | rfl <;> refine ⟨⟨?_, ?_, ?_, ?_⟩, ?_, ?_⟩ <;> (show _ = _; kernel_rfl))
theorem tx2eR (P : Params) (b1 b2 b3 : Bool) (n t n' t' L NH e d a : Nat) (hs : Nat → Int) (tk : Nat → Nat) (ep : Nat) (sl : Array (Option Value)) (hv : Value) (pa : Bool) (seen : Value) (r : Old) (hr : r.full) (nm : List Nat) (hm : nm ∈ teNames) (raw : Array UInt8) (t1 t2 t3 : Nat) (arr : Array Value) (ep1 : Nat) :
    raised (outX (mkP P b1 b2 b3) n' t' d a (treeOf (outTX false P (b1, b2, b3) n t L NH hs tk ep sl (locN hv pa NH seen (.bool false) ((r.raw (.bytes raw t3)).out (.bytes (bts nm) t1) (.bytes (bts gzip) t2))) arr ep1) (.ok (.ret (.ref e))))) e (n' + 258) d a := by
  simp only [teNames, List.mem_cons, List.not_mem_nil, or_false] at hm
  cases b1 <;> cases r <;> first | exact hr.elim | skip
  all_goals (rcases hm with rfl | rfl <;> refine ⟨⟨?_, ?_, ?_, ?_⟩, ?_, ?_⟩ <;> (show _ = _; kernel_rfl))
section
variable {w : World} {A : Around} {E : Value → Shared → Prop} {h : Heap} {g : Array GenState} {dr : Drawn} {t : Nat} {o : OsState}
theorem Tc.two {A : Around} {B h h' : Heap} {l : List Env} {L NH : Nat} (x : Tc A B l h) (n : B.get? L = none) (n' : B.get? NH = none) (b : But [L, NH] h h') (hL : ∃ o, h'.get? L = some o ∧ ∀ vs, o.data ≠ .fields vs) (hN : ∃ o, h'.get? NH = some o ∧ ∀ vs, o.data ≠ .fields vs) : Tc A B l h' := by
  refine ⟨x.fr, ?_, x.keep.but b (fun a m => ?_)⟩
  · have := x.live
    clear x
    induction l with
    | nil => trivial
    | cons env l ih =>
      obtain ⟨hk, ⟨K, o, hf, hn, ho, hnf⟩, hr⟩ := this
      refine ⟨hk, ?_, ih hr⟩
      by_cases q : K = L
      · obtain ⟨o', ho', hd'⟩ := hL
        exact ⟨K, o', hf, hn, q ▸ ho', hd'⟩
      · by_cases q' : K = NH
        · obtain ⟨o', ho', hd'⟩ := hN
          exact ⟨K, o', hf, hn, q' ▸ ho', hd'⟩
        · exact ⟨K, o, hf, hn, b.keep _ _ ho (by simp [q, q']), hnf⟩
  · simp only [List.mem_cons, List.not_mem_nil, or_false] at m
    rcases m with rfl | rfl <;> assumption
theorem riseN {B : Heap} {l : List Env} {hint : Int} {k : Bool} (hk : hintOf k = hint) (ark : ArK 2 A) (ok : Okay w.params h) (tc : Tc A B l h) {c : Code} {f : Result → Sem Fin} {msg : Str} {tm tk : Nat} (hc : c = cE1 msg tm k tk) {Q : Fin → Shared → Prop}
    (hR : ∀ n t e d a, raised (outX w.params n t d a (f (.ok (.ret (.ref e))))) e (n + 258) d a) (hE : ∀ e s', TcS A B l g o s' → Exc B s'.heap e hint none → E (.ref e) s') :
    codeAny (model pw w) A c (fun r s' => wpAny (model pw w) A (f r) Q E s') ⟨h, g, dr, t, o⟩ := by
  rw [hc]
  refine newExcN ark ok msg tm k tk fun e s₁ hle b₁ ok₁ hx => ?_
  obtain ⟨h₁, g₁, d₁, t₁, o₁⟩ := s₁
  obtain ⟨ok₁, rfl, rfl⟩ := ok₁
  have le : Low w.params e := by
    obtain ⟨n, hn⟩ := ok.size
    exact Low.high (Nat.le_trans (by rw [hn]; exact Nat.le_add_left 258 n) hle)
  refine raiseN ark.weak ok₁ hx le (fun n d a => hR n t₁ e d a) fun s₂ b₂ ok₂ hx₂ => ?_
  exact hE e s₂ ⟨tc.nil (b₁.trans b₂), ok₂.gens, ok₂.os⟩ ((hk ▸ hx₂).exc (tc.keep.new hle))
theorem teXN (ark : ArK 2 A) (ok : Okay w.params h) {B : Heap} {l : List Env} {L NH t1 t2 t3 : Nat} {hv seen : Value} {pa saw : Bool} {nm vl : List Nat} (hm : nm ∈ teNames) {raw : Array UInt8} {r : Old} (hr : r.full) {arr : Array Value}
    (lL : Low w.params L) (lN : Low w.params NH) (nL : B.get? L = none) (nN : B.get? NH = none) (tc : Tc A B l h)
    (hL : LocAt h L (locN hv pa NH seen (.bool saw) ((r.raw (.bytes raw t3)).out (.bytes (bts nm) t1) (.bytes (bts vl) t2)))) (hN : LstAt h NH arr) (hbad : saw = true ∨ (saw = false ∧ vl = gzip))
    {Q : Flow → Shared → Prop} (hE : ∀ e s', TcS A B l g o s' → Exc B s'.heap e 501 none → E (.ref e) s') : wpAny (model pw w) A (execs [bN 4, bN 5] (envN L)) Q E ⟨h, g, dr, t, o⟩ := by
  obtain ⟨hs, tk, ep, sl, hL⟩ := hL
  obtain ⟨ep1, hN⟩ := hN
  obtain ⟨n, hn⟩ := ok.size
  obtain ⟨b1, b2, b3, hP⟩ := params_split w.params
  have ar := ark.weak
  have hne : L ≠ NH := ne_of_obj hL hN (by intro e; have := congrArg Obj.cls e; simp [frm, lstO] at this)
  rw [execs_zf]
  rcases hbad with rfl | ⟨rfl, rfl⟩
  · obtain ⟨⟨F, hc⟩, h0, h1⟩ := tx1R w.params b1 b2 b3 n t L NH hs tk ep sl hv pa seen r hr nm hm (bts vl) raw t1 t2 t3 arr ep1
    refine wpAny_flowT (run_call ok hn [L, NH] [frm hs tk ep sl (locN hv pa NH seen (.bool true) ((r.raw (.bytes raw t3)).out (.bytes (bts nm) t1) (.bytes (bts vl) t2))), lstO arr ep1] 2 500 60 (low2 lL lN) (by simp [hne]) ⟨hL, hN, trivial⟩ ar.deep ar.handled
      (outTX true w.params (b1, b2, b3) n t L NH hs tk ep sl _ arr ep1) (by unfold outTX outW; rw [← hP]; rfl) F.1 F.2.1 F.2.2 trivial fun h' dr' af => ?_)
    have l0 : LocAt h' L _ := ⟨_, _, _, _, af.get 0 _ h0⟩
    have l1 : h'.get? NH = _ := af.get 1 _ h1
    exact riseN (hint := 501) rfl ark af.ok (tc.two nL nN af.but l0.frame ⟨_, l1, fun _ q => by cases q⟩) hc (fun n' t' e d a => by have z := tx1eR w.params b1 b2 b3 n t n' t' L NH e d a hs tk ep sl hv pa seen r hr nm hm (bts vl) raw t1 t2 t3 arr ep1; rw [← hP] at z; exact z) hE
  · obtain ⟨⟨F, hc⟩, h0, h1⟩ := tx2R w.params b1 b2 b3 n t L NH hs tk ep sl hv pa seen r hr nm hm raw t1 t2 t3 arr ep1
    refine wpAny_flowT (run_call ok hn [L, NH] [frm hs tk ep sl (locN hv pa NH seen (.bool false) ((r.raw (.bytes raw t3)).out (.bytes (bts nm) t1) (.bytes (bts gzip) t2))), lstO arr ep1] 2 500 90 (low2 lL lN) (by simp [hne]) ⟨hL, hN, trivial⟩ ar.deep ar.handled
      (outTX false w.params (b1, b2, b3) n t L NH hs tk ep sl _ arr ep1) (by unfold outTX outW; rw [← hP]; rfl) F.1 F.2.1 F.2.2 trivial fun h' dr' af => ?_)
    have l0 : LocAt h' L _ := ⟨_, _, _, _, af.get 0 _ h0⟩
    have l1 : h'.get? NH = _ := af.get 1 _ h1
    exact riseN (hint := 501) rfl ark af.ok (tc.two nL nN af.but l0.frame ⟨_, l1, fun _ q => by cases q⟩) hc (fun n' t' e d a => by have z := tx2eR w.params b1 b2 b3 n t n' t' L NH e d a hs tk ep sl hv pa seen r hr nm hm raw t1 t2 t3 arr ep1; rw [← hP] at z; exact z) hE
end
end Mine
end
section
open PySem PySem.W PySem.W.X PySem.Calls PyProof.Rows
set_option maxRecDepth 100000
set_option maxHeartbeats 400000
namespace Mine
open PySem.W.ZFast
abbrev bk (w : World) : KeyKind pw w (List UInt8) := bytesKind pw w
section
variable {w : World} {A : Around} {h : Heap} {g : Array GenState} {dr : Drawn} {t : Nat} {o : OsState}
theorem sameBut_but {a : Nat} {h h' : Heap} (x : Heap.SameBut a h h') : But [a] h h' := ⟨fun b o e n => (x.2 b (by simpa using n)).trans e, by rw [x.1]; exact Nat.le_refl _⟩
theorem codeAny_setAdd (ok : Okay w.params h) {S : Nat} (lS : Low w.params S) {f : List UInt8 → Bool} {n : Nat} (hS : h.SetOf (bk w) S f n) (hn : n ≤ 3) (b : Array UInt8) (tb : Nat) {R : Result → Shared → Prop}
    (hQ : ∀ s', But [S] h s'.heap → OkS w.params g o s' → s'.heap.SetOf (bk w) S (fun k' => f k' || decide (k' = b.toList)) (if f b.toList then n else n + 1) → R (.ok (.ret .none)) s') :
    codeAny (model pw w) A (.call (.builtin "set.add") ⟨[.ref S, .bytes b tb], []⟩) R ⟨h, g, dr, t, o⟩ := by
  have hkey : (bk w).is b.toList (.bytes b tb) = true := by show (b.toList == b.toList) = true; simp
  have hT : (⟨h, g, dr, t, o⟩ : Shared).TypeIs (.ref S) "set" := Heap.SetOf.typeIs (s := ⟨h, g, dr, t, o⟩) hS
  refine codeAny_call_builtin F.slot_set_add.plain F.entry_set_add (F.slot_set_add.check _ _ _ _ _ _ _ _ hT (F.args_set_add_2 _ _) ?_)
  unfold Builtin.«set.add» Builtin.Frozenset.oneOther
  simp only [List.isEmpty_nil, bind_assoc]
  unfold Builtin.Frozenset.addrOf setAdd
  refine wpAny_bind (wpAny_pure ?_)
  try dsimp only
  refine wpAny_bind (wpAny_pure ?_)
  try dsimp only
  refine wpAny_bind ?_
  refine wpAny_holding ?_
  refine wpAny_bind ((bk w).pyHash hkey ?_)
  refine wpAny_setAddHashed_of (s := ⟨h, g, dr, t + 1, o⟩) hkey rfl hS (Nat.lt_of_le_of_lt (Nat.succ_le_succ hn) (by decide)) fun h' hsb hS' => ?_
  show wpAny _ _ (ret Value.none) _ _ _
  have b' := sameBut_but hsb
  exact wpAny_pure (hQ _ b' (ok.but (low1 lS) b') hS')
theorem codeAny_setLen (ok : Okay w.params h) {S : Nat} {f : List UInt8 → Bool} {n : Nat} (hS : h.SetOf (bk w) S f n) (hn : n ≤ 3) {R : Result → Shared → Prop}
    (hQ : ∀ ti s', s'.heap = h → g = s'.gens ∧ o = s'.os → R (.ok (.ret (.int n ti))) s') : codeAny (model pw w) A (.call (.builtin "len") ⟨[.ref S], []⟩) R ⟨h, g, dr, t, o⟩ := by
  obtain ⟨ob, es, ep, tb, ho, hex, hd, _, _, _, hf, hsz⟩ := hS
  subst hsz
  refine codeAny_call_builtin plain_len entry_len ?_
  have hb := wpAny_len_body_set (prog := pw) (w := w) (A := A.in1) (E := fun e s' => R (.error e) s') (s := ⟨h, g, dr, t, o⟩) (Q := fun r s' => R (.ok (.ret r)) s') ho hex hd hf (by omega) (hQ _ _ rfl ⟨rfl, rfl⟩)
  have hfin := wpAny_mono hb (Q' := fun fin s' => match fin with
      | .done f => R (.ok f) s'
      | .again c' => c'.quiet = true ∧ codeAny (model pw w) A c' R s')
    (fun fin s' h' => by obtain ⟨v, rfl, hv⟩ := h'; exact hv) fun _ _ h' => h'
  have hk : builtinKind "len" = none := kind_len
  simp only [checkBuiltinCall, hk]
  cases hsig : Manifest.signature? "len" with
  | none => exact wpAny_pure hfin
  | some sig =>
    have ha := args_len1 (.ref S)
    simp only [argsOk, hsig] at ha
    have h2 : Bind.checkArgs "len" sig ⟨[.ref S], []⟩ = pure () := ha
    show wpAny _ A.in1 (Bind.checkArgs "len" sig ⟨[.ref S], []⟩) _ _ _
    rw [h2]; exact wpAny_pure hfin
theorem codeAny_setPop (ok : Okay w.params h) {S : Nat} (lS : Low w.params S) {f : List UInt8 → Bool} (hS : h.SetOf (bk w) S f 1) {v : List UInt8} (hv : ∀ k, f k = true → k = v) {R : Result → Shared → Prop}
    (hQ : ∀ tv s', But [S] h s'.heap → OkS w.params g o s' → R (.ok (.ret (.bytes v.toArray tv))) s') : codeAny (model pw w) A (.call (.builtin "set.pop") ⟨[.ref S], []⟩) R ⟨h, g, dr, t, o⟩ := by
  have hT : (⟨h, g, dr, t, o⟩ : Shared).TypeIs (.ref S) "set" := Heap.SetOf.typeIs (s := ⟨h, g, dr, t, o⟩) hS
  obtain ⟨ob, es, ep, tb, ho, hex, hd, hel, hmem, _, hf, hsz⟩ := hS
  refine codeAny_call_builtin F.slot_set_pop.plain F.entry_set_pop (F.slot_set_pop.check _ _ _ _ _ _ _ _ hT (F.args_set_pop_1 _) ?_)
  unfold Builtin.«set.pop» Builtin.Frozenset.noArgs
  simp only [List.isEmpty_nil, bind_assoc]
  unfold Builtin.Frozenset.addrOf setPop
  have hpl : tb.place.size = 1 := by
    simp only [SetTable.fits, Bool.and_eq_true, beq_iff_eq, decide_eq_true_eq] at hf
    rw [hf.1, hsz]
  have hpp : tb.popPlace = some 0 := by
    unfold SetTable.popPlace
    have : tb.place.isEmpty = false := by simp [Array.isEmpty, hpl]
    rw [this]
    simp only [Bool.false_eq_true, if_false, hpl]
    split
    · congr 1; omega
    · rfl
  obtain ⟨es⟩ := es
  match es, hsz with
  | [(hh, x)], _ =>
    have hx : ∃ tv, x = .bytes v.toArray tv := by
      obtain ⟨⟨k, hk, _⟩, _⟩ := hel (hh, x) (by simp)
      obtain ⟨tv, rfl⟩ := isBytes_shape hk
      have : f k = true := (hmem k).mpr ⟨_, by simp, hk⟩
      exact ⟨tv, by rw [hv k this]⟩
    obtain ⟨tv, rfl⟩ := hx
    have fin : ∀ (h' : Heap), h' = h.update S (Obj.putSet (SetTable.eraseAt #[(hh, .bytes v.toArray tv)] 0) (tb.popped 0)) → ∀ dr', R (.ok (.ret (.bytes v.toArray tv))) ⟨h', g, dr', t, o⟩ := by
      intro h' e dr'
      subst e
      have b' : But [S] h (h.update S (Obj.putSet (SetTable.eraseAt #[(hh, .bytes v.toArray tv)] 0) (tb.popped 0))) := ⟨fun b o e nb => (Heap.get?_update_other _ _ (fun e' => nb (by rw [← e']; simp))).trans e, by rw [Heap.size_after_update]; exact Nat.le_refl _⟩
      exact hQ tv _ b' (ok.but (low1 lS) b')
    refine wpAny_bind (wpAny_pure ?_)
    try dsimp only
    refine wpAny_bind (wpAny_bind (wpAny_setState_of (s := ⟨h, g, dr, t, o⟩) ho hd hf ?_))
    simp only [hpp]
    unfold setsByText
    refine wpAny_bind (wpAny_bind (wpAny_askSetting (wpAny_pure ?_)))
    split
    · refine wpAny_bind ?_
      intro Γ p hΓ
      unfold choose
      rw [Sem.wp_choose]
      refine ⟨by simp, ?_⟩
      rw [show (#[(hh, Value.bytes v.toArray tv)] : Array (Int × Value)).size = 1 from rfl, Nat.mod_one]
      exact wpAny_bind (wpAny_storeSet_of (s := ⟨h, g, _, t, o⟩) ho hd (wpAny_pure (wpAny_pure (fin _ rfl _))) (hz := by show (0 : Nat) ≤ sizeLine; exact Nat.zero_le _))
    · refine wpAny_bind (wpAny_of_eq (a := ()) (by obtain ⟨_, _, _, _, led, _, _⟩ := tb; cases led <;> rfl) ?_)
      refine wpAny_bind (wpAny_pure ?_)
      exact wpAny_bind (wpAny_storeSet_of (s := ⟨h, g, dr, t, o⟩) ho hd (wpAny_pure (wpAny_pure (fin _ rfl _))) (hz := by show (0 : Nat) ≤ sizeLine; exact Nat.zero_le _))
end
end Mine
end
section
open PySem PySem.W PySem.W.X PySem.Calls PyProof.Rows
set_option maxRecDepth 100000
set_option maxHeartbeats 400000
namespace Mine
open PySem.W.ZFast
def clLow : List Nat := [99, 111, 110, 116, 101, 110, 116, 45, 108, 101, 110, 103, 116, 104]
def lens : List (List Nat × List Nat × List (List Nat)) := [([67, 111, 110, 116, 101, 110, 116, 45, 76, 101, 110, 103, 116, 104], [51], [[51]]), ([99, 111, 110, 116, 101, 110, 116, 45, 76, 69, 78, 71, 84, 72], [51, 44, 32, 51], [[51], [32, 51]]), ([67, 111, 110, 116, 101, 110, 116, 45, 76, 101, 110, 103, 116, 104], [48, 51], [[48, 51]]), ([67, 79, 78, 84, 69, 78, 84, 45, 108, 101, 110, 103, 116, 104], [52, 44, 51], [[52], [51]]), ([67, 111, 110, 116, 101, 110, 116, 45, 76, 101, 110, 103, 116, 104], [120], [[120]]), ([67, 111, 110, 116, 101, 110, 116, 45, 76, 101, 110, 103, 116, 104], [48, 48, 48, 48, 48, 48, 48, 48, 48, 48, 48, 48, 48, 48, 48, 48, 48, 48, 48, 48, 51], [[48, 48, 48, 48, 48, 48, 48, 48, 48, 48, 48, 48, 48, 48, 48, 48, 48, 48, 48, 48, 51]]), ([99, 111, 110, 116, 101, 110, 116, 45, 108, 101, 110, 103, 116, 104], [51], [[51]]), ([99, 111, 110, 116, 101, 110, 116, 45, 108, 101, 110, 103, 116, 104], [48, 51], [[48, 51]])]
def compEx : Code → Expr | .compStart e _ _ _ _ => e | _ => .Name ⟨#[]⟩ pos0
def compEnv : Code → Env | .compStart _ _ _ _ e => e | _ => default
def ifBd : Stmt → List Stmt | .If _ b _ _ => b | _ => []
def asgV : Stmt → Expr | .Assign _ v _ => v | _ => .Name ⟨#[]⟩ pos0
def scopeC : Expr → Scope | .SetComp _ _ s _ => s | _ => (default : Env).scope
noncomputable def eC : Expr := asgV (nthSt (ifBd (bN 5)) 0)
noncomputable def outCA (P : Params) (b : Bool × Bool × Bool) (n t L NH : Nat) (hs : Nat → Int) (tk : Nat → Nat) (ep : Nat) (sl : Array (Option Value)) (l : List (Str × Value)) (arr : Array Value) (ep1 : Nat) : Out :=
  outW (mkP P b.1 b.2.1 b.2.2) n t L NH hs tk ep sl l arr ep1 70 74003996804728815873 4 (treeB L)
noncomputable def qualC : Str := (compEnv (codeOf (outCA P0 (true, true, true) 0 0 300 301 (fun _ => 0) (fun _ => 0) 0 #[] (locN .none true 301 .none .none ((Old.one .none).out (.bytes (bts clLow) 0) (.bytes (bts [51]) 0))) #[] 0))).qual
noncomputable def envC (L D : Nat) : Env := { scope := scopeC eC, locals := D, globals := 3, cells := [], qual := qualC, func := none, code := .ref 173, frame := some L, builtins := 0 }
def wv (o : Obj) : Nat → List (List Nat) → List Value
  | _, [] => []
  | i, w :: ws => .bytes (bts w) (sqTok o i) :: wv o (i + 1) ws
def setT : Obj → SetTable | o => match o.data with | .set _ _ t => t | _ => default
def setO (es : List (Int × Value)) (ep : Nat) (t : SetTable) : Obj := ⟨.type "set", none, .set es.toArray ep t, #[]⟩
def dctO (hs : Nat → Int) (tk : Nat → Nat) (ep : Nat) (l : List (Str × Value)) : Obj := ⟨.type "dict", none, .dict (ents hs tk 0 l).toArray ep, #[]⟩
theorem caR (P : Params) (b1 b2 b3 : Bool) (n t L NH : Nat) (hs : Nat → Int) (tk : Nat → Nat) (ep : Nat) (sl : Array (Option Value)) (hv : Value) (pa : Bool) (seen saw : Value) (r : Old) (hr : r.full) (nm vl : List Nat) (ws : List (List Nat)) (hm : (nm, vl, ws) ∈ lens) (raw : Array UInt8) (t1 t2 t3 : Nat) (arr : Array Value) (ep1 : Nat) :
    let r' := r.raw (.bytes raw t3)
    let o := outCA P (b1, b2, b3) n t L NH hs tk ep sl (locN hv pa NH seen saw (r'.out (.bytes (bts nm) t1) (.bytes (bts vl) t2))) arr ep1
    call3 o [L, NH] (n + 258) ∧ codeOf o = .compStart eC 0 (.ref (n + 258 + 1)) (.ref (n + 258 + 2)) (envC L (n + 258 + 3)) ∧ frm0 o sl (locN hv pa NH seen saw (r'.out (.bytes (bts clLow) (keyTok (vlOf (objAt o 0) 5))) (.bytes (bts vl) t2))) ∧ lst1 o arr
      ∧ tget (tabOf o) 2 = some (lstO (wv (objAt o 2) 0 ws).toArray (epOf (objAt o 2))) ∧ tget (tabOf o) 3 = some (iterO (.ref (n + 258)) 0) ∧ tget (tabOf o) 4 = some (setO [] 0 (setT (objAt o 4))) ∧ (setT (objAt o 4)).fits 0 = true
      ∧ tget (tabOf o) 5 = some (dctO (fun _ => 0) (fun _ => 0) 0 []) := by
  simp only [lens, List.mem_cons, List.not_mem_nil, or_false, Prod.mk.injEq] at hm
  cases b1 <;> cases b3 <;> cases r <;> first | exact hr.elim | skip
  all_goals (rcases hm with ⟨rfl, rfl, rfl⟩ | ⟨rfl, rfl, rfl⟩ | ⟨rfl, rfl, rfl⟩ | ⟨rfl, rfl, rfl⟩ | ⟨rfl, rfl, rfl⟩ | ⟨rfl, rfl, rfl⟩ | ⟨rfl, rfl, rfl⟩ | ⟨rfl, rfl, rfl⟩ <;> refine ⟨⟨?_, ?_, ?_, ?_, ?_⟩, ?_, ?_, ?_, ?_, ?_, ?_, ?_, ?_⟩ <;> (show _ = _; kernel_rfl))
end Mine
end
section
open PySem PySem.W PySem.W.X PySem.Calls PyProof.Rows
set_option maxRecDepth 100000
set_option maxHeartbeats 400000
namespace Mine
open PySem.W.ZFast
def wordsC : List (List Nat × List Nat) := [([32, 51], [51]), ([48, 48, 48, 48, 48, 48, 48, 48, 48, 48, 48, 48, 48, 48, 48, 48, 48, 48, 48, 48, 51], [48, 48, 48, 48, 48, 48, 48, 48, 48, 48, 48, 48, 48, 48, 48, 48, 48, 48, 48, 48, 51]), ([48, 51], [48, 51]), ([51], [51]), ([52], [52]), ([120], [120])]
def sLength : Str := ⟨#[108, 101, 110, 103, 116, 104]⟩
noncomputable def cC0 (it S L D : Nat) : Code := .compStart eC 0 (.ref it) (.ref S) (envC L D)
noncomputable def cC1 (it S L D : Nat) : Code := .compLoop eC 0 (.ref it) (.ref S) (envC L D)
noncomputable def outC0 (P : Params) (b : Bool × Bool × Bool) (n t it S L D : Nat) (lv : Value) (k : Nat) : Out :=
  run ⟨pw, mkP P b.1 b.2.1 b.2.2⟩ (Ktop (mkP P b.1 b.2.1 b.2.2)) (n + 258) t 1 500 20 (dec 20 16843009) 1000 default none [] (enterT (cC0 it S L D)) (tabFrom 0 [iterO lv k]) 0 0 [] []
theorem cs0R (P : Params) (b1 b2 b3 : Bool) (n t it S L D : Nat) (lv : Value) (k : Nat) :
    let o := outC0 P (b1, b2, b3) n t it S L D lv k
    fin3 o [it] (n + 258) ∧ finOf o = .again (cC1 it S L D) ∧ tget (tabOf o) 0 = some (iterO lv k) := by
  cases b1 <;> cases b2 <;> refine ⟨⟨?_, ?_, ?_, ?_⟩, ?_, ?_⟩
  all_goals (show _ = _; kernel_rfl)
def dnames : Option Value → List (Str × Value)
  | none => []
  | some v => [(sLength, v)]
def wlist : Nat → Nat → Value → Value → List Value
  | 0, 0, w, _ => [w]
  | 0, _, w, x => [w, x]
  | _, _, w, x => [x, w]
noncomputable def outC1 (P : Params) (n t it D wl S L : Nat) (k : Nat) (hs : Nat → Int) (tk : Nat → Nat) (ep : Nat) (dl : List (Str × Value)) (arr : List Value) (epw : Nat) : Out :=
  run ⟨pw, P⟩ (Ktop P) (n + 258) t 3 500 40 (dec 40 9481770851662175469825) 2 default none [] (enterT (cC1 it S L D)) (tabFrom 0 [iterO (.ref wl) k, dctO hs tk ep dl, lstO arr.toArray epw]) 0 0 [] []
theorem cs1R (P : Params) (n t it D wl S L : Nat) (k more : Nat) (hk : k ≤ 1) (hmo : more ≤ 1) (hs : Nat → Int) (tk : Nat → Nat) (ep : Nat) (old : Option Value) (w sw : List Nat) (hm : (w, sw) ∈ wordsC) (tw : Nat) (x : Value) (epw : Nat) :
    let o := outC1 P n t it D wl S L k hs tk ep (dnames old) (wlist k more (.bytes (bts w) tw) x) epw
    call3 o [it, D, wl] (n + 258) ∧ codeOf o = .call (.builtin "set.add") ⟨[.ref S, .bytes (bts sw) (keyTok (argAt (codeOf o) 1))], []⟩ ∧ tget (tabOf o) 0 = some (iterO (.ref wl) (k + 1))
      ∧ tget (tabOf o) 1 = some (dctO (hsOf (objAt o 1)) (tkOf (objAt o 1)) (epOf (objAt o 1)) (dnames (some (.bytes (bts w) tw)))) ∧ tget (tabOf o) 2 = some (lstO (wlist k more (.bytes (bts w) tw) x).toArray epw) := by
  simp only [wordsC, List.mem_cons, List.not_mem_nil, or_false, Prod.mk.injEq] at hm
  obtain rfl | rfl : k = 0 ∨ k = 1 := by omega
  all_goals obtain rfl | rfl : more = 0 ∨ more = 1 := by omega
  all_goals cases old
  all_goals (rcases hm with ⟨rfl, rfl⟩ | ⟨rfl, rfl⟩ | ⟨rfl, rfl⟩ | ⟨rfl, rfl⟩ | ⟨rfl, rfl⟩ | ⟨rfl, rfl⟩ <;> refine ⟨⟨?_, ?_, ?_, ?_, ?_⟩, ?_, ?_, ?_, ?_⟩ <;> (show _ = _; kernel_rfl))
theorem cs2R (P : Params) (n t n' t' it D wl S L : Nat) (k more : Nat) (hk : k ≤ 1) (hmo : more ≤ 1) (hs : Nat → Int) (tk : Nat → Nat) (ep : Nat) (old : Option Value) (w sw : List Nat) (hm : (w, sw) ∈ wordsC) (tw : Nat) (x : Value) (epw : Nat) :
    let o := outZ P n' t' 10 1000 (treeOf (outC1 P n t it D wl S L k hs tk ep (dnames old) (wlist k more (.bytes (bts w) tw) x) epw) (.ok (.ret .none)))
    fin3 o [] (n' + 258) ∧ finOf o = .again (cC1 it S L D) := by
  simp only [wordsC, List.mem_cons, List.not_mem_nil, or_false, Prod.mk.injEq] at hm
  obtain rfl | rfl : k = 0 ∨ k = 1 := by omega
  all_goals obtain rfl | rfl : more = 0 ∨ more = 1 := by omega
  all_goals cases old
  all_goals (rcases hm with ⟨rfl, rfl⟩ | ⟨rfl, rfl⟩ | ⟨rfl, rfl⟩ | ⟨rfl, rfl⟩ | ⟨rfl, rfl⟩ | ⟨rfl, rfl⟩ <;> refine ⟨⟨?_, ?_, ?_, ?_⟩, ?_⟩ <;> (show _ = _; kernel_rfl))
noncomputable def outC3 (P : Params) (n t it D wl S L : Nat) (k : Nat) (arr : List Value) (epw : Nat) : Out :=
  run ⟨pw, P⟩ (Ktop P) (n + 258) t 2 500 30 (dec 30 288512959246827777) 1000 default none [] (enterT (cC1 it S L D)) (tabFrom 0 [iterO (.ref wl) k, lstO arr.toArray epw]) 0 0 [] []
theorem cs3R (P : Params) (n t it D wl S L : Nat) (one : Bool) (x y : Value) (epw : Nat) :
    let o := match one with | true => outC3 P n t it D wl S L 1 [x] epw | false => outC3 P n t it D wl S L 2 [x, y] epw
    fin3 o [it, wl] (n + 258) ∧ finOf o = .done .next ∧ tget (tabOf o) 1 = some (match one with | true => lstO #[x] epw | false => lstO #[x, y] epw) := by
  cases one <;> refine ⟨⟨?_, ?_, ?_, ?_⟩, ?_, ?_⟩
  all_goals (show _ = _; kernel_rfl)
end Mine
end
section
open PySem PySem.W PySem.W.X PySem.Calls PyProof.Rows
set_option maxRecDepth 100000
set_option maxHeartbeats 400000
namespace Mine
open PySem.W.ZFast
theorem low3 {P : Params} {a b c : Nat} (h : Low P a) (h' : Low P b) (h'' : Low P c) : ∀ x ∈ [a, b, c], Low P x := fun x m => by
  simp only [List.mem_cons, List.not_mem_nil, or_false] at m
  rcases m with rfl | rfl | rfl <;> assumption
def IterAt (h : Heap) (a : Nat) (l : Value) (k : Nat) : Prop := h.get? a = some (iterO l k)
def DctAt (h : Heap) (a : Nat) (l : List (Str × Value)) : Prop := ∃ hs tk ep, h.get? a = some (dctO hs tk ep l)
theorem SetOf.cls {P : Program} {w : World} {h : Heap} {S : Nat} {knd : KeyKind P w (List UInt8)} {f : List UInt8 → Bool} {n : Nat} (x : h.SetOf knd S f n) : ∃ o, h.get? S = some o ∧ o.cls = .type "set" := let ⟨o, _, _, _, ho, hx, _⟩ := x; ⟨o, ho, hx.1⟩
theorem SetOf.keepB {P : Program} {w : World} {h h' : Heap} {S : Nat} {knd : KeyKind P w (List UInt8)} {f : List UInt8 → Bool} {n : Nat} {ds : List Nat} (x : h.SetOf knd S f n) (b : But ds h h') (hn : S ∉ ds) : h'.SetOf knd S f n :=
  let ⟨o, es, ep, t, ho, r⟩ := x; ⟨o, es, ep, t, b.keep _ _ ho hn, r⟩
theorem ne_cls {h : Heap} {a b : Nat} {o o' : Obj} (ha : h.get? a = some o) (hb : h.get? b = some o') (hne : o.cls ≠ o'.cls) : a ≠ b := ne_of_obj ha hb fun e => hne (by rw [e])
section
variable {w : World} {A : Around} {h : Heap} {g : Array GenState} {dr : Drawn} {t : Nat} {o : OsState}
theorem turnC {it D wl S L k more : Nat} (ar : Ar (A.under (cC1 it S L D))) (ok : Okay w.params h) (hk : k ≤ 1) (hmo : more ≤ 1) {old : Option Value} {wd sw : List Nat} (hm : (wd, sw) ∈ wordsC) {tw : Nat} {x : Value} {f : List UInt8 → Bool} {n : Nat} (hn3 : n ≤ 3)
    (li : Low w.params it) (lD : Low w.params D) (lw : Low w.params wl) (lS : Low w.params S)
    (hi : IterAt h it (.ref wl) k) (hD : DctAt h D (dnames old)) (hw : LstAt h wl (wlist k more (.bytes (bts wd) tw) x).toArray) (hS : h.SetOf (bk w) S f n) {R : Result → Shared → Prop}
    (hQ : ∀ s', But [it, D, S] h s'.heap → OkS w.params g o s' → IterAt s'.heap it (.ref wl) (k + 1) → DctAt s'.heap D (dnames (some (.bytes (bts wd) tw))) →
      s'.heap.SetOf (bk w) S (fun k' => f k' || decide (k' = (bts sw).toList)) (if f (bts sw).toList then n else n + 1) → codeAny (model pw w) A (cC1 it S L D) R s') : codeAny (model pw w) A (cC1 it S L D) R ⟨h, g, dr, t, o⟩ := by
  obtain ⟨hs, tk, ep, hD⟩ := hD
  obtain ⟨epw, hw⟩ := hw
  obtain ⟨oS, hoS, hcS⟩ := SetOf.cls hS
  obtain ⟨n₀, hn⟩ := ok.size
  have n1 : it ≠ D := ne_cls hi hD (by simp [iterO, dctO])
  have n2 : it ≠ wl := ne_cls hi hw (by simp [iterO, lstO])
  have n3 : D ≠ wl := ne_cls hD hw (by simp [dctO, lstO])
  have n4 : S ≠ it := ne_cls hoS hi (by simp [hcS, iterO])
  have n5 : S ≠ D := ne_cls hoS hD (by simp [hcS, dctO])
  obtain ⟨F, hc, h0, h1, h2⟩ := cs1R w.params n₀ t it D wl S L k more hk hmo hs tk ep old wd sw hm tw x epw
  refine codeAny_enter (fun hc => by cases hc) ?_
  refine run_call ok hn [it, D, wl] [iterO (.ref wl) k, dctO hs tk ep (dnames old), lstO (wlist k more (.bytes (bts wd) tw) x).toArray epw] 2 500 40 (low3 li lD lw) (by simp [n1, n2, n3]) ⟨hi, hD, hw, trivial⟩ ar.deep ar.handled
    (outC1 w.params n₀ t it D wl S L k hs tk ep (dnames old) (wlist k more (.bytes (bts wd) tw) x) epw) rfl F.1 F.2.1 F.2.2 ⟨h2, trivial⟩ fun h' dr' af => ?_
  rw [hc]
  have bd : But [it, D] h h' := af.but
  have hS' : h'.SetOf (bk w) S f n := SetOf.keepB hS bd (by simp [n4, n5])
  refine codeAny_setAdd af.ok lS hS' hn3 (bts sw) _ fun s₁ b₁ ok₁ hS₁ => ?_
  obtain ⟨n₁, hn₁⟩ := ok₁.size
  obtain ⟨h₁, g₁, d₁, t₁, o₁⟩ := s₁
  obtain ⟨ok₁, rfl, rfl⟩ := ok₁
  obtain ⟨F₁, hf₁⟩ := cs2R w.params n₀ t n₁ t₁ it D wl S L k more hk hmo hs tk ep old wd sw hm tw x epw
  refine run_fin ok₁ hn₁ [] [] 0 500 10 low0 (by simp) trivial ar.deep ar.handled (outZ w.params n₁ t₁ 10 1000 _) rfl F₁.1 F₁.2 trivial fun h₂ dr₂ af₁ => ?_
  rw [hf₁]
  have b₂ : But [] h₁ h₂ := af₁.but
  have i' : IterAt h' it (.ref wl) (k + 1) := af.get 0 _ h0
  have d' : DctAt h' D (dnames (some (.bytes (bts wd) tw))) := ⟨_, _, _, af.get 1 _ h1⟩
  have d'' : DctAt h₂ D (dnames (some (.bytes (bts wd) tw))) := let ⟨a, b, c, e⟩ := d'; ⟨a, b, c, b₂.keep _ _ (b₁.keep _ _ e (by simpa using n5.symm)) (fun m => nomatch m)⟩
  have i'' : IterAt h₂ it (.ref wl) (k + 1) := b₂.keep _ _ (b₁.keep _ _ i' (by simpa using n4.symm)) (fun m => nomatch m)
  exact ⟨af₁.ok.nolimit, by rw [ze17772548960776305114]; kernel_rfl, hQ _ ((bd.mono (fun a m => by simp only [List.mem_cons, List.not_mem_nil, or_false] at m ⊢; rcases m with rfl | rfl <;> simp)).trans ((b₁.mono (fun a m => by simp only [List.mem_cons, List.not_mem_nil, or_false] at m ⊢; exact .inr (.inr m))).trans b₂.nil)) af₁.ok i'' d'' (SetOf.keepB hS₁ b₂ (fun m => nomatch m))⟩
theorem endC {it D wl S L : Nat} (ar : Ar (A.under (cC1 it S L D))) (ok : Okay w.params h) (one : Bool) {x y : Value} (li : Low w.params it) (lw : Low w.params wl)
    (hi : IterAt h it (.ref wl) (match one with | true => 1 | false => 2)) (hw : LstAt h wl (match one with | true => #[x] | false => #[x, y])) {R : Result → Shared → Prop}
    (hQ : ∀ s', But [it] h s'.heap → OkS w.params g o s' → R (.ok .next) s') : codeAny (model pw w) A (cC1 it S L D) R ⟨h, g, dr, t, o⟩ := by
  obtain ⟨epw, hw⟩ := hw
  obtain ⟨n₀, hn⟩ := ok.size
  have n2 : it ≠ wl := ne_cls hi hw (by simp [iterO, lstO])
  obtain ⟨F, hf, h1⟩ := cs3R w.params n₀ t it D wl S L one x y epw
  refine codeAny_enter (fun hc => by cases hc) ?_
  cases one with
  | true =>
    refine run_fin ok hn [it, wl] [iterO (.ref wl) 1, lstO #[x] epw] 1 500 30 (low2 li lw) (by simp [n2]) ⟨hi, hw, trivial⟩ ar.deep ar.handled (outC3 w.params n₀ t it D wl S L 1 [x] epw) rfl F.1 F.2 ⟨h1, trivial⟩ fun h' dr' af => ?_
    rw [hf]
    exact ⟨af.ok.nolimit, hQ _ af.but af.ok⟩
  | false =>
    refine run_fin ok hn [it, wl] [iterO (.ref wl) 2, lstO #[x, y] epw] 1 500 30 (low2 li lw) (by simp [n2]) ⟨hi, hw, trivial⟩ ar.deep ar.handled (outC3 w.params n₀ t it D wl S L 2 [x, y] epw) rfl F.1 F.2 ⟨h1, trivial⟩ fun h' dr' af => ?_
    rw [hf]
    exact ⟨af.ok.nolimit, hQ _ af.but af.ok⟩
theorem startC {it D wl S L : Nat} (ar : Ar (A.under (cC0 it S L D))) (ok : Okay w.params h) (li : Low w.params it) (hi : IterAt h it (.ref wl) 0) {R : Result → Shared → Prop}
    (hQ : ∀ s', But [] h s'.heap → OkS w.params g o s' → codeAny (model pw w) A (cC1 it S L D) R s') : codeAny (model pw w) A (cC0 it S L D) R ⟨h, g, dr, t, o⟩ := by
  obtain ⟨n₀, hn⟩ := ok.size
  obtain ⟨b1, b2, b3, hP⟩ := params_split w.params
  obtain ⟨F, hf, h0⟩ := cs0R w.params b1 b2 b3 n₀ t it S L D (.ref wl) 0
  refine codeAny_enter (fun hc => by cases hc) ?_
  refine run_fin ok hn [it] [iterO (.ref wl) 0] 0 500 20 (low1 li) (by simp) ⟨hi, trivial⟩ ar.deep ar.handled (outC0 w.params (b1, b2, b3) n₀ t it S L D (.ref wl) 0) (by unfold outC0; rw [← hP]; rfl) F.1 F.2 ⟨h0, trivial⟩ fun h' dr' af => ?_
  rw [hf]
  exact ⟨af.ok.nolimit, by rw [ze17772548960776305114]; kernel_rfl, hQ _ af.but af.ok⟩
theorem Ar.of1 {c : Code} (ark : ArK 1 A) (h : c.weight ≤ 1) : Ar (A.under c) := (ark.under h).weak
theorem cC0_weight (it S L D : Nat) : (cC0 it S L D).weight ≤ 1 := by rw [ze1243936422450756474]; exact Nat.le_of_ble_eq_true (by kernel_rfl)
theorem cC1_weight (it S L D : Nat) : (cC1 it S L D).weight ≤ 1 := by rw [ze1243936422450756474]; exact Nat.le_of_ble_eq_true (by kernel_rfl)
def setF : List (List Nat) → List UInt8 → Bool
  | [] => fun _ => false
  | w :: ws => fun k => setF ws k || decide (k = (bts w).toList)
theorem compC1 {it D wl S L : Nat} (ark : ArK 1 A) (ok : Okay w.params h) {wd sw : List Nat} (hm : (wd, sw) ∈ wordsC) {tw : Nat}
    (li : Low w.params it) (lD : Low w.params D) (lw : Low w.params wl) (lS : Low w.params S)
    (hi : IterAt h it (.ref wl) 0) (hD : DctAt h D []) (hw : LstAt h wl #[.bytes (bts wd) tw]) (hS : h.SetOf (bk w) S (fun _ => false) 0) {R : Result → Shared → Prop}
    (hQ : ∀ v s', But [it, D, S] h s'.heap → OkS w.params g o s' → DctAt s'.heap D (dnames (some v)) → s'.heap.SetOf (bk w) S (setF [sw]) 1 → R (.ok .next) s') : codeAny (model pw w) A (cC0 it S L D) R ⟨h, g, dr, t, o⟩ := by
  have a0 := Ar.of1 ark (cC0_weight it S L D)
  have a1 := Ar.of1 ark (cC1_weight it S L D)
  obtain ⟨oS, hoS, hcS⟩ := SetOf.cls hS
  have n4 : S ≠ it := ne_cls hoS hi (by simp [hcS, iterO])
  have n4' : S ≠ wl := let ⟨_, e⟩ := hw; ne_cls hoS e (by simp [hcS, lstO])
  have n5 : wl ≠ it := let ⟨_, e⟩ := hw; ne_cls e hi (by simp [lstO, iterO])
  have n6 : D ≠ it := let ⟨_, _, _, e⟩ := hD; ne_cls e hi (by simp [dctO, iterO])
  have n7 : wl ≠ D := let ⟨_, _, _, e⟩ := hD; let ⟨_, e'⟩ := hw; ne_cls e' e (by simp [dctO, lstO])
  refine startC a0 ok li hi fun s₁ b₁ ok₁ => ?_
  obtain ⟨h₁, g₁, d₁, t₁, o₁⟩ := s₁
  obtain ⟨ok₁, rfl, rfl⟩ := ok₁
  have k₁ : ∀ b o, h.get? b = some o → h₁.get? b = some o := fun b o e => b₁.keep b o e (fun m => nomatch m)
  refine turnC a1 ok₁ (k := 0) (more := 0) (old := none) (x := .none) (n := 0) (Nat.zero_le _) (Nat.zero_le _) hm (Nat.zero_le _) li lD lw lS (k₁ _ _ hi) (let ⟨a, b, c, e⟩ := hD; ⟨a, b, c, k₁ _ _ e⟩) (let ⟨a, e⟩ := hw; ⟨a, k₁ _ _ e⟩) (SetOf.keepB hS b₁ (fun m => nomatch m)) fun s₂ b₂ ok₂ i₂ d₂ S₂ => ?_
  obtain ⟨h₂, g₂, dr₂, t₂, o₂⟩ := s₂
  obtain ⟨ok₂, rfl, rfl⟩ := ok₂
  have w₂ : LstAt h₂ wl #[.bytes (bts wd) tw] := let ⟨a, e⟩ := hw; ⟨a, b₂.keep _ _ (k₁ _ _ e) (by simp [n5, n7, n4'.symm])⟩
  refine endC a1 ok₂ true (x := .bytes (bts wd) tw) (y := .none) li lw i₂ w₂ fun s₃ b₃ ok₃ => ?_
  refine hQ (.bytes (bts wd) tw) s₃ (b₁.nil.trans (b₂.trans (b₃.mono (fun a m => by simp only [List.mem_cons, List.not_mem_nil, or_false] at m ⊢; exact .inl m)))) ok₃ (let ⟨a, b, c, e⟩ := d₂; ⟨a, b, c, b₃.keep _ _ e (by simpa using n6)⟩) ?_
  exact SetOf.keepB S₂ b₃ (by simpa using n4)
theorem compC2 {it D wl S L : Nat} (ark : ArK 1 A) (ok : Okay w.params h) {wd sw wd' sw' : List Nat} (hm : (wd, sw) ∈ wordsC) (hm' : (wd', sw') ∈ wordsC) {tw tw' : Nat}
    (li : Low w.params it) (lD : Low w.params D) (lw : Low w.params wl) (lS : Low w.params S)
    (hi : IterAt h it (.ref wl) 0) (hD : DctAt h D []) (hw : LstAt h wl #[.bytes (bts wd) tw, .bytes (bts wd') tw']) (hS : h.SetOf (bk w) S (fun _ => false) 0) {R : Result → Shared → Prop}
    (hQ : ∀ v s', But [it, D, S] h s'.heap → OkS w.params g o s' → DctAt s'.heap D (dnames (some v)) → s'.heap.SetOf (bk w) S (setF [sw', sw]) (if setF [sw] (bts sw').toList then 1 else 2) → R (.ok .next) s') : codeAny (model pw w) A (cC0 it S L D) R ⟨h, g, dr, t, o⟩ := by
  have a0 := Ar.of1 ark (cC0_weight it S L D)
  have a1 := Ar.of1 ark (cC1_weight it S L D)
  obtain ⟨oS, hoS, hcS⟩ := SetOf.cls hS
  have n4 : S ≠ it := ne_cls hoS hi (by simp [hcS, iterO])
  have n4' : S ≠ wl := let ⟨_, e⟩ := hw; ne_cls hoS e (by simp [hcS, lstO])
  have n5 : wl ≠ it := let ⟨_, e⟩ := hw; ne_cls e hi (by simp [lstO, iterO])
  have n6 : D ≠ it := let ⟨_, _, _, e⟩ := hD; ne_cls e hi (by simp [dctO, iterO])
  have n7 : wl ≠ D := let ⟨_, _, _, e⟩ := hD; let ⟨_, e'⟩ := hw; ne_cls e' e (by simp [dctO, lstO])
  refine startC a0 ok li hi fun s₁ b₁ ok₁ => ?_
  obtain ⟨h₁, g₁, d₁, t₁, o₁⟩ := s₁
  obtain ⟨ok₁, rfl, rfl⟩ := ok₁
  have k₁ : ∀ b o, h.get? b = some o → h₁.get? b = some o := fun b o e => b₁.keep b o e (fun m => nomatch m)
  refine turnC a1 ok₁ (k := 0) (more := 1) (old := none) (x := .bytes (bts wd') tw') (n := 0) (Nat.zero_le _) (Nat.le_refl _) hm (Nat.zero_le _) li lD lw lS (k₁ _ _ hi) (let ⟨a, b, c, e⟩ := hD; ⟨a, b, c, k₁ _ _ e⟩) (let ⟨a, e⟩ := hw; ⟨a, k₁ _ _ e⟩) (SetOf.keepB hS b₁ (fun m => nomatch m)) fun s₂ b₂ ok₂ i₂ d₂ S₂ => ?_
  obtain ⟨h₂, g₂, dr₂, t₂, o₂⟩ := s₂
  obtain ⟨ok₂, rfl, rfl⟩ := ok₂
  have w₂ : LstAt h₂ wl #[.bytes (bts wd) tw, .bytes (bts wd') tw'] := let ⟨a, e⟩ := hw; ⟨a, b₂.keep _ _ (k₁ _ _ e) (by simp [n5, n7, n4'.symm])⟩
  refine turnC a1 ok₂ (k := 1) (more := 0) (old := some (.bytes (bts wd) tw)) (x := .bytes (bts wd) tw) (n := 1) (Nat.le_refl _) (Nat.zero_le _) hm' (by decide) li lD lw lS i₂ d₂ w₂ S₂ fun s₃ b₃ ok₃ i₃ d₃ S₃ => ?_
  obtain ⟨h₃, g₃, dr₃, t₃, o₃⟩ := s₃
  obtain ⟨ok₃, rfl, rfl⟩ := ok₃
  have w₃ : LstAt h₃ wl #[.bytes (bts wd) tw, .bytes (bts wd') tw'] := let ⟨a, e⟩ := w₂; ⟨a, b₃.keep _ _ e (by simp [n5, n7, n4'.symm])⟩
  refine endC a1 ok₃ false (x := .bytes (bts wd) tw) (y := .bytes (bts wd') tw') li lw i₃ w₃ fun s₄ b₄ ok₄ => ?_
  refine hQ (.bytes (bts wd') tw') s₄ (b₁.nil.trans (b₂.trans (b₃.trans (b₄.mono (fun a m => by simp only [List.mem_cons, List.not_mem_nil, or_false] at m ⊢; exact .inl m))))) ok₄ (let ⟨a, b, c, e⟩ := d₃; ⟨a, b, c, b₄.keep _ _ e (by simpa using n6)⟩) ?_
  exact SetOf.keepB S₃ b₄ (by simpa using n4)
end
end Mine
end
section
open PySem PySem.W PySem.W.X PySem.Calls PyProof.Rows
set_option maxRecDepth 100000
set_option maxHeartbeats 400000
namespace Mine
open PySem.W.ZFast
structure TV where
  P : Params
  n : Nat
  t : Nat
  L : Nat
  NH : Nat
  hs : Nat → Int
  tk : Nat → Nat
  ep : Nat
  sl : Array (Option Value)
  hv : Value
  pa : Bool
  saw : Value
  raw : Array UInt8
  t1 : Nat
  t2 : Nat
  t3 : Nat
  arr : Array Value
  ep1 : Nat
structure SV where
  n : Nat
  t : Nat
  hs : Nat → Int
  tk : Nat → Nat
  ep : Nat
  sl : Array (Option Value)
noncomputable def TV.ca (v : TV) (b : Bool × Bool × Bool) (seen : Value) (r : Old) (nm vl : List Nat) : Out :=
  outCA v.P b v.n v.t v.L v.NH v.hs v.tk v.ep v.sl (locN v.hv v.pa v.NH seen v.saw ((r.raw (.bytes v.raw v.t3)).out (.bytes (bts nm) v.t1) (.bytes (bts vl) v.t2))) v.arr v.ep1
def TV.loc (v : TV) (seen : Value) (r : Old) (tl : Nat) (vl : Value) : List (Str × Value) := locN v.hv v.pa v.NH seen v.saw ((r.raw (.bytes v.raw v.t3)).out (.bytes (bts clLow) tl) vl)
def Old.len (r : Old) (S : Value) : Old := match r with | .zero => .zero | .one c => .two c S | .two c _ => .two c S
noncomputable def TV.cb1 (v : TV) (b : Bool × Bool × Bool) (seen : Value) (r : Old) (nm vl : List Nat) (a : SV) (tl : Nat) (hsD : Nat → Int) (tkD : Nat → Nat) (epD : Nat) (w0 : Value) : Out :=
  run ⟨pw, mkP v.P b.1 b.2.1 b.2.2⟩ (Ktop (mkP v.P b.1 b.2.1 b.2.2)) (a.n + 258) a.t 2 500 30 (dec 30 72057602661548289) 0 default none [] (treeOf (v.ca b seen r nm vl) (.ok .next))
    (tabFrom 0 [frm a.hs a.tk a.ep a.sl (v.loc seen r tl (.bytes (bts vl) v.t2)), dctO hsD tkD epD (dnames (some w0))]) 0 0 [] []
theorem cb1R (v : TV) (b1 b2 b3 : Bool) (seen : Value) (r : Old) (hr : r.full) (nm vl : List Nat) (ws : List (List Nat)) (hm : (nm, vl, ws) ∈ lens) (a : SV) (tl : Nat) (hsD : Nat → Int) (tkD : Nat → Nat) (epD : Nat) (w0 : Value) (D : Nat) (hD : D = v.n + 258 + 3) :
    let o := v.cb1 (b1, b2, b3) seen r nm vl a tl hsD tkD epD w0
    call3 o [v.L, v.n + 258 + 3] (a.n + 258) ∧ codeOf o = .call (.builtin "len") ⟨[.ref (v.n + 258 + 2)], []⟩ ∧ frm0 o a.sl (v.loc seen (r.len (.ref (v.n + 258 + 2))) tl (.bytes (bts vl) v.t2)) := by
  simp only [lens, List.mem_cons, List.not_mem_nil, or_false, Prod.mk.injEq] at hm
  cases b1 <;> cases b3 <;> cases r <;> first | exact hr.elim | skip
  all_goals (rcases hm with ⟨rfl, rfl, rfl⟩ | ⟨rfl, rfl, rfl⟩ | ⟨rfl, rfl, rfl⟩ | ⟨rfl, rfl, rfl⟩ | ⟨rfl, rfl, rfl⟩ | ⟨rfl, rfl, rfl⟩ | ⟨rfl, rfl, rfl⟩ | ⟨rfl, rfl, rfl⟩ <;> refine ⟨⟨?_, ?_, ?_, ?_, ?_⟩, ?_, ?_⟩ <;> (show _ = _; kernel_rfl))
structure DV where
  hs : Nat → Int
  tk : Nat → Nat
  ep : Nat
  w0 : Value
  tl : Nat
noncomputable def TV.cb1' (v : TV) (b : Bool × Bool × Bool) (seen : Value) (r : Old) (nm vl : List Nat) (a : SV) (d : DV) : Out := v.cb1 b seen r nm vl a d.tl d.hs d.tk d.ep d.w0
noncomputable def TV.cb2 (v : TV) (b : Bool × Bool × Bool) (seen : Value) (r : Old) (nm vl : List Nat) (a : SV) (d : DV) (ti : Nat) (a' : SV) (es : Array (Int × Value)) (eps : Nat) (st : SetTable) : Out :=
  run ⟨pw, mkP v.P b.1 b.2.1 b.2.2⟩ (Ktop (mkP v.P b.1 b.2.1 b.2.2)) (a'.n + 258) a'.t 2 500 30 (dec 30 8623620609) 1 default none [] (treeOf (v.cb1' b seen r nm vl a d) (.ok (.ret (.int 1 ti))))
    (tabFrom 0 [frm a'.hs a'.tk a'.ep a'.sl (v.loc seen (r.len (.ref (v.n + 258 + 2))) d.tl (.bytes (bts vl) v.t2)), ⟨.type "set", none, .set es eps st, #[]⟩]) 0 0 [] []
theorem cb2R (v : TV) (b1 b2 b3 : Bool) (seen : Value) (r : Old) (hr : r.full) (nm vl : List Nat) (ws : List (List Nat)) (hm : (nm, vl, ws) ∈ lens) (a : SV) (d : DV) (ti : Nat) (a' : SV) (es : Array (Int × Value)) (eps : Nat) (st : SetTable) :
    let o := v.cb2 (b1, b2, b3) seen r nm vl a d ti a' es eps st
    call3 o [v.L, v.n + 258 + 2] (a'.n + 258) ∧ codeOf o = .call (.builtin "set.pop") ⟨[.ref (v.n + 258 + 2)], []⟩ ∧ frm0 o a'.sl (v.loc seen (r.len (.ref (v.n + 258 + 2))) d.tl (.bytes (bts vl) v.t2))
      ∧ tget (tabOf o) 1 = some ⟨.type "set", none, .set es eps st, #[]⟩ := by
  simp only [lens, List.mem_cons, List.not_mem_nil, or_false, Prod.mk.injEq] at hm
  cases b1 <;> cases b3 <;> cases r <;> first | exact hr.elim | skip
  all_goals (rcases hm with ⟨rfl, rfl, rfl⟩ | ⟨rfl, rfl, rfl⟩ | ⟨rfl, rfl, rfl⟩ | ⟨rfl, rfl, rfl⟩ | ⟨rfl, rfl, rfl⟩ | ⟨rfl, rfl, rfl⟩ | ⟨rfl, rfl, rfl⟩ | ⟨rfl, rfl, rfl⟩ <;> refine ⟨⟨?_, ?_, ?_, ?_, ?_⟩, ?_, ?_, ?_⟩ <;> (show _ = _; kernel_rfl))
noncomputable def TV.cb2x (v : TV) (b : Bool × Bool × Bool) (seen : Value) (r : Old) (nm vl : List Nat) (a : SV) (d : DV) (ti : Nat) (n' t' : Nat) : Out :=
  run ⟨pw, mkP v.P b.1 b.2.1 b.2.2⟩ (Ktop (mkP v.P b.1 b.2.1 b.2.2)) (n' + 258) t' 0 500 30 (dec 30 0) 1 default none [] (treeOf (v.cb1' b seen r nm vl a d) (.ok (.ret (.int 2 ti)))) (tabFrom 0 []) 0 0 [] []
theorem cb2xR (v : TV) (b1 b2 b3 : Bool) (seen : Value) (r : Old) (hr : r.full) (nm vl : List Nat) (ws : List (List Nat)) (hm : (nm, vl, ws) ∈ lens) (a : SV) (d : DV) (ti : Nat) (n' t' : Nat) :
    let o := v.cb2x (b1, b2, b3) seen r nm vl a d ti n' t'
    made o [] (n' + 258) true := by
  simp only [lens, List.mem_cons, List.not_mem_nil, or_false, Prod.mk.injEq] at hm
  cases b1 <;> cases b3 <;> cases r <;> first | exact hr.elim | skip
  all_goals (rcases hm with ⟨rfl, rfl, rfl⟩ | ⟨rfl, rfl, rfl⟩ | ⟨rfl, rfl, rfl⟩ | ⟨rfl, rfl, rfl⟩ | ⟨rfl, rfl, rfl⟩ | ⟨rfl, rfl, rfl⟩ | ⟨rfl, rfl, rfl⟩ | ⟨rfl, rfl, rfl⟩ <;> refine ⟨⟨?_, ?_, ?_, ?_, ?_⟩, ?_⟩ <;> (show _ = _; kernel_rfl))
theorem cb2xeR (v : TV) (b1 b2 b3 : Bool) (seen : Value) (r : Old) (hr : r.full) (nm vl : List Nat) (ws : List (List Nat)) (hm : (nm, vl, ws) ∈ lens) (a : SV) (d : DV) (ti : Nat) (n' t' n'' t'' e dd aa : Nat) :
    raised (outX (mkP v.P b1 b2 b3) n'' t'' dd aa (treeOf (v.cb2x (b1, b2, b3) seen r nm vl a d ti n' t') (.ok (.ret (.ref e))))) e (n'' + 258) dd aa := by
  simp only [lens, List.mem_cons, List.not_mem_nil, or_false, Prod.mk.injEq] at hm
  cases b1 <;> cases b3 <;> cases r <;> first | exact hr.elim | skip
  all_goals (rcases hm with ⟨rfl, rfl, rfl⟩ | ⟨rfl, rfl, rfl⟩ | ⟨rfl, rfl, rfl⟩ | ⟨rfl, rfl, rfl⟩ | ⟨rfl, rfl, rfl⟩ | ⟨rfl, rfl, rfl⟩ | ⟨rfl, rfl, rfl⟩ | ⟨rfl, rfl, rfl⟩ <;> refine ⟨⟨?_, ?_, ?_, ?_⟩, ?_, ?_⟩ <;> (show _ = _; kernel_rfl))
noncomputable def TV.cb3 (v : TV) (b : Bool × Bool × Bool) (seen : Value) (r : Old) (nm vl : List Nat) (a : SV) (d : DV) (ti : Nat) (a' : SV) (es : Array (Int × Value)) (eps : Nat) (st : SetTable) (x : Array UInt8) (tx : Nat) (a'' : SV) : Out :=
  run ⟨pw, mkP v.P b.1 b.2.1 b.2.2⟩ (Ktop (mkP v.P b.1 b.2.1 b.2.2)) (a''.n + 258) a''.t 1 500 30 (dec 30 4294967553) 0 default none [] (treeOf (v.cb2 b seen r nm vl a d ti a' es eps st) (.ok (.ret (.bytes x tx))))
    (tabFrom 0 [frm a''.hs a''.tk a''.ep a''.sl (v.loc seen (r.len (.ref (v.n + 258 + 2))) d.tl (.bytes (bts vl) v.t2))]) 0 0 [] []
theorem cb3R (v : TV) (b1 b2 b3 : Bool) (seen : Value) (r : Old) (hr : r.full) (nm vl : List Nat) (ws : List (List Nat)) (hm : (nm, vl, ws) ∈ lens) (a : SV) (d : DV) (ti : Nat) (a' : SV) (es : Array (Int × Value)) (eps : Nat) (st : SetTable) (x : Array UInt8) (tx : Nat) (a'' : SV) :
    let o := v.cb3 (b1, b2, b3) seen r nm vl a d ti a' es eps st x tx a''
    call3 o [v.L] (a''.n + 258) ∧ codeOf o = .call (.ref 88) ⟨[.ref 100, .bytes x tx, .str (strP (argAt (codeOf o) 2)) (keyTok (argAt (codeOf o) 2))], []⟩ ∧ frm0 o a''.sl (v.loc seen (r.len (.ref (v.n + 258 + 2))) d.tl (.bytes x tx)) := by
  simp only [lens, List.mem_cons, List.not_mem_nil, or_false, Prod.mk.injEq] at hm
  cases b1 <;> cases b3 <;> cases r <;> first | exact hr.elim | skip
  all_goals (rcases hm with ⟨rfl, rfl, rfl⟩ | ⟨rfl, rfl, rfl⟩ | ⟨rfl, rfl, rfl⟩ | ⟨rfl, rfl, rfl⟩ | ⟨rfl, rfl, rfl⟩ | ⟨rfl, rfl, rfl⟩ | ⟨rfl, rfl, rfl⟩ | ⟨rfl, rfl, rfl⟩ <;> refine ⟨⟨?_, ?_, ?_, ?_, ?_⟩, ?_, ?_⟩ <;> (show _ = _; kernel_rfl))
end Mine
end
section
open PySem PySem.W PySem.W.X PySem.Calls PyProof.Rows
set_option maxRecDepth 100000
set_option maxHeartbeats 400000
namespace Mine
open PySem.W.ZFast
def oks : List (List Nat × List Nat × List Nat) := [([67, 111, 110, 116, 101, 110, 116, 45, 76, 101, 110, 103, 116, 104], [51], [51]), ([99, 111, 110, 116, 101, 110, 116, 45, 76, 69, 78, 71, 84, 72], [51, 44, 32, 51], [51]), ([67, 111, 110, 116, 101, 110, 116, 45, 76, 101, 110, 103, 116, 104], [48, 51], [48, 51]), ([99, 111, 110, 116, 101, 110, 116, 45, 108, 101, 110, 103, 116, 104], [51], [51]), ([99, 111, 110, 116, 101, 110, 116, 45, 108, 101, 110, 103, 116, 104], [48, 51], [48, 51])]
def longLen : List Nat := [48, 48, 48, 48, 48, 48, 48, 48, 48, 48, 48, 48, 48, 48, 48, 48, 48, 48, 48, 48, 51]
def clName : List Nat := [67, 111, 110, 116, 101, 110, 116, 45, 76, 101, 110, 103, 116, 104]
noncomputable def TV.t4 (v : TV) (b : Bool × Bool × Bool) (seen : Value) (r : Old) (nm vl : List Nat) (a : SV) (d : DV) (ti : Nat) (a' : SV) (es : Array (Int × Value)) (eps : Nat) (st : SetTable) (x : Array UInt8) (tx : Nat) (a'' : SV) (y : Nat) : Sem Fin :=
  treeOf (v.cb3 b seen r nm vl a d ti a' es eps st x tx a'') (.ok (.ret (.ref y)))
noncomputable def TV.r4 (v : TV) (b : Bool × Bool × Bool) (seen : Value) (r : Old) (x : Array UInt8) (tx tl ora calls : Nat) (z : SV) (tr : Sem Fin) : Out :=
  run ⟨pw, mkP v.P b.1 b.2.1 b.2.2⟩ (Ktop (mkP v.P b.1 b.2.1 b.2.2)) (z.n + 258) z.t 1 500 60 (dec 60 ora) calls default none [] tr
    (tabFrom 0 [frm z.hs z.tk z.ep z.sl (v.loc seen (r.len (.ref (v.n + 258 + 2))) tl (.bytes x tx))]) 0 0 [] []
noncomputable def TV.r5 (v : TV) (b : Bool × Bool × Bool) (seen : Value) (r : Old) (x : Array UInt8) (tx tl ora calls : Nat) (z : SV) (ep1 : Nat) (tr : Sem Fin) : Out :=
  run ⟨pw, mkP v.P b.1 b.2.1 b.2.2⟩ (Ktop (mkP v.P b.1 b.2.1 b.2.2)) (z.n + 258) z.t 2 500 80 (dec 80 ora) calls default none [] tr
    (tabFrom 0 [frm z.hs z.tk z.ep z.sl (v.loc seen (r.len (.ref (v.n + 258 + 2))) tl (.bytes x tx)), lstO v.arr ep1]) 0 0 [] []
theorem firstR (v : TV) (b1 b2 b3 : Bool) (r : Old) (hr : r.full) (nm vl x : List Nat) (hm : (nm, vl, x) ∈ oks) (a : SV) (d : DV) (ti : Nat) (a' : SV) (es : Array (Int × Value)) (eps : Nat) (st : SetTable) (tx : Nat) (a'' : SV) (y : Nat) (z : SV) (ep1 : Nat) :
    let o := v.r5 (b1, b2, b3) .none r (bts x) tx d.tl 1334440734130776715265406072569004032 4 z ep1 (v.t4 (b1, b2, b3) .none r nm vl a d ti a' es eps st (bts x) tx a'' y)
    call3 o [v.L, v.NH] (z.n + 258) ∧ codeOf o = .call (.builtin "list.append") ⟨[.ref v.NH, .ref (z.n + 258)], []⟩ ∧ frm0 o z.sl (v.loc (.bytes (bts x) tx) (r.len (.ref (v.n + 258 + 2))) d.tl (.bytes (bts x) tx)) ∧ lst1 o v.arr ∧ row2 o v.raw (bts clLow) (bts x) := by
  simp only [oks, List.mem_cons, List.not_mem_nil, or_false, Prod.mk.injEq] at hm
  cases b1 <;> cases b3 <;> cases r <;> first | exact hr.elim | skip
  all_goals (rcases hm with ⟨rfl, rfl, rfl⟩ | ⟨rfl, rfl, rfl⟩ | ⟨rfl, rfl, rfl⟩ | ⟨rfl, rfl, rfl⟩ | ⟨rfl, rfl, rfl⟩ <;> refine ⟨⟨?_, ?_, ?_, ?_, ?_⟩, ?_, ?_, ?_, ?_⟩ <;> (show _ = _; kernel_rfl))
theorem firstR2 (v : TV) (b1 b2 b3 : Bool) (r : Old) (hr : r.full) (nm vl x : List Nat) (hm : (nm, vl, x) ∈ oks) (a : SV) (d : DV) (ti : Nat) (a' : SV) (es : Array (Int × Value)) (eps : Nat) (st : SetTable) (tx : Nat) (a'' : SV) (y : Nat) (z : SV) (ep1 n' t' : Nat) :
    let o := outZ (mkP v.P b1 b2 b3) n' t' 10 1000 (treeOf (v.r5 (b1, b2, b3) .none r (bts x) tx d.tl 1334440734130776715265406072569004032 4 z ep1 (v.t4 (b1, b2, b3) .none r nm vl a d ti a' es eps st (bts x) tx a'' y)) (.ok (.ret .none)))
    fin3 o [] (n' + 258) ∧ finOf o = .done .next := by
  simp only [oks, List.mem_cons, List.not_mem_nil, or_false, Prod.mk.injEq] at hm
  cases b1 <;> cases b3 <;> cases r <;> first | exact hr.elim | skip
  all_goals (rcases hm with ⟨rfl, rfl, rfl⟩ | ⟨rfl, rfl, rfl⟩ | ⟨rfl, rfl, rfl⟩ | ⟨rfl, rfl, rfl⟩ | ⟨rfl, rfl, rfl⟩ <;> refine ⟨⟨?_, ?_, ?_, ?_⟩, ?_⟩ <;> (show _ = _; kernel_rfl))
theorem sameR (v : TV) (b1 b2 b3 : Bool) (ts : Nat) (r : Old) (hr : r.full) (nm vl x : List Nat) (hm : (nm, vl, x) ∈ oks) (a : SV) (d : DV) (ti : Nat) (a' : SV) (es : Array (Int × Value)) (eps : Nat) (st : SetTable) (tx : Nat) (a'' : SV) (y : Nat) (z : SV) :
    let o := v.r4 (b1, b2, b3) (.bytes (bts x) ts) r (bts x) tx d.tl 282578783371264 1000 z (v.t4 (b1, b2, b3) (.bytes (bts x) ts) r nm vl a d ti a' es eps st (bts x) tx a'' y)
    fin3 o [v.L] (z.n + 258) ∧ finOf o = .done .next ∧ frm0 o z.sl (v.loc (.bytes (bts x) ts) (r.len (.ref (v.n + 258 + 2))) d.tl (.bytes (bts x) tx)) := by
  simp only [oks, List.mem_cons, List.not_mem_nil, or_false, Prod.mk.injEq] at hm
  cases b1 <;> cases b3 <;> cases r <;> first | exact hr.elim | skip
  all_goals (rcases hm with ⟨rfl, rfl, rfl⟩ | ⟨rfl, rfl, rfl⟩ | ⟨rfl, rfl, rfl⟩ | ⟨rfl, rfl, rfl⟩ | ⟨rfl, rfl, rfl⟩ <;> refine ⟨⟨?_, ?_, ?_, ?_⟩, ?_, ?_⟩ <;> (show _ = _; kernel_rfl))
def lensOk : List (List Nat) := [[51], [48, 51]]
theorem otherR (v : TV) (b1 b2 b3 : Bool) (ts : Nat) (q : List Nat) (hq : q ∈ lensOk) (r : Old) (hr : r.full) (nm vl x : List Nat) (hm : (nm, vl, x) ∈ oks) (a : SV) (d : DV) (ti : Nat) (a' : SV) (es : Array (Int × Value)) (eps : Nat) (st : SetTable) (tx : Nat) (a'' : SV) (y : Nat) (hne : q ≠ x) (z : SV) :
    let o := v.r4 (b1, b2, b3) (.bytes (bts q) ts) r (bts x) tx d.tl 282578783371264 5 z (v.t4 (b1, b2, b3) (.bytes (bts q) ts) r nm vl a d ti a' es eps st (bts x) tx a'' y)
    made o [v.L] (z.n + 258) true ∧ frm0 o z.sl (v.loc (.bytes (bts q) ts) (r.len (.ref (v.n + 258 + 2))) d.tl (.bytes (bts x) tx)) := by
  simp only [oks, List.mem_cons, List.not_mem_nil, or_false, Prod.mk.injEq] at hm
  simp only [lensOk, List.mem_cons, List.not_mem_nil, or_false] at hq
  cases b1 <;> cases b3 <;> cases r <;> first | exact hr.elim | skip
  all_goals (rcases hm with ⟨rfl, rfl, rfl⟩ | ⟨rfl, rfl, rfl⟩ | ⟨rfl, rfl, rfl⟩ | ⟨rfl, rfl, rfl⟩ | ⟨rfl, rfl, rfl⟩ <;> rcases hq with rfl | rfl <;> first | exact absurd rfl hne | (refine ⟨⟨⟨?_, ?_, ?_, ?_, ?_⟩, ?_⟩, ?_⟩ <;> (show _ = _; kernel_rfl)))
end Mine
end
section
open PySem PySem.W PySem.W.X PySem.Calls PyProof.Rows
set_option maxRecDepth 100000
set_option maxHeartbeats 400000
namespace Mine
open PySem.W.ZFast
theorem otherER (v : TV) (b1 b2 b3 : Bool) (ts : Nat) (q : List Nat) (hq : q ∈ lensOk) (r : Old) (hr : r.full) (nm vl x : List Nat) (hm : (nm, vl, x) ∈ oks) (a : SV) (d : DV) (ti : Nat) (a' : SV) (es : Array (Int × Value)) (eps : Nat) (st : SetTable) (tx : Nat) (a'' : SV) (y : Nat) (hne : q ≠ x) (z : SV) (n' t' e dd aa : Nat) :
    raised (outX (mkP v.P b1 b2 b3) n' t' dd aa (treeOf (v.r4 (b1, b2, b3) (.bytes (bts q) ts) r (bts x) tx d.tl 282578783371264 5 z (v.t4 (b1, b2, b3) (.bytes (bts q) ts) r nm vl a d ti a' es eps st (bts x) tx a'' y)) (.ok (.ret (.ref e))))) e (n' + 258) dd aa := by
  simp only [oks, List.mem_cons, List.not_mem_nil, or_false, Prod.mk.injEq] at hm
  simp only [lensOk, List.mem_cons, List.not_mem_nil, or_false] at hq
  cases b1 <;> cases b3 <;> cases r <;> first | exact hr.elim | skip
  all_goals (rcases hm with ⟨rfl, rfl, rfl⟩ | ⟨rfl, rfl, rfl⟩ | ⟨rfl, rfl, rfl⟩ | ⟨rfl, rfl, rfl⟩ | ⟨rfl, rfl, rfl⟩ <;> rcases hq with rfl | rfl <;> first | exact absurd rfl hne | (refine ⟨⟨?_, ?_, ?_, ?_⟩, ?_, ?_⟩ <;> (show _ = _; kernel_rfl)))
theorem longR (v : TV) (b1 b2 b3 : Bool) (seen : Value) (r : Old) (hr : r.full) (a : SV) (d : DV) (ti : Nat) (a' : SV) (es : Array (Int × Value)) (eps : Nat) (st : SetTable) (tx : Nat) (a'' : SV) (y : Nat) (z : SV) :
    let o := v.r4 (b1, b2, b3) seen r (bts longLen) tx d.tl 65536 4 z (v.t4 (b1, b2, b3) seen r clName longLen a d ti a' es eps st (bts longLen) tx a'' y)
    made o [v.L] (z.n + 258) true ∧ frm0 o z.sl (v.loc seen (r.len (.ref (v.n + 258 + 2))) d.tl (.bytes (bts longLen) tx)) := by
  cases b1 <;> cases b3 <;> cases r <;> first | exact hr.elim | skip
  all_goals (refine ⟨⟨⟨?_, ?_, ?_, ?_, ?_⟩, ?_⟩, ?_⟩ <;> (show _ = _; kernel_rfl))
theorem longER (v : TV) (b1 b2 b3 : Bool) (seen : Value) (r : Old) (hr : r.full) (a : SV) (d : DV) (ti : Nat) (a' : SV) (es : Array (Int × Value)) (eps : Nat) (st : SetTable) (tx : Nat) (a'' : SV) (y : Nat) (z : SV) (n' t' e dd aa : Nat) :
    raised (outX (mkP v.P b1 b2 b3) n' t' dd aa (treeOf (v.r4 (b1, b2, b3) seen r (bts longLen) tx d.tl 65536 4 z (v.t4 (b1, b2, b3) seen r clName longLen a d ti a' es eps st (bts longLen) tx a'' y)) (.ok (.ret (.ref e))))) e (n' + 258) dd aa := by
  cases b1 <;> cases b3 <;> cases r <;> first | exact hr.elim | skip
  all_goals (refine ⟨⟨?_, ?_, ?_, ?_⟩, ?_, ?_⟩ <;> (show _ = _; kernel_rfl))
theorem xER (v : TV) (b1 b2 b3 : Bool) (seen : Value) (r : Old) (hr : r.full) (a : SV) (d : DV) (ti : Nat) (a' : SV) (es : Array (Int × Value)) (eps : Nat) (st : SetTable) (tx : Nat) (a'' : SV) (n' t' e : Nat) :
    let o := outZE (mkP v.P b1 b2 b3) n' t' (treeOf (v.cb3 (b1, b2, b3) seen r clName [120] a d ti a' es eps st (bts [120]) tx a'') (.error (.ref e)))
    exc3 o [] (n' + 258) ∧ excOf o = .ref e := by
  cases b1 <;> cases b3 <;> cases r <;> first | exact hr.elim | skip
  all_goals (refine ⟨⟨?_, ?_, ?_, ?_⟩, ?_⟩ <;> (show _ = _; kernel_rfl))
end Mine
end
section
open PySem PySem.W PySem.W.X PySem.Calls PyProof.Rows
set_option maxRecDepth 100000
set_option maxHeartbeats 400000
namespace Mine
open PySem.W.ZFast
theorem But.new {ds ds' : List Nat} {h h₁ h₂ : Heap} (x : But ds h h₁) (y : But ds' h₁ h₂) (hf : ∀ a ∈ ds', @LE.le Nat _ h.objs.size a) : But ds h h₂ :=
  ⟨fun b o e n => y.keep b o (x.keep b o e n) (fun m => absurd (Heap.lt_size e) (Nat.not_lt.mpr (hf b m))), Nat.le_trans x.size y.size⟩
theorem wv_one (o : Obj) (w : List Nat) : wv o 0 [w] = [.bytes (bts w) (sqTok o 0)] := rfl
theorem wv_two (o : Obj) (w w' : List Nat) : wv o 0 [w, w'] = [.bytes (bts w) (sqTok o 0), .bytes (bts w') (sqTok o 1)] := rfl
theorem setOf_empty {w : World} {h : Heap} {S : Nat} {t : SetTable} (e : h.get? S = some (setO [] 0 t)) (hf : t.fits 0 = true) : h.SetOf (bk w) S (fun _ => false) 0 :=
  ⟨_, #[], 0, t, e, ⟨rfl, rfl, rfl⟩, rfl, by intro e he; simp at he, by intro k; simp, by decide, hf, rfl⟩
section
variable {w : World} {A : Around} {E : Value → Shared → Prop} {h : Heap} {g : Array GenState} {dr : Drawn} {t : Nat} {o : OsState}
theorem clA (ark : ArK 2 A) (ok : Okay w.params h) {L NH t1 t2 t3 : Nat} {hv seen saw : Value} {pa : Bool} {nm vl : List Nat} {ws : List (List Nat)} (hm : (nm, vl, ws) ∈ lens) {raw : Array UInt8} {r : Old} (hr : r.full) {arr : Array Value} (lL : Low w.params L) (lN : Low w.params NH)
    (hL : LocAt h L (locN hv pa NH seen saw ((r.raw (.bytes raw t3)).out (.bytes (bts nm) t1) (.bytes (bts vl) t2)))) (hN : LstAt h NH arr)
    {ss : List (List Nat)} {m : Nat} (hw : (∃ wd sw, ws = [wd] ∧ (wd, sw) ∈ wordsC ∧ ss = [sw] ∧ m = 1) ∨ (∃ wd sw wd' sw', ws = [wd, wd'] ∧ (wd, sw) ∈ wordsC ∧ (wd', sw') ∈ wordsC ∧ ss = [sw', sw] ∧ m = if setF [sw] (bts sw').toList then 1 else 2))
    {Q : Flow → Shared → Prop}
    (hK : ∀ (v : TV) (b1 b2 b3 : Bool) (tl D : Nat) (w0 : Value) (s' : Shared), w.params = mkP w.params b1 b2 b3 → v.P = w.params → v.L = L → v.NH = NH → v.hv = hv → v.pa = pa → v.saw = saw → v.raw = raw → v.t2 = t2 → v.t3 = t3 → v.arr = arr →
      h.objs.size = v.n + 258 → D = v.n + 258 + 3 → But [L, NH] h s'.heap → OkS w.params g o s' → LocAt s'.heap L (v.loc seen r tl (.bytes (bts vl) t2)) → LstAt s'.heap NH arr → DctAt s'.heap D (dnames (some w0)) →
      s'.heap.SetOf (bk w) (v.n + 258 + 2) (setF ss) m →
      wpAny (model pw w) A (treeOf (v.ca (b1, b2, b3) seen r nm vl) (.ok .next)) (fun fin s' => match fin with | .done f => Q f s' | .again _ => False) E s') :
    wpAny (model pw w) A (execs [bN 4, bN 5] (envN L)) Q E ⟨h, g, dr, t, o⟩ := by
  obtain ⟨hs, tk, ep, sl, hL⟩ := hL
  obtain ⟨ep1, hN⟩ := hN
  obtain ⟨n, hn⟩ := ok.size
  obtain ⟨b1, b2, b3, hP⟩ := params_split w.params
  have ar := ark.weak
  have hne : L ≠ NH := ne_of_obj hL hN (by intro e; have := congrArg Obj.cls e; simp [frm, lstO] at this)
  obtain ⟨F, hc, h0, h1, h2, h3, h4, hf4, h5⟩ := caR w.params b1 b2 b3 n t L NH hs tk ep sl hv pa seen saw r hr nm vl ws hm raw t1 t2 t3 arr ep1
  rw [execs_zf]
  refine wpAny_flowT (run_call ok hn [L, NH] [frm hs tk ep sl (locN hv pa NH seen saw ((r.raw (.bytes raw t3)).out (.bytes (bts nm) t1) (.bytes (bts vl) t2))), lstO arr ep1] 2 500 70 (low2 lL lN) (by simp [hne]) ⟨hL, hN, trivial⟩ ar.deep ar.handled
    (outCA w.params (b1, b2, b3) n t L NH hs tk ep sl _ arr ep1) (by unfold outCA outW; rw [← hP]; rfl) F.1 F.2.1 F.2.2 trivial fun h' dr' af => ?_)
  rw [hc]
  have lo : ∀ j, Low w.params (n + 258 + j) := fun j => Low.high (by omega)
  have l0 : LocAt h' L _ := ⟨_, _, _, _, af.get 0 _ h0⟩
  have l1 : LstAt h' NH arr := ⟨_, af.get 1 _ h1⟩
  have w2 : LstAt h' (n + 258) (wv (objAt (outCA w.params (b1, b2, b3) n t L NH hs tk ep sl _ arr ep1) 2) 0 ws).toArray := ⟨_, af.get 2 _ h2⟩
  have i3 : IterAt h' (n + 258 + 1) (.ref (n + 258)) 0 := af.get 3 _ h3
  have s4 : h'.SetOf (bk w) (n + 258 + 2) (fun _ => false) 0 := setOf_empty (af.get 4 _ h4) hf4
  have d5 : DctAt h' (n + 258 + 3) [] := ⟨_, _, _, af.get 5 _ h5⟩
  have sL : @LT.lt Nat _ L (n + 258) := hn ▸ Heap.lt_size hL
  have sN : @LT.lt Nat _ NH (n + 258) := hn ▸ Heap.lt_size hN
  have fresh : But [L, NH] h h' := af.but
  have fin : ∀ (v0 : Value) (s' : Shared), But [n + 258 + 1, n + 258 + 3, n + 258 + 2] h' s'.heap → OkS w.params g o s' → DctAt s'.heap (n + 258 + 3) (dnames (some v0)) → s'.heap.SetOf (bk w) (n + 258 + 2) (setF ss) m →
      wpAny (model pw w) A (treeOf (outCA w.params (b1, b2, b3) n t L NH hs tk ep sl (locN hv pa NH seen saw ((r.raw (.bytes raw t3)).out (.bytes (bts nm) t1) (.bytes (bts vl) t2))) arr ep1) (.ok .next)) (fun fin s' => match fin with | .done f => Q f s' | .again _ => False) E s' := by
    intro v0 s' b' ok' d' S'
    have nL : L ∉ [n + 258 + 1, n + 258 + 3, n + 258 + 2] := by simp only [List.mem_cons, List.not_mem_nil, or_false]; omega
    have nN : NH ∉ [n + 258 + 1, n + 258 + 3, n + 258 + 2] := by simp only [List.mem_cons, List.not_mem_nil, or_false]; omega
    have bb : But [L, NH] h s'.heap := fresh.new b' (fun a m => by
      rw [hn]
      simp only [List.mem_cons, List.not_mem_nil, or_false] at m
      rcases m with rfl | rfl | rfl <;> exact Nat.le_add_right _ _)
    exact hK ⟨w.params, n, t, L, NH, hs, tk, ep, sl, hv, pa, saw, raw, t1, t2, t3, arr, ep1⟩ b1 b2 b3 _ (n + 258 + 3) v0 s' hP rfl rfl rfl rfl rfl rfl rfl rfl rfl rfl hn rfl bb ok' (l0.keeps b' nL) (l1.keep b' nN) d' S'
  rcases hw with ⟨wd, sw, rfl, hwd, rfl, rfl⟩ | ⟨wd, sw, wd', sw', rfl, hwd, hwd', rfl, rfl⟩
  · exact compC1 (ark.less (by decide)) af.ok hwd (lo 1) (lo 3) (lo 0) (lo 2) i3 d5 w2 s4 fun v0 s' b' ok' d' S' => fin v0 s' b' ok' d' S'
  · exact compC2 (ark.less (by decide)) af.ok hwd hwd' (lo 1) (lo 3) (lo 0) (lo 2) i3 d5 w2 s4 fun v0 s' b' ok' d' S' => fin v0 s' b' ok' d' S'
end
end Mine
end
section
open PySem PySem.W PySem.W.X PySem.Calls PyProof.Rows
set_option maxRecDepth 100000
set_option maxHeartbeats 400000
namespace Mine
open PySem.W.ZFast
section
variable {w : World} {A : Around} {E : Value → Shared → Prop} {Q : Flow → Shared → Prop} {h₀ : Heap}
abbrev Qf (Q : Flow → Shared → Prop) : Fin → Shared → Prop := fun fin s' => match fin with | .done f => Q f s' | .again _ => False
theorem clB (ark : ArK 2 A) (v : TV) {b1 b2 b3 : Bool} (hP : w.params = mkP w.params b1 b2 b3) (hvP : v.P = w.params) {seen : Value} {r : Old} (hr : r.full) {nm vl : List Nat} {ws : List (List Nat)} (hm : (nm, vl, ws) ∈ lens)
    {tl D : Nat} {w0 : Value} {s' : Shared} (hn : h₀.objs.size = v.n + 258) (hD : D = v.n + 258 + 3) (bb : But [v.L, v.NH] h₀ s'.heap) (ok : OkS w.params g o s') (lL : Low w.params v.L) (nLN : v.L ≠ v.NH) (sL : @LT.lt Nat _ v.L (v.n + 258)) (sN : @LT.lt Nat _ v.NH (v.n + 258))
    (hL : LocAt s'.heap v.L (v.loc seen r tl (.bytes (bts vl) v.t2))) (hN : LstAt s'.heap v.NH v.arr) (hDc : DctAt s'.heap D (dnames (some w0))) {f : List UInt8 → Bool} (hS : s'.heap.SetOf (bk w) (v.n + 258 + 2) f 1) {x : List Nat} (hx : ∀ k, f k = true → k = (bts x).toList)
    (hV : ∀ (a : SV) (d : DV) (ti : Nat) (a' : SV) (es : Array (Int × Value)) (eps : Nat) (st : SetTable) (tx : Nat) (a'' : SV) (msg : Str) (tm : Nat) (s'' : Shared), But [v.L, v.NH] h₀ s''.heap → OkS w.params g o s'' →
      LocAt s''.heap v.L (v.loc seen (r.len (.ref (v.n + 258 + 2))) d.tl (.bytes (bts x) tx)) → LstAt s''.heap v.NH v.arr →
      codeAny (model pw w) A (.call (.ref 88) ⟨[.ref 100, .bytes (bts x) tx, .str msg tm], []⟩) (fun z s₃ => wpAny (model pw w) A (treeOf (v.cb3 (b1, b2, b3) seen r nm vl a d ti a' es eps st (bts x) tx a'') z) (Qf Q) E s₃) s'') :
    wpAny (model pw w) A (treeOf (v.ca (b1, b2, b3) seen r nm vl) (.ok .next)) (Qf Q) E s' := by
  subst hD
  obtain ⟨h, g, dr, t, o⟩ := s'
  obtain ⟨ok, rfl, rfl⟩ := ok
  have ar := ark.weak
  obtain ⟨hs, tk, ep, sl, hL⟩ := hL
  obtain ⟨hsD, tkD, epD, hDc⟩ := hDc
  obtain ⟨n, hn'⟩ := ok.size
  have lo : ∀ j, Low w.params (v.n + 258 + j) := fun j => Low.high (by omega)
  have fr : ∀ j, @LE.le Nat _ h₀.objs.size (v.n + 258 + j) := fun j => by rw [hn]; exact Nat.le_add_right _ _
  let a : SV := ⟨n, t, hs, tk, ep, sl⟩
  let d : DV := ⟨hsD, tkD, epD, w0, tl⟩
  have e0 : mkP v.P b1 b2 b3 = w.params := by rw [hvP, ← hP]
  obtain ⟨F, hc, h0⟩ := cb1R v b1 b2 b3 seen r hr nm vl ws hm a tl hsD tkD epD w0 _ rfl
  refine run_call ok hn' [v.L, v.n + 258 + 3] [frm hs tk ep sl (v.loc seen r tl (.bytes (bts vl) v.t2)), dctO hsD tkD epD (dnames (some w0))] 2 500 30 (low2 lL (lo 3)) (by simp; omega) ⟨hL, hDc, trivial⟩ ar.deep ar.handled
    (v.cb1 (b1, b2, b3) seen r nm vl a tl hsD tkD epD w0) (by unfold TV.cb1; simp only [e0]; rfl) F.1 F.2.1 F.2.2 trivial fun h₁ dr₁ af => ?_
  rw [hc]
  have l1 : LocAt h₁ v.L _ := ⟨_, _, _, _, af.get 0 _ h0⟩
  have B1 : But [v.L, v.n + 258 + 3] h h₁ := af.but
  have bb1 : But [v.L, v.NH] h₀ h₁ := by
    have y : But [v.L, v.n + 258 + 3] h h₁ := B1
    refine ⟨fun b o e nb => y.keep b o (bb.keep b o e nb) ?_, Nat.le_trans bb.size y.size⟩
    have hlt : @LT.lt Nat _ b (v.n + 258) := hn ▸ Heap.lt_size e
    simp only [List.mem_cons, List.not_mem_nil, or_false] at nb ⊢
    intro q
    rcases q with q | q
    · exact nb (.inl q)
    · rw [q] at hlt; omega
  have S1 : h₁.SetOf (bk w) (v.n + 258 + 2) f 1 := SetOf.keepB hS B1 (by simp; omega)
  have N1 : LstAt h₁ v.NH v.arr := hN.keep B1 (by simp; omega)
  refine codeAny_setLen (n := 1) af.ok S1 (by decide) fun ti s₂ hs₂ q₂ => ?_
  obtain ⟨h₂, g₂, dr₂, t₂, o₂⟩ := s₂
  subst hs₂
  obtain ⟨rfl, rfl⟩ := q₂
  obtain ⟨hs1, tk1, ep1', sl1, hL1⟩ := l1
  obtain ⟨n₂, hn₂⟩ := af.ok.size
  let a' : SV := ⟨n₂, t₂, hs1, tk1, ep1', sl1⟩
  obtain ⟨oS, es, eps, st, hoS, ⟨x1, x2, x3⟩, hdS, hrest⟩ := id S1
  have hoS' : h₂.get? (v.n + 258 + 2) = some ⟨.type "set", none, .set es eps st, #[]⟩ := by
    obtain ⟨c, dd, dt, sl⟩ := oS
    simp only at x1 x2 x3 hdS
    subst x1 x2 x3 hdS
    exact hoS
  obtain ⟨F, hc, h0, hs1'⟩ := cb2R v b1 b2 b3 seen r hr nm vl ws hm a d ti a' es eps st
  refine run_call af.ok hn₂ [v.L, v.n + 258 + 2] [frm hs1 tk1 ep1' sl1 (v.loc seen (r.len (.ref (v.n + 258 + 2))) tl (.bytes (bts vl) v.t2)), ⟨.type "set", none, .set es eps st, #[]⟩] 1 500 30 (low2 lL (lo 2)) (by simp; omega) ⟨hL1, hoS', trivial⟩ ar.deep ar.handled
    (v.cb2 (b1, b2, b3) seen r nm vl a d ti a' es eps st) (by unfold TV.cb2; simp only [e0]; rfl) F.1 F.2.1 F.2.2 ⟨hs1', trivial⟩ fun h₃ dr₃ af₃ => ?_
  rw [hc]
  have l3 : LocAt h₃ v.L _ := ⟨_, _, _, _, af₃.get 0 _ h0⟩
  have B3 : But [v.L] h₂ h₃ := af₃.but
  have S3 : h₃.SetOf (bk w) (v.n + 258 + 2) f 1 := SetOf.keepB S1 B3 (by simp; omega)
  refine codeAny_setPop af₃.ok (lo 2) S3 hx fun tx s₄ b₄ ok₄ => ?_
  obtain ⟨h₄, g₄, dr₄, t₄, o₄⟩ := s₄
  obtain ⟨ok₄, rfl, rfl⟩ := ok₄
  have l4 : LocAt h₄ v.L _ := l3.keeps b₄ (by simp; omega)
  obtain ⟨hs4, tk4, ep4, sl4, hL4⟩ := l4
  obtain ⟨n₄, hn₄⟩ := ok₄.size
  let a'' : SV := ⟨n₄, t₄, hs4, tk4, ep4, sl4⟩
  have ex : (bts x).toList.toArray = bts x := by simp
  rw [ex]
  obtain ⟨F, hc, h0⟩ := cb3R v b1 b2 b3 seen r hr nm vl ws hm a d ti a' es eps st (bts x) tx a''
  refine run_call ok₄ hn₄ [v.L] [frm hs4 tk4 ep4 sl4 (v.loc seen (r.len (.ref (v.n + 258 + 2))) tl (.bytes (bts vl) v.t2))] 1 500 30 (low1 lL) (by simp) ⟨hL4, trivial⟩ ar.deep ar.handled
    (v.cb3 (b1, b2, b3) seen r nm vl a d ti a' es eps st (bts x) tx a'') (by unfold TV.cb3; simp only [e0]; rfl) F.1 F.2.1 F.2.2 trivial fun h₅ dr₅ af₅ => ?_
  rw [hc]
  have l5 : LocAt h₅ v.L _ := ⟨_, _, _, _, af₅.get 0 _ h0⟩
  have B5 : But [v.L] h₄ h₅ := af₅.but
  have bb3 : But [v.L, v.NH] h₀ h₃ := bb1.trans (B3.mono (fun a m => by rw [List.mem_singleton.mp m]; simp))
  have bb4 : But [v.L, v.NH] h₀ h₄ := bb3.new b₄ (fun a m => by rw [List.mem_singleton.mp m]; exact fr 2)
  have bb5 : But [v.L, v.NH] h₀ h₅ := bb4.trans (B5.mono (fun a m => by rw [List.mem_singleton.mp m]; simp))
  exact hV a d ti a' es eps st tx a'' _ _ ⟨h₅, g, dr₅, _, o⟩ bb5 af₅.ok l5 (((N1.keep B3 (by simpa using nLN.symm)).keep b₄ (by simp; omega)).keep B5 (by simpa using nLN.symm))
end
end Mine
end
section
open PySem PySem.W PySem.W.X PySem.Calls PyProof.Rows
set_option maxRecDepth 100000
set_option maxHeartbeats 400000
namespace Mine
open PySem.W.ZFast
theorem oks_goods {nm vl x : List Nat} (hm : (nm, vl, x) ∈ oks) : (100, x) ∈ goods := by
  simp only [oks, List.mem_cons, List.not_mem_nil, or_false, Prod.mk.injEq] at hm
  rcases hm with ⟨rfl, rfl, rfl⟩ | ⟨rfl, rfl, rfl⟩ | ⟨rfl, rfl, rfl⟩ | ⟨rfl, rfl, rfl⟩ | ⟨rfl, rfl, rfl⟩ <;> decide
theorem oks_lens {nm vl x : List Nat} (hm : (nm, vl, x) ∈ oks) : ∃ ws ss, (nm, vl, ws) ∈ lens ∧ ((∃ wd sw, ws = [wd] ∧ (wd, sw) ∈ wordsC ∧ ss = [sw] ∧ 1 = 1) ∨ (∃ wd sw wd' sw', ws = [wd, wd'] ∧ (wd, sw) ∈ wordsC ∧ (wd', sw') ∈ wordsC ∧ ss = [sw', sw] ∧ 1 = if setF [sw] (bts sw').toList then 1 else 2))
    ∧ ∀ k, setF ss k = true → k = (bts x).toList := by
  have one : ∀ k, setF [x] k = true → k = (bts x).toList := fun k h => by simpa [setF] using h
  simp only [oks, List.mem_cons, List.not_mem_nil, or_false, Prod.mk.injEq] at hm
  rcases hm with ⟨rfl, rfl, rfl⟩ | ⟨rfl, rfl, rfl⟩ | ⟨rfl, rfl, rfl⟩ | ⟨rfl, rfl, rfl⟩ | ⟨rfl, rfl, rfl⟩
  · exact ⟨[[51]], [[51]], by decide, .inl ⟨_, _, rfl, by decide, rfl, rfl⟩, one⟩
  · exact ⟨[[51], [32, 51]], [[51], [51]], by decide, .inr ⟨_, _, _, _, rfl, by decide, by decide, rfl, by decide⟩, fun k h => by simpa [setF] using h⟩
  · exact ⟨[[48, 51]], [[48, 51]], by decide, .inl ⟨_, _, rfl, by decide, rfl, rfl⟩, one⟩
  · exact ⟨[[51]], [[51]], by decide, .inl ⟨_, _, rfl, by decide, rfl, rfl⟩, one⟩
  · exact ⟨[[48, 51]], [[48, 51]], by decide, .inl ⟨_, _, rfl, by decide, rfl, rfl⟩, one⟩
section
variable {w : World} {A : Around} {E : Value → Shared → Prop} {h : Heap} {g : Array GenState} {dr : Drawn} {t : Nat} {o : OsState}
theorem clFirst (ark : ArK 2 A) (ok : Okay w.params h) {L NH t1 t2 t3 : Nat} {hv saw : Value} {pa : Bool} {nm vl x : List Nat} (hm : (nm, vl, x) ∈ oks) {raw : Array UInt8} {r : Old} (hr : r.full) {arr : Array Value} (hsz : arr.size ≤ 1000) (lL : Low w.params L) (lN : Low w.params NH)
    (hL : LocAt h L (locN hv pa NH .none saw ((r.raw (.bytes raw t3)).out (.bytes (bts nm) t1) (.bytes (bts vl) t2)))) (hN : LstAt h NH arr)
    {Q : Flow → Shared → Prop} (hQ : ∀ a c u v' tx s', But [L, NH] h s'.heap → OkS w.params g o s' → LocAt s'.heap L (locN hv pa NH (.bytes (bts x) tx) saw ((Old.two (.bytes raw t3) c).out u v')) → LstAt s'.heap NH (arr.push (.ref a)) → @LE.le Nat _ h.objs.size a → RowAt s'.heap a raw (bts clLow) (bts x) → Q .next s') :
    wpAny (model pw w) A (execs [bN 4, bN 5] (envN L)) Q E ⟨h, g, dr, t, o⟩ := by
  have nLN : L ≠ NH := let ⟨_, _, _, _, e⟩ := hL; let ⟨_, e'⟩ := hN; ne_of_obj e e' (by intro e; have := congrArg Obj.cls e; simp [frm, lstO] at this)
  have lh : @LT.lt Nat _ L h.objs.size := let ⟨_, _, _, _, e⟩ := hL; Heap.lt_size e
  have nh : @LT.lt Nat _ NH h.objs.size := let ⟨_, e⟩ := hN; Heap.lt_size e
  have ar := ark.weak
  obtain ⟨ws, ss, hl, hw, hx⟩ := oks_lens hm
  refine clA ark ok hl hr lL lN hL hN hw fun v b1 b2 b3 tl D w0 s₁ hP e1 e2 e3 e4 e5 e6 e7 e8 e9 e10 hn hD bb ok₁ L₁ N₁ D₁ S₁ => ?_
  subst e2 e3 e4 e5 e6 e7 e8 e9 e10
  have e0 : mkP v.P b1 b2 b3 = w.params := by rw [e1, ← hP]
  rw [hn] at lh nh
  refine clB (h₀ := h) ark v hP e1 hr hl hn hD bb ok₁ lL nLN lh nh L₁ N₁ D₁ S₁ hx fun a d ti a' es eps st tx a'' msg tm s₂ bb₂ ok₂ L₂ N₂ => ?_
  obtain ⟨h₂, g₂, dr₂, t₂, o₂⟩ := s₂
  obtain ⟨ok₂, rfl, rfl⟩ := ok₂
  refine passes (oks_goods hm) false msg tm tx ark ok₂ fun y s₃ b₃ ok₃ => ?_
  obtain ⟨hs₃, tk₃, ep₃, sl₃, L₃⟩ := L₂.keep b₃
  obtain ⟨ep1₃, N₃⟩ := N₂.keep b₃ (fun m => nomatch m)
  obtain ⟨h₃, g₃, dr₃, t₃, o₃⟩ := s₃
  obtain ⟨ok₃, rfl, rfl⟩ := ok₃
  obtain ⟨n₃, hn₃⟩ := ok₃.size
  let z : SV := ⟨n₃, t₃, hs₃, tk₃, ep₃, sl₃⟩
  obtain ⟨F, hc, h0, h1, h2⟩ := firstR v b1 b2 b3 r hr nm vl x hm a d ti a' es eps st tx a'' y z ep1₃
  refine run_call ok₃ hn₃ [v.L, v.NH] [frm hs₃ tk₃ ep₃ sl₃ (v.loc .none (r.len (.ref (v.n + 258 + 2))) d.tl (.bytes (bts x) tx)), lstO v.arr ep1₃] 2 500 80 (low2 lL lN) (by simp [nLN]) ⟨L₃, N₃, trivial⟩ ar.deep ar.handled
    (v.r5 (b1, b2, b3) .none r (bts x) tx d.tl _ 4 z ep1₃ (v.t4 (b1, b2, b3) .none r nm vl a d ti a' es eps st (bts x) tx a'' y)) (by unfold TV.r5; simp only [e0]; rfl) F.1 F.2.1 F.2.2 trivial fun h₄ dr₄ af => ?_
  rw [hc]
  have l4 : LocAt h₄ v.L _ := ⟨_, _, _, _, af.get 0 _ h0⟩
  have n4 : LstAt h₄ v.NH v.arr := ⟨_, af.get 1 _ h1⟩
  have r4 : RowAt h₄ (n₃ + 258) v.raw (bts clLow) (bts x) := ⟨_, _, _, _, af.get 2 _ h2⟩
  have B4 : But [v.L, v.NH] h₃ h₄ := af.but
  refine codeAny_append ar af.ok lN n4 hsz fun s₅ b₅ ok₅ N₅ => ?_
  obtain ⟨h₅, g₅, dr₅, t₅, o₅⟩ := s₅
  obtain ⟨ok₅, rfl, rfl⟩ := ok₅
  obtain ⟨n₅, hn₅⟩ := ok₅.size
  obtain ⟨F₅, hf₅⟩ := firstR2 v b1 b2 b3 r hr nm vl x hm a d ti a' es eps st tx a'' y z ep1₃ n₅ t₅
  rw [e0] at F₅ hf₅
  refine run_fin ok₅ hn₅ [] [] 0 500 10 low0 (by simp) trivial ar.deep ar.handled (outZ w.params n₅ t₅ 10 1000 _) rfl F₅.1 F₅.2 trivial fun h₆ dr₆ af₆ => ?_
  rw [hf₅]
  have nlt : @LT.lt Nat _ v.NH (n₃ + 258) := by rw [← hn₃]; exact Heap.lt_size N₃
  have bb₃ : But [v.L, v.NH] h h₃ := bb₂.trans b₃.nil
  have hle : @LE.le Nat _ h.objs.size (n₃ + 258) := by rw [← hn₃]; exact bb₃.size
  have B6 : But [] h₅ h₆ := af₆.but
  have l5 := (l4.keeps b₅ (by simpa using nLN)).keep B6
  have r5 := (r4.keep b₅ (by simp only [List.mem_singleton]; omega)).keep B6 (fun m => nomatch m)
  have bfin : But [v.L, v.NH] h h₆ := (bb₃.trans (B4.trans (b₅.mono (fun a m => by rw [List.mem_singleton.mp m]; simp)))).trans B6.nil
  cases r with
  | zero => exact hr.elim
  | one c => exact hQ (n₃ + 258) _ _ _ tx _ bfin af₆.ok l5 (N₅.keep B6 (fun m => nomatch m)) hle r5
  | two c dd => exact hQ (n₃ + 258) _ _ _ tx _ bfin af₆.ok l5 (N₅.keep B6 (fun m => nomatch m)) hle r5
end
end Mine
end
section
open PySem PySem.W PySem.W.X PySem.Calls PyProof.Rows
set_option maxRecDepth 100000
set_option maxHeartbeats 400000
namespace Mine
open PySem.W.ZFast
section
variable {w : World} {A : Around} {E : Value → Shared → Prop} {h : Heap} {g : Array GenState} {dr : Drawn} {t : Nat} {o : OsState}
theorem clC (ark : ArK 2 A) (ok : Okay w.params h) {L NH t1 t2 t3 : Nat} {hv seen saw : Value} {pa : Bool} {nm vl x : List Nat} {ws ss : List (List Nat)} (hl : (nm, vl, ws) ∈ lens)
    (hw : (∃ wd sw, ws = [wd] ∧ (wd, sw) ∈ wordsC ∧ ss = [sw] ∧ 1 = 1) ∨ (∃ wd sw wd' sw', ws = [wd, wd'] ∧ (wd, sw) ∈ wordsC ∧ (wd', sw') ∈ wordsC ∧ ss = [sw', sw] ∧ 1 = if setF [sw] (bts sw').toList then 1 else 2))
    (hx : ∀ k, setF ss k = true → k = (bts x).toList) (hg : (100, x) ∈ goods) {raw : Array UInt8} {r : Old} (hr : r.full) {arr : Array Value} (lL : Low w.params L) (lN : Low w.params NH)
    (hL : LocAt h L (locN hv pa NH seen saw ((r.raw (.bytes raw t3)).out (.bytes (bts nm) t1) (.bytes (bts vl) t2)))) (hN : LstAt h NH arr)
    {Q : Flow → Shared → Prop} (hT : ∀ (v : TV) (b1 b2 b3 : Bool) (a : SV) (d : DV) (ti : Nat) (a' : SV) (es : Array (Int × Value)) (eps : Nat) (st : SetTable) (tx : Nat) (a'' : SV) (y : Nat) (s₃ : Shared), mkP v.P b1 b2 b3 = w.params → v.L = L → v.NH = NH → v.hv = hv → v.pa = pa → v.saw = saw → v.raw = raw → v.t3 = t3 → v.arr = arr →
      But [L, NH] h s₃.heap → OkS w.params g o s₃ → LocAt s₃.heap L (v.loc seen (r.len (.ref (v.n + 258 + 2))) d.tl (.bytes (bts x) tx)) → LstAt s₃.heap NH arr →
      wpAny (model pw w) A (v.t4 (b1, b2, b3) seen r nm vl a d ti a' es eps st (bts x) tx a'' y) (Qf Q) E s₃) :
    wpAny (model pw w) A (execs [bN 4, bN 5] (envN L)) Q E ⟨h, g, dr, t, o⟩ := by
  have nLN : L ≠ NH := let ⟨_, _, _, _, e⟩ := hL; let ⟨_, e'⟩ := hN; ne_of_obj e e' (by intro e; have := congrArg Obj.cls e; simp [frm, lstO] at this)
  have lh : @LT.lt Nat _ L h.objs.size := let ⟨_, _, _, _, e⟩ := hL; Heap.lt_size e
  have nh : @LT.lt Nat _ NH h.objs.size := let ⟨_, e⟩ := hN; Heap.lt_size e
  refine clA ark ok hl hr lL lN hL hN hw fun v b1 b2 b3 tl D w0 s₁ hP e1 e2 e3 e4 e5 e6 e7 e8 e9 e10 hn hD bb ok₁ L₁ N₁ D₁ S₁ => ?_
  subst e2 e3 e4 e5 e6 e7 e8 e9 e10
  have e0 : mkP v.P b1 b2 b3 = w.params := by rw [e1, ← hP]
  rw [hn] at lh nh
  refine clB (h₀ := h) ark v hP e1 hr hl hn hD bb ok₁ lL nLN lh nh L₁ N₁ D₁ S₁ hx fun a d ti a' es eps st tx a'' msg tm s₂ bb₂ ok₂ L₂ N₂ => ?_
  obtain ⟨h₂, g₂, dr₂, t₂, o₂⟩ := s₂
  obtain ⟨ok₂, rfl, rfl⟩ := ok₂
  refine passes hg false msg tm tx ark ok₂ fun y s₃ b₃ ok₃ => ?_
  exact hT v b1 b2 b3 a d ti a' es eps st tx a'' y s₃ e0 rfl rfl rfl rfl rfl rfl rfl rfl (bb₂.trans b₃.nil) ok₃ (L₂.keep b₃) (N₂.keep b₃ (fun m => nomatch m))
theorem clSame (ark : ArK 2 A) (ok : Okay w.params h) {L NH t1 t2 t3 ts : Nat} {hv saw : Value} {pa : Bool} {nm vl x : List Nat} (hm : (nm, vl, x) ∈ oks) {raw : Array UInt8} {r : Old} (hr : r.full) {arr : Array Value} (lL : Low w.params L) (lN : Low w.params NH)
    (hL : LocAt h L (locN hv pa NH (.bytes (bts x) ts) saw ((r.raw (.bytes raw t3)).out (.bytes (bts nm) t1) (.bytes (bts vl) t2)))) (hN : LstAt h NH arr)
    {Q : Flow → Shared → Prop} (hQ : ∀ c u v' s', But [L, NH] h s'.heap → OkS w.params g o s' → LocAt s'.heap L (locN hv pa NH (.bytes (bts x) ts) saw ((Old.two (.bytes raw t3) c).out u v')) → LstAt s'.heap NH arr → Q .next s') :
    wpAny (model pw w) A (execs [bN 4, bN 5] (envN L)) Q E ⟨h, g, dr, t, o⟩ := by
  have nLN : L ≠ NH := let ⟨_, _, _, _, e⟩ := hL; let ⟨_, e'⟩ := hN; ne_of_obj e e' (by intro e; have := congrArg Obj.cls e; simp [frm, lstO] at this)
  have ar := ark.weak
  obtain ⟨ws, ss, hl, hw, hx⟩ := oks_lens hm
  refine clC ark ok hl hw hx (oks_goods hm) hr lL lN hL hN fun v b1 b2 b3 a d ti a' es eps st tx a'' y s₃ e0 e2 e3 e4 e5 e6 e7 e8 e9 bb₃ ok₃ L₃ N₃ => ?_
  subst e2 e3 e4 e5 e6 e7 e8 e9
  obtain ⟨hs₃, tk₃, ep₃, sl₃, L₃⟩ := L₃
  obtain ⟨h₃, g₃, dr₃, t₃, o₃⟩ := s₃
  obtain ⟨ok₃, rfl, rfl⟩ := ok₃
  obtain ⟨n₃, hn₃⟩ := ok₃.size
  let z : SV := ⟨n₃, t₃, hs₃, tk₃, ep₃, sl₃⟩
  obtain ⟨F, hf, h0⟩ := sameR v b1 b2 b3 ts r hr nm vl x hm a d ti a' es eps st tx a'' y z
  refine run_fin ok₃ hn₃ [v.L] [frm hs₃ tk₃ ep₃ sl₃ (v.loc (.bytes (bts x) ts) (r.len (.ref (v.n + 258 + 2))) d.tl (.bytes (bts x) tx))] 1 500 60 (low1 lL) (by simp) ⟨L₃, trivial⟩ ar.deep ar.handled
    (v.r4 (b1, b2, b3) (.bytes (bts x) ts) r (bts x) tx d.tl _ 1000 z (v.t4 (b1, b2, b3) (.bytes (bts x) ts) r nm vl a d ti a' es eps st (bts x) tx a'' y)) (by unfold TV.r4; simp only [e0]; rfl) F.1 F.2 trivial fun h₄ dr₄ af => ?_
  rw [hf]
  have l4 : LocAt h₄ v.L _ := ⟨_, _, _, _, af.get 0 _ h0⟩
  have B4 : But [v.L] h₃ h₄ := af.but
  have bfin : But [v.L, v.NH] h h₄ := bb₃.trans (B4.mono (fun a m => by rw [List.mem_singleton.mp m]; simp))
  cases r with
  | zero => exact hr.elim
  | one c => exact hQ _ _ _ _ bfin af.ok l4 (N₃.keep B4 (by simpa using nLN.symm))
  | two c dd => exact hQ _ _ _ _ bfin af.ok l4 (N₃.keep B4 (by simpa using nLN.symm))
end
end Mine
end
section
open PySem PySem.W PySem.W.X PySem.Calls PyProof.Rows
set_option maxRecDepth 100000
set_option maxHeartbeats 400000
namespace Mine
open PySem.W.ZFast
theorem Tc.from {A : Around} {B h h' : Heap} {l : List Env} {L NH : Nat} (x : Tc A B l h) (n : B.get? L = none) (n' : B.get? NH = none) (b : But [L, NH] h h') (hL : ∃ o, h'.get? L = some o ∧ ∀ vs, o.data ≠ .fields vs) (hN : ∃ o, h'.get? NH = some o ∧ ∀ vs, o.data ≠ .fields vs) : Tc A B l h' := x.two n n' b hL hN
theorem LstAt.frame {h : Heap} {a : Nat} {arr : Array Value} (x : LstAt h a arr) : ∃ o, h.get? a = some o ∧ ∀ vs, o.data ≠ .fields vs := let ⟨_, e⟩ := x; ⟨_, e, fun _ q => by cases q⟩
section
variable {w : World} {A : Around} {E : Value → Shared → Prop} {h : Heap} {g : Array GenState} {dr : Drawn} {t : Nat} {o : OsState}
theorem clOther (ark : ArK 2 A) (ok : Okay w.params h) {B : Heap} {l : List Env} {L NH t1 t2 t3 ts : Nat} {hv saw : Value} {pa : Bool} {nm vl x q : List Nat} (hm : (nm, vl, x) ∈ oks) (hq : q ∈ lensOk) (hne : q ≠ x) {raw : Array UInt8} {r : Old} (hr : r.full) {arr : Array Value} (lL : Low w.params L) (lN : Low w.params NH)
    (nL : B.get? L = none) (nN : B.get? NH = none) (tc : Tc A B l h)
    (hL : LocAt h L (locN hv pa NH (.bytes (bts q) ts) saw ((r.raw (.bytes raw t3)).out (.bytes (bts nm) t1) (.bytes (bts vl) t2)))) (hN : LstAt h NH arr)
    {Q : Flow → Shared → Prop} (hE : ∀ e s', TcS A B l g o s' → Exc B s'.heap e 400 none → E (.ref e) s') :
    wpAny (model pw w) A (execs [bN 4, bN 5] (envN L)) Q E ⟨h, g, dr, t, o⟩ := by
  have ar := ark.weak
  obtain ⟨ws, ss, hl, hw, hx⟩ := oks_lens hm
  refine clC ark ok hl hw hx (oks_goods hm) hr lL lN hL hN fun v b1 b2 b3 a d ti a' es eps st tx a'' y s₃ e0 e2 e3 e4 e5 e6 e7 e8 e9 bb₃ ok₃ L₃ N₃ => ?_
  subst e2 e3 e4 e5 e6 e7 e8 e9
  have tc₃ := tc.two nL nN bb₃ L₃.frame N₃.frame
  obtain ⟨hs₃, tk₃, ep₃, sl₃, L₃⟩ := L₃
  obtain ⟨h₃, g₃, dr₃, t₃, o₃⟩ := s₃
  obtain ⟨ok₃, rfl, rfl⟩ := ok₃
  obtain ⟨n₃, hn₃⟩ := ok₃.size
  let z : SV := ⟨n₃, t₃, hs₃, tk₃, ep₃, sl₃⟩
  obtain ⟨⟨F, hc⟩, h0⟩ := otherR v b1 b2 b3 ts q hq r hr nm vl x hm a d ti a' es eps st tx a'' y hne z
  refine run_call ok₃ hn₃ [v.L] [frm hs₃ tk₃ ep₃ sl₃ (v.loc (.bytes (bts q) ts) (r.len (.ref (v.n + 258 + 2))) d.tl (.bytes (bts x) tx))] 1 500 60 (low1 lL) (by simp) ⟨L₃, trivial⟩ ar.deep ar.handled
    (v.r4 (b1, b2, b3) (.bytes (bts q) ts) r (bts x) tx d.tl _ 5 z (v.t4 (b1, b2, b3) (.bytes (bts q) ts) r nm vl a d ti a' es eps st (bts x) tx a'' y)) (by unfold TV.r4; simp only [e0]; rfl) F.1 F.2.1 F.2.2 trivial fun h₄ dr₄ af => ?_
  have l4 : LocAt h₄ v.L _ := ⟨_, _, _, _, af.get 0 _ h0⟩
  exact riseN (hint := 400) rfl ark af.ok (tc₃.one nL af.but l4.frame) hc (fun n' t' e dd aa => by have z' := otherER v b1 b2 b3 ts q hq r hr nm vl x hm a d ti a' es eps st tx a'' y hne z n' t' e dd aa; rw [e0] at z'; exact z') hE
theorem clLong (ark : ArK 2 A) (ok : Okay w.params h) {B : Heap} {l : List Env} {L NH t1 t2 t3 : Nat} {hv seen saw : Value} {pa : Bool} {raw : Array UInt8} {r : Old} (hr : r.full) {arr : Array Value} (lL : Low w.params L) (lN : Low w.params NH)
    (nL : B.get? L = none) (nN : B.get? NH = none) (tc : Tc A B l h)
    (hL : LocAt h L (locN hv pa NH seen saw ((r.raw (.bytes raw t3)).out (.bytes (bts clName) t1) (.bytes (bts longLen) t2)))) (hN : LstAt h NH arr)
    {Q : Flow → Shared → Prop} (hE : ∀ e s', TcS A B l g o s' → Exc B s'.heap e 400 none → E (.ref e) s') :
    wpAny (model pw w) A (execs [bN 4, bN 5] (envN L)) Q E ⟨h, g, dr, t, o⟩ := by
  have ar := ark.weak
  refine clC ark ok (x := longLen) (ws := [longLen]) (ss := [longLen]) (by decide) (.inl ⟨_, _, rfl, by decide, rfl, rfl⟩) (fun k h => by simpa [setF] using h) (by decide) hr lL lN hL hN fun v b1 b2 b3 a d ti a' es eps st tx a'' y s₃ e0 e2 e3 e4 e5 e6 e7 e8 e9 bb₃ ok₃ L₃ N₃ => ?_
  subst e2 e3 e4 e5 e6 e7 e8 e9
  have tc₃ := tc.two nL nN bb₃ L₃.frame N₃.frame
  obtain ⟨hs₃, tk₃, ep₃, sl₃, L₃⟩ := L₃
  obtain ⟨h₃, g₃, dr₃, t₃, o₃⟩ := s₃
  obtain ⟨ok₃, rfl, rfl⟩ := ok₃
  obtain ⟨n₃, hn₃⟩ := ok₃.size
  let z : SV := ⟨n₃, t₃, hs₃, tk₃, ep₃, sl₃⟩
  obtain ⟨⟨F, hc⟩, h0⟩ := longR v b1 b2 b3 seen r hr a d ti a' es eps st tx a'' y z
  refine run_call ok₃ hn₃ [v.L] [frm hs₃ tk₃ ep₃ sl₃ (v.loc seen (r.len (.ref (v.n + 258 + 2))) d.tl (.bytes (bts longLen) tx))] 1 500 60 (low1 lL) (by simp) ⟨L₃, trivial⟩ ar.deep ar.handled
    (v.r4 (b1, b2, b3) seen r (bts longLen) tx d.tl _ 4 z (v.t4 (b1, b2, b3) seen r clName longLen a d ti a' es eps st (bts longLen) tx a'' y)) (by unfold TV.r4; simp only [e0]; rfl) F.1 F.2.1 F.2.2 trivial fun h₄ dr₄ af => ?_
  have l4 : LocAt h₄ v.L _ := ⟨_, _, _, _, af.get 0 _ h0⟩
  exact riseN (hint := 400) rfl ark af.ok (tc₃.one nL af.but l4.frame) hc (fun n' t' e dd aa => by have z' := longER v b1 b2 b3 seen r hr a d ti a' es eps st tx a'' y z n' t' e dd aa; rw [e0] at z'; exact z') hE
end
end Mine
end
section
open PySem PySem.W PySem.W.X PySem.Calls PyProof.Rows
set_option maxRecDepth 100000
set_option maxHeartbeats 400000
namespace Mine
open PySem.W.ZFast
theorem frGen {h h' : Heap} {l : List Env} {ds : List Nat} (x : h.FunFrames heap0 l) (b : But ds h h') (hd : ∀ a ∈ frames l, a ∈ ds → ∃ o, h'.get? a = some o ∧ ∀ vs, o.data ≠ .fields vs) : h'.FunFrames heap0 l := by
  induction l with
  | nil => trivial
  | cons env l ih =>
    obtain ⟨hk, ⟨L, o, hf, hn, ho, hnf⟩, hr⟩ := x
    have hL : L ∈ frames (env :: l) := by unfold frames; simp [hf]
    refine ⟨hk, ?_, ih hr fun a m => hd a ?_⟩
    · by_cases q : L ∈ ds
      · obtain ⟨o', ho', hd'⟩ := hd L hL q
        exact ⟨L, o', hf, hn, ho', hd'⟩
      · exact ⟨L, o, hf, hn, b.keep _ _ ho q, hnf⟩
    · unfold frames at m ⊢
      simp only [List.filterMap_cons, hf]
      exact List.mem_cons_of_mem _ m
section
variable {w : World} {A : Around} {E : Value → Shared → Prop} {h : Heap} {g : Array GenState} {dr : Drawn} {t : Nat} {o : OsState}
theorem clX (ark : ArK 4 A) (ok : Okay w.params h) {B : Heap} {l : List Env} {L NH t1 t2 t3 : Nat} {hv seen saw : Value} {pa : Bool} {raw : Array UInt8} {r : Old} (hr : r.full) {arr : Array Value} (lL : Low w.params L) (lN : Low w.params NH)
    (okB : Okay w.params B) (lF : ∀ a ∈ frames l, Low w.params a) (nL : B.get? L = none) (nN : B.get? NH = none) (tc : Tc A B l h)
    (hL : LocAt h L (locN hv pa NH seen saw ((r.raw (.bytes raw t3)).out (.bytes (bts clName) t1) (.bytes (bts [120]) t2)))) (hN : LstAt h NH arr)
    {Q : Flow → Shared → Prop} (hE : ∀ e s', TcS A B l g o s' → Exc B s'.heap e 400 (some .none) → E (.ref e) s') :
    wpAny (model pw w) A (execs [bN 4, bN 5] (envN L)) Q E ⟨h, g, dr, t, o⟩ := by
  have nLN : L ≠ NH := let ⟨_, _, _, _, e⟩ := hL; let ⟨_, e'⟩ := hN; ne_of_obj e e' (by intro e; have := congrArg Obj.cls e; simp [frm, lstO] at this)
  have lh : @LT.lt Nat _ L h.objs.size := let ⟨_, _, _, _, e⟩ := hL; Heap.lt_size e
  have nh : @LT.lt Nat _ NH h.objs.size := let ⟨_, e⟩ := hN; Heap.lt_size e
  have ar := ark.weak
  have ark2 : ArK 2 A := ark.less (by decide)
  have hl : (clName, [120], [[120]]) ∈ lens := by decide
  refine clA (ss := [[120]]) (m := 1) ark2 ok hl hr lL lN hL hN (.inl ⟨_, _, rfl, by decide, rfl, rfl⟩) fun v b1 b2 b3 tl D w0 s₁ hP e1 e2 e3 e4 e5 e6 e7 e8 e9 e10 hn hD bb ok₁ L₁ N₁ D₁ S₁ => ?_
  subst e2 e3 e4 e5 e6 e7 e8 e9 e10
  have e0 : mkP v.P b1 b2 b3 = w.params := by rw [e1, ← hP]
  rw [hn] at lh nh
  refine clB (h₀ := h) (x := [120]) ark2 v hP e1 hr hl hn hD bb ok₁ lL nLN lh nh L₁ N₁ D₁ S₁ (fun k h => by simpa [setF] using h) fun a d ti a' es eps st tx a'' msg tm s₂ bb₂ ok₂ L₂ N₂ => ?_
  obtain ⟨h₂, g₂, dr₂, t₂, o₂⟩ := s₂
  obtain ⟨ok₂, rfl, rfl⟩ := ok₂
  have tc₂ := tc.two nL nN bb₂ L₂.frame N₂.frame
  refine fails (B := B) (outer := l) (re := 100) (b := [120]) (by decide) false msg tm tx ark ok₂ tc₂.fr tc₂.live tc₂.keep fun e s₃ q₃ k₃ f₃ x₃ => ?_
  obtain ⟨h₃, g₃, dr₃, t₃, o₃⟩ := s₃
  obtain ⟨rfl, rfl⟩ := q₃
  have ok₃ : Okay w.params h₃ := k₃.okay okB lF
  obtain ⟨n₃, hn₃⟩ := ok₃.size
  obtain ⟨F₃, hx₃⟩ := xER v b1 b2 b3 seen r hr a d ti a' es eps st tx a'' n₃ t₃ e
  rw [e0] at F₃ hx₃
  refine run_exc ok₃ hn₃ [] [] 0 500 10 low0 (by simp) trivial ar.deep ar.handled (outZE w.params n₃ t₃ _) rfl F₃.1 F₃.2 trivial fun h₄ dr₄ af₃ => ?_
  rw [hx₃]
  exact hE e _ ((Tc.mk tc.fr f₃ k₃).nil af₃.but) (x₃.nil af₃.but)
theorem clTwo (ark : ArK 2 A) (ok : Okay w.params h) {B : Heap} {l : List Env} {L NH t1 t2 t3 : Nat} {hv seen saw : Value} {pa : Bool} {nm vl : List Nat} (hnm : nm = [67, 79, 78, 84, 69, 78, 84, 45, 108, 101, 110, 103, 116, 104]) (hvl : vl = [52, 44, 51]) {raw : Array UInt8} {r : Old} (hr : r.full) {arr : Array Value} (lL : Low w.params L) (lN : Low w.params NH)
    (nL : B.get? L = none) (nN : B.get? NH = none) (tc : Tc A B l h)
    (hL : LocAt h L (locN hv pa NH seen saw ((r.raw (.bytes raw t3)).out (.bytes (bts nm) t1) (.bytes (bts vl) t2)))) (hN : LstAt h NH arr)
    {Q : Flow → Shared → Prop} (hE : ∀ e s', TcS A B l g o s' → Exc B s'.heap e 400 none → E (.ref e) s') :
    wpAny (model pw w) A (execs [bN 4, bN 5] (envN L)) Q E ⟨h, g, dr, t, o⟩ := by
  have lh : @LT.lt Nat _ L h.objs.size := let ⟨_, _, _, _, e⟩ := hL; Heap.lt_size e
  have nh : @LT.lt Nat _ NH h.objs.size := let ⟨_, e⟩ := hN; Heap.lt_size e
  have ar := ark.weak
  have hl : (nm, vl, [[52], [51]]) ∈ lens := by rw [hnm, hvl]; decide
  refine clA (ss := [[51], [52]]) (m := 2) ark ok hl hr lL lN hL hN (.inr ⟨_, _, _, _, rfl, by decide, by decide, rfl, by decide⟩) fun v b1 b2 b3 tl D w0 s₁ hP e1 e2 e3 e4 e5 e6 e7 e8 e9 e10 hn hD bb ok₁ L₁ N₁ D₁ S₁ => ?_
  subst e2 e3 e4 e5 e6 e7 e8 e9 e10 hD
  have e0 : mkP v.P b1 b2 b3 = w.params := by rw [e1, ← hP]
  rw [hn] at lh nh
  obtain ⟨h₁, g₁, dr₁, t₁, o₁⟩ := s₁
  obtain ⟨ok₁, rfl, rfl⟩ := ok₁
  have tc₁ := tc.two nL nN bb L₁.frame N₁.frame
  obtain ⟨hs, tk, ep, sl, L₁⟩ := L₁
  obtain ⟨hsD, tkD, epD, D₁⟩ := D₁
  obtain ⟨n, hn'⟩ := ok₁.size
  have lo : ∀ j, Low w.params (v.n + 258 + j) := fun j => Low.high (by omega)
  have nD : B.get? (v.n + 258 + 3) = none := tc.keep.new (by rw [hn]; exact Nat.le_add_right _ _)
  let a : SV := ⟨n, t₁, hs, tk, ep, sl⟩
  let d : DV := ⟨hsD, tkD, epD, w0, tl⟩
  obtain ⟨F, hc, h0⟩ := cb1R v b1 b2 b3 seen r hr nm vl _ hl a tl hsD tkD epD w0 _ rfl
  refine run_call ok₁ hn' [v.L, v.n + 258 + 3] [frm hs tk ep sl (v.loc seen r tl (.bytes (bts vl) v.t2)), dctO hsD tkD epD (dnames (some w0))] 2 500 30 (low2 lL (lo 3)) (by simp; omega) ⟨L₁, D₁, trivial⟩ ar.deep ar.handled
    (v.cb1 (b1, b2, b3) seen r nm vl a tl hsD tkD epD w0) (by unfold TV.cb1; simp only [e0]; rfl) F.1 F.2.1 F.2.2 trivial fun h₂ dr₂ af => ?_
  rw [hc]
  have l2 : LocAt h₂ v.L _ := ⟨_, _, _, _, af.get 0 _ h0⟩
  have B1 : But [v.L, v.n + 258 + 3] h₁ h₂ := af.but
  have S2 : h₂.SetOf (bk w) (v.n + 258 + 2) (setF [[51], [52]]) 2 := SetOf.keepB S₁ B1 (by simp; omega)
  have tc₂ : Tc A B l h₂ := ⟨tc₁.fr, by
      refine frGen tc₁.live B1 fun a ha m => ?_
      simp only [List.mem_cons, List.not_mem_nil, or_false] at m
      rcases m with rfl | rfl
      · exact l2.frame
      · obtain ⟨_, o', ho', _⟩ := tc.live.mem ha
        have hlt := Heap.lt_size ho'
        rw [hn] at hlt
        exact absurd hlt (Nat.not_lt.mpr (Nat.le_add_right _ _)), tc₁.keep.but B1 (fun a m => by
      simp only [List.mem_cons, List.not_mem_nil, or_false] at m
      rcases m with rfl | rfl
      · exact nL
      · exact nD)⟩
  refine codeAny_setLen (n := 2) af.ok S2 (by decide) fun ti s₃ hs₃ q₃ => ?_
  obtain ⟨h₃, g₃, dr₃, t₃, o₃⟩ := s₃
  subst hs₃
  obtain ⟨rfl, rfl⟩ := q₃
  obtain ⟨n₃, hn₃⟩ := af.ok.size
  obtain ⟨F, hc⟩ := cb2xR v b1 b2 b3 seen r hr nm vl _ hl a d ti n₃ t₃
  refine run_call af.ok hn₃ [] [] 0 500 30 low0 (by simp) trivial ar.deep ar.handled (v.cb2x (b1, b2, b3) seen r nm vl a d ti n₃ t₃) (by unfold TV.cb2x; simp only [e0]; rfl) F.1 F.2.1 F.2.2 trivial fun h₄ dr₄ af₄ => ?_
  exact riseN (hint := 400) rfl ark af₄.ok (tc₂.nil af₄.but) hc (fun n' t' e dd aa => by have z' := cb2xeR v b1 b2 b3 seen r hr nm vl _ hl a d ti n₃ t₃ n' t' e dd aa; rw [e0] at z'; exact z') hE
end
end Mine
end
section
namespace Mine
def itm : Nat → List Nat × List Nat
  | 0 => ([65], [98])
  | 1 => ([65, 99, 99, 101, 112, 116], [120, 44, 32, 121])
  | 2 => ([97, 64, 98], [99])
  | 3 => ([66], [32, 100])
  | 4 => ([67], [101, 0, 102])
  | 5 => ([], [103])
  | 6 => ([67, 111, 110, 116, 101, 110, 116, 45, 76, 101, 110, 103, 116, 104], [51])
  | 7 => ([99, 111, 110, 116, 101, 110, 116, 45, 76, 69, 78, 71, 84, 72], [51, 44, 32, 51])
  | 8 => ([67, 111, 110, 116, 101, 110, 116, 45, 76, 101, 110, 103, 116, 104], [48, 51])
  | 9 => ([67, 79, 78, 84, 69, 78, 84, 45, 108, 101, 110, 103, 116, 104], [52, 44, 51])
  | 10 => ([67, 111, 110, 116, 101, 110, 116, 45, 76, 101, 110, 103, 116, 104], [120])
  | 11 => ([67, 111, 110, 116, 101, 110, 116, 45, 76, 101, 110, 103, 116, 104], [48, 48, 48, 48, 48, 48, 48, 48, 48, 48, 48, 48, 48, 48, 48, 48, 48, 48, 48, 48, 51])
  | 12 => ([84, 114, 97, 110, 115, 102, 101, 114, 45, 69, 110, 99, 111, 100, 105, 110, 103], [67, 72, 85, 78, 75, 69, 68])
  | 13 => ([116, 114, 97, 110, 115, 102, 101, 114, 45, 101, 110, 99, 111, 100, 105, 110, 103], [99, 104, 117, 110, 107, 101, 100])
  | 14 => ([84, 114, 97, 110, 115, 102, 101, 114, 45, 69, 110, 99, 111, 100, 105, 110, 103], [103, 122, 105, 112])
  | 15 => ([68], [255, 1])
  | 16 => ([72, 111, 115, 116], [104])
  | 17 => ([97], [98])
  | 18 => ([97, 99, 99, 101, 112, 116], [120, 44, 32, 121])
  | 19 => ([100], [255, 1])
  | 20 => ([99, 111, 110, 116, 101, 110, 116, 45, 108, 101, 110, 103, 116, 104], [51])
  | 21 => ([99, 111, 110, 116, 101, 110, 116, 45, 108, 101, 110, 103, 116, 104], [48, 51])
  | 22 => ([116, 114, 97, 110, 115, 102, 101, 114, 45, 101, 110, 99, 111, 100, 105, 110, 103], [99, 104, 117, 110, 107, 101, 100])
  | _ => ([97], [98])
def told : Nat → List Nat × List Nat
  | 0 => ([97], [98])
  | 1 => ([97, 99, 99, 101, 112, 116], [120, 44, 32, 121])
  | 2 => ([97, 64, 98], [99])
  | 3 => ([98], [32, 100])
  | 4 => ([99], [101, 0, 102])
  | 5 => ([], [103])
  | 6 => ([99, 111, 110, 116, 101, 110, 116, 45, 108, 101, 110, 103, 116, 104], [51])
  | 7 => ([99, 111, 110, 116, 101, 110, 116, 45, 108, 101, 110, 103, 116, 104], [51])
  | 8 => ([99, 111, 110, 116, 101, 110, 116, 45, 108, 101, 110, 103, 116, 104], [48, 51])
  | 9 => ([99, 111, 110, 116, 101, 110, 116, 45, 108, 101, 110, 103, 116, 104], [52, 44, 51])
  | 10 => ([99, 111, 110, 116, 101, 110, 116, 45, 108, 101, 110, 103, 116, 104], [120])
  | 11 => ([99, 111, 110, 116, 101, 110, 116, 45, 108, 101, 110, 103, 116, 104], [48, 48, 48, 48, 48, 48, 48, 48, 48, 48, 48, 48, 48, 48, 48, 48, 48, 48, 48, 48, 51])
  | 12 => ([116, 114, 97, 110, 115, 102, 101, 114, 45, 101, 110, 99, 111, 100, 105, 110, 103], [99, 104, 117, 110, 107, 101, 100])
  | 13 => ([116, 114, 97, 110, 115, 102, 101, 114, 45, 101, 110, 99, 111, 100, 105, 110, 103], [99, 104, 117, 110, 107, 101, 100])
  | 14 => ([116, 114, 97, 110, 115, 102, 101, 114, 45, 101, 110, 99, 111, 100, 105, 110, 103], [103, 122, 105, 112])
  | 15 => ([100], [255, 1])
  | 16 => ([104, 111, 115, 116], [104])
  | 17 => ([97], [98])
  | 18 => ([97, 99, 99, 101, 112, 116], [120, 44, 32, 121])
  | 19 => ([100], [255, 1])
  | 20 => ([99, 111, 110, 116, 101, 110, 116, 45, 108, 101, 110, 103, 116, 104], [51])
  | 21 => ([99, 111, 110, 116, 101, 110, 116, 45, 108, 101, 110, 103, 116, 104], [48, 51])
  | 22 => ([116, 114, 97, 110, 115, 102, 101, 114, 45, 101, 110, 99, 111, 100, 105, 110, 103], [99, 104, 117, 110, 107, 101, 100])
  | _ => ([97], [98])
inductive Kd where
  | plain
  | cl (x : List Nat)
  | two
  | bad
  | long
  | te
  | gz
  deriving DecidableEq
def kind : Nat → Kd
  | 6 => .cl [51]
  | 7 => .cl [51]
  | 8 => .cl [48, 51]
  | 9 => .two
  | 10 => .bad
  | 11 => .long
  | 12 => .te
  | 13 => .te
  | 14 => .gz
  | 20 => .cl [51]
  | 21 => .cl [48, 51]
  | 22 => .te
  | _ => .plain
def sound : Nat → Bool
  | 2 => false
  | 3 => false
  | 4 => false
  | 5 => false
  | _ => true
abbrev Seen := Option (List Nat)
def step (look : Bool) (i : Nat) (seen : Seen) (saw : Bool) : Except Int (Bool × Seen × Bool) :=
  if look && !sound i then .error 400 else match kind i with
  | .plain => .ok (true, seen, saw)
  | .cl x => match seen with
    | none => .ok (true, some x, saw)
    | some q => if q = x then .ok (false, seen, saw) else .error 400
  | .two => .error 400
  | .bad => .error 400
  | .long => .error 400
  | .te => if saw then .error 501 else .ok (true, seen, true)
  | .gz => .error 501
def fold (look : Bool) : List Nat → Seen → Bool → Except Int (List Nat)
  | [], _, _ => .ok []
  | i :: l, seen, saw => match step look i seen saw with
    | .error e => .error e
    | .ok (b, seen', saw') => match fold look l seen' saw' with
      | .error e => .error e
      | .ok r => .ok (if b then i :: r else r)
end Mine
end
section
open PySem PySem.W PySem.W.X PySem.Calls PyProof.Rows
set_option maxRecDepth 100000
set_option maxHeartbeats 400000
set_option synthInstance.maxSize 4000
set_option synthInstance.maxHeartbeats 400000
namespace Mine
theorem it_plain : ∀ i < 23, kind i = .plain → ((itm i).1, (told i).1) ∈ plains ∧ (told i).2 = (itm i).2 := by decide
theorem it_te : ∀ i < 23, kind i = .te → ((itm i).1, (itm i).2) ∈ codings ∧ (itm i).1 ∈ teNames ∧ told i = (teLow, chunked) := by decide
theorem it_gz : ∀ i < 23, kind i = .gz → (itm i).1 ∈ teNames ∧ (itm i).2 = gzip := by decide
theorem it_cl : ∀ i < 23, ∀ x ∈ lensOk, kind i = .cl x → ((itm i).1, (itm i).2, x) ∈ oks ∧ told i = (clLow, x) := by decide
theorem it_clx : ∀ i < 23, (match kind i with | .cl x => decide (x ∈ lensOk) | _ => true) = true := by decide
theorem it_long : ∀ i < 23, kind i = .long → itm i = (clName, longLen) := by decide
theorem it_bad : ∀ i < 23, kind i = .bad → itm i = (clName, [120]) := by decide
theorem it_two : ∀ i < 23, kind i = .two → itm i = ([67, 79, 78, 84, 69, 78, 84, 45, 108, 101, 110, 103, 116, 104], [52, 44, 51]) := by decide
theorem it_sound : ∀ i < 23, sound i = true → (105, (itm i).1) ∈ goods ∧ (110, (itm i).2) ∈ goods := by decide
theorem it_unsound : ∀ i < 23, sound i = false → (105, (itm i).1) ∈ bads ∨ ((105, (itm i).1) ∈ goods ∧ (110, (itm i).2) ∈ bads) := by decide
end Mine
end
section
open PySem PySem.W PySem.W.X PySem.Calls PyProof.Rows
set_option maxRecDepth 100000
set_option maxHeartbeats 400000
namespace Mine
def SeenIs (v : Value) : Seen → Prop
  | none => v = .none
  | some x => x ∈ lensOk ∧ ∃ tk, v = .bytes (bts x) tk
def Told (h : Heap) (i : Nat) (b : Bool) (arr arr' : Array Value) (lo : Nat) : Prop := match b with
  | false => arr' = arr
  | true => ∃ a, arr' = arr.push (.ref a) ∧ @LE.le Nat _ lo a ∧ RowAt h a (bts (itm i).1) (bts (told i).1) (bts (told i).2)
section
variable {w : World} {A : Around} {E : Value → Shared → Prop} {h : Heap} {g : Array GenState} {dr : Drawn} {t : Nat} {o : OsState}
theorem turn45 (ark : ArK 4 A) (ok : Okay w.params h) {B : Heap} {l : List Env} {L NH t1 t2 t3 : Nat} {hv sv : Value} {pa : Bool} {i : Nat} (hi : i < 23) {seen : Seen} {saw : Bool} {r : Old} (hr : r.full) {arr : Array Value} (hsz : arr.size ≤ 1000) (lL : Low w.params L) (lN : Low w.params NH)
    (okB : Okay w.params B) (lF : ∀ a ∈ frames l, Low w.params a) (nL : B.get? L = none) (nN : B.get? NH = none) (tc : Tc A B l h) (hs : SeenIs sv seen)
    (hL : LocAt h L (locN hv pa NH sv (.bool saw) ((r.raw (.bytes (bts (itm i).1) t3)).out (.bytes (bts (itm i).1) t1) (.bytes (bts (itm i).2) t2)))) (hN : LstAt h NH arr)
    {Q : Flow → Shared → Prop}
    (hQ : ∀ b seen' saw', step false i seen saw = .ok (b, seen', saw') → ∀ (sv' u v : Value) (r' : Old) (arr' : Array Value) s', r'.full → SeenIs sv' seen' → But [L, NH] h s'.heap → OkS w.params g o s' →
      LocAt s'.heap L (locN hv pa NH sv' (.bool saw') (r'.out u v)) → LstAt s'.heap NH arr' → Told s'.heap i b arr arr' h.objs.size → Q .next s')
    (hE : ∀ hint, step false i seen saw = .error hint → ∀ e s' fl, (fl = none ∨ fl = some .none) → TcS A B l g o s' → Exc B s'.heap e hint fl → E (.ref e) s') :
    wpAny (model pw w) A (execs [bN 4, bN 5] (envN L)) Q E ⟨h, g, dr, t, o⟩ := by
  have ark2 : ArK 2 A := ark.less (by decide)
  have ar := ark.weak
  have full : ∀ c, (r.raw c).full := fun c => by cases r <;> first | exact hr | trivial
  cases hk : kind i with
  | plain =>
    obtain ⟨hm, ht⟩ := it_plain i hi hk
    have st : step false i seen saw = .ok (true, seen, saw) := by unfold step; simp [hk]
    exact plainN ar ok hm hr lL lN hL hN hsz fun a v s' b' ok' l' n' hle rw' => hQ _ _ _ st sv v _ _ _ s' (full _) hs b' ok' l' n' ⟨a, rfl, hle, by rw [ht]; exact rw'⟩
  | te =>
    obtain ⟨hm, hnm, ht⟩ := it_te i hi hk
    cases saw with
    | false =>
      have st : step false i seen false = .ok (true, seen, true) := by unfold step; simp [hk]
      exact teN ar ok hm hr lL lN hL hN hsz fun a v u s' b' ok' l' n' hle rw' => hQ _ _ _ st sv v u _ _ s' (full _) hs b' ok' l' n' ⟨a, rfl, hle, by rw [ht]; exact rw'⟩
    | true =>
      have st : step false i seen true = .error 501 := by unfold step; simp [hk]
      exact teXN ark2 ok hnm hr lL lN nL nN tc hL hN (.inl rfl) fun e s' tc' x' => hE _ st e s' none (.inl rfl) tc' x'
  | gz =>
    obtain ⟨hnm, hv⟩ := it_gz i hi hk
    have st : step false i seen saw = .error 501 := by unfold step; simp [hk]
    cases saw with
    | false => exact teXN ark2 ok hnm hr lL lN nL nN tc hL hN (.inr ⟨rfl, hv⟩) fun e s' tc' x' => hE _ st e s' none (.inl rfl) tc' x'
    | true => exact teXN ark2 ok hnm hr lL lN nL nN tc hL hN (.inl rfl) fun e s' tc' x' => hE _ st e s' none (.inl rfl) tc' x'
  | two =>
    have st : step false i seen saw = .error 400 := by unfold step; simp [hk]
    have ht := it_two i hi hk
    exact clTwo ark2 ok (congrArg Prod.fst ht) (congrArg Prod.snd ht) hr lL lN nL nN tc hL hN fun e s' tc' x' => hE _ st e s' none (.inl rfl) tc' x'
  | bad =>
    have st : step false i seen saw = .error 400 := by unfold step; simp [hk]
    have ht := it_bad i hi hk
    rw [ht] at hL
    exact clX ark ok hr lL lN okB lF nL nN tc hL hN fun e s' tc' x' => hE _ st e s' _ (.inr rfl) tc' x'
  | long =>
    have st : step false i seen saw = .error 400 := by unfold step; simp [hk]
    have ht := it_long i hi hk
    rw [ht] at hL
    exact clLong ark2 ok hr lL lN nL nN tc hL hN fun e s' tc' x' => hE _ st e s' none (.inl rfl) tc' x'
  | cl x =>
    have hxl : x ∈ lensOk := by have := it_clx i hi; rw [hk] at this; simpa using this
    obtain ⟨hm, ht⟩ := it_cl i hi x hxl hk
    cases seen with
    | none =>
      have st : step false i none saw = .ok (true, some x, saw) := by unfold step; simp [hk]
      cases hs
      exact clFirst ark2 ok hm hr hsz lL lN hL hN fun a c u v' tx s' b' ok' l' n' hle rw' => hQ _ _ _ st _ u v' (.two _ c) _ s' trivial ⟨hxl, tx, rfl⟩ b' ok' l' n' ⟨a, rfl, hle, by rw [ht]; exact rw'⟩
    | some q =>
      obtain ⟨hq, tk, rfl⟩ := hs
      by_cases e : q = x
      · subst e
        have st : step false i (some q) saw = .ok (false, some q, saw) := by unfold step; simp [hk]
        exact clSame ark2 ok hm hr lL lN hL hN fun c u v' s' b' ok' l' n' => hQ _ _ _ st _ u v' (.two _ c) _ s' trivial ⟨hq, tk, rfl⟩ b' ok' l' n' rfl
      · have st : step false i (some q) saw = .error 400 := by unfold step; simp [hk, e]
        exact clOther ark2 ok hm hq e hr lL lN nL nN tc hL hN fun e s' tc' x' => hE _ st e s' none (.inl rfl) tc' x'
end
end Mine
end
section
open PySem PySem.W PySem.W.X PySem.Calls PyProof.Rows
set_option maxRecDepth 100000
set_option maxHeartbeats 400000
namespace Mine
theorem forBd_split : forBd stN = [bN 0] ++ ([bN 1, bN 2, bN 3] ++ [bN 4, bN 5]) := forBd_eq
theorem step_look (i : Nat) (seen : Seen) (saw look : Bool) (h : look = false ∨ sound i = true) : step look i seen saw = step false i seen saw := by
  unfold step
  rcases h with h | h <;> simp [h]
theorem step_bad (i : Nat) (seen : Seen) (saw : Bool) (h : sound i = false) : step true i seen saw = .error 400 := by unfold step; simp [h]
section
variable {w : World} {A : Around} {E : Value → Shared → Prop} {h : Heap} {g : Array GenState} {dr : Drawn} {t : Nat} {o : OsState}
theorem aft_raw (r : Old) (c d : Value) : (r.aft c).raw d = r.aft d := by cases r <;> rfl
theorem turnB (ark : ArK 4 A) (ok : Okay w.params h) {B : Heap} {l : List Env} {L NH t1 t2 : Nat} {hv sv : Value} {pa : Bool} {i : Nat} (hi : i < 23) {seen : Seen} {saw : Bool} {r : Old} {arr : Array Value} (hsz : arr.size ≤ 1000) (lL : Low w.params L) (lN : Low w.params NH)
    (okB : Okay w.params B) (lF : ∀ a ∈ frames l, Low w.params a) (nL : B.get? L = none) (nN : B.get? NH = none) (tc : Tc A B l h) (hs : SeenIs sv seen)
    (hL : LocAt h L (locN hv pa NH sv (.bool saw) (r.out (.bytes (bts (itm i).1) t1) (.bytes (bts (itm i).2) t2)))) (hN : LstAt h NH arr)
    {Q : Flow → Shared → Prop}
    (hQ : ∀ b seen' saw', step (!pa) i seen saw = .ok (b, seen', saw') → ∀ (sv' u v : Value) (r' : Old) (arr' : Array Value) s', r'.full → SeenIs sv' seen' → But [L, NH] h s'.heap → OkS w.params g o s' →
      LocAt s'.heap L (locN hv pa NH sv' (.bool saw') (r'.out u v)) → LstAt s'.heap NH arr' → Told s'.heap i b arr arr' h.objs.size → Q .next s')
    (hE : ∀ hint, step (!pa) i seen saw = .error hint → ∀ e s' fl, (fl = none ∨ fl = some .none) → TcS A B l g o s' → Exc B s'.heap e hint fl → E (.ref e) s') :
    wpAny (model pw w) A (execs (forBd stN) (envN L)) Q E ⟨h, g, dr, t, o⟩ := by
  have nLN : L ≠ NH := let ⟨_, _, _, _, e⟩ := hL; let ⟨_, e'⟩ := hN; ne_of_obj e e' (by intro e; have := congrArg Obj.cls e; simp [frm, lstO] at this)
  have ar := ark.weak
  rw [forBd_split]
  have rest : (pa = true ∨ sound i = true) → ∀ s₁ : Shared, But [L] h s₁.heap → OkS w.params g o s₁ → LocAt s₁.heap L (locN hv pa NH sv (.bool saw) (r.out (.bytes (bts (itm i).1) t1) (.bytes (bts (itm i).2) t2))) →
      wpAny (model pw w) A (execs ([bN 1, bN 2, bN 3] ++ [bN 4, bN 5]) (envN L)) Q E s₁ := by
    intro hlook s₁ b₁ ok₁ L₁
    have hst : step (!pa) i seen saw = step false i seen saw := step_look i seen saw _ (by rcases hlook with h | h <;> simp [h])
    rw [hst] at hQ hE
    obtain ⟨h₁, g₁, d₁, t₁, o₁⟩ := s₁
    obtain ⟨ok₁, rfl, rfl⟩ := ok₁
    refine wpAny_execs_append _ (s123N ar ok₁ lL L₁ fun s₂ b₂ ok₂ L₂ => ?_)
    obtain ⟨h₂, g₂, d₂, t₂, o₂⟩ := s₂
    obtain ⟨ok₂, rfl, rfl⟩ := ok₂
    have bb : But [L] h h₂ := b₁.trans b₂
    have L₂' : LocAt h₂ L (locN hv pa NH sv (.bool saw) (((r.aft (.bytes (bts (itm i).1) t1)).raw (.bytes (bts (itm i).1) t1)).out (.bytes (bts (itm i).1) t1) (.bytes (bts (itm i).2) t2))) := by rw [aft_raw]; exact L₂
    refine turn45 ark ok₂ hi (Old.aft_full _ _) hsz lL lN okB lF nL nN (tc.one nL bb L₂.frame) hs L₂' (hN.keep bb (by simpa using nLN.symm)) (fun b seen' saw' st sv' u v r' arr' s' fr' sn' b' ok' l' n' td => hQ b seen' saw' st sv' u v r' arr' s' fr' sn' ((bb.mono (fun a m => by rw [List.mem_singleton.mp m]; simp)).trans b') ok' l' n' ?_) hE
    cases b with
    | false => exact td
    | true => obtain ⟨a, q, hle, rw'⟩ := td; exact ⟨a, q, Nat.le_trans bb.size hle, rw'⟩
  cases pa with
  | true => exact wpAny_execs_append _ (v0N ar ok lL hL fun s₁ b₁ ok₁ L₁ => rest (.inl rfl) s₁ b₁ ok₁ L₁)
  | false =>
    cases hsd : sound i with
    | true =>
      obtain ⟨g1, g2⟩ := it_sound i hi hsd
      exact wpAny_execs_append _ (vN (ark.less (by decide)) ok lL hL (passesN g1) (passesN g2) fun s₁ b₁ ok₁ L₁ => rest (.inr hsd) s₁ b₁ ok₁ L₁)
    | false => exact wpAny_execs_append _ (vNf ark ok lL nL tc okB lF hL (it_unsound i hi hsd) fun e s' tc' x' => hE 400 (step_bad i seen saw hsd) e s' _ (.inr rfl) tc' x')
end
end Mine
end
section
open PySem PySem.W PySem.W.X PySem.Calls PyProof.Rows
set_option maxRecDepth 100000
set_option maxHeartbeats 400000
namespace Mine
def ItemAt (P : Params) (h : Heap) (v : Value) (i : Nat) : Prop := i < 23 ∧ ∃ p t1 t2 ep, v = .ref p ∧ Low P p ∧ h.get? p = some (tupO [.bytes (bts (itm i).1) t1, .bytes (bts (itm i).2) t2] ep)
def ToldAt (h : Heap) (lo : Nat) (v : Value) (i : Nat) : Prop := ∃ a, v = .ref a ∧ @LE.le Nat _ lo a ∧ RowAt h a (bts (itm i).1) (bts (told i).1) (bts (told i).2)
def All2 {α β : Type} (p : α → β → Prop) : List α → List β → Prop
  | [], [] => True
  | a :: l, b :: m => p a b ∧ All2 p l m
  | _, _ => False
theorem All2.len {α β : Type} {p : α → β → Prop} : ∀ {l : List α} {m : List β}, All2 p l m → l.length = m.length
  | [], [], _ => rfl
  | _ :: _, _ :: _, x => congrArg (· + 1) x.2.len
  | [], _ :: _, x => x.elim
  | _ :: _, [], x => x.elim
theorem All2.imp {α β : Type} {p q : α → β → Prop} (f : ∀ a b, p a b → q a b) : ∀ {l : List α} {m : List β}, All2 p l m → All2 q l m
  | [], [], _ => trivial
  | _ :: _, _ :: _, x => ⟨f _ _ x.1, x.2.imp f⟩
  | [], _ :: _, x => x.elim
  | _ :: _, [], x => x.elim
theorem All2.snoc {α β : Type} {p : α → β → Prop} {a : α} {b : β} (h : p a b) : ∀ {l : List α} {m : List β}, All2 p l m → All2 p (l ++ [a]) (m ++ [b])
  | [], [], _ => ⟨h, trivial⟩
  | _ :: _, _ :: _, x => ⟨x.1, x.2.snoc h⟩
  | [], _ :: _, x => x.elim
  | _ :: _, [], x => x.elim
theorem All2.at {α β : Type} {p : α → β → Prop} : ∀ {l : List α} {m : List β} (_ : All2 p l m) {k : Nat} {b : β}, m[k]? = some b → ∃ a, l[k]? = some a ∧ p a b
  | _ :: _, _ :: _, x, 0, _, e => by cases e; exact ⟨_, rfl, x.1⟩
  | _ :: _, _ :: _, x, k + 1, _, e => x.2.at (k := k) e
  | [], [], _, _, _, e => by simp at e
  | [], _ :: _, x, _, _, _ => x.elim
  | _ :: _, [], x, _, _, _ => x.elim
theorem ToldAt.keep {h h' : Heap} {ds : List Nat} {lo : Nat} {v : Value} {i : Nat} (x : ToldAt h lo v i) (b : But ds h h') (hn : ∀ a ∈ ds, ∃ o, h.get? a = some o ∧ o.cls ≠ .type "tuple") : ToldAt h' lo v i := by
  obtain ⟨a, e, hl, r⟩ := x
  refine ⟨a, e, hl, r.keep b fun m => ?_⟩
  obtain ⟨o, ho, hc⟩ := hn a m
  obtain ⟨t1, t2, t3, ep, q⟩ := r
  rw [ho] at q
  cases q
  exact hc rfl
theorem ItemAt.keep {P : Params} {h h' : Heap} {v : Value} {i : Nat} (x : ItemAt P h v i) (b : But [] h h') : ItemAt P h' v i := by
  obtain ⟨hi, p, t1, t2, ep, e, hl, r⟩ := x
  exact ⟨hi, p, t1, t2, ep, e, hl, b.keep _ _ r (fun m => nomatch m)⟩
theorem But.same {a : Nat} {h h' : Heap} (s : Heap.SameBut a h h') : But [a] h h' := ⟨fun b o e n => by rw [s.2 b (by simpa using n)]; exact e, Nat.le_of_eq s.1.symm⟩
theorem Tc.iter {A : Around} {B h h' : Heap} {l : List Env} {it : Nat} {o : Obj} {vs : Array Value} (x : Tc A B l h) (n : B.get? it = none) (b : But [it] h h') (hi : h.get? it = some o) (hd : o.data = .fields vs) : Tc A B l h' := by
  refine ⟨x.fr, FunFrames.but x.live b (fun a m q => ?_), x.keep.but b (fun a m => by rw [List.mem_singleton.mp m]; exact n)⟩
  rw [List.mem_singleton.mp q] at m
  obtain ⟨_, o', ho, hnf⟩ := x.live.mem m
  rw [hi] at ho
  cases ho
  exact hnf _ hd
theorem frAll {h h' : Heap} {l : List Env} (x : h.FunFrames heap0 l) (H : ∀ x o, h.get? x = some o → (∀ vs, o.data ≠ .fields vs) → ∃ o', h'.get? x = some o' ∧ ∀ vs, o'.data ≠ .fields vs) : h'.FunFrames heap0 l := by
  induction l with
  | nil => trivial
  | cons env l ih =>
    obtain ⟨hk, ⟨K, o, hf, hn, ho, hnf⟩, hr⟩ := x
    obtain ⟨o', ho', hd'⟩ := H K o ho hnf
    exact ⟨hk, ⟨K, o', hf, hn, ho', hd'⟩, ih hr⟩
def contF (done : List Nat) : Except Int (List Nat) → Except Int (List Nat)
  | .error e => .error e
  | .ok r => .ok (done ++ r)
theorem inn_full {r : Old} (h : r.full) (a b : Value) : r.inn a b = r.out a b := by cases r <;> first | exact h.elim | rfl
structure LoopI (w : World) (g : Array GenState) (o : OsState) (A : Around) (h0 h1 B : Heap) (l : List Env) (L NH it HL : Nat) (hv : Value) (pa : Bool) (is : List Nat) (k : Nat) (s : Shared) : Prop where
  kle : k ≤ is.length
  ok : OkS w.params g o s
  but : But [] h0 s.heap
  but1 : But [L, NH, it] h1 s.heap
  tc : TcS A B l g o s
  iter : s.heap.IsListIter it HL k
  st : ∃ sv seen saw a b r arr done, SeenIs sv seen ∧ LocAt s.heap L (locN hv pa NH sv (.bool saw) (Old.inn r a b)) ∧ LstAt s.heap NH arr ∧ All2 (ToldAt s.heap h0.objs.size) arr.toList done ∧ done.length ≤ k ∧
    fold (!pa) is none false = contF done (fold (!pa) (is.drop k) seen saw)
section
variable {w : World} {A : Around} {h : Heap} {g : Array GenState} {dr : Drawn} {t : Nat} {o : OsState}
theorem loopN (ark : ArK 4 A) {h0 B : Heap} {l outer : List Env} {L NH it HL : Nat} {hv : Value} {pa : Bool} {is : List Nat} {items : Array Value} (hl : l = envN L :: outer) (his : is.length ≤ 1000)
    (okB : Okay w.params B) (ok0 : Okay w.params h0) (lF : ∀ a ∈ frames l, Low w.params a) (nL : B.get? L = none) (nN : B.get? NH = none) (nI : B.get? it = none)
    (sB : @LE.le Nat _ B.objs.size L) (sL : @LE.le Nat _ h0.objs.size L) (sN : @LE.le Nat _ h0.objs.size NH) (sI : @LE.le Nat _ h0.objs.size it)
    {Y : Result → Shared → Prop} {s₀ : Shared} (hHN : HL ≠ NH) (hHL : s₀.heap.IsList HL items) (hit : All2 (ItemAt w.params s₀.heap) items.toList is)
    (hI : LoopI w g o A h0 s₀.heap B l L NH it HL hv pa is 0 s₀)
    (hQ : ∀ r, fold (!pa) is none false = .ok r → ∀ s' arr loc, But [] h0 s'.heap → OkS w.params g o s' → TcS A B l g o s' → LocAt s'.heap L ((sHeaders, hv) :: (sParsed, .bool pa) :: (sNew, .ref NH) :: loc) → LstAt s'.heap NH arr → All2 (ToldAt s'.heap h0.objs.size) arr.toList r → Y (.ok .next) s')
    (hE : ∀ hint, fold (!pa) is none false = .error hint → ∀ e s', TcS A B l g o s' → Exc B s'.heap e hint (some (rawInt L)) → Y (.error (.ref e)) s') :
    codeAny (model pw w) A (.forLoop (forTg stN) (.ref it) (forBd stN) [] (envN L)) Y s₀ := by
  have hi : ∀ x, @LE.le Nat _ h0.objs.size x → Low w.params x := fun x hx => Low.high (by obtain ⟨n, hn⟩ := ok0.size; omega)
  have lL := hi L sL
  have lN := hi NH sN
  have lI := hi it sI
  have nL0 : ∀ x o, s₀.heap.get? x = some o → (o.cls = .type "tuple" ∨ x = HL) → x ∉ [L, NH, it] := by
    intro x o ho hc m
    obtain ⟨_, _, _, _, _, _, _, _, _, hL, hN, _⟩ := hI.st
    obtain ⟨oi, hoi, hci, _⟩ := hI.iter
    obtain ⟨ol, hol, hcl, _⟩ := hHL
    obtain ⟨_, _, _, _, eL⟩ := hL
    obtain ⟨_, eN⟩ := hN
    have hco : o.cls = .type "tuple" ∨ o.cls = .type "list" := hc.imp id fun e => by subst e; rw [hol] at ho; cases ho; exact hcl
    simp only [List.mem_cons, List.not_mem_nil, or_false] at m
    rcases m with rfl | rfl | rfl
    · rw [eL] at ho; cases ho; simp [frm] at hco
    · rcases hc with hc | hc
      · rw [eN] at ho; cases ho; simp [lstO] at hc
      · exact hHN hc.symm
    · rw [hoi] at ho; cases ho; simp [hci] at hco
  refine codeAny_forT (fun n s => ∃ k, n = is.length - k ∧ LoopI w g o A h0 s₀.heap B l L NH it HL hv pa is k s) (fun n s hI => ?_) _ ⟨0, rfl, hI⟩
  obtain ⟨k, rfl, I⟩ := hI
  obtain rfl := I.ok.gens
  obtain rfl := I.ok.os
  obtain ⟨sv, seen, saw, a, b, r, arr, done, hs, hL, hN, hT, hdl, hf⟩ := I.st
  have hsz : arr.size ≤ 1000 := by have := hT.len; have := I.kle; simp at *; omega
  obtain ⟨oi, hoi, hci, hdi⟩ := id I.iter
  obtain ⟨ol, hol, hcl, nl, hdl'⟩ := hHL
  have HLs : s.heap.IsList HL items := ⟨ol, I.but1.keep _ _ hol (nL0 _ _ hol (.inr rfl)), hcl, nl, hdl'⟩
  rcases Nat.lt_or_ge k is.length with hk | hk
  · -- one more item
    have hik : is[k]? = some is[k] := by simp [hk]
    obtain ⟨v, hv', hi', p, t1, t2, ep, rfl, lp, hp⟩ := hit.at hik
    refine wpAny_pyNext_list_item I.iter HLs (by simpa using hv') fun h₁ it₁ sb => ?_
    have b₁ : But [it] s.heap h₁ := .same sb
    have p₁ := I.but1.keep _ _ hp (nL0 _ _ hp (.inl rfl))
    have b11 : But [L, NH, it] s₀.heap h₁ := I.but1.trans (b₁.mono (fun x m => by rw [List.mem_singleton.mp m]; simp))
    have b01 : But [] h0 h₁ := I.but.fresh b₁ (fun x m => by rw [List.mem_singleton.mp m]; exact sI)
    have ok₁ : Okay w.params h₁ := I.ok.but (low1 lI) b₁
    have nLI : L ≠ it := by obtain ⟨_, _, _, _, e⟩ := hL; exact ne_cls e hoi (by rw [hci]; simp [frm])
    have nNI : NH ≠ it := by obtain ⟨_, e⟩ := hN; exact ne_cls e hoi (by rw [hci]; simp [lstO])
    have nLN : L ≠ NH := by obtain ⟨_, _, _, _, e⟩ := hL; obtain ⟨_, e'⟩ := hN; exact ne_cls e e' (by simp [frm, lstO])
    have L₁ := hL.keeps b₁ (by simpa using nLI)
    have N₁ := hN.keep b₁ (by simpa using nNI)
    have tc₁ : Tc A B l h₁ := I.tc.iter nI b₁ hoi hdi
    have T₁ : All2 (ToldAt h₁ h0.objs.size) arr.toList done := hT.imp fun v i x => x.keep b₁ (fun a m => by rw [List.mem_singleton.mp m]; exact ⟨_, hoi, by rw [hci]; simp⟩)
    obtain ⟨oi', hoi', hci', hdi'⟩ := id it₁
    obtain ⟨ci, di, dti, sli⟩ := oi'
    simp only at hci' hdi'
    subst hci' hdi'
    refine takeN ark.weak ok₁ lL lp lI L₁ (b₁.keep _ _ p₁ (by simpa using ne_cls p₁ hoi (by rw [hci]; simp [tupO]))) hoi' fun s₂ b₂ ok₂ L₂ => ?_
    obtain ⟨h₂, g₂, dr₂, tk₂, os₂⟩ := s₂
    obtain ⟨ok₂, rfl, rfl⟩ := ok₂
    have tc₂ : Tc A B l h₂ := tc₁.one nL b₂ L₂.frame
    have N₂ := N₁.keep b₂ (by simpa using nLN.symm)
    have i₂ : h₂.IsListIter it HL (k + 1) := ⟨_, b₂.keep _ _ hoi' (by simpa using nLI.symm), rfl, rfl⟩
    have T₂ : All2 (ToldAt h₂ h0.objs.size) arr.toList done := T₁.imp fun v i x => x.keep b₂ (fun a m => by rw [List.mem_singleton.mp m]; obtain ⟨_, _, _, _, e⟩ := L₁; exact ⟨_, e, by simp [frm]⟩)
    have b02 : But [] h0 h₂ := b01.fresh b₂ (fun x m => by rw [List.mem_singleton.mp m]; exact sL)
    have hstep : fold (!pa) (is.drop k) seen saw = match step (!pa) is[k] seen saw with
        | .error e => .error e
        | .ok (b, seen', saw') => match fold (!pa) (is.drop (k + 1)) seen' saw' with
          | .error e => .error e
          | .ok r => .ok (if b then is[k] :: r else r) := by
      rw [List.drop_eq_getElem_cons hk]; rfl
    refine turnB ark ok₂ hi' hsz lL lN okB lF nL nN tc₂ hs L₂ N₂ (fun bb seen' saw' st sv' u v r' arr' s₃ fr' sn' b₃ ok₃ L₃ N₃ td => ?_) (fun hint st e s₃ fl hfl tc₃ x₃ => ?_)
    · have b03 : But [] h0 s₃.heap := b02.fresh b₃ (fun x m => by simp only [List.mem_cons, List.not_mem_nil, or_false] at m; rcases m with rfl | rfl <;> assumption)
      have b13 : But [L, NH, it] s₀.heap s₃.heap := b11.trans ((b₂.mono (fun x m => by rw [List.mem_singleton.mp m]; simp)).trans (b₃.mono (fun x m => by simp only [List.mem_cons, List.not_mem_nil, or_false] at m ⊢; rcases m with rfl | rfl <;> simp)))
      have tc₃ : Tc A B l s₃.heap := by
        refine ⟨tc₂.fr, ?_, tc₂.keep.but b₃ (fun a m => by simp only [List.mem_cons, List.not_mem_nil, or_false] at m; rcases m with rfl | rfl <;> assumption)⟩
        refine frAll tc₂.live fun x o ho hnf => ?_
        by_cases q : x = L
        · obtain ⟨_, _, _, _, e⟩ := L₃
          subst q
          exact ⟨_, e, fun _ q => by cases q⟩
        · by_cases q' : x = NH
          · subst q'
            obtain ⟨_, e⟩ := N₃
            exact ⟨_, e, fun _ q => by cases q⟩
          · exact ⟨o, b₃.keep _ _ ho (by simp [q, q']), hnf⟩
      have T₃ : All2 (ToldAt s₃.heap h0.objs.size) arr.toList done := T₂.imp fun v i x => x.keep b₃ (fun a m => by
        simp only [List.mem_cons, List.not_mem_nil, or_false] at m
        rcases m with rfl | rfl
        · obtain ⟨_, _, _, _, e⟩ := L₂; exact ⟨_, e, by simp [frm]⟩
        · obtain ⟨_, e⟩ := N₂; exact ⟨_, e, by simp [lstO]⟩)
      have i₃ : s₃.heap.IsListIter it HL (k + 1) := by
        obtain ⟨o', ho', q1, q2⟩ := i₂
        exact ⟨o', b₃.keep _ _ ho' (by simp [nLI.symm, nNI.symm]), q1, q2⟩
      rw [hstep, st] at hf
      cases bb with
      | false =>
        have td : arr' = arr := td
        subst td
        refine ⟨is.length - (k + 1), by omega, k + 1, rfl, hk, ok₃, b03, b13, ⟨tc₃, ok₃.gens, ok₃.os⟩, i₃, sv', seen', saw', u, v, r', arr', done, sn', by rw [inn_full fr']; exact L₃, N₃, T₃, by omega, ?_⟩
        rw [hf]
        simp only
        cases fold (!pa) (is.drop (k + 1)) seen' saw' <;> rfl
      | true =>
        obtain ⟨x, rfl, hle, rw'⟩ := td
        refine ⟨is.length - (k + 1), by omega, k + 1, rfl, hk, ok₃, b03, b13, ⟨tc₃, ok₃.gens, ok₃.os⟩, i₃, sv', seen', saw', u, v, r', _, done ++ [is[k]], sn', by rw [inn_full fr']; exact L₃, N₃, ?_, by simp; omega, ?_⟩
        · rw [Array.toList_push]
          exact T₃.snoc ⟨x, rfl, Nat.le_trans b02.size hle, rw'⟩
        · rw [hf]
          simp only
          cases fold (!pa) (is.drop (k + 1)) seen' saw' with
          | error e => rfl
          | ok r => simp [contF]
    · rw [hstep, st] at hf
      subst hl
      refine noteN tc₃.fr tc₃.live rfl tc₃.keep x₃ (by rcases hfl with rfl | rfl <;> simp) fun h' k' l' x' => ?_
      exact hE hint hf e _ ⟨⟨tc₃.fr, l', k'⟩, tc₃.gens, tc₃.os⟩ x'
  · -- the end
    have hkk : k = is.length := by have := I.kle; omega
    subst hkk
    have hnone : items[is.length]? = none := by have := hit.len; simp at *; omega
    have nLI : L ≠ it := by obtain ⟨_, _, _, _, e⟩ := hL; exact ne_cls e hoi (by rw [hci]; simp [frm])
    have nNI : NH ≠ it := by obtain ⟨_, e⟩ := hN; exact ne_cls e hoi (by rw [hci]; simp [lstO])
    refine wpAny_pyNext_list_end ark.handled I.iter HLs hnone fun h₁ eb => ?_
    have hL' : LocAt h₁ L (locN hv pa NH sv (.bool saw) (Old.inn r a b)) := by
      obtain ⟨x1, x2, x3, x4, e⟩ := hL
      exact ⟨x1, x2, x3, x4, eb _ _ nLI e⟩
    have sz : @LT.lt Nat _ h0.objs.size h₁.objs.size := by
      obtain ⟨_, _, _, _, e⟩ := hL'
      exact Nat.lt_of_le_of_lt sL (Heap.lt_size e)
    have b01 : But [] h0 h₁ := ⟨fun x o e _ => eb _ _ (fun q => by rw [q] at e; exact absurd (Heap.lt_size e) (Nat.not_lt.mpr sI)) (I.but.keep _ _ e (fun m => nomatch m)), Nat.le_of_lt sz⟩
    have ok₁ : Okay w.params h₁ := ok0.but low0 b01
    have tc₁ : Tc A B l h₁ := by
      refine ⟨I.tc.fr, frAll I.tc.live fun x o ho hnf => ⟨o, eb _ _ (fun q => ?_) ho, hnf⟩, ⟨fun x o e n => eb _ _ (fun q => by rw [q, nI] at e; cases e) (I.tc.keep.old x o e n), fun x o e => ?_, ?_⟩⟩
      · rw [q, hoi] at ho
        cases ho
        exact hnf _ hdi
      · obtain ⟨sl, q⟩ := I.tc.keep.frm x o e
        exact ⟨sl, eb _ _ (fun q' => by rw [q', nI] at e; cases e) q⟩
      · obtain ⟨_, _, _, _, e⟩ := hL'
        exact Nat.le_of_lt (Nat.lt_of_le_of_lt sB (Heap.lt_size e))
    rw [List.drop_length] at hf
    refine wpAny_execs_nil ?_
    refine hQ done ?_ _ arr _ b01 ok₁ tc₁ hL' (by obtain ⟨_, e⟩ := hN; exact ⟨_, eb _ _ nNI e⟩) (hT.imp fun v i x => ?_)
    · rw [hf]; simp [fold, contF]
    · obtain ⟨a, e, hl, r1, r2, r3, r4, r⟩ := x
      refine ⟨a, e, hl, r1, r2, r3, r4, eb _ _ (fun q => ?_) r⟩
      rw [q, hoi] at r
      cases r
      simp [tupO] at hci
end
end Mine
end
section
open PySem PySem.W PySem.W.X PySem.Calls PyProof.Rows
set_option maxRecDepth 100000
set_option maxHeartbeats 4000000
namespace Mine
open PySem.W.ZFast
def kwN : Option Bool → List (Str × Value)
  | none => []
  | some b => [(sParsed, .bool b)]
def isPa : Option Bool → Bool
  | none => false
  | some b => b
noncomputable def outNE (P : Params) (n t H : Nat) (kw : Option Bool) : Out :=
  run ⟨pw, P⟩ (Ktop P) (n + 258) t 0 500 20 (dec 20 282578800082944) 1000 default none [] (enterT (.call (.ref 174) ⟨[.ref H], kwN kw⟩)) (tabFrom 0 []) 0 0 [] []
theorem neR (P : Params) (n t H : Nat) (kw : Option Bool) :
    let o := outNE P n t H kw
    fin3 o [] (n + 258) ∧ finOf o = .again (.func bodyN (envN (n + 258))) ∧ tget (tabOf o) 0 = some (frm (hsOf (objAt o 0)) (tkOf (objAt o 0)) (epOf (objAt o 0)) #[] [(sHeaders, .ref H), (sParsed, .bool (isPa kw))]) := by
  rcases kw with _ | _ | _ <;> refine ⟨⟨?_, ?_, ?_, ?_⟩, ?_, ?_⟩
  all_goals (show _ = _; kernel_rfl)
noncomputable def treeNB (L : Nat) : Sem Fin := flowT (zw12563942051412417395 [nthSt bodyN 0, nthSt bodyN 1, nthSt bodyN 2] (envN L))
theorem nbR (P : Params) (n t L : Nat) (hs : Nat → Int) (tk : Nat → Nat) (ep : Nat) (sl : Array (Option Value)) (hv : Value) (pa : Bool) :
    let o := outV P n t L hs tk ep sl [(sHeaders, hv), (sParsed, .bool pa)] 40 1103823438081 1000 (treeNB L)
    fin3 o [L] (n + 258) ∧ finOf o = .done .next ∧ frm0 o sl (locN hv pa (n + 258) .none (.bool false) []) ∧ tget (tabOf o) 1 = some (lstO #[] (epOf (objAt o 1))) := by
  refine ⟨⟨?_, ?_, ?_, ?_⟩, ?_, ?_, ?_⟩
  all_goals (show _ = _; kernel_rfl)
noncomputable def evalZ (e : Expr) (env : Env) : Sem Value := zw14044960220447912780 e env
noncomputable def treeNN (L : Nat) : Sem Fin := valT (evalZ (forIt stN) (envN L))
theorem nnR (P : Params) (n t L : Nat) (hs : Nat → Int) (tk : Nat → Nat) (ep : Nat) (sl : Array (Option Value)) (H : Nat) (pa : Bool) (NH : Nat) :
    let l := locN (.ref H) pa NH .none (.bool false) []
    let o := outV P n t L hs tk ep sl l 10 1 1000 (treeNN L)
    fin3 o [L] (n + 258) ∧ finOf o = .done (.ret (.ref H)) ∧ frm0 o sl l := by
  refine ⟨⟨?_, ?_, ?_, ?_⟩, ?_, ?_⟩
  all_goals (show _ = _; kernel_rfl)
noncomputable def treeNR (L : Nat) : Sem Fin := flowT (zw12563942051412417395 [nthSt bodyN 4] (envN L))
def hdrO (d a : Nat) : Obj := ⟨.ref 165, some d, .plain, #[some (.ref a)]⟩
theorem nrR (P : Params) (b1 b2 b3 : Bool) (n t L NH : Nat) (hs : Nat → Int) (tk : Nat → Nat) (ep : Nat) (sl : Array (Option Value)) (hv : Value) (pa : Bool) (rest : List (Str × Value)) :
    let l := (sHeaders, hv) :: (sParsed, .bool pa) :: (sNew, .ref NH) :: rest
    let o := outV (mkP P b1 b2 b3) n t L hs tk ep sl l 130 2898447368385109636116358248095751274260927307942130944019457229269050896402219413645880163044832540670689219711174756992744132724231563005055688525235857397973425623924992 1000 (treeNR L)
    fin3 o [L] (n + 258) ∧ finOf o = .done (.ret (.ref (n + 258 + 1))) ∧ tget (tabOf o) 2 = some (hdrO (n + 258) NH) ∧ tget (tabOf o) 1 = some (dctO (fun _ => 0) (fun _ => 0) 0 []) := by
  cases b1 <;> refine ⟨⟨?_, ?_, ?_, ?_⟩, ?_, ?_, ?_⟩
  all_goals (show _ = _; kernel_rfl)
end Mine
end
section
open PySem PySem.W PySem.W.X PySem.Calls PyProof.Rows
set_option maxRecDepth 100000
set_option maxHeartbeats 400000
namespace Mine
open PySem.W.ZFast
theorem But.push {h : Heap} (o : Obj) : But [] h (h.push o) := ⟨fun _ _ e _ => Heap.get?_push_of_some _ e, by rw [Heap.size_push]; exact Nat.le_succ _⟩
theorem eval_zf (e : Expr) (env : Env) : eval e env = zw14044960220447912780 e env := by rw [← ze14044960220447912780]
def HdrAt (h : Heap) (F NH : Nat) : Prop := ∃ d, h.get? F = some (hdrO d NH) ∧ @LE.le Nat _ 258 d ∧ DctAt h d []
theorem envN_kind (L : Nat) : (envN L).scope.kind ≠ .module := by
  have : (match (envN L).scope.kind with | .module => true | _ => false) = false := by kernel_rfl
  intro e
  rw [e] at this
  cases this
theorem envN_frame (L : Nat) : (envN L).frame = some L := rfl
theorem highOk {P : Params} {h : Heap} (ok : Okay P h) {x : Nat} (hx : @LE.le Nat _ h.objs.size x) : Low P x := Low.high (by obtain ⟨n, hn⟩ := ok.size; omega)
theorem low_frames {P : Params} {L : Nat} {outer : List Env} (hL : Low P L) (h : ∀ a ∈ frames outer, Low P a) : ∀ a ∈ frames (envN L :: outer), Low P a := by
  intro a m
  have e : frames (envN L :: outer) = L :: frames outer := rfl
  rw [e] at m
  rcases List.mem_cons.mp m with rfl | m
  · exact hL
  · exact h a m
theorem HdrAt.keep {h h' : Heap} {F NH : Nat} (x : HdrAt h F NH) (b : But [] h h') : HdrAt h' F NH := let ⟨d, e, l, p, q, r, e'⟩ := x; ⟨d, b.keep _ _ e (fun m => nomatch m), l, p, q, r, b.keep _ _ e' (fun m => nomatch m)⟩
def Iters (w : World) (H : Nat) (is : List Nat) (h0 : Heap) : Prop := ∀ {A : Around} {Q : Value → Shared → Prop} {E : Value → Shared → Prop} {s : Shared}, ArK 6 A → Okay w.params s.heap → But [] h0 s.heap →
  (∀ it HL items s', But [] s.heap s'.heap → OkS w.params s.gens s.os s' → @LE.le Nat _ s.heap.objs.size it → (@LE.le Nat _ s.heap.objs.size HL ∨ @LT.lt Nat _ HL h0.objs.size) → s'.heap.get? it = some (iterO (.ref HL) 0) → s'.heap.IsList HL items → All2 (ItemAt w.params s'.heap) items.toList is → Q (.ref it) s') →
  wpAny (model pw w) A (pyIter (.ref H)) Q E s
theorem iters_list {w : World} {H : Nat} {is : List Nat} {h0 : Heap} {items : Array Value} (hH : h0.IsList H items) (hi : All2 (ItemAt w.params h0) items.toList is) : Iters w H is h0 := fun {A Q E s} ark ok b hQ => by
  obtain ⟨o, ho, hc, n, hd⟩ := hH
  refine wpAny_pyIter_list ⟨o, b.keep _ _ ho (fun m => nomatch m), hc, n, hd⟩ ?_
  have bp : But [] s.heap (s.heap.push { cls := .type "list_iterator", data := .fields #[.ref H, .int 0 0] }) := .push _
  exact hQ s.heap.objs.size H items _ bp (ok.but low0 bp) (Nat.le_refl _) (.inr (Heap.lt_size ho)) (Heap.get?_push_size _ rfl) ⟨o, bp.keep _ _ (b.keep _ _ ho (fun m => nomatch m)) (fun m => nomatch m), hc, n, hd⟩
    (hi.imp fun v i x => (x.keep b).keep bp)
section
variable {w : World} {A : Around} {h : Heap} {g : Array GenState} {dr : Drawn} {t : Nat} {o : OsState}
theorem nvN (ark : ArK 8 A) (ok : Okay w.params h) {B : Heap} {outer : List Env} {H : Nat} {kw : Option Bool} {is : List Nat} (his : is.length ≤ 1000) (hIt : Iters w H is h)
    (okB : Okay w.params B) (lF : ∀ a ∈ frames outer, Low w.params a) (tc : Tc A B outer h) {R : Result → Shared → Prop}
    (hQ : ∀ r, fold (!isPa kw) is none false = .ok r → ∀ F NH arr s', @LE.le Nat _ h.objs.size F → @LE.le Nat _ h.objs.size NH → But [] h s'.heap → OkS w.params g o s' → HdrAt s'.heap F NH → LstAt s'.heap NH arr → All2 (ToldAt s'.heap h.objs.size) arr.toList r → R (.ok (.ret (.ref F))) s')
    (hE : ∀ hint, fold (!isPa kw) is none false = .error hint → ∀ e s', TcS A B outer g o s' → Exc B s'.heap e hint (some .none) → R (.error (.ref e)) s') :
    codeAny (model pw w) A (.call (.ref 174) ⟨[.ref H], kwN kw⟩) R ⟨h, g, dr, t, o⟩ := by
  obtain ⟨n, hn⟩ := ok.size
  obtain ⟨b1, b2, b3, hP⟩ := params_split w.params
  have hd := ark.weak.deep
  obtain ⟨F, hf, h0⟩ := neR w.params n t H kw
  have hw : (A.under (.call (.ref 174) ⟨[.ref H], kwN kw⟩)).depth = A.depth := rfl
  refine codeAny_enter (fun _ => by rw [hw]; exact Nat.lt_of_le_of_lt hd (by decide)) ?_
  refine run_fin ok hn [] [] 0 500 20 low0 (by simp) trivial (by rw [hw]; exact hd) ark.handled (outNE w.params n t H kw) rfl F.1 F.2 trivial fun h₁ dr₁ af₁ => ?_
  rw [hf]
  refine ⟨af₁.ok.nolimit, rfl, ?_⟩
  have l1 : LocAt h₁ (n + 258) _ := ⟨_, _, _, _, af₁.get 0 _ h0⟩
  generalize hLd : n + 258 = L at l1
  have hsL : @LE.le Nat _ h.objs.size L := by omega
  have lL : Low w.params L := highOk ok hsL
  have bF : But [] h h₁ := af₁.but
  have ok₁ := af₁.ok
  have arD : ArK 7 (A.deeper (envN L)) := ⟨by have := ark.deep; show A.depth + 1 + 7 ≤ 500; omega, ark.handled⟩
  have nLB : B.get? L = none := tc.keep.new hsL
  have tcL : ∀ h' : Heap, But [] h h' → (∃ o, h'.get? L = some o ∧ ∀ vs, o.data ≠ .fields vs) → Tc (A.deeper (envN L)) B (envN L :: outer) h' := fun h' b hL =>
    ⟨by show A.frames.map _ = _; rw [tc.fr]; rfl, frCons (FunFrames.but tc.live b (fun _ _ m => nomatch m)) (envN_kind L) (envN_frame L) hL, (tc.keep.but b (fun _ m => nomatch m)).more⟩
  have lFL : ∀ a ∈ frames (envN L :: outer), Low w.params a := low_frames lL lF
  refine codeAny_func ?_
  show wpAny _ _ (execs bodyN (envN L)) _ _ _
  rw [bodyN_eq]
  refine wpAny_execs_append [nthSt bodyN 0, nthSt bodyN 1, nthSt bodyN 2] ?_
  rw [execs_zf]
  obtain ⟨hs, tk, ep, sl, l1⟩ := l1
  obtain ⟨n₁, hn₁⟩ := ok₁.size
  obtain ⟨F₁, hf₁, h0₁, h1₁⟩ := nbR w.params n₁ (t + tokOf (outNE w.params n t H kw)) L hs tk ep sl (.ref H) (isPa kw)
  refine wpAny_flowT (run_fin ok₁ hn₁ [L] [frm hs tk ep sl _] 1 500 40 (low1 lL) (by simp) ⟨l1, trivial⟩ arD.weak.deep arD.handled (outV w.params n₁ _ L hs tk ep sl _ 40 1103823438081 1000 (treeNB L)) rfl F₁.1 F₁.2 trivial fun h₂ dr₂ af₂ => ?_)
  rw [hf₁]
  have l2 : LocAt h₂ L _ := ⟨_, _, _, _, af₂.get 0 _ h0₁⟩
  have N2 : LstAt h₂ (n₁ + 258) #[] := ⟨_, af₂.get 1 _ h1₁⟩
  generalize hNd : n₁ + 258 = NH at l2 N2
  have hsN : @LE.le Nat _ h.objs.size NH := by have := bF.size; omega
  have lN : Low w.params NH := highOk ok hsN
  have bF₂ : But [] h h₂ := bF.fresh af₂.but (fun a m => by rw [List.mem_singleton.mp m]; exact hsL)
  show wpAny _ _ (execs [.For (forTg stN) (forIt stN) (forBd stN) [] (forPos stN), nthSt bodyN 4] (envN L)) _ _ _
  refine wpAny_execs_cons (wpAny_For ?_)
  rw [eval_zf]
  have ok₂ := af₂.ok
  obtain ⟨hs₂, tk₂, ep₂, sl₂, l2⟩ := l2
  obtain ⟨n₂, hn₂⟩ := ok₂.size
  generalize ht2 : t + tokOf (outNE w.params n t H kw) + tokOf (outV w.params n₁ (t + tokOf (outNE w.params n t H kw)) L hs tk ep sl [(sHeaders, Value.ref H), (sParsed, Value.bool (isPa kw))] 40 1103823438081 1000 (treeNB L)) = t₂
  obtain ⟨F₂, hf₂, h0₂⟩ := nnR w.params n₂ t₂ L hs₂ tk₂ ep₂ sl₂ H (isPa kw) NH
  refine wpAny_valT (run_fin ok₂ hn₂ [L] [frm hs₂ tk₂ ep₂ sl₂ _] 1 500 10 (low1 lL) (by simp) ⟨l2, trivial⟩ arD.weak.deep arD.handled (outV w.params n₂ t₂ L hs₂ tk₂ ep₂ sl₂ _ 10 1 1000 (treeNN L)) rfl F₂.1 F₂.2 trivial fun h₃ dr₃ af₃ => ?_)
  rw [hf₂]
  have l3 : LocAt h₃ L _ := ⟨_, _, _, _, af₃.get 0 _ h0₂⟩
  have nLN : L ≠ NH := by obtain ⟨_, e⟩ := N2; exact ne_cls l2 e (by simp [frm, lstO])
  have N3 : LstAt h₃ NH #[] := N2.keep af₃.but (by simpa using nLN.symm)
  have bF₃ : But [] h h₃ := bF₂.fresh af₃.but (fun a m => by rw [List.mem_singleton.mp m]; exact hsL)
  refine hIt (arD.less (by decide)) af₃.ok bF₃ fun it HL items s₄ b₄ ok₄ hit hHL i₄ HL₄ I₄ => ?_
  have bF₄ : But [] h s₄.heap := bF₃.trans b₄
  have hsI : @LE.le Nat _ h.objs.size it := Nat.le_trans bF₃.size hit
  have nHN : HL ≠ NH := by
    obtain ⟨_, e⟩ := N3
    have := Heap.lt_size e
    have hHL : @LE.le Nat _ h₃.objs.size HL ∨ @LT.lt Nat _ HL h.objs.size := hHL
    intro e'
    rcases hHL with q | q
    · rw [e'] at q; exact absurd this (Nat.not_lt.mpr q)
    · rw [e'] at q; exact absurd hsN (Nat.not_le.mpr q)
  have tc₄ := tcL s₄.heap bF₄ (l3.keep b₄).frame
  refine loopN (arD.less (by decide)) (h0 := h) (outer := outer) rfl his okB ok lFL nLB (tc.keep.new hsN) (tc.keep.new hsI) (Nat.le_trans tc.keep.size hsL) hsL hsN hsI nHN HL₄ I₄ ⟨Nat.zero_le _, ok₄, bF₄, .refl _ _, ⟨tc₄, ok₄.gens, ok₄.os⟩, ⟨_, i₄, rfl, rfl⟩, .none, none, false, .none, .none, .zero, #[], [], rfl, l3.keep b₄, N3.keep b₄ (fun m => nomatch m), trivial, Nat.zero_le _, ?_⟩ ?_ ?_
  · show _ = contF [] (fold _ is none false)
    cases fold (!isPa kw) is none false <;> rfl
  · intro r hr s₅ arr loc b₅ ok₅ tc₅ L₅ N₅ T₅
    obtain ⟨hs₅, tk₅, ep₅, sl₅, L₅⟩ := L₅
    obtain ⟨h₅, g₅, dr₅, t₅, o₅⟩ := s₅
    obtain ⟨ok₅, rfl, rfl⟩ := ok₅
    obtain ⟨n₅, hn₅⟩ := ok₅.size
    obtain ⟨F₅, hf₅, h2₅, h1₅⟩ := nrR w.params b1 b2 b3 n₅ t₅ L NH hs₅ tk₅ ep₅ sl₅ (.ref H) (isPa kw) loc
    rw [execs_zf]
    refine wpAny_flowT (run_fin ok₅ hn₅ [L] [frm hs₅ tk₅ ep₅ sl₅ _] 1 500 130 (low1 lL) (by simp) ⟨L₅, trivial⟩ arD.weak.deep arD.handled (outV w.params n₅ t₅ L hs₅ tk₅ ep₅ sl₅ _ 130 _ 1000 (treeNR L)) rfl (by rw [← hP] at F₅; exact F₅.1) (by rw [← hP] at F₅; exact F₅.2) trivial fun h₆ dr₆ af₆ => ?_)
    rw [← hP] at hf₅ h2₅ h1₅
    rw [hf₅]
    have b₆ : But [L] h₅ h₆ := af₆.but
    have eL : LocAt h₅ L _ := ⟨_, _, _, _, L₅⟩
    refine hQ r hr (n₅ + 258 + 1) NH arr _ ?_ hsN (b₅.fresh b₆ (fun a m => by rw [List.mem_singleton.mp m]; exact hsL)) af₆.ok ⟨_, af₆.get 2 _ h2₅, Nat.le_add_left _ _, _, _, _, af₆.get 1 _ h1₅⟩ (N₅.keep b₆ (by simpa using nLN.symm)) (T₅.imp fun v i x => x.keep b₆ (fun a m => by rw [List.mem_singleton.mp m]; exact ⟨_, L₅, by simp [frm]⟩))
    have q : @LE.le Nat _ h.objs.size h₅.objs.size := b₅.size
    rw [hn₅] at q
    exact Nat.le_succ_of_le q
  · intro hint hr e s₅ tc₅ x₅
    refine backN tc₅.live tc₅.keep x₅ fun h₆ k₆ l₆ x₆ => ?_
    refine leaveN (B := B) (env := envN L) (outer := outer) (L := L) tc₅.fr l₆ rfl k₆ x₆ (.inr (.inr rfl)) fun h₇ k₇ l₇ x₇ => ?_
    exact hE hint hr e _ ⟨⟨tc.fr, l₇.2.2, k₇.drop nLB⟩, tc₅.gens, tc₅.os⟩ x₇
end
end Mine
end
section
open PySem PySem.W PySem.W.X PySem.Calls PyProof.Rows
set_option maxRecDepth 100000
set_option maxHeartbeats 400000
namespace Mine
open PySem.W.ZFast
noncomputable def takeEltZ (target : Expr) (it v : Value) (elt : Expr) (env : Env) : Sem Value := R.bindR (takeZ target it v env) fun _ => zw14044960220447912780 elt env
theorem codeAny_compT {w : World} {A : Around} {s : Shared} {Y : Result → Shared → Prop} {elt target iter : Expr} {scope : Scope} {pos : Pos} {it acc : Value} {env : Env} (I : Nat → Shared → Prop)
    (turn : ∀ n s, I n s → wpAny (model pw w) A (pyNext it) (fun r s₁ => match r with
      | none => Y (.ok .next) s₁
      | some v => wpAny (model pw w) A (takeEltZ target it v elt env) (fun x s₃ => wpAny (model pw w) A (call (.builtin "list.append") [acc, x]) (fun _ s₄ => ∃ m, m < n ∧ I m s₄) (notedBy (model pw w) A env fun e s' => Y (.error e) s') s₃)
          (notedBy (model pw w) A env fun e s' => Y (.error e) s') s₁) (notedBy (model pw w) A env fun e s' => Y (.error e) s') s)
    (n : Nat) (h : I n s) : codeAny (model pw w) A (.compLoop (.ListComp elt [⟨target, iter, [], 0⟩] scope pos) 0 it acc env) Y s := by
  refine codeAny_loop rfl I (fun n s hI => ?_) n h
  show wpAny _ _ ((compTurn (.ListComp elt [⟨target, iter, [], 0⟩] scope pos) 0 it acc env).onRaise (fun x => do noteFrame x env; theTreesLotGoes x)) _ _ s
  refine wpAny_noted ?_
  rw [compTurn_list1]
  refine wpAny_bind (wpAny_standAt (wpAny_bind (wpAny_mono (turn n s hI) (fun r s₁ h₁ => ?_) fun _ _ h' => h')))
  cases r with
  | none => exact wpAny_pure h₁
  | some v =>
    have h₁ : wpAny (model pw w) A (takeEltZ target it v elt env) _ _ s₁ := h₁
    have e : takeEltZ target it v elt env = ((letOwnedTupleGo target it v >>= fun _ => assign target env v) >>= fun _ => eval elt env) := by
      unfold takeEltZ takeZ
      rw [← R.bindR_eq, ← ze1578499551869305889, ← ze17772580674575903948, ← ze14044960220447912780]
      rfl
    rw [e] at h₁
    show wpAny _ _ (letOwnedTupleGo target it v >>= fun _ => assign target env v >>= fun _ =>
        (eval elt env >>= fun x => call (.builtin "list.append") [acc, x] >>= fun _ => pure ()) >>= fun _ =>
          again (.compLoop (.ListComp elt [⟨target, iter, [], 0⟩] scope pos) 0 it acc env)) _ _ s₁
    intro Γ p hΓ
    have h₁ := h₁ Γ p hΓ
    simp only [Sem.wp_bind'] at h₁ ⊢
    refine Sem.wp_mono _ _ _ (fun _ p₂ s₂ h₂ => ?_) (fun _ _ _ h' => h') _ _ h₁
    refine Sem.wp_mono _ _ _ (fun _ p₃ s₃ h₃ => ?_) (fun _ _ _ h' => h') _ _ h₂
    refine Sem.wp_mono _ _ _ (fun x p₄ s₄ h₄ => ?_) (fun _ _ _ h' => h') _ _ h₃
    refine Sem.wp_mono _ _ _ (fun _ p₅ s₅ h₅ => ?_) (fun _ _ _ h' => h') _ _ (h₄ Γ p₄ hΓ)
    exact ⟨rfl, h₅⟩
def TupK (h h' : Heap) : Prop := ∀ a o, h.get? a = some o → o.cls = .type "tuple" → h'.get? a = some o
theorem TupK.of {ds : List Nat} {h h' : Heap} (b : But ds h h') (hn : ∀ a ∈ ds, ∃ o, h.get? a = some o ∧ o.cls ≠ .type "tuple") : TupK h h' := fun a o ho hc =>
  b.keep a o ho fun m => let ⟨_, ho', hc'⟩ := hn a m; hc' (by rw [ho'] at ho; cases ho; exact hc)
theorem TupK.nil {h h' : Heap} (b : But [] h h') : TupK h h' := fun a o ho _ => b.keep a o ho (fun m => nomatch m)
theorem dct_cls {h : Heap} {D : Nat} {l : List (Str × Value)} (x : DctAt h D l) : ∃ o, h.get? D = some o ∧ o.cls = .type "dict" := let ⟨_, _, _, e⟩ := x; ⟨_, e, rfl⟩
theorem lst_cls {h : Heap} {D : Nat} {l : Array Value} (x : LstAt h D l) : ∃ o, h.get? D = some o ∧ o.cls = .type "list" := let ⟨_, e⟩ := x; ⟨_, e, rfl⟩
theorem DctAt.keep {h h' : Heap} {a : Nat} {l : List (Str × Value)} {ds : List Nat} (x : DctAt h a l) (b : But ds h h') (n : a ∉ ds) : DctAt h' a l := let ⟨p, q, r, e⟩ := x; ⟨p, q, r, b.keep _ _ e n⟩
theorem IsList.keepB {h h' : Heap} {a : Nat} {arr : Array Value} {ds : List Nat} (x : h.IsList a arr) (b : But ds h h') (n : a ∉ ds) : h'.IsList a arr := let ⟨o, ho, r⟩ := x; ⟨o, b.keep _ _ ho n, r⟩
theorem IsIter.keepB {h h' : Heap} {a l k : Nat} {ds : List Nat} (x : h.IsListIter a l k) (b : But ds h h') (n : a ∉ ds) : h'.IsListIter a l k := let ⟨o, ho, r⟩ := x; ⟨o, b.keep _ _ ho n, r⟩
theorem LstAt.isList {h : Heap} {a : Nat} {arr : Array Value} (x : LstAt h a arr) : h.IsList a arr := let ⟨ep, e⟩ := x; ⟨_, e, rfl, ep, rfl⟩
section
variable {w : World} {A : Around} {h : Heap} {g : Array GenState} {dr : Drawn} {t : Nat} {o : OsState}
theorem compG {ι : Type} {elt target iter : Expr} {scope : Scope} {pos : Pos} {cenv : Nat → Env} {pin pout : Heap → Value → ι → Prop} {DOK : List (Str × Value) → Prop}
    (kin : ∀ h h' v i, TupK h h' → pin h v i → pin h' v i) (kout : ∀ h h' v i, TupK h h' → pout h v i → pout h' v i)
    (hturn : ∀ {A : Around} {Q : Value → Shared → Prop} {E : Value → Shared → Prop} {h : Heap} {g : Array GenState} {dr : Drawn} {t : Nat} {o : OsState} {it D lst k : Nat} {item : Value} {i : ι} {l : List (Str × Value)}, Ar A → Okay w.params h → Low w.params it → Low w.params D → DOK l → DctAt h D l → pin h item i → h.IsListIter it lst k →
      (∀ v l' s', DOK l' → But [D] h s'.heap → OkS w.params g o s' → DctAt s'.heap D l' → pout s'.heap v i → Q v s') → wpAny (model pw w) A (takeEltZ target (.ref it) item elt (cenv D)) Q E ⟨h, g, dr, t, o⟩)
    (ar : Ar A) (ok : Okay w.params h) {it acc D lst : Nat} {items : Array Value} {is : List ι} (his : is.length ≤ 1000) (D0 : DOK [])
    (li : Low w.params it) (la : Low w.params acc) (lD : Low w.params D) (hsz : h.objs.size = D + 1)
    (hi : IterAt h it (.ref lst) 0) (hl : h.IsList lst items) (hp : All2 (pin h) items.toList is) (ha : LstAt h acc #[]) (hD : DctAt h D []) (hne : acc ≠ lst)
    {R : Result → Shared → Prop} (hQ : ∀ arr l s', DOK l → But [it, D, acc] h s'.heap → OkS w.params g o s' → DctAt s'.heap D l → LstAt s'.heap acc arr → All2 (pout s'.heap) arr.toList is → R (.ok .next) s') :
    codeAny (model pw w) A (.compStart (.ListComp elt [⟨target, iter, [], 0⟩] scope pos) 0 (.ref it) (.ref acc) (cenv D)) R ⟨h, g, dr, t, o⟩ := by
  obtain ⟨oa, hoa, hca⟩ := lst_cls ha
  obtain ⟨oD, hoD, hcD⟩ := dct_cls hD
  have n1 : acc ≠ it := ne_cls hoa hi (by rw [hca]; simp [iterO])
  have n2 : acc ≠ D := ne_cls hoa hoD (by rw [hca, hcD]; simp)
  have n3 : it ≠ D := ne_cls hi hoD (by rw [hcD]; simp [iterO])
  have n4 : lst ≠ it := by obtain ⟨_, e, c, _⟩ := hl; exact ne_cls e hi (by rw [c]; simp [iterO])
  have n5 : lst ≠ D := by obtain ⟨_, e, c, _⟩ := hl; exact ne_cls e hoD (by rw [c, hcD]; simp)
  have nt : ∀ a ∈ [it, D, acc], ∃ o, h.get? a = some o ∧ o.cls ≠ .type "tuple" := fun a m => by
    simp only [List.mem_cons, List.not_mem_nil, or_false] at m
    rcases m with rfl | rfl | rfl
    · exact ⟨_, hi, by simp [iterO]⟩
    · exact ⟨_, hoD, by rw [hcD]; simp⟩
    · exact ⟨_, hoa, by rw [hca]; simp⟩
  have loop : codeAny (model pw w) A (.compLoop (.ListComp elt [⟨target, iter, [], 0⟩] scope pos) 0 (.ref it) (.ref acc) (cenv D)) R ⟨h, g, dr, t, o⟩ := by
    refine codeAny_compT (fun n s => ∃ k arr l, n = is.length - k ∧ k ≤ is.length ∧ But [it, D, acc] h s.heap ∧ OkS w.params g o s ∧ s.heap.IsListIter it lst k ∧ DOK l ∧ DctAt s.heap D l ∧ LstAt s.heap acc arr ∧ All2 (pout s.heap) arr.toList (is.take k)) (fun n s hI => ?_) _
      ⟨0, #[], [], rfl, Nat.zero_le _, .refl _ _, ok, ⟨_, hi, rfl, rfl⟩, D0, hD, ha, by simp [All2]⟩
    obtain ⟨k, arr, l, rfl, hk, b, ok₀, i₀, D₀, d₀, a₀, p₀⟩ := hI
    obtain rfl := ok₀.gens
    obtain rfl := ok₀.os
    have hlen := hp.len
    have HL : s.heap.IsList lst items := IsList.keepB hl b (by simp [n4, n5, hne.symm])
    rcases Nat.lt_or_ge k is.length with hk' | hk'
    · have hik : is[k]? = some is[k] := by simp [hk']
      obtain ⟨item, hitem, hpi⟩ := hp.at hik
      refine wpAny_pyNext_list_item i₀ HL (by simpa using hitem) fun h₁ it₁ sb => ?_
      have b₁ : But [it] s.heap h₁ := .same sb
      have bb₁ : But [it, D, acc] h h₁ := b.trans (b₁.mono (fun x m => by rw [List.mem_singleton.mp m]; simp))
      have ok₁ : Okay w.params h₁ := ok₀.but (low1 li) b₁
      have d₁ := d₀.keep b₁ (by simpa using n3.symm)
      have a₁ := a₀.keep b₁ (by simpa using n1)
      refine hturn ar ok₁ li lD D₀ d₁ (kin _ _ _ _ (TupK.of bb₁ nt) hpi) it₁ fun v l' s₂ D' b₂ ok₂ d₂ q₂ => ?_
      have a₂ := a₁.keep b₂ (by simpa using n2)
      have i₂ := IsIter.keepB it₁ b₂ (by simpa using n3)
      have bb₂ : But [it, D, acc] h s₂.heap := bb₁.trans (b₂.mono (fun x m => by rw [List.mem_singleton.mp m]; simp))
      obtain ⟨h₂, g₂, dr₂, t₂, o₂⟩ := s₂
      obtain ⟨ok₂, rfl, rfl⟩ := ok₂
      have hsa : arr.size ≤ 1000 := by have := p₀.len; simp at this; omega
      refine wpAny_call (codeAny_append ar ok₂ la a₂ hsa fun s₃ b₃ ok₃ a₃ => ?_)
      have bb₃ : But [it, D, acc] h s₃.heap := bb₂.trans (b₃.mono (fun x m => by rw [List.mem_singleton.mp m]; simp))
      have T₃ : TupK h₂ s₃.heap := TupK.of b₃ (fun a m => by rw [List.mem_singleton.mp m]; obtain ⟨_, e, c⟩ := lst_cls a₂; exact ⟨_, e, by rw [c]; simp⟩)
      have T₀₂ : TupK s.heap h₂ := fun x ox ho hc => by
        have nit : x ≠ it := fun e => by obtain ⟨_, e', c, _⟩ := i₀; rw [e, e'] at ho; cases ho; rw [c] at hc; simp at hc
        have nD : x ≠ D := fun e => by obtain ⟨_, e', c⟩ := dct_cls d₀; rw [e, e'] at ho; cases ho; rw [c] at hc; simp at hc
        exact b₂.keep _ _ (b₁.keep _ _ ho (by simpa using nit)) (by simpa using nD)
      refine ⟨is.length - (k + 1), by omega, k + 1, arr.push v, l', rfl, hk', bb₃, ok₃, IsIter.keepB i₂ b₃ (by simpa using n1.symm), D', d₂.keep b₃ (by simpa using n2.symm), a₃, ?_⟩
      rw [Array.toList_push, List.take_add_one, hik]
      exact (p₀.imp fun v i x => kout _ _ _ _ T₃ (kout _ _ _ _ T₀₂ x)).snoc (kout _ _ _ _ T₃ q₂)
    · have hkk : k = is.length := by omega
      subst hkk
      have hnone : items[is.length]? = none := by simp at *; omega
      obtain ⟨oi, hoi, hci, hdi⟩ := id i₀
      refine wpAny_pyNext_list_end ar.handled i₀ HL hnone fun h₁ eb => ?_
      have d₁ : DctAt h₁ D l := let ⟨p, q, r, e⟩ := d₀; ⟨p, q, r, eb _ _ n3.symm e⟩
      have sz : @LE.le Nat _ h.objs.size h₁.objs.size := by
        obtain ⟨_, e, _⟩ := dct_cls d₁
        have := Heap.lt_size e
        rw [hsz]
        exact this
      have b₁ : But [it, D, acc] h h₁ := ⟨fun x ox e n => eb _ _ (fun q => n (by rw [q]; simp)) (b.keep _ _ e n), sz⟩
      refine hQ arr l _ D₀ b₁ (ok.but (low3 li lD la) b₁) d₁ (let ⟨p, e⟩ := a₀; ⟨p, eb _ _ n1 e⟩) ?_
      rw [List.take_length] at p₀
      exact p₀.imp fun v i x => kout _ _ _ _ (fun x ox ho hc => eb _ _ (fun q => by rw [q, hoi] at ho; cases ho; rw [hci] at hc; simp at hc) ho) x
  refine codeAny_compStart_list loop ?_
  exact wpAny_pyIter_listiter ⟨_, hi, rfl, rfl⟩ loop
end
end Mine
end
section
open PySem PySem.W PySem.W.X PySem.Calls PyProof.Rows
set_option maxRecDepth 100000
set_option maxHeartbeats 4000000
namespace Mine
open PySem.W.ZFast
noncomputable def bodyF (a : Nat) : List Stmt := bodyOf (fdOf P0 a)
noncomputable def envF (a L : Nat) : Env := callEnv (fdOf P0 a) L a
def exN : Expr := .Name ⟨#[]⟩ pos0
def nthE : List Expr → Nat → Expr
  | [], _ => exN
  | e :: _, 0 => e
  | _ :: l, n + 1 => nthE l n
def kidE : Expr → Nat → Expr
  | .BoolOp _ es _, i => nthE es i
  | .BinOp l _ r _, i => nthE [l, r] i
  | .UnaryOp _ x _, i => nthE [x] i
  | .IfExp a b c _, i => nthE [a, b, c] i
  | .Compare l _ cs _, i => nthE (l :: cs) i
  | .Call f as _ _, i => nthE (f :: as) i
  | .Attribute v _ _, i => nthE [v] i
  | .Subscript v s _, i => nthE [v, s] i
  | .List es _, i => nthE es i
  | .Tuple es _ _, i => nthE es i
  | _, _ => exN
def subE (e : Expr) : List Nat → Expr
  | [] => e
  | i :: l => subE (kidE e i) l
def retE : Stmt → Expr
  | .Return (some e) _ => e
  | _ => exN
def ifTest : Stmt → Expr | .If t _ _ _ => t | _ => exN
def ifElse : Stmt → List Stmt | .If _ _ e _ => e | _ => []
def posS : Stmt → Pos
  | .Return _ p => p
  | .If _ _ _ p => p
  | .Assign _ _ p => p
  | _ => pos0
def posE : Expr → Pos
  | .BoolOp _ _ p => p
  | .Compare _ _ _ p => p
  | .ListComp _ _ _ p => p
  | .UnaryOp _ _ p => p
  | .IfExp _ _ _ p => p
  | .BinOp _ _ _ p => p
  | _ => pos0
def eltC : Expr → Expr | .ListComp e _ _ _ => e | _ => exN
def tgtC : Expr → Expr | .ListComp _ (g :: _) _ _ => g.target | _ => exN
def itrC : Expr → Expr | .ListComp _ (g :: _) _ _ => g.iter | _ => exN
def scpC : Expr → Scope | .ListComp _ _ s _ => s | _ => (default : Env).scope
noncomputable def cenvF (a : Nat) (e : Expr) (L D : Nat) : Env := { scope := scpC e, locals := D, globals := 3, cells := [], qual := (envF a L).qual, func := none, code := .ref (a - 1), frame := some L, builtins := 0 }
def txts (ts : Nat → Nat) : Nat → List (Array UInt8) → List Value
  | _, [] => []
  | j, x :: l => .bytes x (ts j) :: txts ts (j + 1) l
def TupAt (h : Heap) (v : Value) (l : List (Array UInt8)) : Prop := ∃ a ts ep, v = .ref a ∧ @LE.le Nat _ 258 a ∧ h.get? a = some (tupO (txts ts 0 l) ep)
theorem TupAt.keepT {h h' : Heap} {v : Value} {l : List (Array UInt8)} (k : TupK h h') (x : TupAt h v l) : TupAt h' v l := let ⟨a, ts, ep, e, l, q⟩ := x; ⟨a, ts, ep, e, l, k _ _ q rfl⟩
abbrev Row := Array UInt8 × Array UInt8 × Array UInt8
def Row.l (r : Row) : List (Array UInt8) := [r.1, r.2.1, r.2.2]
def sSelf : Str := ⟨#[115, 101, 108, 102]⟩
noncomputable def outR (P : Params) (n t d : Nat) (os : List Obj) (fuel ora calls : Nat) (tr : Sem Fin) : Out :=
  run ⟨pw, P⟩ (Ktop P) (n + 258) t d 500 fuel (dec fuel ora) calls default none [] tr (tabFrom 0 os) 0 0 [] []
abbrev FinK (o : Out) (ds : List Nat) (n c : Nat) (os : List Obj) (S : Out → Prop) : Prop := fin3 o ds (n + 258) ∧ Unch (tabOf o) c (os.drop c) ∧ S o
abbrev CallK (o : Out) (ds : List Nat) (n c : Nat) (os : List Obj) (S : Out → Prop) : Prop := call3 o ds (n + 258) ∧ Unch (tabOf o) c (os.drop c) ∧ S o
section
variable {w : World} {A : Around} {Q : Fin → Shared → Prop} {E : Value → Shared → Prop} {h : Heap} {g : Array GenState} {dr : Drawn} {t : Nat} {o : OsState} {n : Nat} {ora : Nat} {calls : Nat} {tr : Sem Fin}
theorem segFin {b1 b2 b3 : Bool} (hP : w.params = mkP w.params b1 b2 b3) (ar : Ar A) (ok : Okay w.params h) (hn : h.objs.size = n + 258) (ds : List Nat) (os : List Obj) (c fuel : Nat) {S : Out → Prop} (hl : ∀ a ∈ ds, Low w.params a) (hd : ds.Nodup) (hs : Slots h ds os)
    (K : FinK (outR (mkP w.params b1 b2 b3) n t ds.length os fuel ora calls tr) ds n c os S)
    (hQ : ∀ out h' dr', S out → After w ds c n (numOf out) (tabOf out) h h' → Q (finOf out) ⟨h', g, dr', t + tokOf out, o⟩) : wpAny (model pw w) A tr Q E ⟨h, g, dr, t, o⟩ := by
  obtain ⟨F, U, s⟩ := K
  rw [← hP] at F U s
  exact run_fin ok hn ds os c 500 fuel hl hd hs ar.deep ar.handled (outR w.params n t ds.length os fuel ora calls tr) rfl F.1 F.2 U fun h' dr' af => hQ _ h' dr' s af
theorem segCall {b1 b2 b3 : Bool} (hP : w.params = mkP w.params b1 b2 b3) (ar : Ar A) (ok : Okay w.params h) (hn : h.objs.size = n + 258) (ds : List Nat) (os : List Obj) (c fuel : Nat) {S : Out → Prop} (hl : ∀ a ∈ ds, Low w.params a) (hd : ds.Nodup) (hs : Slots h ds os)
    (K : CallK (outR (mkP w.params b1 b2 b3) n t ds.length os fuel ora calls tr) ds n c os S)
    (hQ : ∀ out h' dr', out = outR (mkP w.params b1 b2 b3) n t ds.length os fuel ora calls tr → S out → After w ds c n (numOf out) (tabOf out) h h' → codeAny (model pw w) A (codeOf out) (fun r s' => wpAny (model pw w) A (treeOf out r) Q E s') ⟨h', g, dr', t + tokOf out, o⟩) : wpAny (model pw w) A tr Q E ⟨h, g, dr, t, o⟩ := by
  obtain ⟨F, U, s⟩ := K
  rw [← hP] at F U s
  exact run_call ok hn ds os c 500 fuel hl hd hs ar.deep ar.handled (outR w.params n t ds.length os fuel ora calls tr) rfl F.1 F.2.1 F.2.2 U fun h' dr' af => hQ _ h' dr' (by rw [← hP]) s af
end
end Mine
end
section
open PySem PySem.W PySem.W.X PySem.Calls PyProof.Rows
set_option maxRecDepth 100000
set_option maxHeartbeats 400000
namespace Mine
open PySem.W.ZFast
def kn1 (s : Str) : Option Value → List (Str × Value)
  | none => []
  | some v => [(s, v)]
def kn3 (s1 s2 s3 : Str) : Option (Value × Value × Value) → List (Str × Value)
  | none => []
  | some v => [(s1, v.1), (s2, v.2.1), (s3, v.2.2)]
noncomputable abbrev outPre (P : Params) (a : Nat) (e : Expr) (loc : List (Str × Value)) (n t L : Nat) (hs : Nat → Int) (tk : Nat → Nat) (ep : Nat) (sl : Array (Option Value)) (arr : Array Value) (epa : Nat) : Out :=
  outR P n t 2 [frm hs tk ep sl loc, lstO arr epa] 30 12918587905 1 (valT (evalZ e (envF a L)))
abbrev PreK (a : Nat) (e : Expr) (loc : List (Str × Value)) (L lst : Nat) : Prop := ∀ (P : Params) (b1 b2 b3 : Bool) (n t : Nat) (hs : Nat → Int) (tk : Nat → Nat) (ep : Nat) (sl : Array (Option Value)) (arr : Array Value) (epa : Nat),
  CallK (outPre (mkP P b1 b2 b3) a e loc n t L hs tk ep sl arr epa) [L, lst] n 0 [frm hs tk ep sl loc, lstO arr epa] (fun o => codeOf o = .compStart e 0 (.ref (n + 258)) (.ref (n + 258 + 1)) (cenvF a e L (n + 258 + 2)) ∧
    numOf o = 3 ∧ tget (tabOf o) 2 = some (iterO (.ref lst) 0) ∧ tget (tabOf o) 3 = some (lstO #[] (epOf (objAt o 3))) ∧ tget (tabOf o) 4 = some (dctO (fun _ => 0) (fun _ => 0) 0 []))
abbrev BehK (a : Nat) (e : Expr) (loc : List (Str × Value)) (L lst : Nat) {β : Type} (kn : Option β → List (Str × Value)) : Prop := ∀ (P : Params) (b1 b2 b3 : Bool) (n t : Nat) (hs : Nat → Int) (tk : Nat → Nat) (ep : Nat) (sl : Array (Option Value)) (arr : Array Value) (epa n' t' : Nat) (hs' : Nat → Int) (tk' : Nat → Nat) (ep' : Nat) (q : Option β),
  FinK (outR (mkP P b1 b2 b3) n' t' 1 [dctO hs' tk' ep' (kn q)] 20 65793 1000 (treeOf (outPre (mkP P b1 b2 b3) a e loc n t L hs tk ep sl arr epa) (.ok .next))) [n + 258 + 2] n' 1 [dctO hs' tk' ep' (kn q)] (fun o => finOf o = .done (.ret (.ref (n + 258 + 1))))
section
variable {w : World} {A : Around} {Q : Value → Shared → Prop} {E : Value → Shared → Prop} {h : Heap} {g : Array GenState} {dr : Drawn} {t : Nat} {o : OsState}
theorem evalCompG {ι β : Type} {a : Nat} {e : Expr} {loc : List (Str × Value)} {L lst : Nat} {kn : Option β → List (Str × Value)} {pin pout : Heap → Value → ι → Prop}
    (he : e = .ListComp (eltC e) [⟨tgtC e, itrC e, [], 0⟩] (scpC e) (posE e)) (k0 : kn none = [])
    (kin : ∀ h h' v i, TupK h h' → pin h v i → pin h' v i) (kout : ∀ h h' v i, TupK h h' → pout h v i → pout h' v i)
    (hturn : ∀ {A : Around} {Q : Value → Shared → Prop} {E : Value → Shared → Prop} {h : Heap} {g : Array GenState} {dr : Drawn} {t : Nat} {o : OsState} {it D lst k : Nat} {item : Value} {i : ι} {l : List (Str × Value)}, Ar A → Okay w.params h → Low w.params it → Low w.params D → (∃ q, l = kn q) → DctAt h D l → pin h item i → h.IsListIter it lst k →
      (∀ v l' s', (∃ q, l' = kn q) → But [D] h s'.heap → OkS w.params g o s' → DctAt s'.heap D l' → pout s'.heap v i → Q v s') → wpAny (model pw w) A (takeEltZ (tgtC e) (.ref it) item (eltC e) (cenvF a e L D)) Q E ⟨h, g, dr, t, o⟩)
    (pre : PreK a e loc L lst) (beh : BehK a e loc L lst kn)
    (ar : Ar A) (ok : Okay w.params h) (lL : Low w.params L) (ll : Low w.params lst) (hL : LocAt h L loc) {arr : Array Value} {is : List ι} (his : is.length ≤ 1000) (hl : LstAt h lst arr) (hp : All2 (pin h) arr.toList is)
    (hQ : ∀ acc arr' s', But [] h s'.heap → OkS w.params g o s' → @LE.le Nat _ h.objs.size acc → LstAt s'.heap acc arr' → All2 (pout s'.heap) arr'.toList is → Q (.ref acc) s') :
    wpAny (model pw w) A (eval e (envF a L)) Q E ⟨h, g, dr, t, o⟩ := by
  obtain ⟨hs, tk, ep, sl, hL⟩ := hL
  obtain ⟨epa, hl⟩ := hl
  obtain ⟨n, hn⟩ := ok.size
  obtain ⟨b1, b2, b3, hP⟩ := params_split w.params
  have nLl : L ≠ lst := ne_cls hL hl (by simp [frm, lstO])
  rw [eval_zf]
  refine wpAny_valT (segCall hP ar ok hn [L, lst] [frm hs tk ep sl loc, lstO arr epa] 0 30 (low2 lL ll) (by simp [nLl]) ⟨hL, hl, trivial⟩ (pre w.params b1 b2 b3 n t hs tk ep sl arr epa) fun out h' dr' hout S af => ?_)
  subst hout
  obtain ⟨hc, hnum, i2, l3, d4⟩ := S
  have hc := hc.trans (congrArg (fun z => Code.compStart z 0 (.ref (n + 258)) (.ref (n + 258 + 1)) (cenvF a e L (n + 258 + 2))) he)
  rw [hc]
  have b₁ : But [] h h' := af.but
  have sz : h'.objs.size = n + 258 + 2 + 1 := by rw [af.size, hnum]
  have i₁ : IterAt h' (n + 258) (.ref lst) 0 := af.get 2 _ i2
  have a₁ : LstAt h' (n + 258 + 1) #[] := ⟨_, af.get 3 _ l3⟩
  have D₁ : DctAt h' (n + 258 + 2) [] := ⟨_, _, _, af.get 4 _ d4⟩
  have hl₁ : LstAt h' lst arr := ⟨epa, b₁.keep _ _ hl (fun m => nomatch m)⟩
  have lo : ∀ j, Low w.params (n + 258 + j) := fun j => Low.high (by omega)
  have hlt := Heap.lt_size hl
  have hne : n + 258 + 1 ≠ lst := fun e => by rw [hn, ← e] at hlt; exact absurd hlt (Nat.not_lt.mpr (Nat.le_succ _))
  refine compG (DOK := fun l => ∃ q, l = kn q) (pin := pin) (pout := pout) (cenv := fun D => cenvF a e L D) kin kout (fun a1 a2 a3 a4 a5 a6 a7 a8 a9 => hturn a1 a2 a3 a4 a5 a6 a7 a8 a9) ar af.ok his ⟨none, k0.symm⟩ (lo 0) (lo 1) (lo 2) sz i₁ hl₁.isList (hp.imp fun v i x => kin _ _ _ _ (TupK.nil b₁) x) a₁ D₁ hne fun arr' l s₂ hq b₂ ok₂ d₂ a₂ p₂ => ?_
  obtain ⟨q, rfl⟩ := hq
  obtain ⟨hs', tk', ep', d₂⟩ := d₂
  obtain ⟨h₂, g₂, dr₂, t₂, o₂⟩ := s₂
  obtain ⟨ok₂, rfl, rfl⟩ := ok₂
  obtain ⟨n₂, hn₂⟩ := ok₂.size
  refine segFin hP ar ok₂ hn₂ [n + 258 + 2] [dctO hs' tk' ep' (kn q)] 1 20 (low1 (lo 2)) (by simp) ⟨d₂, trivial⟩ (beh w.params b1 b2 b3 n t hs tk ep sl arr epa n₂ t₂ hs' tk' ep' q) fun out h₃ dr₃ hS af₃ => ?_
  · rw [hS]
    have b₃ : But [n + 258 + 2] h₂ h₃ := af₃.but
    have t₃ : TupK h₂ h₃ := TupK.of b₃ (fun a m => by rw [List.mem_singleton.mp m]; exact ⟨_, d₂, by simp [dctO]⟩)
    refine hQ (n + 258 + 1) arr' _ ?_ af₃.ok (by rw [hn]; exact Nat.le_add_right _ _) (a₂.keep b₃ (by simp)) (p₂.imp fun v i x => kout _ _ _ _ t₃ x)
    refine (b₁.fresh b₂ (fun x m => by
      rw [hn]
      simp only [List.mem_cons, List.not_mem_nil, or_false] at m
      rcases m with rfl | rfl | rfl <;> exact Nat.le_add_right _ _)).fresh b₃ (fun x m => by rw [List.mem_singleton.mp m, hn]; exact Nat.le_add_right _ _)
end
end Mine
end
section
open PySem PySem.W PySem.W.X PySem.Calls PyProof.Rows
set_option maxRecDepth 100000
set_option maxHeartbeats 400000
namespace Mine
open PySem.W.ZFast
abbrev TurnK1 (a : Nat) (e : Expr) (L : Nat) (s : Str) (f : Row → List (Array UInt8)) : Prop := ∀ (P : Params) (b1 b2 b3 : Bool) (n t D tp it : Nat) (hs : Nat → Int) (tk : Nat → Nat) (ep : Nat) (q : Option Value) (x y z : Array UInt8) (ts : Nat → Nat) (eps : Nat),
  FinK (outR (mkP P b1 b2 b3) n t 2 [dctO hs tk ep (kn1 s q), tupO (txts ts 0 [x, y, z]) eps] 50 40723896929666475832636065513729 1000 (valT (takeEltZ (tgtC e) (.ref it) (.ref tp) (eltC e) (cenvF a e L D)))) [D, tp] n 1 [dctO hs tk ep (kn1 s q), tupO (txts ts 0 [x, y, z]) eps]
    (fun o => finOf o = .done (.ret (.ref (n + 258))) ∧ tget (tabOf o) 0 = some (dctO (hsOf (objAt o 0)) (tkOf (objAt o 0)) (epOf (objAt o 0)) (kn1 s (some (.ref tp)))) ∧ tget (tabOf o) 2 = some (tupO (txts (sqTok (objAt o 2)) 0 (f (x, y, z))) (epOf (objAt o 2))))
abbrev TurnKI (a : Nat) (e : Expr) (L : Nat) (s : Str) : Prop := ∀ (P : Params) (b1 b2 b3 : Bool) (n t D tp it : Nat) (hs : Nat → Int) (tk : Nat → Nat) (ep : Nat) (q : Option Value),
  FinK (outR (mkP P b1 b2 b3) n t 1 [dctO hs tk ep (kn1 s q)] 20 16843009 1000 (valT (takeEltZ (tgtC e) (.ref it) (.ref tp) (eltC e) (cenvF a e L D)))) [D] n 1 [dctO hs tk ep (kn1 s q)]
    (fun o => finOf o = .done (.ret (.ref tp)) ∧ tget (tabOf o) 0 = some (dctO (hsOf (objAt o 0)) (tkOf (objAt o 0)) (epOf (objAt o 0)) (kn1 s (some (.ref tp)))))
abbrev TurnK3 (a : Nat) (e : Expr) (L : Nat) (s1 s2 s3 : Str) (f : Row → List (Array UInt8)) : Prop := ∀ (P : Params) (b1 b2 b3 : Bool) (n t D tp it : Nat) (hs : Nat → Int) (tk : Nat → Nat) (ep : Nat) (q : Option (Value × Value × Value)) (x y z : Array UInt8) (ts : Nat → Nat) (eps lst k : Nat) (dt : Option Addr) (sx : Array (Option Value)),
  FinK (outR (mkP P b1 b2 b3) n t 3 [dctO hs tk ep (kn3 s1 s2 s3 q), ⟨.type "list_iterator", dt, .fields #[.ref lst, .int k 0], sx⟩, tupO (txts ts 0 [x, y, z]) eps] 100 140533003430764185798498995035935152578212347285750294031577954126564346667738480521098078794371236610 1000 (valT (takeEltZ (tgtC e) (.ref it) (.ref tp) (eltC e) (cenvF a e L D)))) [D, it, tp] n 1 [dctO hs tk ep (kn3 s1 s2 s3 q), ⟨.type "list_iterator", dt, .fields #[.ref lst, .int k 0], sx⟩, tupO (txts ts 0 [x, y, z]) eps]
    (fun o => finOf o = .done (.ret (.ref (n + 258 + 3))) ∧ tget (tabOf o) 0 = some (dctO (hsOf (objAt o 0)) (tkOf (objAt o 0)) (epOf (objAt o 0)) (kn3 s1 s2 s3 (some (vlOf (objAt o 0) 0, vlOf (objAt o 0) 1, vlOf (objAt o 0) 2)))) ∧ tget (tabOf o) 6 = some (tupO (txts (sqTok (objAt o 6)) 0 (f (x, y, z))) (epOf (objAt o 6))))
def pRow (h : Heap) (v : Value) (r : Row) : Prop := TupAt h v r.l
def pOf (f : Row → List (Array UInt8)) (h : Heap) (v : Value) (r : Row) : Prop := TupAt h v (f r)
section
variable {w : World} {A : Around} {Q : Value → Shared → Prop} {E : Value → Shared → Prop} {h : Heap} {g : Array GenState} {dr : Drawn} {t : Nat} {o : OsState}
theorem turnRow1 {a : Nat} {e : Expr} {L : Nat} {s : Str} {f : Row → List (Array UInt8)} (K : TurnK1 a e L s f) {it D lst k : Nat} {item : Value} {i : Row} {l : List (Str × Value)} (ar : Ar A) (ok : Okay w.params h) (lD : Low w.params D) (hq : ∃ q, l = kn1 s q) (hD : DctAt h D l) (hp : pRow h item i)
    (hQ : ∀ v l' s', (∃ q, l' = kn1 s q) → But [D] h s'.heap → OkS w.params g o s' → DctAt s'.heap D l' → pOf f s'.heap v i → Q v s') : wpAny (model pw w) A (takeEltZ (tgtC e) (.ref it) item (eltC e) (cenvF a e L D)) Q E ⟨h, g, dr, t, o⟩ := by
  obtain ⟨q, rfl⟩ := hq
  obtain ⟨tp, ts, eps, rfl, ltp, htp⟩ := hp
  obtain ⟨x, y, z⟩ := i
  obtain ⟨hs, tk, ep, hD⟩ := hD
  obtain ⟨n, hn⟩ := ok.size
  obtain ⟨b1, b2, b3, hP⟩ := params_split w.params
  have nD : D ≠ tp := ne_cls hD htp (by simp [dctO, tupO])
  refine wpAny_valT (segFin hP ar ok hn [D, tp] [dctO hs tk ep (kn1 s q), tupO (txts ts 0 [x, y, z]) eps] 1 50 (low2 lD (Low.high ltp)) (by simp [nD]) ⟨hD, htp, trivial⟩ (K w.params b1 b2 b3 n t D tp it hs tk ep q x y z ts eps) fun out h' dr' S af => ?_)
  obtain ⟨hf, h0, h2⟩ := S
  rw [hf]
  exact hQ _ _ _ ⟨_, rfl⟩ af.but af.ok ⟨_, _, _, af.get 0 _ h0⟩ ⟨n + 258, _, _, rfl, Nat.le_add_left _ _, af.get 2 _ h2⟩
theorem turnId {ι : Type} {a : Nat} {e : Expr} {L : Nat} {s : Str} (K : TurnKI a e L s) {pin : Heap → Value → ι → Prop} (kin : ∀ h h' v i, TupK h h' → pin h v i → pin h' v i) (hr : ∀ h v i, pin h v i → ∃ a, v = .ref a) {it D lst k : Nat} {item : Value} {i : ι} {l : List (Str × Value)} (ar : Ar A) (ok : Okay w.params h) (lD : Low w.params D) (hq : ∃ q, l = kn1 s q) (hD : DctAt h D l) (hp : pin h item i)
    (hQ : ∀ v l' s', (∃ q, l' = kn1 s q) → But [D] h s'.heap → OkS w.params g o s' → DctAt s'.heap D l' → pin s'.heap v i → Q v s') : wpAny (model pw w) A (takeEltZ (tgtC e) (.ref it) item (eltC e) (cenvF a e L D)) Q E ⟨h, g, dr, t, o⟩ := by
  obtain ⟨q, rfl⟩ := hq
  obtain ⟨tp, rfl⟩ := hr _ _ _ hp
  have hc := dct_cls hD
  obtain ⟨hs, tk, ep, hD⟩ := hD
  obtain ⟨n, hn⟩ := ok.size
  obtain ⟨b1, b2, b3, hP⟩ := params_split w.params
  refine wpAny_valT (segFin hP ar ok hn [D] [dctO hs tk ep (kn1 s q)] 1 20 (low1 lD) (by simp) ⟨hD, trivial⟩ (K w.params b1 b2 b3 n t D tp it hs tk ep q) fun out h' dr' S af => ?_)
  obtain ⟨hf, h0⟩ := S
  rw [hf]
  exact hQ _ _ _ ⟨_, rfl⟩ af.but af.ok ⟨_, _, _, af.get 0 _ h0⟩ (kin _ _ _ _ (TupK.of af.but (fun a m => by rw [List.mem_singleton.mp m]; obtain ⟨_, e, c⟩ := hc; exact ⟨_, e, by rw [c]; simp⟩)) hp)
theorem turnRow3 {a : Nat} {e : Expr} {L : Nat} {s1 s2 s3 : Str} {f : Row → List (Array UInt8)} (K : TurnK3 a e L s1 s2 s3 f) {it D lst k : Nat} {item : Value} {i : Row} {l : List (Str × Value)} (ar : Ar A) (ok : Okay w.params h) (li : Low w.params it) (lD : Low w.params D) (hq : ∃ q, l = kn3 s1 s2 s3 q) (hD : DctAt h D l) (hp : pRow h item i) (hi : h.IsListIter it lst k)
    (hQ : ∀ v l' s', (∃ q, l' = kn3 s1 s2 s3 q) → But [D] h s'.heap → OkS w.params g o s' → DctAt s'.heap D l' → pOf f s'.heap v i → Q v s') : wpAny (model pw w) A (takeEltZ (tgtC e) (.ref it) item (eltC e) (cenvF a e L D)) Q E ⟨h, g, dr, t, o⟩ := by
  obtain ⟨q, rfl⟩ := hq
  obtain ⟨tp, ts, eps, rfl, ltp, htp⟩ := hp
  obtain ⟨x, y, z⟩ := i
  obtain ⟨hs, tk, ep, hD⟩ := hD
  obtain ⟨⟨ci, di, dti, sli⟩, hi, hci, hdi⟩ := hi
  simp only at hci hdi
  subst hci hdi
  obtain ⟨n, hn⟩ := ok.size
  obtain ⟨b1, b2, b3, hP⟩ := params_split w.params
  have n1 : D ≠ tp := ne_cls hD htp (by simp [dctO, tupO])
  have n2 : D ≠ it := ne_cls hD hi (by simp [dctO])
  have n3 : it ≠ tp := ne_cls hi htp (by simp [tupO])
  refine wpAny_valT (segFin hP ar ok hn [D, it, tp] [dctO hs tk ep (kn3 s1 s2 s3 q), _, tupO (txts ts 0 [x, y, z]) eps] 1 100 (low3 lD li (Low.high ltp)) (by simp [n1, n2, n3]) ⟨hD, hi, htp, trivial⟩ (K w.params b1 b2 b3 n t D tp it hs tk ep q x y z ts eps lst k di sli) fun out h' dr' S af => ?_)
  obtain ⟨hf, h0, h2⟩ := S
  rw [hf]
  exact hQ _ _ _ ⟨_, rfl⟩ af.but af.ok ⟨_, _, _, af.get 0 _ h0⟩ ⟨n + 258 + 3, _, _, rfl, by omega, af.get 6 _ h2⟩
end
theorem pRow_keep : ∀ h h' v i, TupK h h' → pRow h v i → pRow h' v i := fun _ _ _ _ k x => TupAt.keepT k x
theorem pOf_keep (f : Row → List (Array UInt8)) : ∀ h h' v i, TupK h h' → pOf f h v i → pOf f h' v i := fun _ _ _ _ k x => TupAt.keepT k x
end Mine
end
section
open PySem PySem.W PySem.W.X PySem.Calls PyProof.Rows
set_option maxRecDepth 100000
set_option maxHeartbeats 4000000
namespace Mine
open PySem.W.ZFast
def sFields : Str := ⟨#[102, 105, 101, 108, 100, 115]⟩
def sRows : Str := ⟨#[114, 111, 119, 115]⟩
def sRow : Str := ⟨#[114, 111, 119]⟩
def sPair : Str := ⟨#[112, 97, 105, 114]⟩
def locIs (F R : Nat) : List (Str × Value) := [(sFields, .ref F), (sRows, .ref R)]
noncomputable def eIs : Expr := retE (nthSt (bodyF 252) 0)
noncomputable def eIs1 : Expr := subE eIs [0, 1]
noncomputable def eIs2 : Expr := subE eIs [1, 0]
noncomputable def eIs3 : Expr := subE eIs [1, 1]
def f02 (r : Row) : List (Array UInt8) := [r.1, r.2.2]
def f12 (r : Row) : List (Array UInt8) := [r.2.1, r.2.2]
theorem eIs1_comp : eIs1 = .ListComp (eltC eIs1) [⟨tgtC eIs1, itrC eIs1, [], 0⟩] (scpC eIs1) (posE eIs1) := by kernel_rfl
theorem eIs2_comp : eIs2 = .ListComp (eltC eIs2) [⟨tgtC eIs2, itrC eIs2, [], 0⟩] (scpC eIs2) (posE eIs2) := by kernel_rfl
theorem eIs3_comp : eIs3 = .ListComp (eltC eIs3) [⟨tgtC eIs3, itrC eIs3, [], 0⟩] (scpC eIs3) (posE eIs3) := by kernel_rfl
theorem is1_pre (F L lst : Nat) : PreK 252 eIs1 (locIs F lst) L lst := by
  intro P b1 b2 b3 n t hs tk ep sl arr epa
  cases b1 <;> refine ⟨⟨?_, ?_, ?_, ?_, ?_⟩, ⟨?_, ?_, ?_⟩, ?_, ?_, ?_, ?_, ?_⟩
  all_goals first | exact True.intro | (show _ = _; kernel_rfl)
theorem is1_beh (F L lst : Nat) : BehK 252 eIs1 (locIs F lst) L lst (kn1 sRow) := by
  intro P b1 b2 b3 n t hs tk ep sl arr epa n' t' hs' tk' ep' q
  cases b1 <;> cases q <;> refine ⟨⟨?_, ?_, ?_, ?_⟩, ?_, ?_⟩
  all_goals first | exact True.intro | (show _ = _; kernel_rfl)
theorem is1_turn (L : Nat) : TurnK1 252 eIs1 L sRow f02 := by
  intro P b1 b2 b3 n t D tp it hs tk ep q x y z ts eps
  cases b1 <;> cases q <;> refine ⟨⟨?_, ?_, ?_, ?_⟩, ⟨?_, ?_⟩, ?_, ?_, ?_⟩
  all_goals first | exact True.intro | (show _ = _; kernel_rfl)
theorem is3_pre (F L lst : Nat) : PreK 252 eIs3 (locIs F lst) L lst := by
  intro P b1 b2 b3 n t hs tk ep sl arr epa
  cases b1 <;> refine ⟨⟨?_, ?_, ?_, ?_, ?_⟩, ⟨?_, ?_, ?_⟩, ?_, ?_, ?_, ?_, ?_⟩
  all_goals first | exact True.intro | (show _ = _; kernel_rfl)
theorem is3_beh (F L lst : Nat) : BehK 252 eIs3 (locIs F lst) L lst (kn1 sRow) := by
  intro P b1 b2 b3 n t hs tk ep sl arr epa n' t' hs' tk' ep' q
  cases b1 <;> cases q <;> refine ⟨⟨?_, ?_, ?_, ?_⟩, ?_, ?_⟩
  all_goals first | exact True.intro | (show _ = _; kernel_rfl)
theorem is3_turn (L : Nat) : TurnK1 252 eIs3 L sRow f12 := by
  intro P b1 b2 b3 n t D tp it hs tk ep q x y z ts eps
  cases b1 <;> cases q <;> refine ⟨⟨?_, ?_, ?_, ?_⟩, ⟨?_, ?_⟩, ?_, ?_, ?_⟩
  all_goals first | exact True.intro | (show _ = _; kernel_rfl)
end Mine
end
section
open PySem PySem.W PySem.W.X PySem.Calls PyProof.Rows
set_option maxRecDepth 100000
set_option maxHeartbeats 4000000
namespace Mine
open PySem.W.ZFast
noncomputable def treeF (a L : Nat) : Sem Fin := flowT (zw12563942051412417395 (bodyF a) (envF a L))
noncomputable def e143 : Expr := subE (retE (nthSt (bodyF 143) 0)) [1]
noncomputable def e162 : Expr := retE (nthSt (bodyF 162) 0)
theorem e143_comp : e143 = .ListComp (eltC e143) [⟨tgtC e143, itrC e143, [], 0⟩] (scpC e143) (posE e143) := by kernel_rfl
theorem e162_comp : e162 = .ListComp (eltC e162) [⟨tgtC e162, itrC e162, [], 0⟩] (scpC e162) (posE e162) := by kernel_rfl
def sUnd : Str := ⟨#[95]⟩
abbrev EntK (a : Nat) : Prop := ∀ (P : Params) (b1 b2 b3 : Bool) (n t F : Nat), FinK (outR (mkP P b1 b2 b3) n t 0 [] 20 16842752 1000 (enterT (.call (.ref a) ⟨[.ref F], []⟩))) [] n 0 []
  (fun o => finOf o = .again (.func (bodyF a) (envF a (n + 258))) ∧ tget (tabOf o) 0 = some (frm (hsOf (objAt o 0)) (tkOf (objAt o 0)) (epOf (objAt o 0)) #[] [(sSelf, .ref F)]))
def oraP : Bool → Nat
  | true => 1814572721856908876838531112919414528723248562341071971735098363984486662144
  | false => 27688182401381055859962938124380714854785897252518798396836828063728129
noncomputable abbrev outHP (P : Params) (it : Bool) (a L F d NH n t : Nat) (hs : Nat → Int) (tk : Nat → Nat) (ep : Nat) (sl : Array (Option Value)) (arr : Array Value) (epa : Nat) : Out :=
  outR P n t 3 [frm hs tk ep sl [(sSelf, .ref F)], hdrO d NH, lstO arr epa] 70 (oraP it) 3 (treeF a L)
abbrev PreH (it : Bool) (a : Nat) (e : Expr) : Prop := ∀ (P : Params) (b1 b2 b3 : Bool) (L F d NH n t : Nat) (hs : Nat → Int) (tk : Nat → Nat) (ep : Nat) (sl : Array (Option Value)) (arr : Array Value) (epa : Nat),
  CallK (outHP (mkP P b1 b2 b3) it a L F d NH n t hs tk ep sl arr epa) [L, F, NH] n 0 [frm hs tk ep sl [(sSelf, .ref F)], hdrO d NH, lstO arr epa] (fun o => codeOf o = .compStart e 0 (.ref (n + 258)) (.ref (n + 258 + 1)) (cenvF a e L (n + 258 + 2)) ∧
    numOf o = 3 ∧ tget (tabOf o) 3 = some (iterO (.ref NH) 0) ∧ tget (tabOf o) 4 = some (lstO #[] (epOf (objAt o 4))) ∧ tget (tabOf o) 5 = some (dctO (fun _ => 0) (fun _ => 0) 0 []))
def oraB (it : Bool) {β : Type} : Option β → Nat
  | none => match it with | true => 846632576942337 | false => 65793
  | some _ => match it with | true => 238305884877326982162268881153 | false => 18519084246547628289
abbrev BehI (a : Nat) (s1 s2 s3 : Str) : Prop := ∀ (P : Params) (b1 b2 b3 : Bool) (L F d NH n t : Nat) (hs : Nat → Int) (tk : Nat → Nat) (ep : Nat) (sl : Array (Option Value)) (arr : Array Value) (epa n' t' : Nat) (hs' : Nat → Int) (tk' : Nat → Nat) (ep' : Nat) (q : Option (Value × Value × Value)) (arr' : Array Value) (epb : Nat),
  FinK (outR (mkP P b1 b2 b3) n' t' 2 [dctO hs' tk' ep' (kn3 s1 s2 s3 q), lstO arr' epb] 40 (oraB true q) 1000 (treeOf (outHP (mkP P b1 b2 b3) true a L F d NH n t hs tk ep sl arr epa) (.ok .next))) [n + 258 + 2, n + 258 + 1] n' 1 [dctO hs' tk' ep' (kn3 s1 s2 s3 q), lstO arr' epb]
    (fun o => finOf o = .done (.ret (.ref (n' + 258))) ∧ tget (tabOf o) 2 = some (iterO (.ref (n + 258 + 1)) 0))
abbrev BehR (a : Nat) (s1 s2 s3 : Str) : Prop := ∀ (P : Params) (b1 b2 b3 : Bool) (L F d NH n t : Nat) (hs : Nat → Int) (tk : Nat → Nat) (ep : Nat) (sl : Array (Option Value)) (arr : Array Value) (epa n' t' : Nat) (hs' : Nat → Int) (tk' : Nat → Nat) (ep' : Nat) (q : Option (Value × Value × Value)),
  FinK (outR (mkP P b1 b2 b3) n' t' 1 [dctO hs' tk' ep' (kn3 s1 s2 s3 q)] 40 (oraB false q) 1000 (treeOf (outHP (mkP P b1 b2 b3) false a L F d NH n t hs tk ep sl arr epa) (.ok .next))) [n + 258 + 2] n' 1 [dctO hs' tk' ep' (kn3 s1 s2 s3 q)]
    (fun o => finOf o = .done (.ret (.ref (n + 258 + 1))))
theorem ent143 : EntK 143 := by
  intro P b1 b2 b3 n t F
  refine ⟨⟨?_, ?_, ?_, ?_⟩, ?_, ?_, ?_⟩
  all_goals first | exact True.intro | (show _ = _; kernel_rfl)
theorem pre143 : PreH true 143 e143 := by
  intro P b1 b2 b3 L F d NH n t hs tk ep sl arr epa
  cases b1 <;> refine ⟨⟨?_, ?_, ?_, ?_, ?_⟩, ⟨?_, ?_, ?_, ?_⟩, ?_, ?_, ?_, ?_, ?_⟩
  all_goals first | exact True.intro | (show _ = _; kernel_rfl)
theorem turn143 (L : Nat) : TurnK3 143 e143 L sUnd sName sValue f12 := by
  intro P b1 b2 b3 n t D tp it hs tk ep q x y z ts eps lst k dt sx
  cases b1 <;> rcases q with _ | ⟨q1, q2, q3⟩ <;> refine ⟨⟨?_, ?_, ?_, ?_⟩, ⟨?_, ?_, ?_⟩, ?_, ?_, ?_⟩
  all_goals first | exact True.intro | (show _ = _; kernel_rfl)
theorem ent162 : EntK 162 := by
  intro P b1 b2 b3 n t F
  refine ⟨⟨?_, ?_, ?_, ?_⟩, ?_, ?_, ?_⟩
  all_goals first | exact True.intro | (show _ = _; kernel_rfl)
theorem pre162 : PreH false 162 e162 := by
  intro P b1 b2 b3 L F d NH n t hs tk ep sl arr epa
  cases b1 <;> refine ⟨⟨?_, ?_, ?_, ?_, ?_⟩, ⟨?_, ?_, ?_, ?_⟩, ?_, ?_, ?_, ?_, ?_⟩
  all_goals first | exact True.intro | (show _ = _; kernel_rfl)
theorem turn162 (L : Nat) : TurnK3 162 e162 L sRaw sUnd sValue f02 := by
  intro P b1 b2 b3 n t D tp it hs tk ep q x y z ts eps lst k dt sx
  cases b1 <;> rcases q with _ | ⟨q1, q2, q3⟩ <;> refine ⟨⟨?_, ?_, ?_, ?_⟩, ⟨?_, ?_, ?_⟩, ?_, ?_, ?_⟩
  all_goals first | exact True.intro | (show _ = _; kernel_rfl)
theorem beh143 : BehI 143 sUnd sName sValue := by
  intro P b1 b2 b3 L F d NH n t hs tk ep sl arr epa n' t' hs' tk' ep' q arr' epb
  cases b1 <;> rcases q with _ | ⟨q1, q2, q3⟩ <;> refine ⟨⟨?_, ?_, ?_, ?_⟩, ⟨?_, ?_⟩, ?_, ?_⟩
  all_goals first | exact True.intro | (show _ = _; kernel_rfl)
theorem beh162 : BehR 162 sRaw sUnd sValue := by
  intro P b1 b2 b3 L F d NH n t hs tk ep sl arr epa n' t' hs' tk' ep' q
  cases b1 <;> rcases q with _ | ⟨q1, q2, q3⟩ <;> refine ⟨⟨?_, ?_, ?_, ?_⟩, ?_, ?_⟩
  all_goals first | exact True.intro | (show _ = _; kernel_rfl)
noncomputable abbrev outPI (P : Params) (F d NH n t : Nat) : Out := outR P n t 1 [hdrO d NH] 20 4294967297 0 (valT (zw8711993805878244202 (.ref F)))
theorem piR (P : Params) (b1 b2 b3 : Bool) (F d NH n t : Nat) : CallK (outPI (mkP P b1 b2 b3) F d NH n t) [F] n 0 [hdrO d NH] (fun o => codeOf o = .call (.ref 143) ⟨[.ref F], []⟩) := by
  cases b1 <;> refine ⟨⟨?_, ?_, ?_, ?_, ?_⟩, ⟨?_, ?_⟩, ?_⟩
  all_goals first | exact True.intro | (show _ = _; kernel_rfl)
theorem pjR (P : Params) (b1 b2 b3 : Bool) (F d NH n t n' t' it lst : Nat) : FinK (outR (mkP P b1 b2 b3) n' t' 1 [iterO (.ref lst) 0] 20 1 1000 (treeOf (outPI (mkP P b1 b2 b3) F d NH n t) (.ok (.ret (.ref it))))) [it] n' 0 [iterO (.ref lst) 0] (fun o => finOf o = .done (.ret (.ref it))) := by
  cases b1 <;> refine ⟨⟨?_, ?_, ?_, ?_⟩, ⟨?_, ?_⟩, ?_⟩
  all_goals first | exact True.intro | (show _ = _; kernel_rfl)
end Mine
end
section
open PySem PySem.W PySem.W.X PySem.Calls PyProof.Rows
set_option maxRecDepth 100000
set_option maxHeartbeats 400000
namespace Mine
open PySem.W.ZFast
theorem ArK.deeper {k : Nat} {A : Around} (a : ArK (k + 1) A) (env : Env) : ArK k (A.deeper env) := ⟨by have := a.deep; show A.depth + 1 + k ≤ 500; omega, a.handled⟩
section
variable {w : World} {A : Around} {h : Heap} {g : Array GenState} {dr : Drawn} {t : Nat} {o : OsState}
theorem enterF {a : Nat} (K : EntK a) (ar : Ar A) (ok : Okay w.params h) (F : Nat) {R : Result → Shared → Prop}
    (hQ : ∀ L s', @LE.le Nat _ h.objs.size L → But [] h s'.heap → OkS w.params g o s' → LocAt s'.heap L [(sSelf, .ref F)] → codeAny (model pw w) A (.func (bodyF a) (envF a L)) R s') :
    codeAny (model pw w) A (.call (.ref a) ⟨[.ref F], []⟩) R ⟨h, g, dr, t, o⟩ := by
  obtain ⟨n, hn⟩ := ok.size
  obtain ⟨b1, b2, b3, hP⟩ := params_split w.params
  refine codeAny_enter (fun _ => Nat.lt_of_le_of_lt ar.deep (by decide)) ?_
  refine segFin hP (A := A.under (.call (.ref a) ⟨[.ref F], []⟩)) ⟨ar.deep, ar.handled⟩ ok hn [] [] 0 20 low0 (by simp) trivial (K w.params b1 b2 b3 n t F) fun out h' dr' S af => ?_
  obtain ⟨hf, h0⟩ := S
  rw [hf]
  exact ⟨af.ok.nolimit, rfl, hQ _ _ (Nat.le_of_eq hn) af.but af.ok ⟨_, _, _, _, af.get 0 _ h0⟩⟩
theorem rowsH {it : Bool} {a : Nat} {e : Expr} {s1 s2 s3 : Str} {f : Row → List (Array UInt8)} (ent : EntK a) (he : e = .ListComp (eltC e) [⟨tgtC e, itrC e, [], 0⟩] (scpC e) (posE e)) (pre : PreH it a e) (turn : ∀ L, TurnK3 a e L s1 s2 s3 f)
    (ark : ArK 3 A) (ok : Okay w.params h) {F NH : Nat} {arr : Array Value} {rows : List Row} (his : rows.length ≤ 1000) (lF : Low w.params F) (lN : Low w.params NH) (hF : HdrAt h F NH) (hN : LstAt h NH arr) (hp : All2 (pRow h) arr.toList rows)
    {R : Result → Shared → Prop}
    (hQ : ∀ (L d n t₁ : Nat) b1 b2 b3 hs tk ep sl epa arr' q s₂, w.params = mkP w.params b1 b2 b3 → @LE.le Nat _ h.objs.size (n + 258) → But [] h s₂.heap → OkS w.params g o s₂ → DctAt s₂.heap (n + 258 + 2) (kn3 s1 s2 s3 q) → LstAt s₂.heap (n + 258 + 1) arr' → All2 (pOf f s₂.heap) arr'.toList rows →
      wpAny (model pw w) (A.deeper (envF a L)) (treeOf (outHP (mkP w.params b1 b2 b3) it a L F d NH n t₁ hs tk ep sl arr epa) (.ok .next)) (fun fin s' => match fin with | .done f => R (.ok (.ret (match f with | .ret v => v | _ => .none))) s' | .again _ => False)
        (fun e s' => wpAny (model pw w) (A.deeper (envF a L)) (PySem.«leaving» (envF a L) e) (fun _ s'' => R (.error e) s'') (fun e' s'' => R (.error e') s'') s') s₂) :
    codeAny (model pw w) A (.call (.ref a) ⟨[.ref F], []⟩) R ⟨h, g, dr, t, o⟩ := by
  refine enterF ent ark.weak ok F fun L s₁ hL b₁ ok₁ l₁ => ?_
  have lL : Low w.params L := highOk ok hL
  have arD : ArK 2 (A.deeper (envF a L)) := ark.deeper _
  refine codeAny_func ?_
  rw [execs_zf]
  obtain ⟨hs, tk, ep, sl, l₁⟩ := l₁
  obtain ⟨d, hF, _⟩ := hF
  obtain ⟨epa, hN⟩ := hN
  obtain ⟨h₁, g₁, dr₁, t₁, o₁⟩ := s₁
  obtain ⟨ok₁, rfl, rfl⟩ := ok₁
  obtain ⟨n, hn⟩ := ok₁.size
  obtain ⟨b1, b2, b3, hP⟩ := params_split w.params
  have F₁ := b₁.keep _ _ hF (fun m => nomatch m)
  have N₁ := b₁.keep _ _ hN (fun m => nomatch m)
  have n1 : L ≠ F := ne_cls l₁ F₁ (by simp [frm, hdrO])
  have n2 : L ≠ NH := ne_cls l₁ N₁ (by simp [frm, lstO])
  have n3 : F ≠ NH := ne_cls F₁ N₁ (by simp [hdrO, lstO])
  refine wpAny_flowT (segCall hP arD.weak ok₁ hn [L, F, NH] [frm hs tk ep sl _, hdrO d NH, lstO arr epa] 0 70 (low3 lL lF lN) (by simp [n1, n2, n3]) ⟨l₁, F₁, N₁, trivial⟩ (pre w.params b1 b2 b3 L F d NH n t₁ hs tk ep sl arr epa) fun out h' dr' hout S af => ?_)
  subst hout
  obtain ⟨hc, hnum, i2, l3, d4⟩ := S
  have hc := hc.trans (congrArg (fun z => Code.compStart z 0 (.ref (n + 258)) (.ref (n + 258 + 1)) (cenvF a e L (n + 258 + 2))) he)
  rw [hc]
  have b₂ : But [] h₁ h' := af.but
  have sz : h'.objs.size = n + 258 + 2 + 1 := by rw [af.size, hnum]
  have i₁ : IterAt h' (n + 258) (.ref NH) 0 := af.get 3 _ i2
  have a₁ : LstAt h' (n + 258 + 1) #[] := ⟨_, af.get 4 _ l3⟩
  have D₁ : DctAt h' (n + 258 + 2) [] := ⟨_, _, _, af.get 5 _ d4⟩
  have lo : ∀ j, Low w.params (n + 258 + j) := fun j => Low.high (by omega)
  have hlt := Heap.lt_size N₁
  have hne : n + 258 + 1 ≠ NH := fun e => by rw [hn, ← e] at hlt; exact absurd hlt (Nat.not_lt.mpr (Nat.le_succ _))
  have hN' : LstAt h' NH arr := ⟨epa, b₂.keep _ _ N₁ (fun m => nomatch m)⟩
  have sz1 : @LE.le Nat _ h.objs.size (n + 258) := by have := b₁.size; simp only at this; rw [hn] at this; exact this
  refine compG (DOK := fun l => ∃ q, l = kn3 s1 s2 s3 q) (pin := pRow) (pout := pOf f) (cenv := fun D => cenvF a e L D) pRow_keep (pOf_keep f) (fun ar ok li lD hq hD hp hi hQ => turnRow3 (turn L) ar ok li lD hq hD hp hi hQ) arD.weak af.ok his ⟨none, rfl⟩ (lo 0) (lo 1) (lo 2) sz i₁ hN'.isList (hp.imp fun v i x => pRow_keep _ _ _ _ (TupK.nil b₂) (pRow_keep _ _ _ _ (TupK.nil b₁) x)) a₁ D₁ hne fun arr' l s₂ hq b₃ ok₂ d₂ a₂ p₂ => ?_
  obtain ⟨q, rfl⟩ := hq
  refine hQ L d n t₁ b1 b2 b3 hs tk ep sl epa arr' q s₂ hP sz1 ?_ ok₂ d₂ a₂ p₂
  exact (b₁.trans b₂).fresh b₃ (fun x m => by
      simp only [List.mem_cons, List.not_mem_nil, or_false] at m
      rcases m with rfl | rfl | rfl <;> first | exact sz1 | exact Nat.le_trans sz1 (Nat.le_add_right _ _))
theorem iterN (ark : ArK 3 A) (ok : Okay w.params h) {F NH : Nat} {arr : Array Value} {rows : List Row} (his : rows.length ≤ 1000) (lF : Low w.params F) (lN : Low w.params NH) (hF : HdrAt h F NH) (hN : LstAt h NH arr) (hp : All2 (pRow h) arr.toList rows)
    {R : Result → Shared → Prop} (hQ : ∀ it acc arr' s', But [] h s'.heap → OkS w.params g o s' → @LE.le Nat _ h.objs.size it → @LE.le Nat _ h.objs.size acc → IterAt s'.heap it (.ref acc) 0 → LstAt s'.heap acc arr' → All2 (pOf f12 s'.heap) arr'.toList rows → R (.ok (.ret (.ref it))) s') :
    codeAny (model pw w) A (.call (.ref 143) ⟨[.ref F], []⟩) R ⟨h, g, dr, t, o⟩ := by
  refine rowsH ent143 e143_comp pre143 turn143 ark ok his lF lN hF hN hp fun L d n t₁ b1 b2 b3 hs tk ep sl epa arr' q s₂ hP s1 b₁ ok₂ d₂ a₂ p₂ => ?_
  have arD : ArK 2 (A.deeper (envF 143 L)) := ark.deeper _
  have lo : ∀ j, Low w.params (n + 258 + j) := fun j => Low.high (by omega)
  obtain ⟨hs', tk', ep', d₂⟩ := d₂
  obtain ⟨epb, a₂⟩ := a₂
  obtain ⟨h₂, g₂, dr₂, t₂, o₂⟩ := s₂
  obtain ⟨ok₂, rfl, rfl⟩ := ok₂
  obtain ⟨n₂, hn₂⟩ := ok₂.size
  refine segFin hP arD.weak ok₂ hn₂ [n + 258 + 2, n + 258 + 1] [dctO hs' tk' ep' (kn3 sUnd sName sValue q), lstO arr' epb] 1 40 (low2 (lo 2) (lo 1)) (by simp) ⟨d₂, a₂, trivial⟩ (beh143 w.params b1 b2 b3 L F d NH n t₁ hs tk ep sl arr epa n₂ t₂ hs' tk' ep' q arr' epb) fun out h₃ dr₃ S af => ?_
  obtain ⟨hf, h2⟩ := S
  rw [hf]
  have b₂ : But [n + 258 + 2] h₂ h₃ := af.but
  have t₃ : TupK h₂ h₃ := TupK.of b₂ (fun a m => by rw [List.mem_singleton.mp m]; exact ⟨_, d₂, by simp [dctO]⟩)
  have q1 : @LE.le Nat _ h.objs.size (n₂ + 258) := by have := b₁.size; simp only at this; rw [hn₂] at this; exact this
  refine hQ (n₂ + 258) (n + 258 + 1) arr' _ (b₁.fresh b₂ (fun x m => by rw [List.mem_singleton.mp m]; exact Nat.le_trans s1 (Nat.le_add_right _ _))) af.ok q1 (Nat.le_trans s1 (Nat.le_add_right _ _)) (af.get 2 _ h2) ⟨epb, b₂.keep _ _ a₂ (by simp)⟩ (p₂.imp fun v i x => pOf_keep _ _ _ _ _ t₃ x)
theorem rawN (ark : ArK 3 A) (ok : Okay w.params h) {F NH : Nat} {arr : Array Value} {rows : List Row} (his : rows.length ≤ 1000) (lF : Low w.params F) (lN : Low w.params NH) (hF : HdrAt h F NH) (hN : LstAt h NH arr) (hp : All2 (pRow h) arr.toList rows)
    {R : Result → Shared → Prop} (hQ : ∀ acc arr' s', But [] h s'.heap → OkS w.params g o s' → @LE.le Nat _ h.objs.size acc → LstAt s'.heap acc arr' → All2 (pOf f02 s'.heap) arr'.toList rows → R (.ok (.ret (.ref acc))) s') :
    codeAny (model pw w) A (.call (.ref 162) ⟨[.ref F], []⟩) R ⟨h, g, dr, t, o⟩ := by
  refine rowsH ent162 e162_comp pre162 turn162 ark ok his lF lN hF hN hp fun L d n t₁ b1 b2 b3 hs tk ep sl epa arr' q s₂ hP s1 b₁ ok₂ d₂ a₂ p₂ => ?_
  have arD : ArK 2 (A.deeper (envF 162 L)) := ark.deeper _
  have lo : ∀ j, Low w.params (n + 258 + j) := fun j => Low.high (by omega)
  obtain ⟨hs', tk', ep', d₂⟩ := d₂
  obtain ⟨h₂, g₂, dr₂, t₂, o₂⟩ := s₂
  obtain ⟨ok₂, rfl, rfl⟩ := ok₂
  obtain ⟨n₂, hn₂⟩ := ok₂.size
  refine segFin hP arD.weak ok₂ hn₂ [n + 258 + 2] [dctO hs' tk' ep' (kn3 sRaw sUnd sValue q)] 1 40 (low1 (lo 2)) (by simp) ⟨d₂, trivial⟩ (beh162 w.params b1 b2 b3 L F d NH n t₁ hs tk ep sl arr epa n₂ t₂ hs' tk' ep' q) fun out h₃ dr₃ S af => ?_
  rw [S]
  have b₂ : But [n + 258 + 2] h₂ h₃ := af.but
  have t₃ : TupK h₂ h₃ := TupK.of b₂ (fun a m => by rw [List.mem_singleton.mp m]; exact ⟨_, d₂, by simp [dctO]⟩)
  refine hQ (n + 258 + 1) arr' _ (b₁.fresh b₂ (fun x m => by rw [List.mem_singleton.mp m]; exact Nat.le_trans s1 (Nat.le_add_right _ _))) af.ok (Nat.le_trans s1 (Nat.le_add_right _ _)) (a₂.keep b₂ (by simp)) (p₂.imp fun v i x => pOf_keep _ _ _ _ _ t₃ x)
theorem pyIterH {Q : Value → Shared → Prop} {E : Value → Shared → Prop} (ark : ArK 4 A) (ok : Okay w.params h) {F NH : Nat} {arr : Array Value} {rows : List Row} (his : rows.length ≤ 1000) (lF : Low w.params F) (lN : Low w.params NH) (hF : HdrAt h F NH) (hN : LstAt h NH arr) (hp : All2 (pRow h) arr.toList rows)
    (hQ : ∀ it acc arr' s', But [] h s'.heap → OkS w.params g o s' → @LE.le Nat _ h.objs.size it → @LE.le Nat _ h.objs.size acc → IterAt s'.heap it (.ref acc) 0 → LstAt s'.heap acc arr' → All2 (pOf f12 s'.heap) arr'.toList rows → Q (.ref it) s') :
    wpAny (model pw w) A (pyIter (.ref F)) Q E ⟨h, g, dr, t, o⟩ := by
  have hF0 := hF
  obtain ⟨d, hF, _⟩ := hF
  obtain ⟨n, hn⟩ := ok.size
  obtain ⟨b1, b2, b3, hP⟩ := params_split w.params
  rw [show pyIter (.ref F) = zw8711993805878244202 (.ref F) from by rw [← ze8711993805878244202]]
  refine wpAny_valT (segCall hP ark.weak ok hn [F] [hdrO d NH] 0 20 (low1 lF) (by simp) ⟨hF, trivial⟩ (piR w.params b1 b2 b3 F d NH n t) fun out h' dr' hout S af => ?_)
  subst hout
  rw [S]
  have b₁ : But [] h h' := af.but
  refine iterN (ark.less (by decide)) af.ok his lF lN (hF0.keep b₁) (hN.keep b₁ (fun m => nomatch m)) (hp.imp fun v i x => pRow_keep _ _ _ _ (TupK.nil b₁) x) fun it acc arr' s₂ b₂ ok₂ l1 l2 i₂ a₂ p₂ => ?_
  obtain ⟨h₂, g₂, dr₂, t₂, o₂⟩ := s₂
  obtain ⟨ok₂, rfl, rfl⟩ := ok₂
  obtain ⟨n₂, hn₂⟩ := ok₂.size
  have l1' : @LE.le Nat _ h.objs.size it := Nat.le_trans b₁.size l1
  refine segFin hP ark.weak ok₂ hn₂ [it] [iterO (.ref acc) 0] 0 20 (low1 (highOk ok l1')) (by simp) ⟨i₂, trivial⟩ (pjR w.params b1 b2 b3 F d NH n t n₂ t₂ it acc) fun out h₃ dr₃ S af₃ => ?_
  rw [S]
  have b₃ : But [] h₂ h₃ := af₃.but
  exact hQ it acc arr' _ (b₁.trans (b₂.trans b₃)) af₃.ok l1' (Nat.le_trans b₁.size l2) (b₃.keep _ _ i₂ (fun m => nomatch m)) (a₂.keep b₃ (fun m => nomatch m)) (p₂.imp fun v i x => pOf_keep _ _ _ _ _ (TupK.nil b₃) x)
end
end Mine
end
section
open PySem PySem.W PySem.W.X PySem.Calls PyProof.Rows
set_option maxRecDepth 100000
set_option maxHeartbeats 400000
namespace Mine
theorem txts_at (ts : Nat → Nat) : ∀ (l : List (Array UInt8)) (i j : Nat), (txts ts i l)[j]? = l[j]?.map fun x => Value.bytes x (ts (i + j))
  | [], _, _ => by simp [txts]
  | x :: l, i, 0 => by simp [txts]
  | x :: l, i, j + 1 => by
    have := txts_at ts l (i + 1) j
    simp only [txts, List.getElem?_cons_succ]
    rw [this]
    congr 1
    funext y
    rw [show i + 1 + j = i + (j + 1) by omega]
theorem txts_len (ts : Nat → Nat) : ∀ (l : List (Array UInt8)) (i : Nat), (txts ts i l).length = l.length
  | [], _ => rfl
  | _ :: l, i => congrArg (· + 1) (txts_len ts l (i + 1))
theorem all_eq {α : Type} [DecidableEq α] (l l' : List α) : ((List.range (min l.length l'.length)).all (fun j => decide (l[j]? = l'[j]?)) && l.length == l'.length) = decide (l = l') := by
  rw [Bool.eq_iff_iff]
  simp only [Bool.and_eq_true, List.all_eq_true, List.mem_range, decide_eq_true_eq, beq_iff_eq]
  constructor
  · rintro ⟨h1, h2⟩
    refine List.ext_getElem? fun j => ?_
    rcases Nat.lt_or_ge j (min l.length l'.length) with hj | hj
    · exact h1 j hj
    · rw [List.getElem?_eq_none (by omega), List.getElem?_eq_none (by omega)]
  · rintro rfl
    exact ⟨fun _ _ => rfl, rfl⟩
section
variable {A : Around} {s : Shared}
theorem eqTxt (b c : Array UInt8) (t u : Tok) : SeqAt.EqAt A s (.bytes b t) (.bytes c u) (decide (b = c)) := fun prog w E Q hq => by
  refine eqBool_bytes ?_
  rw [show decide (b.toList = c.toList) = decide (b = c) from by rw [Bool.eq_iff_iff]; simp [Array.toList_inj]]
  exact hq
theorem isTup {h : Heap} {a : Nat} {l : List Value} {ep : Nat} (e : h.get? a = some (tupO l ep)) : h.IsTuple a l.toArray := ⟨_, e, rfl, ep, rfl⟩
theorem eqTup {v v' : Value} {l l' : List (Array UInt8)} (x : TupAt s.heap v l) (y : TupAt s.heap v' l') (hu : A.units < cLine) : SeqAt.EqAt A s v v' (decide (l = l')) := by
  obtain ⟨a, ts, ep, rfl, _, ha⟩ := x
  obtain ⟨b, ts', ep', rfl, _, hb⟩ := y
  by_cases e : a = b
  · subst e
    rw [ha] at hb
    have hl : l = l' := by
      injection hb with hb
      have h1 : (txts ts 0 l).toArray = (txts ts' 0 l').toArray := by
        have := congrArg Obj.data hb
        simp only [tupO] at this
        injection this
      have h2 : txts ts 0 l = txts ts' 0 l' := by simpa using h1
      refine List.ext_getElem? fun j => ?_
      have := congrArg (fun z => z[j]?) h2
      simp only [txts_at] at this
      revert this
      cases l[j]? <;> cases l'[j]? <;> simp
      intro h _; exact h
    subst hl
    rw [decide_eq_true rfl]
    exact .same _
  · refine .of_refs e ?_
    have := SeqAt.RcAt.tuples (A := A) (s := s) (e := fun j => decide (l[j]? = l'[j]?)) (isTup ha) (isTup hb) hu (fun j h1 h2 => ?_)
    · simp only [List.size_toArray, txts_len] at this
      rw [all_eq] at this
      exact this
    · have g1 : j < l.length := by simpa [txts_len] using h1
      have g2 : j < l'.length := by simpa [txts_len] using h2
      have e1 : (txts ts 0 l).toArray[j] = .bytes l[j] (ts (0 + j)) := by
        have := txts_at ts l 0 j
        rw [List.getElem?_eq_getElem (by rw [txts_len]; exact g1), List.getElem?_eq_getElem g1] at this
        simpa using this
      have e2 : (txts ts' 0 l').toArray[j] = .bytes l'[j] (ts' (0 + j)) := by
        have := txts_at ts' l' 0 j
        rw [List.getElem?_eq_getElem (by rw [txts_len]; exact g2), List.getElem?_eq_getElem g2] at this
        simpa using this
      rw [e1, e2]
      have := eqTxt (A := A.in1) (s := s) l[j] l'[j] (ts (0 + j)) (ts' (0 + j))
      rw [show decide (l[j]? = l'[j]?) = decide (l[j] = l'[j]) from by rw [List.getElem?_eq_getElem g1, List.getElem?_eq_getElem g2]; simp]
      exact this
theorem eqLst {x y : Nat} {arr arr' : Array Value} {ls ls' : List (List (Array UInt8))} (hx : LstAt s.heap x arr) (hy : LstAt s.heap y arr') (px : All2 (TupAt s.heap) arr.toList ls) (py : All2 (TupAt s.heap) arr'.toList ls') (hu : A.units + 1 < cLine) :
    SeqAt.RcAt A s (.ref x) (.ref y) (decide (ls = ls')) := by
  have l1 := px.len
  have l2 := py.len
  simp only [Array.length_toList] at l1 l2
  by_cases hs : arr.size = arr'.size
  · have := SeqAt.RcAt.lists (A := A) (s := s) (e := fun j => decide (ls[j]? = ls'[j]?)) hx.isList hy.isList hs (Nat.lt_of_succ_lt hu) (fun j h1 h2 => ?_)
    · have e := all_eq ls ls'
      rw [← l1, ← l2, ← hs, Nat.min_self, beq_self_eq_true, Bool.and_true] at e
      rw [e] at this
      exact this
    · obtain ⟨v, hv, p⟩ := px.at (k := j) (List.getElem?_eq_getElem (by omega))
      obtain ⟨v', hv', p'⟩ := py.at (k := j) (List.getElem?_eq_getElem (by omega))
      have e1 : arr[j] = v := by have := Array.getElem?_toList (xs := arr) (i := j); rw [hv] at this; simpa [h1] using this.symm
      have e2 : arr'[j] = v' := by have := Array.getElem?_toList (xs := arr') (i := j); rw [hv'] at this; simpa [h2] using this.symm
      rw [e1, e2]
      have := eqTup (A := A.in1) p p' hu
      rw [show decide (ls[j]? = ls'[j]?) = decide (ls[j]'(by omega) = ls'[j]'(by omega)) from by rw [List.getElem?_eq_getElem (by omega), List.getElem?_eq_getElem (by omega)]; simp]
      exact this
  · have := SeqAt.RcAt.lists_lengths (A := A) (s := s) hx.isList hy.isList (by simpa using hs) (Nat.lt_of_succ_lt hu)
    rw [decide_eq_false (fun e => hs (by rw [l1, l2, e]))]
    exact this
end
theorem All2.map {α β γ : Type} {p : α → γ → Prop} {f : β → γ} : ∀ {l : List α} {m : List β}, All2 (fun a b => p a (f b)) l m → All2 p l (m.map f)
  | [], [], _ => trivial
  | _ :: _, _ :: _, x => ⟨x.1, x.2.map⟩
  | [], _ :: _, x => x.elim
  | _ :: _, [], x => x.elim
end Mine
end
section
open PySem PySem.W PySem.W.X PySem.Calls PyProof.Rows
set_option maxRecDepth 100000
set_option maxHeartbeats 4000000
namespace Mine
open PySem.W.ZFast
theorem isE (P : Params) (b1 b2 b3 : Bool) (n t F R : Nat) : FinK (outR (mkP P b1 b2 b3) n t 0 [] 20 1103823437824 1000 (enterT (.call (.ref 252) ⟨[.ref F, .ref R], []⟩))) [] n 0 []
    (fun o => finOf o = .again (.func (bodyF 252) (envF 252 (n + 258))) ∧ tget (tabOf o) 0 = some (frm (hsOf (objAt o 0)) (tkOf (objAt o 0)) (epOf (objAt o 0)) #[] (locIs F R))) := by
  refine ⟨⟨?_, ?_, ?_, ?_⟩, ?_, ?_, ?_⟩
  all_goals first | exact True.intro | (show _ = _; kernel_rfl)
noncomputable abbrev outRA (P : Params) (L F R d NH n t : Nat) (hs : Nat → Int) (tk : Nat → Nat) (ep : Nat) (sl : Array (Option Value)) (hs' : Nat → Int) (tk' : Nat → Nat) (ep' : Nat) : Out :=
  outR P n t 3 [frm hs tk ep sl (locIs F R), hdrO d NH, dctO hs' tk' ep' []] 40 3998068581071826718701450111813157377 0 (valT (evalZ (subE eIs [0, 0]) (envF 252 L)))
theorem rawA (P : Params) (b1 b2 b3 : Bool) (L F R d NH n t : Nat) (hs : Nat → Int) (tk : Nat → Nat) (ep : Nat) (sl : Array (Option Value)) (hs' : Nat → Int) (tk' : Nat → Nat) (ep' : Nat) :
    CallK (outRA (mkP P b1 b2 b3) L F R d NH n t hs tk ep sl hs' tk' ep') [L, F, d] n 0 [frm hs tk ep sl (locIs F R), hdrO d NH, dctO hs' tk' ep' []] (fun o => codeOf o = .call (.ref 162) ⟨[.ref F], []⟩) := by
  cases b1 <;> refine ⟨⟨?_, ?_, ?_, ?_, ?_⟩, ⟨?_, ?_, ?_, ?_⟩, ?_⟩
  all_goals first | exact True.intro | (show _ = _; kernel_rfl)
theorem rawB (P : Params) (b1 b2 b3 : Bool) (L F R d NH n t n' t' x : Nat) (hs : Nat → Int) (tk : Nat → Nat) (ep : Nat) (sl : Array (Option Value)) (hs' : Nat → Int) (tk' : Nat → Nat) (ep' : Nat) :
    FinK (outR (mkP P b1 b2 b3) n' t' 0 [] 10 0 1000 (treeOf (outRA (mkP P b1 b2 b3) L F R d NH n t hs tk ep sl hs' tk' ep') (.ok (.ret (.ref x))))) [] n' 0 [] (fun o => finOf o = .done (.ret (.ref x))) := by
  cases b1 <;> refine ⟨⟨?_, ?_, ?_, ?_⟩, ?_, ?_⟩
  all_goals first | exact True.intro | (show _ = _; kernel_rfl)
noncomputable abbrev outI2 (P : Params) (L F R d NH n t : Nat) (hs : Nat → Int) (tk : Nat → Nat) (ep : Nat) (sl : Array (Option Value)) : Out :=
  outR P n t 2 [frm hs tk ep sl (locIs F R), hdrO d NH] 30 2199023256065 0 (valT (evalZ eIs2 (envF 252 L)))
theorem is2A (P : Params) (b1 b2 b3 : Bool) (L F R d NH n t : Nat) (hs : Nat → Int) (tk : Nat → Nat) (ep : Nat) (sl : Array (Option Value)) :
    CallK (outI2 (mkP P b1 b2 b3) L F R d NH n t hs tk ep sl) [L, F] n 0 [frm hs tk ep sl (locIs F R), hdrO d NH] (fun o => codeOf o = .call (.ref 143) ⟨[.ref F], []⟩) := by
  cases b1 <;> refine ⟨⟨?_, ?_, ?_, ?_, ?_⟩, ⟨?_, ?_, ?_⟩, ?_⟩
  all_goals first | exact True.intro | (show _ = _; kernel_rfl)
noncomputable abbrev outI3 (P : Params) (L F R d NH n t n' t' it lst : Nat) (hs : Nat → Int) (tk : Nat → Nat) (ep : Nat) (sl : Array (Option Value)) : Out :=
  outR P n' t' 1 [iterO (.ref lst) 0] 30 65793 0 (treeOf (outI2 P L F R d NH n t hs tk ep sl) (.ok (.ret (.ref it))))
theorem is2B (P : Params) (b1 b2 b3 : Bool) (L F R d NH n t n' t' it lst : Nat) (hs : Nat → Int) (tk : Nat → Nat) (ep : Nat) (sl : Array (Option Value)) :
    CallK (outI3 (mkP P b1 b2 b3) L F R d NH n t n' t' it lst hs tk ep sl) [it] n' 0 [iterO (.ref lst) 0] (fun o => codeOf o = .compStart eIs2 0 (.ref it) (.ref (n' + 258)) (cenvF 252 eIs2 L (n' + 258 + 1)) ∧ numOf o = 2 ∧
      tget (tabOf o) 1 = some (lstO #[] (epOf (objAt o 1))) ∧ tget (tabOf o) 2 = some (dctO (fun _ => 0) (fun _ => 0) 0 [])) := by
  cases b1 <;> refine ⟨⟨?_, ?_, ?_, ?_, ?_⟩, ⟨?_, ?_⟩, ?_, ?_, ?_, ?_⟩
  all_goals first | exact True.intro | (show _ = _; kernel_rfl)
theorem is2C (P : Params) (b1 b2 b3 : Bool) (L F R d NH n t n' t' it lst n'' t'' : Nat) (hs : Nat → Int) (tk : Nat → Nat) (ep : Nat) (sl : Array (Option Value)) (hs' : Nat → Int) (tk' : Nat → Nat) (ep' : Nat) (q : Option Value) :
    FinK (outR (mkP P b1 b2 b3) n'' t'' 1 [dctO hs' tk' ep' (kn1 sPair q)] 20 65793 1000 (treeOf (outI3 (mkP P b1 b2 b3) L F R d NH n t n' t' it lst hs tk ep sl) (.ok .next))) [n' + 258 + 1] n'' 1 [dctO hs' tk' ep' (kn1 sPair q)] (fun o => finOf o = .done (.ret (.ref (n' + 258)))) := by
  cases b1 <;> cases q <;> refine ⟨⟨?_, ?_, ?_, ?_⟩, ?_, ?_⟩
  all_goals first | exact True.intro | (show _ = _; kernel_rfl)
theorem is2_turn (L : Nat) : TurnKI 252 eIs2 L sPair := by
  intro P b1 b2 b3 n t D tp it hs tk ep q
  cases b1 <;> cases q <;> refine ⟨⟨?_, ?_, ?_, ?_⟩, ?_, ?_, ?_⟩
  all_goals first | exact True.intro | (show _ = _; kernel_rfl)
def posC : Expr → Pos | .Compare _ _ _ p => p | _ => pos0
theorem bodyIs : bodyF 252 = [.Return (some (.BoolOp .And [.Compare (subE eIs [0, 0]) [.Eq] [eIs1] (posC (subE eIs [0])), .Compare eIs2 [.Eq] [eIs3] (posC (subE eIs [1]))] (posE eIs))) (posS (nthSt (bodyF 252) 0))] := by kernel_rfl
theorem eqMarks (r : Expr) : behindInMarks .Eq r = false := by cases r <;> simp [behindInMarks]
theorem neMarks (r : Expr) : behindInMarks .NotEq r = false := by cases r <;> simp [behindInMarks]
end Mine
end
section
open PySem PySem.W PySem.W.X PySem.Calls PyProof.Rows
set_option maxRecDepth 100000
set_option maxHeartbeats 400000
namespace Mine
open PySem.W.ZFast
section
variable {w : World} {A : Around} {h : Heap} {g : Array GenState} {dr : Drawn} {t : Nat} {o : OsState}
theorem pf_map (f : Row → List (Array UInt8)) {h : Heap} {arr : Array Value} {rows : List Row} (x : All2 (pOf f h) arr.toList rows) : All2 (TupAt h) arr.toList (rows.map f) := All2.map x
theorem isRaw {Q : Value → Shared → Prop} {E : Value → Shared → Prop} (ark : ArK 4 A) (ok : Okay w.params h) {L F R NH : Nat} {arr : Array Value} {rows : List Row} (his : rows.length ≤ 1000) (lL : Low w.params L) (lF : Low w.params F) (lN : Low w.params NH)
    (hL : LocAt h L (locIs F R)) (hF : HdrAt h F NH) (hN : LstAt h NH arr) (hp : All2 (pRow h) arr.toList rows)
    (hQ : ∀ acc arr' s', But [] h s'.heap → OkS w.params g o s' → LstAt s'.heap acc arr' → All2 (TupAt s'.heap) arr'.toList (rows.map f02) → Q (.ref acc) s') : wpAny (model pw w) A (eval (subE eIs [0, 0]) (envF 252 L)) Q E ⟨h, g, dr, t, o⟩ := by
  have hF0 := hF
  obtain ⟨hs, tk, ep, sl, hL⟩ := hL
  obtain ⟨d, hF, hd, hs', tk', ep', hD⟩ := hF
  obtain ⟨n, hn⟩ := ok.size
  obtain ⟨b1, b2, b3, hP⟩ := params_split w.params
  have n1 : L ≠ F := ne_cls hL hF (by simp [frm, hdrO])
  have n2 : L ≠ d := ne_cls hL hD (by simp [frm, dctO])
  have n3 : F ≠ d := ne_cls hF hD (by simp [hdrO, dctO])
  rw [eval_zf]
  refine wpAny_valT (segCall hP ark.weak ok hn [L, F, d] [frm hs tk ep sl (locIs F R), hdrO d NH, dctO hs' tk' ep' []] 0 40 (low3 lL lF (Low.high hd)) (by simp [n1, n2, n3]) ⟨hL, hF, hD, trivial⟩ (rawA w.params b1 b2 b3 L F R d NH n t hs tk ep sl hs' tk' ep') fun out h' dr' hout S af => ?_)
  subst hout
  rw [S]
  have b₁ : But [] h h' := af.but
  refine rawN (ark.less (by decide)) af.ok his lF lN (hF0.keep b₁) (hN.keep b₁ (fun m => nomatch m)) (hp.imp fun v i x => pRow_keep _ _ _ _ (TupK.nil b₁) x) fun acc arr' s₂ b₂ ok₂ hle a₂ p₂ => ?_
  obtain ⟨h₂, g₂, dr₂, t₂, o₂⟩ := s₂
  obtain ⟨ok₂, rfl, rfl⟩ := ok₂
  obtain ⟨n₂, hn₂⟩ := ok₂.size
  refine segFin hP ark.weak ok₂ hn₂ [] [] 0 10 low0 (by simp) trivial (rawB w.params b1 b2 b3 L F R d NH n t n₂ t₂ acc hs tk ep sl hs' tk' ep') fun out h₃ dr₃ S af₃ => ?_
  rw [S]
  have b₃ : But [] h₂ h₃ := af₃.but
  exact hQ acc arr' _ (b₁.trans (b₂.trans b₃)) af₃.ok (a₂.keep b₃ (fun m => nomatch m)) (pf_map f02 (p₂.imp fun v i x => pOf_keep _ _ _ _ _ (TupK.nil b₃) x))
theorem isPairs {Q : Value → Shared → Prop} {E : Value → Shared → Prop} (ark : ArK 4 A) (ok : Okay w.params h) {L F R NH : Nat} {arr : Array Value} {rows : List Row} (his : rows.length ≤ 1000) (lL : Low w.params L) (lF : Low w.params F) (lN : Low w.params NH)
    (hL : LocAt h L (locIs F R)) (hF : HdrAt h F NH) (hN : LstAt h NH arr) (hp : All2 (pRow h) arr.toList rows)
    (hQ : ∀ acc arr' s', But [] h s'.heap → OkS w.params g o s' → LstAt s'.heap acc arr' → All2 (TupAt s'.heap) arr'.toList (rows.map f12) → Q (.ref acc) s') : wpAny (model pw w) A (eval eIs2 (envF 252 L)) Q E ⟨h, g, dr, t, o⟩ := by
  have hF0 := hF
  obtain ⟨hs, tk, ep, sl, hL⟩ := hL
  obtain ⟨d, hF, _⟩ := hF
  obtain ⟨n, hn⟩ := ok.size
  obtain ⟨b1, b2, b3, hP⟩ := params_split w.params
  have n1 : L ≠ F := ne_cls hL hF (by simp [frm, hdrO])
  rw [eval_zf]
  refine wpAny_valT (segCall hP ark.weak ok hn [L, F] [frm hs tk ep sl (locIs F R), hdrO d NH] 0 30 (low2 lL lF) (by simp [n1]) ⟨hL, hF, trivial⟩ (is2A w.params b1 b2 b3 L F R d NH n t hs tk ep sl) fun out h' dr' hout S af => ?_)
  subst hout
  rw [S]
  have b₁ : But [] h h' := af.but
  refine iterN (ark.less (by decide)) af.ok his lF lN (hF0.keep b₁) (hN.keep b₁ (fun m => nomatch m)) (hp.imp fun v i x => pRow_keep _ _ _ _ (TupK.nil b₁) x) fun it lst arr' s₂ b₂ ok₂ le1 le2 i₂ a₂ p₂ => ?_
  obtain ⟨h₂, g₂, dr₂, t₂, o₂⟩ := s₂
  obtain ⟨ok₂, rfl, rfl⟩ := ok₂
  obtain ⟨n₂, hn₂⟩ := ok₂.size
  have lit : Low w.params it := highOk af.ok le1
  refine segCall hP ark.weak ok₂ hn₂ [it] [iterO (.ref lst) 0] 0 30 (low1 lit) (by simp) ⟨i₂, trivial⟩ (is2B w.params b1 b2 b3 L F R d NH n t n₂ t₂ it lst hs tk ep sl) fun out h₃ dr₃ hout S af₃ => ?_
  subst hout
  obtain ⟨hc, hnum, l1, d2⟩ := S
  have hc := hc.trans (congrArg (fun z => Code.compStart z 0 (.ref it) (.ref (n₂ + 258)) (cenvF 252 eIs2 L (n₂ + 258 + 1))) eIs2_comp)
  rw [hc]
  have b₃ : But [] h₂ h₃ := af₃.but
  have lo : ∀ j, Low w.params (n₂ + 258 + j) := fun j => Low.high (by omega)
  have a₃ : LstAt h₃ lst arr' := a₂.keep b₃ (fun m => nomatch m)
  have hne : n₂ + 258 ≠ lst := fun e => by
    obtain ⟨_, q⟩ := a₂
    have := Heap.lt_size q
    rw [hn₂, ← e] at this
    exact absurd this (Nat.lt_irrefl _)
  refine compG (DOK := fun l => ∃ q, l = kn1 sPair q) (pin := pOf f12) (pout := pOf f12) (cenv := fun D => cenvF 252 eIs2 L D) (pOf_keep f12) (pOf_keep f12)
    (fun ar ok li lD hq hD hp hi hQ => turnId (lst := 0) (k := 0) (is2_turn L) (pOf_keep f12) (fun _ _ _ x => let ⟨a, _, _, e, _⟩ := x; ⟨a, e⟩) ar ok lD hq hD hp hQ)
    ark.weak af₃.ok his ⟨none, rfl⟩ lit (lo 0) (lo 1) (by rw [af₃.size, hnum]) (b₃.keep _ _ i₂ (fun m => nomatch m)) a₃.isList (p₂.imp fun v i x => pOf_keep _ _ _ _ _ (TupK.nil b₃) x) ⟨_, af₃.get 1 _ l1⟩ ⟨_, _, _, af₃.get 2 _ d2⟩ hne fun arr'' l s₄ hq b₄ ok₄ d₄ a₄ p₄ => ?_
  obtain ⟨q, rfl⟩ := hq
  obtain ⟨hs', tk', ep', d₄⟩ := d₄
  obtain ⟨h₄, g₄, dr₄, t₄, o₄⟩ := s₄
  obtain ⟨ok₄, rfl, rfl⟩ := ok₄
  obtain ⟨n₄, hn₄⟩ := ok₄.size
  refine segFin hP ark.weak ok₄ hn₄ [n₂ + 258 + 1] [dctO hs' tk' ep' (kn1 sPair q)] 1 20 (low1 (lo 1)) (by simp) ⟨d₄, trivial⟩ (is2C w.params b1 b2 b3 L F R d NH n t n₂ t₂ it lst n₄ t₄ hs tk ep sl hs' tk' ep' q) fun out h₅ dr₅ S af₅ => ?_
  rw [S]
  have b₅ : But [n₂ + 258 + 1] h₄ h₅ := af₅.but
  have t₅ : TupK h₄ h₅ := TupK.of b₅ (fun a m => by rw [List.mem_singleton.mp m]; exact ⟨_, d₄, by simp [dctO]⟩)
  have b12 : But [] h h₂ := b₁.trans b₂
  have sz : @LE.le Nat _ h.objs.size (n₂ + 258) := by have := b12.size; rw [hn₂] at this; exact this
  have le1' : @LE.le Nat _ h.objs.size it := Nat.le_trans b₁.size le1
  refine hQ (n₂ + 258) arr'' _ (((b12.trans b₃).fresh b₄ (fun x m => ?_)).fresh b₅ (fun x m => by rw [List.mem_singleton.mp m]; exact Nat.le_trans sz (Nat.le_add_right _ _))) af₅.ok (a₄.keep b₅ (by simp)) (pf_map f12 (p₄.imp fun v i x => pOf_keep _ _ _ _ _ t₅ x))
  simp only [List.mem_cons, List.not_mem_nil, or_false] at m
  rcases m with rfl | rfl | rfl <;> first | exact le1' | exact sz | exact Nat.le_trans sz (Nat.le_add_right _ _)
theorem isRows1 {Q : Value → Shared → Prop} {E : Value → Shared → Prop} (ar : Ar A) (ok : Okay w.params h) {L F R : Nat} {arr : Array Value} {rows : List Row} (his : rows.length ≤ 1000) (lL : Low w.params L) (lR : Low w.params R)
    (hL : LocAt h L (locIs F R)) (hN : LstAt h R arr) (hp : All2 (pRow h) arr.toList rows)
    (hQ : ∀ acc arr' s', But [] h s'.heap → OkS w.params g o s' → LstAt s'.heap acc arr' → All2 (TupAt s'.heap) arr'.toList (rows.map f02) → Q (.ref acc) s') : wpAny (model pw w) A (eval eIs1 (envF 252 L)) Q E ⟨h, g, dr, t, o⟩ :=
  evalCompG (kn := kn1 sRow) (pin := pRow) (pout := pOf f02) eIs1_comp rfl pRow_keep (pOf_keep f02) (fun ar ok li lD hq hD hp hi hQ => turnRow1 (lst := 0) (k := 0) (is1_turn L) ar ok lD hq hD hp hQ) (is1_pre F L R) (is1_beh F L R) ar ok lL lR hL his hN hp
    fun acc arr' s' b ok' _ a p => hQ acc arr' s' b ok' a (pf_map f02 p)
theorem isRows3 {Q : Value → Shared → Prop} {E : Value → Shared → Prop} (ar : Ar A) (ok : Okay w.params h) {L F R : Nat} {arr : Array Value} {rows : List Row} (his : rows.length ≤ 1000) (lL : Low w.params L) (lR : Low w.params R)
    (hL : LocAt h L (locIs F R)) (hN : LstAt h R arr) (hp : All2 (pRow h) arr.toList rows)
    (hQ : ∀ acc arr' s', But [] h s'.heap → OkS w.params g o s' → LstAt s'.heap acc arr' → All2 (TupAt s'.heap) arr'.toList (rows.map f12) → Q (.ref acc) s') : wpAny (model pw w) A (eval eIs3 (envF 252 L)) Q E ⟨h, g, dr, t, o⟩ :=
  evalCompG (kn := kn1 sRow) (pin := pRow) (pout := pOf f12) eIs3_comp rfl pRow_keep (pOf_keep f12) (fun ar ok li lD hq hD hp hi hQ => turnRow1 (lst := 0) (k := 0) (is3_turn L) ar ok lD hq hD hp hQ) (is3_pre F L R) (is3_beh F L R) ar ok lL lR hL his hN hp
    fun acc arr' s' b ok' _ a p => hQ acc arr' s' b ok' a (pf_map f12 p)
theorem tups_keep {h h' : Heap} {l : List Value} {m : List (List (Array UInt8))} (x : All2 (TupAt h) l m) (k : TupK h h') : All2 (TupAt h') l m := x.imp fun _ _ y => y.keepT k
structure RowsAt (w : World) (h : Heap) (R : Nat) (rows : List Row) : Prop where
  low : @LE.le Nat _ 258 R
  at_ : ∃ arr, LstAt h R arr ∧ All2 (pRow h) arr.toList rows
theorem RowsAt.keep {w : World} {h h' : Heap} {R : Nat} {rows : List Row} (x : RowsAt w h R rows) (b : But [] h h') : RowsAt w h' R rows := ⟨x.low, let ⟨arr, a, p⟩ := x.at_; ⟨arr, a.keep b (fun m => nomatch m), p.imp fun _ _ y => pRow_keep _ _ _ _ (TupK.nil b) y⟩⟩
def HdrIs (w : World) (h : Heap) (F : Nat) (rows : List Row) : Prop := @LE.le Nat _ 258 F ∧ ∃ NH, HdrAt h F NH ∧ RowsAt w h NH rows
theorem HdrIs.keep {w : World} {h h' : Heap} {F : Nat} {rows : List Row} (x : HdrIs w h F rows) (b : But [] h h') : HdrIs w h' F rows := let ⟨l, NH, q, r⟩ := x; ⟨l, NH, q.keep b, r.keep b⟩
theorem lawIs (ark : ArK 6 A) (hu : A.units + 8 < cLine) (ok : Okay w.params h) {F R : Nat} {rows : List Row} (his : rows.length ≤ 1000) (hF : HdrIs w h F rows) (hR : RowsAt w h R rows)
    {Y : Result → Shared → Prop} (hQ : ∀ s', But [] h s'.heap → OkS w.params g o s' → Y (.ok (.ret (.bool true))) s') : codeAny (model pw w) A (.call (.ref 252) ⟨[.ref F, .ref R], []⟩) Y ⟨h, g, dr, t, o⟩ := by
  obtain ⟨n, hn⟩ := ok.size
  obtain ⟨b1, b2, b3, hP⟩ := params_split w.params
  refine codeAny_enter (fun _ => Nat.lt_of_le_of_lt ark.weak.deep (by decide)) ?_
  refine segFin hP (A := A.under (.call (.ref 252) ⟨[.ref F, .ref R], []⟩)) ⟨ark.weak.deep, ark.handled⟩ ok hn [] [] 0 20 low0 (by simp) trivial (isE w.params b1 b2 b3 n t F R) fun out h₁ dr₁ S af => ?_
  obtain ⟨hf, h0⟩ := S
  rw [hf]
  refine ⟨af.ok.nolimit, rfl, ?_⟩
  have l1 : LocAt h₁ (n + 258) (locIs F R) := ⟨_, _, _, _, af.get 0 _ h0⟩
  generalize hLd : n + 258 = L at l1
  have hL : @LE.le Nat _ h.objs.size L := by omega
  have lL : Low w.params L := highOk ok hL
  have b₁ : But [] h h₁ := af.but
  have arD : ArK 5 (A.deeper (envF 252 L)) := ark.deeper _
  have huD : (A.deeper (envF 252 L)).units + 1 < cLine := by show A.units + 3 + 1 < cLine; omega
  refine codeAny_func ?_
  rw [bodyIs]
  refine wpAny_execs_cons (wpAny_Return_some (wpAny_And2 (wpAny_Compare1 ?_ (eqMarks _))))
  obtain ⟨lF, NH, hd, hN⟩ := hF.keep b₁
  obtain ⟨lN, arr, aN, pN⟩ := hN
  have R₁ := hR.keep b₁
  refine isRaw (arD.less (by decide)) af.ok his lL (Low.high lF) (Low.high lN) l1 hd aN pN fun acc arr' s₂ b₂ ok₂ a₂ p₂ => ?_
  obtain ⟨lR, arrR, aR, pR⟩ := R₁.keep b₂
  obtain ⟨h₂, g₂, dr₂, t₂, o₂⟩ := s₂
  obtain ⟨ok₂, rfl, rfl⟩ := ok₂
  refine isRows1 arD.weak ok₂ his lL (Low.high lR) (l1.keep b₂) aR pR fun acc' arr'' s₃ b₃ ok₃ a₃ p₃ => ?_
  have e := eqLst (A := A.deeper (envF 252 L)) (s := s₃) (a₂.keep b₃ (fun m => nomatch m)) a₃ (tups_keep p₂ (TupK.nil b₃)) p₃ huD
  rw [decide_eq_true rfl] at e
  refine e pw w _ _ (wpAny_truthy_bool ?_)
  simp only [if_true]
  have b13 := b₂.trans b₃
  obtain ⟨h₃, g₃, dr₃, t₃, o₃⟩ := s₃
  obtain ⟨ok₃, rfl, rfl⟩ := ok₃
  refine wpAny_Compare1 ?_ (eqMarks _)
  refine isPairs (arD.less (by decide)) ok₃ his lL (Low.high lF) (Low.high lN) (l1.keep b13) (hd.keep b13) (aN.keep b13 (fun m => nomatch m)) (pN.imp fun v i x => pRow_keep _ _ _ _ (TupK.nil b13) x) fun acc₄ arr₄ s₄ b₄ ok₄ a₄ p₄ => ?_
  obtain ⟨_, arrR', aR', pR'⟩ := (R₁.keep b13).keep b₄
  obtain ⟨h₄, g₄, dr₄, t₄, o₄⟩ := s₄
  obtain ⟨ok₄, rfl, rfl⟩ := ok₄
  refine isRows3 arD.weak ok₄ his lL (Low.high lR) ((l1.keep b13).keep b₄) aR' pR' fun acc₅ arr₅ s₅ b₅ ok₅ a₅ p₅ => ?_
  have e := eqLst (A := A.deeper (envF 252 L)) (s := s₅) (a₄.keep b₅ (fun m => nomatch m)) a₅ (tups_keep p₄ (TupK.nil b₅)) p₅ huD
  rw [decide_eq_true rfl] at e
  refine e pw w _ _ ?_
  exact hQ _ (b₁.trans (b13.trans (b₄.trans b₅))) ok₅
end
end Mine
end
section
open PySem PySem.W PySem.W.X PySem.Calls PyProof.Rows
set_option maxRecDepth 100000
set_option maxHeartbeats 4000000
namespace Mine
open PySem.W.ZFast
noncomputable def eS1 : Expr := subE (ifTest (nthSt (bodyF 235) 0)) [1, 0]
noncomputable def eS2 : Expr := subE (ifTest (nthSt (bodyF 235) 1)) [0]
def locS (nm vl : Array UInt8) (t1 t2 : Nat) : List (Str × Value) := [(sName, .bytes nm t1), (sValue, .bytes vl t2)]
def repN : Nat → Nat
  | 0 => 0
  | 1 => 1
  | 2 => 2
  | 3 => 3
  | 4 => 4
  | 5 => 5
  | 6 => 6
  | 7 => 7
  | 8 => 6
  | 9 => 9
  | 10 => 6
  | 11 => 6
  | 12 => 12
  | 13 => 13
  | 14 => 12
  | 15 => 15
  | _ => 0
def repV : Nat → Nat
  | 0 => 0
  | 1 => 1
  | 2 => 2
  | 3 => 3
  | 4 => 4
  | 5 => 5
  | 6 => 6
  | 7 => 7
  | 8 => 8
  | 9 => 9
  | 10 => 10
  | 11 => 11
  | 12 => 12
  | 13 => 13
  | 14 => 14
  | 15 => 15
  | _ => 0
def oraS1t : Nat → Nat
  | 0 => 1502446653118630491933894727330733930483409278337537
  | 1 => 3879692686847667426979175834073250140217611207572890929599014947666901919490217452622315557596499915785512220005266853699254616055321888951470906259587380446980551970259457
  | 2 => 2414338686365917655345303420923257516500086722485444715875627859280633636035406438310561976749393145415961018881
  | 3 => 1502446653118630491933894727330733930483409278337537
  | 4 => 1502446653118630491933894727330733930483409278337537
  | 5 => 19000291076266514317825
  | 6 => 17700867498365585800111412395731252828984893278223179240434850786803017284928957408188096336408430262768481097275225894253238626206807550182873305509229700518492309657236136359437712369640764503968302859688613020648334065171278320928479968892640890416520078674306742537924600280345542108946986155299563664047343750837978212119738913555322783463244823652247057596929
  | 7 => 17700867498365585800111412395731252828984893278223179240434850786803017284928957408188096336408430262768481097275225894253238626206807550182873305509229700518492309657236136359437712369640764503968302859688613020648334065171278320928479968892640890416520078674306742537924600280345542108946986155299563664047343750837978212119738913555322783463244823652247057596929
  | 9 => 17700867498365585800111412395731252828984893278223179240434850786803017284928957408188096336408430262768481097275225894253238626206807550182873305509229700518492309657236136359437712369640764503968302859688613020648334065171278320928479968892640890416520078674306742537924600280345542108946986155299563664047343750837978212119738913555322783463244823652247057596929
  | 12 => 31274725783518337950325016736780822550812401803850168788784441319702781345223798832726137481294782998036526915807328919728462216605423165147103933389066612939053351317163786539798384401341596387285226314366939101065440003964033651130283178155930873149272646685506568902996128730096532956183369079268267633791797884749859618544764527065792473116867065674179228357352450622131884221601676300662501142354066923376844295769312385720381473281
  | 13 => 31274725783518337950325016736780822550812401803850168788784441319702781345223798832726137481294782998036526915807328919728462216605423165147103933389066612939053351317163786539798384401341596387285226314366939101065440003964033651130283178155930873149272646685506568902996128730096532956183369079268267633791797884749859618544764527065792473116867065674179228357352450622131884221601676300662501142354066923376844295769312385720381473281
  | 15 => 1502446653118630491933894727330733930483409278337537
  | _ => 0
def oraS1f : Nat → Nat
  | 0 => 6452959239129174371164469647792339607103780321042686992843265
  | 1 => 16663153208541100932760028280378131820662054459768634078802807594044495245850108950941274759668971502365529135530978084391115195534644039799511273480409485474091332660292736778371585
  | 2 => 10369505699409217418737077780062313159154052854238812890701833659076811552929637750611705181519755947408124892509062169089
  | 3 => 6452959239129174371164469647792339607103780321042686992843265
  | 4 => 6452959239129174371164469647792339607103780321042686992843265
  | 5 => 81605628787045320774978453504513
  | 6 => 76024647016309524463360509396034740905597597508018783826813804947958827632892585751544796381371622077287312732391289926830014241642206960601319666473558189878798713205334175413181475576661746812981523002985869667284367526793373026901613821384989959411273556033494494672678197917956534937318174534776403020153272405519089015814829469778682441698326135627688389291042733687297
  | 7 => 76024647016309524463360509396034740905597597508018783826813804947958827632892585751544796381371622077287312732391289926830014241642206960601319666473558189878798713205334175413181475576661746812981523002985869667284367526793373026901613821384989959411273556033494494672678197917956534937318174534776403020153272405519089015814829469778682441698326135627688389291042733687297
  | 9 => 76024647016309524463360509396034740905597597508018783826813804947958827632892585751544796381371622077287312732391289926830014241642206960601319666473558189878798713205334175413181475576661746812981523002985869667284367526793373026901613821384989959411273556033494494672678197917956534937318174534776403020153272405519089015814829469778682441698326135627688389291042733687297
  | 12 => 134323924431579237312921619455126273175718563978747881831909107061754526317975101787441735006560904711983715316816223147348754420691960630547618423019003546538724585106416986663959063437398695007821797244164618382699703572875634891848039685398664688612850543701613510631538969310370619969793771174554841097711076388042624202240798755768485512359903233050083977437344576567511296530637616450123705539973357888498884134013347857076775828390521471489
  | 13 => 134323924431579237312921619455126273175718563978747881831909107061754526317975101787441735006560904711983715316816223147348754420691960630547618423019003546538724585106416986663959063437398695007821797244164618382699703572875634891848039685398664688612850543701613510631538969310370619969793771174554841097711076388042624202240798755768485512359903233050083977437344576567511296530637616450123705539973357888498884134013347857076775828390521471489
  | 15 => 6452959239129174371164469647792339607103780321042686992843265
  | _ => 0
def hitS1 : Nat → Bool
  | 0 => false
  | 1 => false
  | 2 => true
  | 3 => false
  | 4 => false
  | 5 => false
  | 6 => false
  | 7 => false
  | 9 => false
  | 12 => false
  | 13 => false
  | 15 => false
  | _ => false
def oraS1 (b : Bool) (i : Nat) : Nat := match b with | true => oraS1t i | false => oraS1f i
def oraS2t : Nat → Nat
  | 0 => 5868932238744650359116781114338813759279440462337
  | 1 => 618070703709674919768398185015332830744823254613355006701399108138071117124187998412195779143194058474421364064769
  | 2 => 5868932238744650359116781114338813759279440462337
  | 3 => 27715248894480847443632785410415139942460480814922638962616877203980801
  | 4 => 143905799768323758563119495523938171273289074792128367811902905989551677967552835819364296004913936335361
  | 5 => 5868932238744650359116781114338813759279440462337
  | 6 => 5868932238744650359116781114338813759279440462337
  | 7 => 618070703709674919768398185015332830744823254613355006701399108138071117124187998412195779143194058474421364064769
  | 8 => 27715248894480847443632785410415139942460480814922638962616877203980801
  | 9 => 130881562443686342306245474468540279552406968649329505642377498501944453638014491175325663745
  | 10 => 5868932238744650359116781114338813759279440462337
  | 11 => 178547120858152564694162171592673287750883035336887691504209927394714486487698003310157829547582181695930707980187214602298394720467551825753198668286351478625069651739049597056412140494736511459318129483149561791467551062482964092264422207496412500512416743393577401543728827105185098195164959325358775128595577962456950384993187427180158227112409930928930604593239854460890149192569329386741102873874920015296489840611859486463819888240818774528910545642640662811286454812889186817
  | 12 => 65090442220863675518593914101457198859591786747271542224808916892534322843724881666331836463083198397032857683469631375996528531004022307413224376403630806515489548736333911032321
  | 13 => 65090442220863675518593914101457198859591786747271542224808916892534322843724881666331836463083198397032857683469631375996528531004022307413224376403630806515489548736333911032321
  | 14 => 618070703709674919768398185015332830744823254613355006701399108138071117124187998412195779143194058474421364064769
  | 15 => 27715248894480847443632785410415139942460480814922638962616877203980801
  | _ => 0
def oraS2f : Nat → Nat
  | 0 => 25206872027848337387361230330875641759540013310920863384065
  | 1 => 2654593459048759659196694098946611766604119199864640878620370006896582900570573023736080798969257382129151411181896809447937
  | 2 => 25206872027848337387361230330875641759540013310920863384065
  | 3 => 119036087602295394668768016771118963836131086872528163114454854168745465635537409
  | 4 => 618070703709674919768398185015332830744823254586289337985982060752486974572563178996227014851168811855005912007169
  | 5 => 25206872027848337387361230330875641759540013310920863384065
  | 6 => 25206872027848337387361230330875641759540013310920863384065
  | 7 => 2654593459048759659196694098946611766604119199864640878620370006896582900570573023736080798969257382129151411181896809447937
  | 8 => 119036087602295394668768016771118963836131086872528163114454854168745465635537409
  | 9 => 562132030345014681887185529390383481536285448431367519061858827752140420783860461972104327938596536833
  | 10 => 25206872027848337387361230330875641759540013310920863384065
  | 11 => 766854044880724720339950769110872004102840031893144977435518684478833202722096830541627622505207946256352207057030302674205251757707196920795078847680631963855917199941327545479268010522250576854900600590020750971084303658574383333418019965533217727026413154798238996074975226309208348774782125627586162643936201758970917711440349182537161085553141169085375846981472557593322901830646075928704772862264394260314243609024189124109461107228691608864468600044656949854238743109140856655377990145
  | 12 => 279561320620787095226716700970391895045715219989737491087037377902616863171304085578365221892562648442335747187924386569080569450193197854794257054563588409642131329252352274819596622627329
  | 13 => 279561320620787095226716700970391895045715219989737491087037377902616863171304085578365221892562648442335747187924386569080569450193197854794257054563588409642131329252352274819596622627329
  | 14 => 2654593459048759659196694098946611766604119199864640878620370006896582900570573023736080798969257382129151411181896809447937
  | 15 => 119036087602295394668768016771118963836131086872528163114454854168745465635537409
  | _ => 0
def hitS2 : Nat → Bool
  | 0 => false
  | 1 => false
  | 2 => false
  | 3 => false
  | 4 => true
  | 5 => false
  | 6 => false
  | 7 => false
  | 8 => false
  | 9 => false
  | 10 => false
  | 11 => false
  | 12 => false
  | 13 => false
  | 14 => false
  | 15 => false
  | _ => false
def oraS2 (b : Bool) (i : Nat) : Nat := match b with | true => oraS2t i | false => oraS2f i
theorem snS1 (P : Params) (b1 b2 b3 : Bool) (n t L : Nat) (hs : Nat → Int) (tk : Nat → Nat) (ep : Nat) (sl : Array (Option Value)) (i : Nat) (hi : i = 0 ∨ i = 1 ∨ i = 2 ∨ i = 3 ∨ i = 4 ∨ i = 5 ∨ i = 6 ∨ i = 7 ∨ i = 9 ∨ i = 12 ∨ i = 13 ∨ i = 15) (vb : Array UInt8) (t1 t2 : Nat) :
    FinK (outR (mkP P b1 b2 b3) n t 1 [frm hs tk ep sl (locS (bts (itm i).1) vb t1 t2)] 620 (oraS1 b2 i) 1000 (valT (evalZ eS1 (envF 235 L)))) [L] n 0 [frm hs tk ep sl (locS (bts (itm i).1) vb t1 t2)]
      (fun o => finOf o = .done (.ret (.ref (n + 258 + 1))) ∧ tget (tabOf o) 2 = some (lstO (sqOf (objAt o 2)).toArray (epOf (objAt o 2))) ∧ (sqOf (objAt o 2)).isEmpty = !hitS1 i) := by
  cases b1 <;> cases b2
  all_goals (rcases hi with rfl | rfl | rfl | rfl | rfl | rfl | rfl | rfl | rfl | rfl | rfl | rfl <;> refine ⟨⟨?_, ?_, ?_, ?_⟩, ⟨?_, ?_⟩, ?_, ?_, ?_⟩ <;> first | exact True.intro | (show _ = _; kernel_rfl))
theorem snS2 (P : Params) (b1 b2 b3 : Bool) (n t L : Nat) (hs : Nat → Int) (tk : Nat → Nat) (ep : Nat) (sl : Array (Option Value)) (i : Nat) (hi : i = 0 ∨ i = 1 ∨ i = 2 ∨ i = 3 ∨ i = 4 ∨ i = 5 ∨ i = 6 ∨ i = 7 ∨ i = 8 ∨ i = 9 ∨ i = 10 ∨ i = 11 ∨ i = 12 ∨ i = 13 ∨ i = 14 ∨ i = 15) (nb : Array UInt8) (t1 t2 : Nat) :
    FinK (outR (mkP P b1 b2 b3) n t 1 [frm hs tk ep sl (locS nb (bts (itm i).2) t1 t2)] 620 (oraS2 b2 i) 1000 (valT (evalZ eS2 (envF 235 L)))) [L] n 0 [frm hs tk ep sl (locS nb (bts (itm i).2) t1 t2)]
      (fun o => finOf o = .done (.ret (.ref (n + 258 + 1))) ∧ tget (tabOf o) 2 = some (lstO (sqOf (objAt o 2)).toArray (epOf (objAt o 2))) ∧ (sqOf (objAt o 2)).isEmpty = !hitS2 i) := by
  cases b1 <;> cases b2
  all_goals (rcases hi with rfl | rfl | rfl | rfl | rfl | rfl | rfl | rfl | rfl | rfl | rfl | rfl | rfl | rfl | rfl | rfl <;> refine ⟨⟨?_, ?_, ?_, ?_⟩, ⟨?_, ?_⟩, ?_, ?_, ?_⟩ <;> first | exact True.intro | (show _ = _; kernel_rfl))
end Mine
end
section
open PySem PySem.W PySem.W.X PySem.Calls PyProof.Rows
set_option maxRecDepth 100000
set_option maxHeartbeats 4000000
namespace Mine
open PySem.W.ZFast
noncomputable def isTrueZ (e : Expr) (env : Env) : Sem Bool := zw15418851999007992765 e env (zw14044960220447912780 e env)
theorem isTrue_zf (e : Expr) (env : Env) : PySem.isTrue e env (eval e env) = isTrueZ e env := by unfold isTrueZ; rw [← ze14044960220447912780, ← ze15418851999007992765]
def bfin : Bool → Fin | true => .done .next | false => .done .brk
noncomputable def eS0 : Expr := subE (ifTest (nthSt (bodyF 235) 0)) [0]
def posL : Expr → Pos | .List _ p => p | _ => pos0
theorem bodyS : bodyF 235 = [.If (.BoolOp .Or [eS0, .Compare eS1 [.NotEq] [.List [] (posL (subE (ifTest (nthSt (bodyF 235) 0)) [1, 1]))] (posC (subE (ifTest (nthSt (bodyF 235) 0)) [1]))] (posE (ifTest (nthSt (bodyF 235) 0)))) (ifBd (nthSt (bodyF 235) 0)) [] (posS (nthSt (bodyF 235) 0)),
    .If (.Compare eS2 [.NotEq] [.List [] (posL (subE (ifTest (nthSt (bodyF 235) 1)) [1]))] (posC (ifTest (nthSt (bodyF 235) 1)))) (ifBd (nthSt (bodyF 235) 1)) [] (posS (nthSt (bodyF 235) 1)), nthSt (bodyF 235) 2] := by kernel_rfl
theorem snE (P : Params) (b1 b2 b3 : Bool) (n t : Nat) (nb vb : Array UInt8) (t1 t2 : Nat) : FinK (outR (mkP P b1 b2 b3) n t 0 [] 20 1103823437824 1000 (enterT (.call (.ref 235) ⟨[.bytes nb t1, .bytes vb t2], []⟩))) [] n 0 []
    (fun o => finOf o = .again (.func (bodyF 235) (envF 235 (n + 258))) ∧ tget (tabOf o) 0 = some (frm (hsOf (objAt o 0)) (tkOf (objAt o 0)) (epOf (objAt o 0)) #[] (locS nb vb t1 t2))) := by
  refine ⟨⟨?_, ?_, ?_, ?_⟩, ?_, ?_, ?_⟩
  all_goals first | exact True.intro | (show _ = _; kernel_rfl)
def nilS : Nat → Bool | 5 => true | _ => false
def lastS : Nat → Bool | 3 => false | _ => true
theorem snT (P : Params) (b1 b2 b3 : Bool) (n t L : Nat) (hs : Nat → Int) (tk : Nat → Nat) (ep : Nat) (sl : Array (Option Value)) (i : Nat) (hi : i = 0 ∨ i = 1 ∨ i = 2 ∨ i = 3 ∨ i = 4 ∨ i = 5 ∨ i = 6 ∨ i = 7 ∨ i = 9 ∨ i = 12 ∨ i = 13 ∨ i = 15) (vb : Array UInt8) (t1 t2 : Nat) :
    FinK (outR (mkP P b1 b2 b3) n t 1 [frm hs tk ep sl (locS (bts (itm i).1) vb t1 t2)] 20 257 1000 (boolT (isTrueZ eS0 (envF 235 L)))) [L] n 0 [frm hs tk ep sl (locS (bts (itm i).1) vb t1 t2)] (fun o => finOf o = bfin (nilS i)) := by
  cases b1
  all_goals (rcases hi with rfl | rfl | rfl | rfl | rfl | rfl | rfl | rfl | rfl | rfl | rfl | rfl <;> refine ⟨⟨?_, ?_, ?_, ?_⟩, ⟨?_, ?_⟩, ?_⟩ <;> first | exact True.intro | (show _ = _; kernel_rfl))
theorem snF (P : Params) (b1 b2 b3 : Bool) (n t L : Nat) (j : Bool) : FinK (outR (mkP P b1 b2 b3) n t 0 [] 20 0 1000 (flowT (zw12563942051412417395 (ifBd (nthSt (bodyF 235) (match j with | true => 0 | false => 1))) (envF 235 L)))) [] n 0 [] (fun o => finOf o = .done (.ret (.bool false))) := by
  cases j <;> refine ⟨⟨?_, ?_, ?_, ?_⟩, ?_, ?_⟩
  all_goals first | exact True.intro | (show _ = _; kernel_rfl)
theorem snL (P : Params) (b1 b2 b3 : Bool) (n t L : Nat) (hs : Nat → Int) (tk : Nat → Nat) (ep : Nat) (sl : Array (Option Value)) (i : Nat) (hi : i = 0 ∨ i = 1 ∨ i = 2 ∨ i = 3 ∨ i = 4 ∨ i = 5 ∨ i = 6 ∨ i = 7 ∨ i = 8 ∨ i = 9 ∨ i = 10 ∨ i = 11 ∨ i = 12 ∨ i = 13 ∨ i = 14 ∨ i = 15) (nb : Array UInt8) (t1 t2 : Nat) :
    FinK (outR (mkP P b1 b2 b3) n t 1 [frm hs tk ep sl (locS nb (bts (itm i).2) t1 t2)] 60 65793 1000 (flowT (zw12563942051412417395 [nthSt (bodyF 235) 2] (envF 235 L)))) [L] n 0 [frm hs tk ep sl (locS nb (bts (itm i).2) t1 t2)] (fun o => finOf o = .done (.ret (.bool (lastS i)))) := by
  cases b1
  all_goals (rcases hi with rfl | rfl | rfl | rfl | rfl | rfl | rfl | rfl | rfl | rfl | rfl | rfl | rfl | rfl | rfl | rfl <;> refine ⟨⟨?_, ?_, ?_, ?_⟩, ⟨?_, ?_⟩, ?_⟩ <;> first | exact True.intro | (show _ = _; kernel_rfl))
theorem rep_n : ∀ i < 16, (itm i).1 = (itm (repN i)).1 ∧ (repN i = 0 ∨ repN i = 1 ∨ repN i = 2 ∨ repN i = 3 ∨ repN i = 4 ∨ repN i = 5 ∨ repN i = 6 ∨ repN i = 7 ∨ repN i = 9 ∨ repN i = 12 ∨ repN i = 13 ∨ repN i = 15) := by decide
theorem rep_v : ∀ i < 16, (itm i).2 = (itm (repV i)).2 ∧ (repV i = 0 ∨ repV i = 1 ∨ repV i = 2 ∨ repV i = 3 ∨ repV i = 4 ∨ repV i = 5 ∨ repV i = 6 ∨ repV i = 7 ∨ repV i = 8 ∨ repV i = 9 ∨ repV i = 10 ∨ repV i = 11 ∨ repV i = 12 ∨ repV i = 13 ∨ repV i = 14 ∨ repV i = 15) := by decide
theorem sound_tab : ∀ i < 16, sound i = (!(nilS (repN i) || hitS1 (repN i)) && !hitS2 (repV i) && lastS (repV i)) := by decide
section
variable {w : World} {A : Around} {E : Value → Shared → Prop} {s : Shared}
theorem neNil {x y : Nat} {arr : Array Value} (hx : LstAt s.heap x arr) (hy : s.heap.IsList y #[]) (hu : A.units + 1 < cLine) : SeqAt.RcNeAt A s (.ref x) (.ref y) (!arr.toList.isEmpty) := by
  by_cases h : arr.size = 0
  · have e : arr = #[] := Array.eq_empty_of_size_eq_zero h
    subst e
    exact SeqAt.RcNeAt.lists (e := fun _ => true) hx.isList hy rfl (Nat.lt_of_succ_lt hu) (fun j h1 h2 => absurd h2 (by simp))
  · have := SeqAt.RcNeAt.lists_lengths (A := A) (s := s) hx.isList hy (by simpa using h) (Nat.lt_of_succ_lt hu)
    rw [show (!arr.toList.isEmpty) = true from by cases arr; rename_i l; cases l <;> simp at *]
    exact this
theorem testNil {c : Expr} {p p' : Pos} {env : Env} {whole : Sem Value} {Q : Bool → Shared → Prop} (hu : A.units + 1 < cLine)
    (h : wpAny (model pw w) A (eval c env) (fun v s₁ => ∃ x arr, v = .ref x ∧ Okay w.params s₁.heap ∧ LstAt s₁.heap x arr ∧ ∀ s₂, But [] s₁.heap s₂.heap → OkS w.params s₁.gens s₁.os s₂ → Q (!arr.toList.isEmpty) s₂) E s) :
    wpAny (model pw w) A (PySem.isTrue (.Compare c [.NotEq] [.List [] p] p') env whole) Q E s := by
  refine wpAny_isTrue_Compare1 (wpAny_mono h (fun v s₁ h₁ => ?_) fun _ _ x => x) (neMarks _)
  obtain ⟨x, arr, rfl, ok₁, hx, hQ⟩ := h₁
  refine wpAny_List (wpAny_pure ⟨Nat.zero_le _, ?_⟩)
  have bp : But [] s₁.heap (s₁.heap.push { cls := .type "list", data := .seq ([] : List Value).toArray }) := .push _
  refine neNil (s := { s₁ with heap := s₁.heap.push { cls := .type "list", data := .seq ([] : List Value).toArray } }) (hx.keep bp (fun m => nomatch m)) ⟨_, Heap.get?_push_size _ rfl, rfl, _, rfl⟩ hu pw w _ _ ?_
  exact wpAny_truthy_bool (hQ _ bp (ok₁.but low0 bp))
end
section
variable {w : World} {A : Around} {h : Heap} {g : Array GenState} {dr : Drawn} {t : Nat} {o : OsState}
theorem lawSound (ark : ArK 3 A) (hu : A.units + 8 < cLine) (ok : Okay w.params h) {i : Nat} (hi : i < 16) {t1 t2 : Nat} {R : Result → Shared → Prop}
    (hQ : ∀ s', But [] h s'.heap → OkS w.params g o s' → R (.ok (.ret (.bool (sound i)))) s') : codeAny (model pw w) A (.call (.ref 235) ⟨[.bytes (bts (itm i).1) t1, .bytes (bts (itm i).2) t2], []⟩) R ⟨h, g, dr, t, o⟩ := by
  obtain ⟨en, rn⟩ := rep_n i hi
  obtain ⟨ev, rv⟩ := rep_v i hi
  rw [sound_tab i hi] at hQ
  rw [en, ev]
  generalize repN i = a at *
  generalize repV i = b at *
  obtain ⟨n, hn⟩ := ok.size
  obtain ⟨b1, b2, b3, hP⟩ := params_split w.params
  refine codeAny_enter (fun _ => Nat.lt_of_le_of_lt ark.weak.deep (by decide)) ?_
  refine segFin hP (A := A.under (.call (.ref 235) ⟨[.bytes (bts (itm a).1) t1, .bytes (bts (itm b).2) t2], []⟩)) ⟨ark.weak.deep, ark.handled⟩ ok hn [] [] 0 20 low0 (by simp) trivial (snE w.params b1 b2 b3 n t (bts (itm a).1) (bts (itm b).2) t1 t2) fun out h₁ dr₁ S af => ?_
  obtain ⟨hf, h0⟩ := S
  rw [hf]
  refine ⟨af.ok.nolimit, rfl, ?_⟩
  have l1 : LocAt h₁ (n + 258) (locS (bts (itm a).1) (bts (itm b).2) t1 t2) := ⟨_, _, _, _, af.get 0 _ h0⟩
  generalize hLd : n + 258 = L at l1
  have lL : Low w.params L := highOk ok (show @LE.le Nat _ h.objs.size L by omega)
  have b₁ : But [] h h₁ := af.but
  have ok₁ := af.ok
  have arD : ArK 2 (A.deeper (envF 235 L)) := ark.deeper _
  have huD : (A.deeper (envF 235 L)).units + 1 < cLine := by show A.units + 3 + 1 < cLine; omega
  refine codeAny_func ?_
  rw [bodyS]
  have false_ : ∀ (j : Bool) (s' : Shared) {Q : Flow → Shared → Prop} {E : Value → Shared → Prop}, But [] h s'.heap → OkS w.params g o s' → (!(nilS a || hitS1 a) && !hitS2 b && lastS b) = false →
      (∀ v s'', R (.ok (.ret v)) s'' → Q (.ret v) s'') → wpAny (model pw w) (A.deeper (envF 235 L)) (execs (ifBd (nthSt (bodyF 235) (match j with | true => 0 | false => 1))) (envF 235 L)) Q E s' := by
    intro j s' Q E b' ok' he hq
    obtain ⟨h', g', dr', t', o'⟩ := s'
    obtain ⟨ok', rfl, rfl⟩ := ok'
    obtain ⟨n', hn'⟩ := ok'.size
    rw [execs_zf]
    refine wpAny_flowT (segFin hP arD.weak ok' hn' [] [] 0 20 low0 (by simp) trivial (snF w.params b1 b2 b3 n' t' L j) fun out h₂ dr₂ S af₂ => ?_)
    rw [S]
    refine hq _ _ ?_
    have := hQ ⟨h₂, g, dr₂, t' + tokOf out, o⟩ (b'.trans af₂.but) af₂.ok
    rw [he] at this
    exact this
  obtain ⟨hs, tk, ep, sl, l1⟩ := l1
  obtain ⟨n₁, hn₁⟩ := ok₁.size
  refine wpAny_execs_cons (wpAny_If (wpAny_isTrue_BoolOp (wpAny_allTrue_Or_cons ?_)))
  rw [isTrue_zf]
  refine wpAny_boolT (segFin hP arD.weak ok₁ hn₁ [L] [frm hs tk ep sl _] 0 20 (low1 lL) (by simp) ⟨l1, trivial⟩ (snT w.params b1 b2 b3 n₁ _ L hs tk ep sl a rn (bts (itm b).2) t1 t2) fun out h₂ dr₂ S af₂ => ?_)
  rw [S]
  have b₂ : But [] h₁ h₂ := af₂.but
  have b02 := b₁.trans b₂
  have ok₂ := af₂.ok
  have l2 := b₂.keep _ _ l1 (fun m => nomatch m)
  cases hnil : nilS a with
  | true =>
    simp only [bfin, if_true]
    exact false_ true _ b02 ok₂ (by simp [hnil]) (fun _ _ x => x)
  | false =>
    simp only [bfin, Bool.false_eq_true, if_false]
    obtain ⟨n₂, hn₂⟩ := ok₂.size
    refine wpAny_allTrue_Or_cons (testNil huD ?_)
    rw [eval_zf]
    refine wpAny_valT (segFin hP arD.weak ok₂ hn₂ [L] [frm hs tk ep sl _] 0 620 (low1 lL) (by simp) ⟨l2, trivial⟩ (snS1 w.params b1 b2 b3 n₂ _ L hs tk ep sl a rn (bts (itm b).2) t1 t2) fun out h₃ dr₃ S af₃ => ?_)
    obtain ⟨hf, hl, hemp⟩ := S
    rw [hf]
    have b₃ : But [] h₂ h₃ := af₃.but
    refine ⟨_, _, rfl, af₃.ok, ⟨_, af₃.get 2 _ hl⟩, fun s₄ b₄ ok₄ => ?_⟩
    rw [List.toList_toArray, hemp, Bool.not_not]
    have b04 := b02.trans (b₃.trans b₄)
    cases hh : hitS1 a with
    | true =>
      simp only [if_true]
      exact false_ true _ b04 ok₄ (by simp [hh]) (fun _ _ x => x)
    | false =>
      simp only [Bool.false_eq_true, if_false]
      refine wpAny_allTrue_Or_nil ?_
      simp only [Bool.false_eq_true, if_false]
      refine wpAny_execs_nil ?_
      have l4 := b₄.keep _ _ (b₃.keep _ _ l2 (fun m => nomatch m)) (fun m => nomatch m)
      obtain ⟨h₄, g₄, dr₄, t₄, o₄⟩ := s₄
      obtain ⟨ok₄, rfl, rfl⟩ := ok₄
      obtain ⟨n₄, hn₄⟩ := ok₄.size
      refine wpAny_execs_cons (wpAny_If (testNil huD ?_))
      rw [eval_zf]
      refine wpAny_valT (segFin hP arD.weak ok₄ hn₄ [L] [frm hs tk ep sl _] 0 620 (low1 lL) (by simp) ⟨l4, trivial⟩ (snS2 w.params b1 b2 b3 n₄ _ L hs tk ep sl b rv (bts (itm a).1) t1 t2) fun out h₅ dr₅ S af₅ => ?_)
      obtain ⟨hf, hl, hemp⟩ := S
      rw [hf]
      have b₅ : But [] h₄ h₅ := af₅.but
      refine ⟨_, _, rfl, af₅.ok, ⟨_, af₅.get 2 _ hl⟩, fun s₆ b₆ ok₆ => ?_⟩
      rw [List.toList_toArray, hemp, Bool.not_not]
      have b06 := b04.trans (b₅.trans b₆)
      cases hh2 : hitS2 b with
      | true =>
        simp only [if_true]
        exact false_ false _ b06 ok₆ (by simp [hh2]) (fun _ _ x => x)
      | false =>
        simp only [Bool.false_eq_true, if_false]
        refine wpAny_execs_nil ?_
        have l6 := b₆.keep _ _ (b₅.keep _ _ l4 (fun m => nomatch m)) (fun m => nomatch m)
        obtain ⟨h₆, g₆, dr₆, t₆, o₆⟩ := s₆
        obtain ⟨ok₆, rfl, rfl⟩ := ok₆
        obtain ⟨n₆, hn₆⟩ := ok₆.size
        show wpAny _ _ (execs [nthSt (bodyF 235) 2] (envF 235 L)) _ _ _
        rw [execs_zf]
        refine wpAny_flowT (segFin hP arD.weak ok₆ hn₆ [L] [frm hs tk ep sl _] 0 60 (low1 lL) (by simp) ⟨l6, trivial⟩ (snL w.params b1 b2 b3 n₆ t₆ L hs tk ep sl b rv (bts (itm a).1) t1 t2) fun out h₇ dr₇ S af₇ => ?_)
        rw [S]
        have := hQ ⟨h₇, g, dr₇, t₆ + tokOf out, o⟩ (b06.trans af₇.but) af₇.ok
        rw [hnil, hh, hh2] at this
        simpa using this
end
end Mine
end
section
open PySem PySem.W PySem.W.X PySem.Calls PyProof.Rows
set_option maxRecDepth 100000
set_option maxHeartbeats 4000000
namespace Mine
open PySem.W.ZFast
def sLooked : Str := ⟨#[108, 111, 111, 107, 101, 100]⟩
def sTold : Str := ⟨#[116, 111, 108, 100]⟩
def sCoded : Str := ⟨#[99, 111, 100, 101, 100]⟩
def sLow : Str := ⟨#[108, 111, 119]⟩
def sWords : Str := ⟨#[119, 111, 114, 100, 115]⟩
def sOne : Str := ⟨#[111, 110, 101]⟩
noncomputable def envR (L C : Nat) : Env := { envF 240 L with cells := [(sOne, C)] }
def celO (v : Option Value) : Obj := ⟨.type "cell", none, .cell v, #[]⟩
def celTok (o : Obj) : Nat := match o.data with | .cell (some v) => keyTok v | _ => 0
def locR (R : Nat) (lk : Bool) (TL : Nat) (len cd : Value) (rest : List (Str × Value)) : List (Str × Value) := (sRows, .ref R) :: (sLooked, .bool lk) :: (sTold, .ref TL) :: (sLength, len) :: (sCoded, cd) :: rest
inductive Sh where
  | zero
  | one (c : Value)
  | two (c d : Value)
def Sh.out (r : Sh) (a b : Value) : List (Str × Value) := (sName, a) :: (sValue, b) :: match r with | .zero => [] | .one c => [(sLow, c)] | .two c d => [(sLow, c), (sWords, d)]
def Sh.inn (r : Sh) (a b : Value) : List (Str × Value) := match r with | .zero => [] | r => r.out a b
def Sh.low (r : Sh) (c : Value) : Sh := match r with | .zero => .one c | .one _ => .one c | .two _ d => .two c d
def Sh.wd (r : Sh) (d : Value) : Sh := match r with | .zero => .two .none d | .one c => .two c d | .two c _ => .two c d
def Sh.full : Sh → Prop | .zero => False | _ => True
noncomputable def stR (i : Nat) : Stmt := nthSt (bodyF 240) i
noncomputable def rB (i : Nat) : Stmt := nthSt (forBd (stR 3)) i
noncomputable def cB (i : Nat) : Stmt := nthSt (ifBd (rB 2)) i
noncomputable def eQ : Expr := ifTest (cB 2)
theorem bodyR_eq : bodyF 240 = [stR 0, stR 1, stR 2, .For (forTg (stR 3)) (forIt (stR 3)) (forBd (stR 3)) [] (forPos (stR 3)), stR 4] := by kernel_rfl
theorem forR_eq : forBd (stR 3) = [rB 0, rB 1, rB 2] := by kernel_rfl
theorem rB2_eq : rB 2 = .If (ifTest (rB 2)) (ifBd (rB 2)) (ifElse (rB 2)) (posS (rB 2)) := by kernel_rfl
theorem cB_eq : ifBd (rB 2) = [cB 0, cB 1, cB 2, cB 3, cB 4] := by kernel_rfl
theorem cB2_eq : cB 2 = .If (.BoolOp .Or [.Compare (subE eQ [0, 0]) [.NotEq] [.List [] (posL (subE eQ [0, 1]))] (posC (subE eQ [0])), subE eQ [1], subE eQ [2], .Compare (subE eQ [3, 0]) [.NotEq] [.List [] (posL (subE eQ [3, 1]))] (posC (subE eQ [3])), subE eQ [4]] (posE eQ)) (ifBd (cB 2)) [] (posS (cB 2)) := by kernel_rfl
theorem reE (P : Params) (b1 b2 b3 : Bool) (n t R : Nat) (lk : Bool) : FinK (outR (mkP P b1 b2 b3) n t 0 [] 20 1103823437824 1000 (enterT (.call (.ref 240) ⟨[.ref R, .bool lk], []⟩))) [] n 0 []
    (fun o => finOf o = .again (.func (bodyF 240) (envR (n + 258) (n + 258 + 1))) ∧ tget (tabOf o) 0 = some (frm (hsOf (objAt o 0)) (tkOf (objAt o 0)) (epOf (objAt o 0)) #[] [(sRows, .ref R), (sLooked, .bool lk)]) ∧ tget (tabOf o) 1 = some (celO none)) := by
  cases lk <;> refine ⟨⟨?_, ?_, ?_, ?_⟩, ?_, ?_, ?_, ?_⟩
  all_goals first | exact True.intro | (show _ = _; kernel_rfl)
theorem reB (P : Params) (b1 b2 b3 : Bool) (n t L C R : Nat) (lk : Bool) (hs : Nat → Int) (tk : Nat → Nat) (ep : Nat) (sl : Array (Option Value)) :
    FinK (outR (mkP P b1 b2 b3) n t 1 [frm hs tk ep sl [(sRows, .ref R), (sLooked, .bool lk)]] 40 1103823438081 1000 (flowT (zw12563942051412417395 [stR 0, stR 1, stR 2] (envR L C)))) [L] n 1 [frm hs tk ep sl [(sRows, .ref R), (sLooked, .bool lk)]]
      (fun o => finOf o = .done .next ∧ frm0 o sl (locR R lk (n + 258) (.bytes (bts []) (keyTok (vlOf (objAt o 0) 3))) (.bool false) []) ∧ tget (tabOf o) 1 = some (lstO #[] (epOf (objAt o 1)))) := by
  cases lk <;> refine ⟨⟨?_, ?_, ?_, ?_⟩, ?_, ?_, ?_, ?_⟩
  all_goals first | exact True.intro | (show _ = _; kernel_rfl)
theorem reI (P : Params) (b1 b2 b3 : Bool) (n t L C R TL : Nat) (lk : Bool) (len cd : Value) (hs : Nat → Int) (tk : Nat → Nat) (ep : Nat) (sl : Array (Option Value)) :
    FinK (outR (mkP P b1 b2 b3) n t 1 [frm hs tk ep sl (locR R lk TL len cd [])] 10 1 1000 (valT (evalZ (forIt (stR 3)) (envR L C)))) [L] n 0 [frm hs tk ep sl (locR R lk TL len cd [])] (fun o => finOf o = .done (.ret (.ref R))) := by
  refine ⟨⟨?_, ?_, ?_, ?_⟩, ⟨?_, ?_⟩, ?_⟩
  all_goals first | exact True.intro | (show _ = _; kernel_rfl)
theorem reT (P : Params) (b1 b2 b3 : Bool) (n t L C pr it R TL : Nat) (lk : Bool) (len cd : Value) (hs : Nat → Int) (tk : Nat → Nat) (ep : Nat) (sl : Array (Option Value)) (r : Sh) (a b : Value) (nb vb : Array UInt8) (t1 t2 ep3 : Nat) (lv : Value) (k : Nat) (dt : Option Addr) (sx : Array (Option Value)) :
    FinK (outR (mkP P b1 b2 b3) n t 3 [frm hs tk ep sl (locR R lk TL len cd (r.inn a b)), tupO [.bytes nb t1, .bytes vb t2] ep3, ⟨.type "list_iterator", dt, .fields #[lv, .int k 0], sx⟩] 70 454086624987863925390843861025176130390126926021773401642358124547173122563 1000 (unitT (takeZ (forTg (stR 3)) (.ref it) (.ref pr) (envR L C))))
      [L, pr, it] n 1 [frm hs tk ep sl (locR R lk TL len cd (r.inn a b)), tupO [.bytes nb t1, .bytes vb t2] ep3, ⟨.type "list_iterator", dt, .fields #[lv, .int k 0], sx⟩]
      (fun o => finOf o = .done .next ∧ frm0 o sl (locR R lk TL len cd (r.out (.bytes nb t1) (.bytes vb t2)))) := by
  cases b1 <;> cases r <;> refine ⟨⟨?_, ?_, ?_, ?_⟩, ⟨?_, ?_, ?_⟩, ?_, ?_⟩
  all_goals first | exact True.intro | (show _ = _; kernel_rfl)
theorem re01f (P : Params) (b1 b2 b3 : Bool) (n t L C R TL : Nat) (len cd : Value) (hs : Nat → Int) (tk : Nat → Nat) (ep : Nat) (sl : Array (Option Value)) (r : Sh) (i : Nat) (hi : i = 0 ∨ i = 1 ∨ i = 2 ∨ i = 3 ∨ i = 4 ∨ i = 5 ∨ i = 6 ∨ i = 7 ∨ i = 9 ∨ i = 12 ∨ i = 13 ∨ i = 15) (vb : Array UInt8) (t1 t2 : Nat) :
    FinK (outR (mkP P b1 b2 b3) n t 1 [frm hs tk ep sl (locR R false TL len cd (r.out (.bytes (bts (itm i).1) t1) (.bytes vb t2)))] 40 16843009 1000 (flowT (zw12563942051412417395 [rB 0, rB 1] (envR L C)))) [L] n 1 [frm hs tk ep sl (locR R false TL len cd (r.out (.bytes (bts (itm i).1) t1) (.bytes vb t2)))]
      (fun o => finOf o = .done .next ∧ frm0 o sl (locR R false TL len cd ((r.low (.bytes (bts (told i).1) (keyTok (vlOf (objAt o 0) 7)))).out (.bytes (bts (itm i).1) t1) (.bytes vb t2)))) := by
  cases b1 <;> cases r
  all_goals (rcases hi with rfl | rfl | rfl | rfl | rfl | rfl | rfl | rfl | rfl | rfl | rfl | rfl <;> refine ⟨⟨?_, ?_, ?_, ?_⟩, ?_, ?_, ?_⟩ <;> first | exact True.intro | (show _ = _; kernel_rfl))
noncomputable abbrev out01 (P : Params) (n t L C R TL : Nat) (len cd : Value) (hs : Nat → Int) (tk : Nat → Nat) (ep : Nat) (sl : Array (Option Value)) (r : Sh) (nb vb : Array UInt8) (t1 t2 : Nat) : Out :=
  outR P n t 1 [frm hs tk ep sl (locR R true TL len cd (r.out (.bytes nb t1) (.bytes vb t2)))] 50 282574505181441 1 (flowT (zw12563942051412417395 [rB 0, rB 1] (envR L C)))
theorem re01t (P : Params) (b1 b2 b3 : Bool) (n t L C R TL : Nat) (len cd : Value) (hs : Nat → Int) (tk : Nat → Nat) (ep : Nat) (sl : Array (Option Value)) (r : Sh) (i : Nat) (hi : i = 0 ∨ i = 1 ∨ i = 2 ∨ i = 3 ∨ i = 4 ∨ i = 5 ∨ i = 6 ∨ i = 7 ∨ i = 9 ∨ i = 12 ∨ i = 13 ∨ i = 15) (vb : Array UInt8) (t1 t2 : Nat) :
    CallK (out01 (mkP P b1 b2 b3) n t L C R TL len cd hs tk ep sl r (bts (itm i).1) vb t1 t2) [L] n 1 [frm hs tk ep sl (locR R true TL len cd (r.out (.bytes (bts (itm i).1) t1) (.bytes vb t2)))]
      (fun o => codeOf o = .call (.ref 235) ⟨[.bytes (bts (itm i).1) t1, .bytes vb t2], []⟩ ∧ frm0 o sl (locR R true TL len cd ((r.low (.bytes (bts (told i).1) (keyTok (vlOf (objAt o 0) 7)))).out (.bytes (bts (itm i).1) t1) (.bytes vb t2)))) := by
  cases b1 <;> cases r
  all_goals (rcases hi with rfl | rfl | rfl | rfl | rfl | rfl | rfl | rfl | rfl | rfl | rfl | rfl <;> refine ⟨⟨?_, ?_, ?_, ?_, ?_⟩, ?_, ?_, ?_⟩ <;> first | exact True.intro | (show _ = _; kernel_rfl))
theorem re01b (P : Params) (b1 b2 b3 : Bool) (n t n' t' L C R TL : Nat) (len cd : Value) (hs : Nat → Int) (tk : Nat → Nat) (ep : Nat) (sl : Array (Option Value)) (r : Sh) (i : Nat) (hi : i = 0 ∨ i = 1 ∨ i = 2 ∨ i = 3 ∨ i = 4 ∨ i = 5 ∨ i = 6 ∨ i = 7 ∨ i = 9 ∨ i = 12 ∨ i = 13 ∨ i = 15) (vb : Array UInt8) (t1 t2 : Nat) :
    FinK (outR (mkP P b1 b2 b3) n' t' 0 [] 30 0 1000 (treeOf (out01 (mkP P b1 b2 b3) n t L C R TL len cd hs tk ep sl r (bts (itm i).1) vb t1 t2) (.ok (.ret (.bool true))))) [] n' 0 [] (fun o => finOf o = .done .next) := by
  cases b1 <;> cases r
  all_goals (rcases hi with rfl | rfl | rfl | rfl | rfl | rfl | rfl | rfl | rfl | rfl | rfl | rfl <;> refine ⟨⟨?_, ?_, ?_, ?_⟩, ?_, ?_⟩ <;> first | exact True.intro | (show _ = _; kernel_rfl))
theorem re01x (P : Params) (b1 b2 b3 : Bool) (n t n' t' L C R TL : Nat) (len cd : Value) (hs : Nat → Int) (tk : Nat → Nat) (ep : Nat) (sl : Array (Option Value)) (r : Sh) (i : Nat) (hi : i = 0 ∨ i = 1 ∨ i = 2 ∨ i = 3 ∨ i = 4 ∨ i = 5 ∨ i = 6 ∨ i = 7 ∨ i = 9 ∨ i = 12 ∨ i = 13 ∨ i = 15) (vb : Array UInt8) (t1 t2 : Nat) :
    FinK (outR (mkP P b1 b2 b3) n' t' 0 [] 30 0 1000 (treeOf (out01 (mkP P b1 b2 b3) n t L C R TL len cd hs tk ep sl r (bts (itm i).1) vb t1 t2) (.ok (.ret (.bool false))))) [] n' 0 []
      (fun o => finOf o = .done (.ret (.ref (n' + 258 + 1))) ∧ tget (tabOf o) 0 = some (lstO #[] (epOf (objAt o 0))) ∧ tget (tabOf o) 1 = some (tupO [.int 400 (sqTok (objAt o 1) 0), .ref (n' + 258)] (epOf (objAt o 1)))) := by
  cases b1 <;> cases r
  all_goals (rcases hi with rfl | rfl | rfl | rfl | rfl | rfl | rfl | rfl | rfl | rfl | rfl | rfl <;> refine ⟨⟨?_, ?_, ?_, ?_⟩, ?_, ?_, ?_, ?_⟩ <;> first | exact True.intro | (show _ = _; kernel_rfl))
end Mine
end
section
open PySem PySem.W PySem.W.X PySem.Calls PyProof.Rows
set_option maxRecDepth 100000
set_option maxHeartbeats 4000000
namespace Mine
open PySem.W.ZFast
noncomputable def treeR2 (L C : Nat) : Sem Fin := flowT (zw12563942051412417395 [rB 2] (envR L C))
noncomputable abbrev out2 (P : Params) (ora calls n t L C R TL : Nat) (lk : Bool) (len cd : Value) (hs : Nat → Int) (tk : Nat → Nat) (ep : Nat) (sl : Array (Option Value)) (loc : List (Str × Value)) (arr : Array Value) (epa : Nat) : Out :=
  outR P n t 2 [frm hs tk ep sl (locR R lk TL len cd loc), lstO arr epa] 80 ora calls (treeR2 L C)
theorem re2p (P : Params) (b1 b2 b3 : Bool) (n t L C R TL : Nat) (lk : Bool) (len cd : Value) (hs : Nat → Int) (tk : Nat → Nat) (ep : Nat) (sl : Array (Option Value)) (r : Sh) (hr : r.full) (i : Nat) (hi : i = 0 ∨ i = 1 ∨ i = 2 ∨ i = 3 ∨ i = 4 ∨ i = 5 ∨ i = 15) (nb vb : Array UInt8) (t1 t2 t3 : Nat) (arr : Array Value) (epa : Nat) :
    CallK (out2 (mkP P b1 b2 b3) 4740885849694992924929 2 n t L C R TL lk len cd hs tk ep sl ((r.low (.bytes (bts (told i).1) t3)).out (.bytes nb t1) (.bytes vb t2)) arr epa) [L, TL] n 0 [frm hs tk ep sl (locR R lk TL len cd ((r.low (.bytes (bts (told i).1) t3)).out (.bytes nb t1) (.bytes vb t2))), lstO arr epa]
      (fun o => codeOf o = .call (.builtin "list.append") ⟨[.ref TL, .ref (n + 258)], []⟩ ∧ tget (tabOf o) 2 = some (tupO [.bytes nb (sqTok (objAt o 2) 0), .bytes (bts (told i).1) (sqTok (objAt o 2) 1), .bytes vb (sqTok (objAt o 2) 2)] (epOf (objAt o 2)))) := by
  cases b1 <;> cases r <;> first | exact hr.elim | skip
  all_goals (rcases hi with rfl | rfl | rfl | rfl | rfl | rfl | rfl <;> refine ⟨⟨?_, ?_, ?_, ?_, ?_⟩, ⟨?_, ?_, ?_⟩, ?_, ?_⟩ <;> first | exact True.intro | (show _ = _; kernel_rfl))
theorem re2pb (P : Params) (b1 b2 b3 : Bool) (n t L C R TL : Nat) (lk : Bool) (len cd : Value) (hs : Nat → Int) (tk : Nat → Nat) (ep : Nat) (sl : Array (Option Value)) (r : Sh) (hr : r.full) (i : Nat) (hi : i = 0 ∨ i = 1 ∨ i = 2 ∨ i = 3 ∨ i = 4 ∨ i = 5 ∨ i = 15) (nb vb : Array UInt8) (t1 t2 t3 : Nat) (arr : Array Value) (epa n' t' : Nat) :
    FinK (outR (mkP P b1 b2 b3) n' t' 0 [] 10 0 1000 (treeOf (out2 (mkP P b1 b2 b3) 4740885849694992924929 2 n t L C R TL lk len cd hs tk ep sl ((r.low (.bytes (bts (told i).1) t3)).out (.bytes nb t1) (.bytes vb t2)) arr epa) (.ok (.ret .none)))) [] n' 0 [] (fun o => finOf o = .done .next) := by
  cases b1 <;> cases r <;> first | exact hr.elim | skip
  all_goals (rcases hi with rfl | rfl | rfl | rfl | rfl | rfl | rfl <;> refine ⟨⟨?_, ?_, ?_, ?_⟩, ?_, ?_⟩ <;> first | exact True.intro | (show _ = _; kernel_rfl))
theorem re2t (P : Params) (b1 b2 b3 : Bool) (n t L C R TL : Nat) (lk : Bool) (len cd : Value) (hs : Nat → Int) (tk : Nat → Nat) (ep : Nat) (sl : Array (Option Value)) (r : Sh) (hr : r.full) (i : Nat) (hi : i = 12 ∨ i = 13) (nb : Array UInt8) (t1 t2 t3 : Nat) (arr : Array Value) (epa : Nat) :
    CallK (out2 (mkP P b1 b2 b3) 79540074857495763574203678977 4 n t L C R TL lk len (.bool false) hs tk ep sl ((r.low (.bytes (bts teLow) t3)).out (.bytes nb t1) (.bytes (bts (itm i).2) t2)) arr epa) [L, TL] n 1 [frm hs tk ep sl (locR R lk TL len (.bool false) ((r.low (.bytes (bts teLow) t3)).out (.bytes nb t1) (.bytes (bts (itm i).2) t2))), lstO arr epa]
      (fun o => codeOf o = .call (.builtin "list.append") ⟨[.ref TL, .ref (n + 258)], []⟩ ∧ frm0 o sl (locR R lk TL len (.bool true) ((r.low (.bytes (bts teLow) t3)).out (.bytes nb t1) (.bytes (bts (itm i).2) t2))) ∧ tget (tabOf o) 2 = some (tupO [.bytes nb (sqTok (objAt o 2) 0), .bytes (bts teLow) (sqTok (objAt o 2) 1), .bytes (bts chunked) (sqTok (objAt o 2) 2)] (epOf (objAt o 2)))) := by
  cases b1 <;> cases r <;> first | exact hr.elim | skip
  all_goals (rcases hi with rfl | rfl <;> refine ⟨⟨?_, ?_, ?_, ?_, ?_⟩, ⟨?_, ?_⟩, ?_, ?_, ?_⟩ <;> first | exact True.intro | (show _ = _; kernel_rfl))
theorem re2tb (P : Params) (b1 b2 b3 : Bool) (n t L C R TL : Nat) (lk : Bool) (len cd : Value) (hs : Nat → Int) (tk : Nat → Nat) (ep : Nat) (sl : Array (Option Value)) (r : Sh) (hr : r.full) (i : Nat) (hi : i = 12 ∨ i = 13) (nb : Array UInt8) (t1 t2 t3 : Nat) (arr : Array Value) (epa n' t' : Nat) :
    FinK (outR (mkP P b1 b2 b3) n' t' 0 [] 10 0 1000 (treeOf (out2 (mkP P b1 b2 b3) 79540074857495763574203678977 4 n t L C R TL lk len (.bool false) hs tk ep sl ((r.low (.bytes (bts teLow) t3)).out (.bytes nb t1) (.bytes (bts (itm i).2) t2)) arr epa) (.ok (.ret .none)))) [] n' 0 [] (fun o => finOf o = .done .next) := by
  cases b1 <;> cases r <;> first | exact hr.elim | skip
  all_goals (rcases hi with rfl | rfl <;> refine ⟨⟨?_, ?_, ?_, ?_⟩, ?_, ?_⟩ <;> first | exact True.intro | (show _ = _; kernel_rfl))
theorem re2g (P : Params) (b1 b2 b3 : Bool) (n t L C R TL : Nat) (lk : Bool) (len cd : Value) (hs : Nat → Int) (tk : Nat → Nat) (ep : Nat) (sl : Array (Option Value)) (r : Sh) (hr : r.full) (i : Nat) (c : Bool) (hi : (i = 12 ∧ c = true) ∨ (i = 13 ∧ c = true) ∨ (i = 14 ∧ c = true) ∨ (i = 14 ∧ c = false)) (nb : Array UInt8) (t1 t2 t3 : Nat) :
    FinK (outR (mkP P b1 b2 b3) n t 1 [frm hs tk ep sl (locR R lk TL len (.bool c) ((r.low (.bytes (bts teLow) t3)).out (.bytes nb t1) (.bytes (bts (itm i).2) t2)))] 80 16843009 1000 (treeR2 L C)) [L] n 0 [frm hs tk ep sl (locR R lk TL len (.bool c) ((r.low (.bytes (bts teLow) t3)).out (.bytes nb t1) (.bytes (bts (itm i).2) t2)))]
      (fun o => finOf o = .done (.ret (.ref (n + 258 + 1))) ∧ tget (tabOf o) 1 = some (lstO #[] (epOf (objAt o 1))) ∧ tget (tabOf o) 2 = some (tupO [.int 501 (sqTok (objAt o 2) 0), .ref (n + 258)] (epOf (objAt o 2)))) := by
  cases b1 <;> cases r <;> first | exact hr.elim | skip
  all_goals (rcases hi with ⟨rfl, rfl⟩ | ⟨rfl, rfl⟩ | ⟨rfl, rfl⟩ | ⟨rfl, rfl⟩ <;> refine ⟨⟨?_, ?_, ?_, ?_⟩, ⟨?_, ?_⟩, ?_, ?_, ?_⟩ <;> first | exact True.intro | (show _ = _; kernel_rfl))
def wsI : Nat → List (List Nat)
  | 6 => [[51]]
  | 7 => [[51], [51]]
  | 8 => [[48, 51]]
  | 9 => [[52], [51]]
  | 10 => [[120]]
  | 11 => [longLen]
  | _ => []
def oneI : Nat → List Nat
  | 6 => [51]
  | 7 => [51]
  | 8 => [48, 51]
  | 9 => [52]
  | 10 => [120]
  | 11 => longLen
  | _ => []
def wvs (ts : Nat → Nat) : Nat → List (List Nat) → List Value
  | _, [] => []
  | j, x :: l => .bytes (bts x) (ts j) :: wvs ts (j + 1) l
def oraC01t : Nat → Nat
  | 6 => 16753222939485035694627628746662543330652379809661020567216256261627625203128436607422679941889
  | 7 => 86987706839021761470200376675342146690400168230229699937726400108837585539540717052536383996732492756384022709472678514023138049
  | 8 => 16753222939485035694627628746662543330652379809661020567216256261627625203128436607422679941889
  | 9 => 86987706839021761470200376675342146690400168230229699937726400108837585539540717052536383996732492756384022709472678514023138049
  | 10 => 16753222939485035694627628746662543330652379809661020567216256261627625203128436607422679941889
  | 11 => 16753222939485035694627628746662543330652379809661020567216256261627625203128436607422679941889
  | _ => 0
def oraC01f : Nat → Nat
  | 6 => 71954544627685215389818308364945092753334885627064788182177190403245869977581992116489673539269897159425
  | 7 => 373609356027634002146823496387475729645703359701734759800428125063268270467929894601033283116063827249226272754106463623323595489209942785
  | 8 => 71954544627685215389818308364945092753334885627064788182177190403245869977581992116489673539269897159425
  | 9 => 373609356027634002146823496387475729645703359701734759800428125063268270467929894601033283116063827249226272754106463623323595489209942785
  | 10 => 71954544627685215389818308364945092753334885627064788182177190403245869977581992116489673539269897159425
  | 11 => 71954544627685215389818308364945092753334885627064788182177190403245869977581992116489673539269897159425
  | _ => 0
def oraC01 (b : Bool) (i : Nat) : Nat := match b with | true => oraC01t i | false => oraC01f i
def oraQ0t : Nat → Nat
  | 6 => 2477936323401829426127589359934020653467672476616158614894347009
  | 7 => 766884147384682870401668714710585924656341373797757601487323429895042294289865074408620801
  | 8 => 2477936323401829426127589359934020653467672476616158614894347009
  | 9 => 843198037206542556084882820813294856946141984856900365953639688500907038152470922093794512847042183937
  | 10 => 2477936323401829426127589359934020653467672476616158614894347009
  | 11 => 2477936323401829426127589359934020653467672476616158614894347009
  | _ => 0
def oraQ0f : Nat → Nat
  | 6 => 10642655470581336851788444224234191424432202280305725996192219080392114945
  | 7 => 3293742332838056859706573513508320651396906239473080216523455089973755366511778038909973062222021377
  | 8 => 10642655470581336851788444224234191424432202280305725996192219080392114945
  | 9 => 3621507993853491475616817515385329532588678258332914311701314314279022995201086871983811277222370370523293221633
  | 10 => 10642655470581336851788444224234191424432202280305725996192219080392114945
  | 11 => 10642655470581336851788444224234191424432202280305725996192219080392114945
  | _ => 0
def oraQ0 (b : Bool) (i : Nat) : Nat := match b with | true => oraQ0t i | false => oraQ0f i
def oraQ3t : Nat → Nat
  | 6 => 2253669957464654442109556272697395364696399433434114
  | 7 => 2253669957464654442109556272697395364696399433434114
  | 8 => 2724519800468823840995886734529073235138075246799228697762977908552234173442
  | 10 => 2477936323401830887629227035101777186798979870961108592026190850
  | _ => 0
def oraQ3f : Nat → Nat
  | 6 => 9679438763288401904801669440306970795753028535552457258042370
  | 7 => 9679438763288401904801669440306970795753028535552457258042370
  | 8 => 11701723440318043864662437595322603506106951229389815934916658476802324482675639059458
  | 10 => 10642655470581343128890181089521177048780501471940261490657096084861748226
  | _ => 0
def oraQ3 (b : Bool) (i : Nat) : Nat := match b with | true => oraQ3t i | false => oraQ3f i
theorem rcT (P : Params) (b1 b2 b3 : Bool) (n t L C R TL : Nat) (lk : Bool) (len cd : Value) (hs : Nat → Int) (tk : Nat → Nat) (ep : Nat) (sl : Array (Option Value)) (r : Sh) (hr : r.full) (a b : Value) (t3 : Nat) :
    FinK (outR (mkP P b1 b2 b3) n t 1 [frm hs tk ep sl (locR R lk TL len cd ((r.low (.bytes (bts clLow) t3)).out a b))] 20 257 1000 (boolT (isTrueZ (ifTest (rB 2)) (envR L C)))) [L] n 0 [frm hs tk ep sl (locR R lk TL len cd ((r.low (.bytes (bts clLow) t3)).out a b))] (fun o => finOf o = .done .next) := by
  cases b1 <;> cases r <;> first | exact hr.elim | skip
  all_goals (refine ⟨⟨?_, ?_, ?_, ?_⟩, ⟨?_, ?_⟩, ?_⟩ <;> first | exact True.intro | (show _ = _; kernel_rfl))
theorem rc01 (P : Params) (b1 b2 b3 : Bool) (n t L C R TL : Nat) (lk : Bool) (len cd : Value) (hs : Nat → Int) (tk : Nat → Nat) (ep : Nat) (sl : Array (Option Value)) (r : Sh) (hr : r.full) (a c : Value) (i : Nat) (hi : i = 6 ∨ i = 7 ∨ i = 8 ∨ i = 9 ∨ i = 10 ∨ i = 11) (t2 : Nat) (cv : Option Value) :
    FinK (outR (mkP P b1 b2 b3) n t 2 [frm hs tk ep sl (locR R lk TL len cd ((r.low c).out a (.bytes (bts (itm i).2) t2))), celO cv] 180 (oraC01 b2 i) 1000 (flowT (zw12563942051412417395 [cB 0, cB 1] (envR L C)))) [L, C] n 2 [frm hs tk ep sl (locR R lk TL len cd ((r.low c).out a (.bytes (bts (itm i).2) t2))), celO cv]
      (fun o => finOf o = .done .next ∧ frm0 o sl (locR R lk TL len cd (((r.low c).wd (.ref (n + 258 + 2))).out a (.bytes (bts (itm i).2) t2))) ∧ tget (tabOf o) 1 = some (celO (some (.bytes (bts (oneI i)) (celTok (objAt o 1))))) ∧ tget (tabOf o) 4 = some (lstO (wvs (sqTok (objAt o 4)) 0 (wsI i)).toArray (epOf (objAt o 4)))) := by
  cases b1 <;> cases b2 <;> cases r <;> first | exact hr.elim | skip
  all_goals (rcases hi with rfl | rfl | rfl | rfl | rfl | rfl <;> cases cv <;> refine ⟨⟨?_, ?_, ?_, ?_⟩, ?_, ?_, ?_, ?_, ?_⟩ <;> first | exact True.intro | (show _ = _; kernel_rfl))
def hitQ0 : Nat → Bool | 9 => true | _ => false
def hitQ2 : Nat → Bool | 11 => true | _ => false
def hitQ3 : Nat → Bool | 10 => true | _ => false
theorem rq0 (P : Params) (b1 b2 b3 : Bool) (n t L C W R TL : Nat) (lk : Bool) (len cd : Value) (hs : Nat → Int) (tk : Nat → Nat) (ep : Nat) (sl : Array (Option Value)) (a b c : Value) (i : Nat) (hi : i = 6 ∨ i = 7 ∨ i = 8 ∨ i = 9 ∨ i = 10 ∨ i = 11) (to epw : Nat) (tw : Nat → Nat) :
    FinK (outR (mkP P b1 b2 b3) n t 3 [frm hs tk ep sl (locR R lk TL len cd ((Sh.two c (.ref W)).out a b)), celO (some (.bytes (bts (oneI i)) to)), lstO (wvs tw 0 (wsI i)).toArray epw] 130 (oraQ0 b2 i) 1000 (valT (evalZ (subE eQ [0, 0]) (envR L C)))) [L, C, W] n 0 [frm hs tk ep sl (locR R lk TL len cd ((Sh.two c (.ref W)).out a b)), celO (some (.bytes (bts (oneI i)) to)), lstO (wvs tw 0 (wsI i)).toArray epw]
      (fun o => finOf o = .done (.ret (.ref (n + 258 + 1))) ∧ tget (tabOf o) 4 = some (lstO (sqOf (objAt o 4)).toArray (epOf (objAt o 4))) ∧ (sqOf (objAt o 4)).isEmpty = !hitQ0 i) := by
  cases b1 <;> cases b2
  all_goals (rcases hi with rfl | rfl | rfl | rfl | rfl | rfl <;> refine ⟨⟨?_, ?_, ?_, ?_⟩, ⟨?_, ?_, ?_, ?_⟩, ?_, ?_, ?_⟩ <;> first | exact True.intro | (show _ = _; kernel_rfl))
theorem rq1 (P : Params) (b1 b2 b3 : Bool) (n t L C W R TL : Nat) (lk : Bool) (len cd : Value) (hs : Nat → Int) (tk : Nat → Nat) (ep : Nat) (sl : Array (Option Value)) (a b c : Value) (i : Nat) (hi : i = 6 ∨ i = 7 ∨ i = 8 ∨ i = 10 ∨ i = 11) (to epw : Nat) (tw : Nat → Nat) :
    FinK (outR (mkP P b1 b2 b3) n t 3 [frm hs tk ep sl (locR R lk TL len cd ((Sh.two c (.ref W)).out a b)), celO (some (.bytes (bts (oneI i)) to)), lstO (wvs tw 0 (wsI i)).toArray epw] 20 2 1000 (boolT (isTrueZ (subE eQ [1]) (envR L C)))) [L, C, W] n 0 [frm hs tk ep sl (locR R lk TL len cd ((Sh.two c (.ref W)).out a b)), celO (some (.bytes (bts (oneI i)) to)), lstO (wvs tw 0 (wsI i)).toArray epw]
      (fun o => finOf o = bfin false) := by
  cases b1
  all_goals (rcases hi with rfl | rfl | rfl | rfl | rfl <;> refine ⟨⟨?_, ?_, ?_, ?_⟩, ⟨?_, ?_, ?_, ?_⟩, ?_⟩ <;> first | exact True.intro | (show _ = _; kernel_rfl))
theorem rq2 (P : Params) (b1 b2 b3 : Bool) (n t L C W R TL : Nat) (lk : Bool) (len cd : Value) (hs : Nat → Int) (tk : Nat → Nat) (ep : Nat) (sl : Array (Option Value)) (a b c : Value) (i : Nat) (hi : i = 6 ∨ i = 7 ∨ i = 8 ∨ i = 10 ∨ i = 11) (to epw : Nat) (tw : Nat → Nat) :
    FinK (outR (mkP P b1 b2 b3) n t 3 [frm hs tk ep sl (locR R lk TL len cd ((Sh.two c (.ref W)).out a b)), celO (some (.bytes (bts (oneI i)) to)), lstO (wvs tw 0 (wsI i)).toArray epw] 40 131072 1000 (boolT (isTrueZ (subE eQ [2]) (envR L C)))) [L, C, W] n 0 [frm hs tk ep sl (locR R lk TL len cd ((Sh.two c (.ref W)).out a b)), celO (some (.bytes (bts (oneI i)) to)), lstO (wvs tw 0 (wsI i)).toArray epw]
      (fun o => finOf o = bfin (hitQ2 i)) := by
  cases b1
  all_goals (rcases hi with rfl | rfl | rfl | rfl | rfl <;> refine ⟨⟨?_, ?_, ?_, ?_⟩, ⟨?_, ?_, ?_, ?_⟩, ?_⟩ <;> first | exact True.intro | (show _ = _; kernel_rfl))
theorem rq3 (P : Params) (b1 b2 b3 : Bool) (n t L C W R TL : Nat) (lk : Bool) (len cd : Value) (hs : Nat → Int) (tk : Nat → Nat) (ep : Nat) (sl : Array (Option Value)) (a b c : Value) (i : Nat) (hi : i = 6 ∨ i = 7 ∨ i = 8 ∨ i = 10) (to epw : Nat) (tw : Nat → Nat) :
    FinK (outR (mkP P b1 b2 b3) n t 3 [frm hs tk ep sl (locR R lk TL len cd ((Sh.two c (.ref W)).out a b)), celO (some (.bytes (bts (oneI i)) to)), lstO (wvs tw 0 (wsI i)).toArray epw] 130 (oraQ3 b2 i) 1000 (valT (evalZ (subE eQ [3, 0]) (envR L C)))) [L, C, W] n 0 [frm hs tk ep sl (locR R lk TL len cd ((Sh.two c (.ref W)).out a b)), celO (some (.bytes (bts (oneI i)) to)), lstO (wvs tw 0 (wsI i)).toArray epw]
      (fun o => finOf o = .done (.ret (.ref (n + 258 + 1))) ∧ tget (tabOf o) 4 = some (lstO (sqOf (objAt o 4)).toArray (epOf (objAt o 4))) ∧ (sqOf (objAt o 4)).isEmpty = !hitQ3 i) := by
  cases b1 <;> cases b2
  all_goals (rcases hi with rfl | rfl | rfl | rfl <;> refine ⟨⟨?_, ?_, ?_, ?_⟩, ⟨?_, ?_, ?_, ?_⟩, ?_, ?_, ?_⟩ <;> first | exact True.intro | (show _ = _; kernel_rfl))
def seenB : Seen → List Nat
  | none => []
  | some x => x
def hitQ4 (i : Nat) : Seen → Bool
  | none => false
  | some x => !decide (x = oneI i)
theorem rq4 (P : Params) (b1 b2 b3 : Bool) (n t L C W R TL : Nat) (lk : Bool) (cd : Value) (hs : Nat → Int) (tk : Nat → Nat) (ep : Nat) (sl : Array (Option Value)) (a b c : Value) (i : Nat) (hi : i = 6 ∨ i = 7 ∨ i = 8) (to epw : Nat) (tw : Nat → Nat) (seen : Seen) (hs0 : seen = none ∨ seen = some [51] ∨ seen = some [48, 51]) (tl : Nat) :
    FinK (outR (mkP P b1 b2 b3) n t 3 [frm hs tk ep sl (locR R lk TL (.bytes (bts (seenB seen)) tl) cd ((Sh.two c (.ref W)).out a b)), celO (some (.bytes (bts (oneI i)) to)), lstO (wvs tw 0 (wsI i)).toArray epw] 40 131329 1000 (boolT (isTrueZ (subE eQ [4]) (envR L C)))) [L, C, W] n 0 [frm hs tk ep sl (locR R lk TL (.bytes (bts (seenB seen)) tl) cd ((Sh.two c (.ref W)).out a b)), celO (some (.bytes (bts (oneI i)) to)), lstO (wvs tw 0 (wsI i)).toArray epw]
      (fun o => finOf o = bfin (hitQ4 i seen)) := by
  cases b1 <;> rcases hs0 with rfl | rfl | rfl
  all_goals (rcases hi with rfl | rfl | rfl <;> refine ⟨⟨?_, ?_, ?_, ?_⟩, ⟨?_, ?_, ?_, ?_⟩, ?_⟩ <;> first | exact True.intro | (show _ = _; kernel_rfl))
theorem rqR (P : Params) (b1 b2 b3 : Bool) (n t L C : Nat) : FinK (outR (mkP P b1 b2 b3) n t 0 [] 20 0 1000 (flowT (zw12563942051412417395 (ifBd (cB 2)) (envR L C)))) [] n 0 []
      (fun o => finOf o = .done (.ret (.ref (n + 258 + 1))) ∧ tget (tabOf o) 0 = some (lstO #[] (epOf (objAt o 0))) ∧ tget (tabOf o) 1 = some (tupO [.int 400 (sqTok (objAt o 1) 0), .ref (n + 258)] (epOf (objAt o 1)))) := by
  refine ⟨⟨?_, ?_, ?_, ?_⟩, ?_, ?_, ?_, ?_⟩
  all_goals first | exact True.intro | (show _ = _; kernel_rfl)
noncomputable def treeR34 (L C : Nat) : Sem Fin := flowT (zw12563942051412417395 [cB 3, cB 4] (envR L C))
noncomputable abbrev out34 (P : Params) (n t L C TL : Nat) (loc : List (Str × Value)) (hs : Nat → Int) (tk : Nat → Nat) (ep : Nat) (sl : Array (Option Value)) (x : Array UInt8) (to : Nat) (arr : Array Value) (epa : Nat) : Out :=
  outR P n t 3 [frm hs tk ep sl loc, celO (some (.bytes x to)), lstO arr epa] 40 36965830527904055553 1 (treeR34 L C)
theorem rc34 (P : Params) (b1 b2 b3 : Bool) (n t L C W R TL : Nat) (lk : Bool) (cd : Value) (tl : Nat) (hs : Nat → Int) (tk : Nat → Nat) (ep : Nat) (sl : Array (Option Value)) (nb lb : Array UInt8) (t1 t3 : Nat) (b : Value) (x : Array UInt8) (to : Nat) (arr : Array Value) (epa : Nat) :
    let loc := locR R lk TL (.bytes (bts []) tl) cd ((Sh.two (.bytes lb t3) (.ref W)).out (.bytes nb t1) b)
    CallK (out34 (mkP P b1 b2 b3) n t L C TL loc hs tk ep sl x to arr epa) [L, C, TL] n 0 [frm hs tk ep sl loc, celO (some (.bytes x to)), lstO arr epa]
      (fun o => codeOf o = .call (.builtin "list.append") ⟨[.ref TL, .ref (n + 258)], []⟩ ∧ tget (tabOf o) 3 = some (tupO [.bytes nb (sqTok (objAt o 3) 0), .bytes lb (sqTok (objAt o 3) 1), .bytes x (sqTok (objAt o 3) 2)] (epOf (objAt o 3)))) := by
  cases b1 <;> refine ⟨⟨?_, ?_, ?_, ?_, ?_⟩, ⟨?_, ?_, ?_, ?_⟩, ?_, ?_⟩ <;> first | exact True.intro | (show _ = _; kernel_rfl)
theorem rc34b (P : Params) (b1 b2 b3 : Bool) (n t L C W R TL : Nat) (lk : Bool) (cd : Value) (tl : Nat) (hs : Nat → Int) (tk : Nat → Nat) (ep : Nat) (sl : Array (Option Value)) (nb lb : Array UInt8) (t1 t3 : Nat) (b : Value) (x : Array UInt8) (to : Nat) (arr : Array Value) (epa n' t' : Nat) (hs' : Nat → Int) (tk' : Nat → Nat) (ep' : Nat) (sl' : Array (Option Value)) :
    let loc := locR R lk TL (.bytes (bts []) tl) cd ((Sh.two (.bytes lb t3) (.ref W)).out (.bytes nb t1) b)
    FinK (outR (mkP P b1 b2 b3) n' t' 2 [frm hs' tk' ep' sl' loc, celO (some (.bytes x to))] 40 65794 1000 (treeOf (out34 (mkP P b1 b2 b3) n t L C TL loc hs tk ep sl x to arr epa) (.ok (.ret .none)))) [L, C] n' 1 [frm hs' tk' ep' sl' loc, celO (some (.bytes x to))]
      (fun o => finOf o = .done .next ∧ frm0 o sl' (locR R lk TL (.bytes x (keyTok (vlOf (objAt o 0) 3))) cd ((Sh.two (.bytes lb t3) (.ref W)).out (.bytes nb t1) b))) := by
  cases b1 <;> refine ⟨⟨?_, ?_, ?_, ?_⟩, ⟨?_, ?_⟩, ?_, ?_⟩ <;> first | exact True.intro | (show _ = _; kernel_rfl)
theorem rc34s (P : Params) (b1 b2 b3 : Bool) (n t L C W R TL : Nat) (lk : Bool) (cd : Value) (y : List Nat) (hy : y = [51] ∨ y = [48, 51]) (tl : Nat) (hs : Nat → Int) (tk : Nat → Nat) (ep : Nat) (sl : Array (Option Value)) (a b c : Value) (x : Array UInt8) (to : Nat) :
    let loc := locR R lk TL (.bytes (bts y) tl) cd ((Sh.two c (.ref W)).out a b)
    FinK (outR (mkP P b1 b2 b3) n t 2 [frm hs tk ep sl loc, celO (some (.bytes x to))] 40 16843265 1000 (treeR34 L C)) [L, C] n 1 [frm hs tk ep sl loc, celO (some (.bytes x to))]
      (fun o => finOf o = .done .next ∧ frm0 o sl (locR R lk TL (.bytes x (keyTok (vlOf (objAt o 0) 3))) cd ((Sh.two c (.ref W)).out a b))) := by
  rcases hy with rfl | rfl <;> cases b1 <;> refine ⟨⟨?_, ?_, ?_, ?_⟩, ⟨?_, ?_⟩, ?_, ?_⟩ <;> first | exact True.intro | (show _ = _; kernel_rfl)
noncomputable def treeR4 (L C : Nat) : Sem Fin := flowT (zw12563942051412417395 [stR 4] (envR L C))
theorem reZ (P : Params) (b1 b2 b3 : Bool) (n t L C R TL : Nat) (lk : Bool) (len cd : Value) (rest : List (Str × Value)) (hs : Nat → Int) (tk : Nat → Nat) (ep : Nat) (sl : Array (Option Value)) :
    FinK (outR (mkP P b1 b2 b3) n t 1 [frm hs tk ep sl (locR R lk TL len cd rest)] 30 257 1000 (treeR4 L C)) [L] n 0 [frm hs tk ep sl (locR R lk TL len cd rest)]
      (fun o => finOf o = .done (.ret (.ref (n + 258))) ∧ tget (tabOf o) 1 = some (tupO [.int 0 (sqTok (objAt o 1) 0), .ref TL] (epOf (objAt o 1)))) := by
  refine ⟨⟨?_, ?_, ?_, ?_⟩, ⟨?_, ?_⟩, ?_, ?_⟩
  all_goals first | exact True.intro | (show _ = _; kernel_rfl)
end Mine
end
section
open PySem PySem.W PySem.W.X PySem.Calls PyProof.Rows
set_option maxRecDepth 100000
set_option maxHeartbeats 400000
namespace Mine
open PySem.W.ZFast
def rowI (i : Nat) : Row := (bts (itm i).1, bts (told i).1, bts (told i).2)
def CelAt (h : Heap) (C : Nat) : Prop := ∃ v, h.get? C = some (celO v)
def RetAt (h : Heap) (v : Value) (hint : Int) (TL : Nat) : Prop := ∃ T tk ep, v = .ref T ∧ @LE.le Nat _ 258 T ∧ h.get? T = some (tupO [.int hint tk, .ref TL] ep)
def SeenOk (seen : Seen) : Prop := seen = none ∨ seen = some [51] ∨ seen = some [48, 51]
def LenIs (v : Value) (seen : Seen) : Prop := SeenOk seen ∧ ∃ tl, v = .bytes (bts (seenB seen)) tl
theorem tupRow {h : Heap} {a : Nat} {x y z : Array UInt8} {t1 t2 t3 ep : Nat} (l : @LE.le Nat _ 258 a) (e : h.get? a = some (tupO [.bytes x t1, .bytes y t2, .bytes z t3] ep)) : pRow h (.ref a) (x, y, z) :=
  ⟨a, fun j => match j with | 0 => t1 | 1 => t2 | _ => t3, ep, rfl, l, e⟩
theorem rep_t : ∀ i < 16, (told i).1 = (told (repN i)).1 := by decide
theorem it_ends : ∀ i < 16, (i = 0 ∨ i = 1 ∨ i = 2 ∨ i = 3 ∨ i = 4 ∨ i = 5 ∨ i = 15) ∨ (i = 12 ∨ i = 13 ∨ i = 14) ∨ (i = 6 ∨ i = 7 ∨ i = 8 ∨ i = 9 ∨ i = 10 ∨ i = 11) := by decide
theorem wv_len : ∀ (ts : Nat → Nat) (l : List (List Nat)) (j : Nat), (wvs ts j l).length = l.length
  | _, [], _ => rfl
  | ts, _ :: l, j => congrArg (· + 1) (wv_len ts l (j + 1))
section
variable {w : World} {A : Around} {Q : Flow → Shared → Prop} {E : Value → Shared → Prop} {h : Heap} {g : Array GenState} {dr : Drawn} {t : Nat} {o : OsState}
theorem r2plain (ar : Ar A) (ok : Okay w.params h) {L C R TL : Nat} {lk : Bool} {len cd : Value} {r : Sh} (hr : r.full) {i : Nat} (hi : i = 0 ∨ i = 1 ∨ i = 2 ∨ i = 3 ∨ i = 4 ∨ i = 5 ∨ i = 15) {nb vb : Array UInt8} {t1 t2 t3 : Nat} {arr : Array Value} (hsz : arr.size ≤ 1000) (lL : Low w.params L) (lT : Low w.params TL)
    (hL : LocAt h L (locR R lk TL len cd ((r.low (.bytes (bts (told i).1) t3)).out (.bytes nb t1) (.bytes vb t2)))) (hT : LstAt h TL arr)
    (hQ : ∀ a s', But [TL] h s'.heap → OkS w.params g o s' → @LE.le Nat _ h.objs.size a → LstAt s'.heap TL (arr.push (.ref a)) → pRow s'.heap (.ref a) (nb, bts (told i).1, vb) → Q .next s') :
    wpAny (model pw w) A (execs [rB 2] (envR L C)) Q E ⟨h, g, dr, t, o⟩ := by
  obtain ⟨hs, tk, ep, sl, hL⟩ := hL
  obtain ⟨epa, hT⟩ := hT
  obtain ⟨n, hn⟩ := ok.size
  obtain ⟨b1, b2, b3, hP⟩ := params_split w.params
  have n1 : L ≠ TL := ne_cls hL hT (by simp [frm, lstO])
  rw [execs_zf]
  refine wpAny_flowT (segCall hP ar ok hn [L, TL] [frm hs tk ep sl _, lstO arr epa] 0 80 (low2 lL lT) (by simp [n1]) ⟨hL, hT, trivial⟩ (re2p w.params b1 b2 b3 n t L C R TL lk len cd hs tk ep sl r hr i hi nb vb t1 t2 t3 arr epa) fun out h₁ dr₁ hout S af => ?_)
  subst hout
  obtain ⟨hc, h2⟩ := S
  rw [hc]
  have b₁ : But [] h h₁ := af.but
  have lt := Heap.lt_size hT
  have hne : n + 258 ≠ TL := fun e => by rw [hn, ← e] at lt; exact absurd lt (Nat.lt_irrefl _)
  refine codeAny_append ar af.ok lT ⟨epa, b₁.keep _ _ hT (fun m => nomatch m)⟩ hsz fun s₂ b₂ ok₂ T₂ => ?_
  obtain ⟨h₂, g₂, dr₂, t₂, o₂⟩ := s₂
  obtain ⟨ok₂, rfl, rfl⟩ := ok₂
  obtain ⟨n₂, hn₂⟩ := ok₂.size
  refine segFin hP ar ok₂ hn₂ [] [] 0 10 low0 (by simp) trivial (re2pb w.params b1 b2 b3 n t L C R TL lk len cd hs tk ep sl r hr i hi nb vb t1 t2 t3 arr epa n₂ t₂) fun out h₃ dr₃ S af₃ => ?_
  rw [S]
  have b₃ : But [] h₂ h₃ := af₃.but
  exact hQ (n + 258) _ (b₁.nil.trans (b₂.trans b₃.nil)) af₃.ok (Nat.le_of_eq hn) (T₂.keep b₃ (fun m => nomatch m)) (tupRow (Nat.le_add_left _ _) (b₃.keep _ _ (b₂.keep _ _ (af.get 2 _ h2) (by simpa using hne)) (fun m => nomatch m)))
theorem r2te (ar : Ar A) (ok : Okay w.params h) {L C R TL : Nat} {lk : Bool} {len : Value} {r : Sh} (hr : r.full) {i : Nat} (hi : i = 12 ∨ i = 13) {nb : Array UInt8} {t1 t2 t3 : Nat} {arr : Array Value} (hsz : arr.size ≤ 1000) (lL : Low w.params L) (lT : Low w.params TL)
    (hL : LocAt h L (locR R lk TL len (.bool false) ((r.low (.bytes (bts teLow) t3)).out (.bytes nb t1) (.bytes (bts (itm i).2) t2)))) (hT : LstAt h TL arr)
    (hQ : ∀ a s', But [L, TL] h s'.heap → OkS w.params g o s' → LocAt s'.heap L (locR R lk TL len (.bool true) ((r.low (.bytes (bts teLow) t3)).out (.bytes nb t1) (.bytes (bts (itm i).2) t2))) → @LE.le Nat _ h.objs.size a → LstAt s'.heap TL (arr.push (.ref a)) → pRow s'.heap (.ref a) (nb, bts teLow, bts chunked) → Q .next s') :
    wpAny (model pw w) A (execs [rB 2] (envR L C)) Q E ⟨h, g, dr, t, o⟩ := by
  obtain ⟨hs, tk, ep, sl, hL⟩ := hL
  obtain ⟨epa, hT⟩ := hT
  obtain ⟨n, hn⟩ := ok.size
  obtain ⟨b1, b2, b3, hP⟩ := params_split w.params
  have n1 : L ≠ TL := ne_cls hL hT (by simp [frm, lstO])
  rw [execs_zf]
  refine wpAny_flowT (segCall hP ar ok hn [L, TL] [frm hs tk ep sl _, lstO arr epa] 1 80 (low2 lL lT) (by simp [n1]) ⟨hL, hT, trivial⟩ (re2t w.params b1 b2 b3 n t L C R TL lk len (.bool false) hs tk ep sl r hr i hi nb t1 t2 t3 arr epa) fun out h₁ dr₁ hout S af => ?_)
  subst hout
  obtain ⟨hc, h0, h2⟩ := S
  rw [hc]
  have b₁ : But [L] h h₁ := af.but
  have lt := Heap.lt_size hT
  have lt' := Heap.lt_size hL
  have hne : n + 258 ≠ TL := fun e => by rw [hn, ← e] at lt; exact absurd lt (Nat.lt_irrefl _)
  have l1 : LocAt h₁ L _ := ⟨_, _, _, _, af.get 0 _ h0⟩
  refine codeAny_append ar af.ok lT ⟨epa, b₁.keep _ _ hT (by simpa using n1.symm)⟩ hsz fun s₂ b₂ ok₂ T₂ => ?_
  obtain ⟨h₂, g₂, dr₂, t₂, o₂⟩ := s₂
  obtain ⟨ok₂, rfl, rfl⟩ := ok₂
  obtain ⟨n₂, hn₂⟩ := ok₂.size
  refine segFin hP ar ok₂ hn₂ [] [] 0 10 low0 (by simp) trivial (re2tb w.params b1 b2 b3 n t L C R TL lk len (.bool false) hs tk ep sl r hr i hi nb t1 t2 t3 arr epa n₂ t₂) fun out h₃ dr₃ S af₃ => ?_
  rw [S]
  have b₃ : But [] h₂ h₃ := af₃.but
  exact hQ (n + 258) _ ((b₁.mono (fun a m => by rw [List.mem_singleton.mp m]; simp)).trans ((b₂.mono (fun a m => by rw [List.mem_singleton.mp m]; simp)).trans b₃.nil)) af₃.ok ((l1.keeps b₂ (by simpa using n1)).keep b₃) (Nat.le_of_eq hn) (T₂.keep b₃ (fun m => nomatch m)) (tupRow (Nat.le_add_left _ _) (b₃.keep _ _ (b₂.keep _ _ (af.get 2 _ h2) (by simpa using hne)) (fun m => nomatch m)))
theorem r2gz (ar : Ar A) (ok : Okay w.params h) {L C R TL : Nat} {lk c : Bool} {len : Value} {r : Sh} (hr : r.full) {i : Nat} (hi : (i = 12 ∧ c = true) ∨ (i = 13 ∧ c = true) ∨ (i = 14 ∧ c = true) ∨ (i = 14 ∧ c = false)) {nb : Array UInt8} {t1 t2 t3 : Nat} (lL : Low w.params L)
    (hL : LocAt h L (locR R lk TL len (.bool c) ((r.low (.bytes (bts teLow) t3)).out (.bytes nb t1) (.bytes (bts (itm i).2) t2))))
    (hQ : ∀ v l s', But [] h s'.heap → OkS w.params g o s' → RetAt s'.heap v 501 l → LstAt s'.heap l #[] → @LE.le Nat _ h.objs.size l → Q (.ret v) s') :
    wpAny (model pw w) A (execs [rB 2] (envR L C)) Q E ⟨h, g, dr, t, o⟩ := by
  obtain ⟨hs, tk, ep, sl, hL⟩ := hL
  obtain ⟨n, hn⟩ := ok.size
  obtain ⟨b1, b2, b3, hP⟩ := params_split w.params
  rw [execs_zf]
  refine wpAny_flowT (segFin hP ar ok hn [L] [frm hs tk ep sl _] 0 80 (low1 lL) (by simp) ⟨hL, trivial⟩ (re2g w.params b1 b2 b3 n t L C R TL lk len (.bool c) hs tk ep sl r hr i c hi nb t1 t2 t3) fun out h₁ dr₁ S af => ?_)
  obtain ⟨hf, h1, h2⟩ := S
  rw [hf]
  exact hQ _ (n + 258) _ af.but af.ok ⟨_, _, _, rfl, by omega, af.get 2 _ h2⟩ ⟨_, af.get 1 _ h1⟩ (Nat.le_of_eq hn)
end
end Mine
end
section
open PySem PySem.W PySem.W.X PySem.Calls PyProof.Rows
set_option maxRecDepth 100000
set_option maxHeartbeats 400000
namespace Mine
open PySem.W.ZFast
theorem eQ1_tr (L C : Nat) : PySem.isTrue (subE eQ [1]) (envR L C) (eval (subE eQ [1]) (envR L C)) = isTrueZ (subE eQ [1]) (envR L C) := isTrue_zf _ _
def stepL (i : Nat) (seen : Seen) : Option (Bool × Seen) := match i with
  | 9 => none
  | 10 => none
  | 11 => none
  | i => match seen with
    | none => some (true, some (oneI i))
    | some q => if q = oneI i then some (false, seen) else none
section
variable {w : World} {A : Around} {Q : Flow → Shared → Prop} {E : Value → Shared → Prop} {h : Heap} {g : Array GenState} {dr : Drawn} {t : Nat} {o : OsState}
theorem r2ret (ar : Ar A) (ok : Okay w.params h) {L C : Nat}
    (hQ : ∀ v l s', But [] h s'.heap → OkS w.params g o s' → RetAt s'.heap v 400 l → LstAt s'.heap l #[] → @LE.le Nat _ h.objs.size l → Q (.ret v) s') :
    wpAny (model pw w) A (execs (ifBd (cB 2)) (envR L C)) Q E ⟨h, g, dr, t, o⟩ := by
  obtain ⟨n, hn⟩ := ok.size
  obtain ⟨b1, b2, b3, hP⟩ := params_split w.params
  rw [execs_zf]
  refine wpAny_flowT (segFin hP ar ok hn [] [] 0 20 low0 (by simp) trivial (rqR w.params b1 b2 b3 n t L C) fun out h₁ dr₁ S af => ?_)
  obtain ⟨hf, h1, h2⟩ := S
  rw [hf]
  exact hQ _ (n + 258) _ af.but af.ok ⟨_, _, _, rfl, by omega, af.get 1 _ h2⟩ ⟨_, af.get 0 _ h1⟩ (Nat.le_of_eq hn)
theorem r2test {Q : Bool → Shared → Prop} (ar : Ar A) (hu : A.units + 1 < cLine) (ok : Okay w.params h) {L C W R TL : Nat} {lk : Bool} {seen : Seen} (hso : SeenOk seen) {tl : Nat} {cd a b c : Value} {i : Nat} (hi : i = 6 ∨ i = 7 ∨ i = 8 ∨ i = 9 ∨ i = 10 ∨ i = 11) {to epw : Nat} {tw : Nat → Nat}
    (lL : Low w.params L) (lC : Low w.params C) (lW : Low w.params W)
    (hL : LocAt h L (locR R lk TL (.bytes (bts (seenB seen)) tl) cd ((Sh.two c (.ref W)).out a b))) (hC : h.get? C = some (celO (some (.bytes (bts (oneI i)) to)))) (hW : h.get? W = some (lstO (wvs tw 0 (wsI i)).toArray epw))
    (hQ : ∀ s', But [] h s'.heap → OkS w.params g o s' → Q (stepL i seen).isNone s') :
    wpAny (model pw w) A (PySem.isTrue (.BoolOp .Or [.Compare (subE eQ [0, 0]) [.NotEq] [.List [] (posL (subE eQ [0, 1]))] (posC (subE eQ [0])), subE eQ [1], subE eQ [2], .Compare (subE eQ [3, 0]) [.NotEq] [.List [] (posL (subE eQ [3, 1]))] (posC (subE eQ [3])), subE eQ [4]] (posE eQ)) (envR L C) (eval (.BoolOp .Or [.Compare (subE eQ [0, 0]) [.NotEq] [.List [] (posL (subE eQ [0, 1]))] (posC (subE eQ [0])), subE eQ [1], subE eQ [2], .Compare (subE eQ [3, 0]) [.NotEq] [.List [] (posL (subE eQ [3, 1]))] (posC (subE eQ [3])), subE eQ [4]] (posE eQ)) (envR L C))) Q E ⟨h, g, dr, t, o⟩ := by
  obtain ⟨hs, tk, ep, sl, hL⟩ := hL
  obtain ⟨b1, b2, b3, hP⟩ := params_split w.params
  have n1 : L ≠ C := ne_cls hL hC (by simp [frm, celO])
  have n2 : L ≠ W := ne_cls hL hW (by simp [frm, lstO])
  have n3 : C ≠ W := ne_cls hC hW (by simp [celO, lstO])
  obtain ⟨n, hn⟩ := ok.size
  refine wpAny_isTrue_BoolOp (wpAny_allTrue_Or_cons (testNil hu ?_))
  rw [eval_zf]
  refine wpAny_valT (segFin hP ar ok hn [L, C, W] [frm hs tk ep sl _, celO _, lstO _ epw] 0 130 (low3 lL lC lW) (by simp [n1, n2, n3]) ⟨hL, hC, hW, trivial⟩ (rq0 w.params b1 b2 b3 n t L C W R TL lk (.bytes (bts (seenB seen)) tl) cd hs tk ep sl a b c i hi to epw tw) fun out h₁ dr₁ S af => ?_)
  obtain ⟨hf, h4, hemp⟩ := S
  rw [hf]
  have b₁ : But [] h h₁ := af.but
  refine ⟨_, _, rfl, af.ok, ⟨_, af.get 4 _ h4⟩, fun s₂ b₂ ok₂ => ?_⟩
  rw [List.toList_toArray, hemp, Bool.not_not]
  have b02 := b₁.trans b₂
  by_cases h9 : i = 9
  · subst h9
    simp only [hitQ0, if_true]
    exact hQ _ b02 ok₂
  have h0 : hitQ0 i = false := by rcases hi with rfl | rfl | rfl | rfl | rfl | rfl <;> first | rfl | exact absurd rfl h9
  rw [h0]
  simp only [Bool.false_eq_true, if_false]
  have hi' : i = 6 ∨ i = 7 ∨ i = 8 ∨ i = 10 ∨ i = 11 := by omega
  obtain ⟨h₂, g₂, dr₂, t₂, o₂⟩ := s₂
  obtain ⟨ok₂, rfl, rfl⟩ := ok₂
  have k : ∀ {x o}, h.get? x = some o → h₂.get? x = some o := fun e => b02.keep _ _ e (fun m => nomatch m)
  obtain ⟨n₂, hn₂⟩ := ok₂.size
  refine wpAny_allTrue_Or_cons ?_
  rw [isTrue_zf]
  refine wpAny_boolT (segFin hP ar ok₂ hn₂ [L, C, W] [frm hs tk ep sl _, celO _, lstO _ epw] 0 20 (low3 lL lC lW) (by simp [n1, n2, n3]) ⟨k hL, k hC, k hW, trivial⟩ (rq1 w.params b1 b2 b3 n₂ t₂ L C W R TL lk (.bytes (bts (seenB seen)) tl) cd hs tk ep sl a b c i hi' to epw tw) fun out h₃ dr₃ S af₃ => ?_)
  rw [S]
  simp only [bfin, Bool.false_eq_true, if_false]
  have b03 : But [] h h₃ := b02.trans af₃.but
  have k : ∀ {x o}, h.get? x = some o → h₃.get? x = some o := fun e => b03.keep _ _ e (fun m => nomatch m)
  obtain ⟨n₃, hn₃⟩ := af₃.ok.size
  refine wpAny_allTrue_Or_cons ?_
  rw [isTrue_zf]
  refine wpAny_boolT (segFin hP ar af₃.ok hn₃ [L, C, W] [frm hs tk ep sl _, celO _, lstO _ epw] 0 40 (low3 lL lC lW) (by simp [n1, n2, n3]) ⟨k hL, k hC, k hW, trivial⟩ (rq2 w.params b1 b2 b3 n₃ _ L C W R TL lk (.bytes (bts (seenB seen)) tl) cd hs tk ep sl a b c i hi' to epw tw) fun out h₄ dr₄ S af₄ => ?_)
  rw [S]
  have b04 : But [] h h₄ := b03.trans af₄.but
  by_cases h11 : i = 11
  · subst h11
    exact hQ _ b04 af₄.ok
  have h2 : hitQ2 i = false := by rcases hi' with rfl | rfl | rfl | rfl | rfl <;> first | rfl | exact absurd rfl h11
  rw [h2]
  simp only [bfin, Bool.false_eq_true, if_false]
  have hi'' : i = 6 ∨ i = 7 ∨ i = 8 ∨ i = 10 := by omega
  have k : ∀ {x o}, h.get? x = some o → h₄.get? x = some o := fun e => b04.keep _ _ e (fun m => nomatch m)
  obtain ⟨n₄, hn₄⟩ := af₄.ok.size
  refine wpAny_allTrue_Or_cons (testNil hu ?_)
  rw [eval_zf]
  refine wpAny_valT (segFin hP ar af₄.ok hn₄ [L, C, W] [frm hs tk ep sl _, celO _, lstO _ epw] 0 130 (low3 lL lC lW) (by simp [n1, n2, n3]) ⟨k hL, k hC, k hW, trivial⟩ (rq3 w.params b1 b2 b3 n₄ _ L C W R TL lk (.bytes (bts (seenB seen)) tl) cd hs tk ep sl a b c i hi'' to epw tw) fun out h₅ dr₅ S af₅ => ?_)
  obtain ⟨hf, h4', hemp⟩ := S
  rw [hf]
  have b05 : But [] h h₅ := b04.trans af₅.but
  refine ⟨_, _, rfl, af₅.ok, ⟨_, af₅.get 4 _ h4'⟩, fun s₆ b₆ ok₆ => ?_⟩
  rw [List.toList_toArray, hemp, Bool.not_not]
  have b06 := b05.trans b₆
  by_cases h10 : i = 10
  · subst h10
    simp only [hitQ3, if_true]
    exact hQ _ b06 ok₆
  have h3 : hitQ3 i = false := by rcases hi'' with rfl | rfl | rfl | rfl <;> first | rfl | exact absurd rfl h10
  rw [h3]
  simp only [Bool.false_eq_true, if_false]
  have hi3 : i = 6 ∨ i = 7 ∨ i = 8 := by omega
  obtain ⟨h₆, g₆, dr₆, t₆, o₆⟩ := s₆
  obtain ⟨ok₆, rfl, rfl⟩ := ok₆
  have k : ∀ {x o}, h.get? x = some o → h₆.get? x = some o := fun e => b06.keep _ _ e (fun m => nomatch m)
  obtain ⟨n₆, hn₆⟩ := ok₆.size
  refine wpAny_allTrue_Or_cons ?_
  rw [isTrue_zf]
  refine wpAny_boolT (segFin hP ar ok₆ hn₆ [L, C, W] [frm hs tk ep sl _, celO _, lstO _ epw] 0 40 (low3 lL lC lW) (by simp [n1, n2, n3]) ⟨k hL, k hC, k hW, trivial⟩ (rq4 w.params b1 b2 b3 n₆ t₆ L C W R TL lk cd hs tk ep sl a b c i hi3 to epw tw seen hso tl) fun out h₇ dr₇ S af₇ => ?_)
  rw [S]
  have b07 : But [] h h₇ := b06.trans af₇.but
  have e : hitQ4 i seen = (stepL i seen).isNone := by
    rcases hi3 with rfl | rfl | rfl <;> rcases hso with rfl | rfl | rfl <;> decide
  cases hq : hitQ4 i seen with
  | true =>
    rw [hq] at e
    have := hQ ⟨h₇, g, dr₇, t₆ + tokOf out, o⟩ b07 af₇.ok
    rw [← e] at this
    exact this
  | false =>
    rw [hq] at e
    simp only [bfin, Bool.false_eq_true, if_false]
    refine wpAny_allTrue_Or_nil ?_
    have := hQ ⟨h₇, g, dr₇, t₆ + tokOf out, o⟩ b07 af₇.ok
    rw [← e] at this
    exact this
end
end Mine
end
section
open PySem PySem.W PySem.W.X PySem.Calls PyProof.Rows
set_option maxRecDepth 100000
set_option maxHeartbeats 400000
namespace Mine
open PySem.W.ZFast
theorem wpAny_execs_at {M : Model} {A : Around} {Q : Flow → Shared → Prop} {E : Value → Shared → Prop} {env : Env} {st : Stmt} {l : List Stmt} {s : Shared} (h : wpAny M A (exec st env) (fun f s' => match f with | .next => wpAny M A (execs l env) Q E s' | f => Q f s') E s) : wpAny M A (execs (st :: l) env) Q E s := wpAny_execs_cons h
theorem Slots3 {h : Heap} {a b c : Nat} {o o' o'' : Obj} (x : h.get? a = some o) (y : h.get? b = some o') (z : h.get? c = some o'') : Slots h [a, b, c] [o, o', o''] := ⟨x, y, z, trivial⟩
theorem stepL_of (i : Nat) (h9 : i ≠ 9) (h10 : i ≠ 10) (h11 : i ≠ 11) (seen : Seen) : stepL i seen = match seen with | none => some (true, some (oneI i)) | some q => if q = oneI i then some (false, seen) else none := by
  unfold stepL
  split <;> first | exact absurd rfl h9 | exact absurd rfl h10 | exact absurd rfl h11 | rfl
section
variable {w : World} {A : Around} {Q : Flow → Shared → Prop} {E : Value → Shared → Prop} {h : Heap} {g : Array GenState} {dr : Drawn} {t : Nat} {o : OsState}
theorem Sh.low_out (r : Sh) (x d : Value) : (r.low x).wd d = .two x d := by cases r <;> rfl
theorem r2tail (ar : Ar A) (ok : Okay w.params h) {L C W R TL : Nat} {lk : Bool} {seen : Seen} (hso : SeenOk seen) {tl : Nat} {cd b : Value} {i : Nat} {nb lb : Array UInt8} {t1 t3 to : Nat} {bb : Bool} {seen' : Seen} (hst : stepL i seen = some (bb, seen')) (ho : SeenOk seen')
    {arr : Array Value} (hsz : arr.size ≤ 1000) (lL : Low w.params L) (lC : Low w.params C) (lT : Low w.params TL)
    (hL : LocAt h L (locR R lk TL (.bytes (bts (seenB seen)) tl) cd ((Sh.two (.bytes lb t3) (.ref W)).out (.bytes nb t1) b))) (hC : h.get? C = some (celO (some (.bytes (bts (oneI i)) to)))) (hT : LstAt h TL arr)
    (hQ : ∀ len s', LenIs len seen' → But [L, C, TL] h s'.heap → OkS w.params g o s' → LocAt s'.heap L (locR R lk TL len cd ((Sh.two (.bytes lb t3) (.ref W)).out (.bytes nb t1) b)) → CelAt s'.heap C →
      (match bb with | false => LstAt s'.heap TL arr | true => ∃ a, @LE.le Nat _ h.objs.size a ∧ LstAt s'.heap TL (arr.push (.ref a)) ∧ pRow s'.heap (.ref a) (nb, lb, bts (oneI i))) → Q .next s') :
    wpAny (model pw w) A (execs [cB 3, cB 4] (envR L C)) Q E ⟨h, g, dr, t, o⟩ := by
  obtain ⟨hs, tk, ep, sl, hL⟩ := hL
  obtain ⟨epa, hT⟩ := hT
  obtain ⟨n, hn⟩ := ok.size
  obtain ⟨b1, b2, b3, hP⟩ := params_split w.params
  have n1 : L ≠ C := ne_cls hL hC (by simp [frm, celO])
  have n2 : L ≠ TL := ne_cls hL hT (by simp [frm, lstO])
  have n3 : C ≠ TL := ne_cls hC hT (by simp [celO, lstO])
  rw [execs_zf]
  have hn9 : i ≠ 9 ∧ i ≠ 10 ∧ i ≠ 11 := by
    refine ⟨?_, ?_, ?_⟩ <;> rintro rfl <;> simp [stepL] at hst
  have step := stepL_of i hn9.1 hn9.2.1 hn9.2.2 seen
  rw [step] at hst
  cases seen with
  | none =>
    simp only [Option.some.injEq, Prod.mk.injEq] at hst
    obtain ⟨rfl, rfl⟩ := hst
    refine wpAny_flowT (segCall hP ar ok hn [L, C, TL] [frm hs tk ep sl _, celO _, lstO arr epa] 0 40 (low3 lL lC lT) (by simp [n1, n2, n3]) ⟨hL, hC, hT, trivial⟩ (rc34 w.params b1 b2 b3 n t L C W R TL lk cd tl hs tk ep sl nb lb t1 t3 b (bts (oneI i)) to arr epa) fun out h₁ dr₁ hout S af => ?_)
    subst hout
    obtain ⟨hc, h3⟩ := S
    rw [hc]
    have b₁ : But [] h h₁ := af.but
    have lt := Heap.lt_size hT
    have hne : n + 258 ≠ TL := fun e => by rw [hn, ← e] at lt; exact absurd lt (Nat.lt_irrefl _)
    have L₁ := b₁.keep _ _ hL (fun m => nomatch m)
    have C₁ := b₁.keep _ _ hC (fun m => nomatch m)
    refine codeAny_append ar af.ok lT ⟨epa, b₁.keep _ _ hT (fun m => nomatch m)⟩ hsz fun s₂ b₂ ok₂ T₂ => ?_
    obtain ⟨h₂, g₂, dr₂, t₂, o₂⟩ := s₂
    obtain ⟨ok₂, rfl, rfl⟩ := ok₂
    obtain ⟨n₂, hn₂⟩ := ok₂.size
    have L₂ := b₂.keep _ _ L₁ (by simpa using n2)
    have C₂ := b₂.keep _ _ C₁ (by simpa using n3)
    refine segFin hP ar ok₂ hn₂ [L, C] [frm hs tk ep sl _, celO _] 1 40 (low2 lL lC) (by simp [n1]) ⟨L₂, C₂, trivial⟩ (rc34b w.params b1 b2 b3 n t L C W R TL lk cd tl hs tk ep sl nb lb t1 t3 b (bts (oneI i)) to arr epa n₂ t₂ hs tk ep sl) fun out h₃ dr₃ S af₃ => ?_
    obtain ⟨hf, h0⟩ := S
    rw [hf]
    have b₃ : But [L] h₂ h₃ := af₃.but
    have rw2 := tupRow (Nat.le_add_left _ _) (af.get 3 _ h3)
    have t₂ : TupK h₁ h₂ := TupK.of b₂ (fun a m => by rw [List.mem_singleton.mp m]; exact ⟨_, b₁.keep _ _ hT (fun m => nomatch m), by simp [lstO]⟩)
    have t₃ : TupK h₂ h₃ := TupK.of b₃ (fun a m => by rw [List.mem_singleton.mp m]; exact ⟨_, L₂, by simp [frm]⟩)
    refine hQ _ _ ⟨ho, _, rfl⟩ (b₁.nil.trans ((b₂.mono (fun a m => by rw [List.mem_singleton.mp m]; simp)).trans (b₃.mono (fun a m => by rw [List.mem_singleton.mp m]; simp)))) af₃.ok ⟨_, _, _, _, af₃.get 0 _ h0⟩ ⟨_, b₃.keep _ _ C₂ (by simpa using n1.symm)⟩ ?_
    exact ⟨n + 258, Nat.le_of_eq hn, T₂.keep b₃ (by simpa using n2.symm), pRow_keep _ _ _ _ t₃ (pRow_keep _ _ _ _ t₂ rw2)⟩
  | some q =>
    simp only at hst
    split at hst
    next hq =>
      simp only [Option.some.injEq, Prod.mk.injEq] at hst
      obtain ⟨rfl, rfl⟩ := hst
      have hy : q = [51] ∨ q = [48, 51] := by simpa [SeenOk] using hso
      refine wpAny_flowT (segFin hP ar ok hn [L, C] [frm hs tk ep sl _, celO _] 1 40 (low2 lL lC) (by simp [n1]) ⟨hL, hC, trivial⟩ (rc34s w.params b1 b2 b3 n t L C W R TL lk cd q hy tl hs tk ep sl (.bytes nb t1) b (.bytes lb t3) (bts (oneI i)) to) fun out h₁ dr₁ S af => ?_)
      obtain ⟨hf, h0⟩ := S
      rw [hf]
      have b₁ : But [L] h h₁ := af.but
      refine hQ _ _ ⟨ho, _, by rw [hq]; rfl⟩ (b₁.mono (fun a m => by rw [List.mem_singleton.mp m]; simp)) af.ok ⟨_, _, _, _, af.get 0 _ h0⟩ ⟨_, b₁.keep _ _ hC (by simpa using n1.symm)⟩ ⟨epa, b₁.keep _ _ hT (by simpa using n2.symm)⟩
    next => cases hst
theorem oneOk (i : Nat) (hi : i = 6 ∨ i = 7 ∨ i = 8 ∨ i = 9 ∨ i = 10 ∨ i = 11) {seen : Seen} (hso : SeenOk seen) {bb : Bool} {seen' : Seen} (hst : stepL i seen = some (bb, seen')) : SeenOk seen' := by
  rcases hi with rfl | rfl | rfl | rfl | rfl | rfl <;> rcases hso with rfl | rfl | rfl <;> simp [stepL, oneI] at hst <;> (obtain ⟨rfl, rfl⟩ := hst; simp [SeenOk])
theorem r2cl (ar : Ar A) (hu : A.units + 1 < cLine) (ok : Okay w.params h) {L C R TL : Nat} {lk : Bool} {seen : Seen} (hso : SeenOk seen) {tl : Nat} {cd : Value} {r : Sh} (hr : r.full) {i : Nat} (hi : i = 6 ∨ i = 7 ∨ i = 8 ∨ i = 9 ∨ i = 10 ∨ i = 11) {nb : Array UInt8} {t1 t2 t3 : Nat}
    {arr : Array Value} (hsz : arr.size ≤ 1000) (lL : Low w.params L) (lC : Low w.params C) (lT : Low w.params TL)
    (hL : LocAt h L (locR R lk TL (.bytes (bts (seenB seen)) tl) cd ((r.low (.bytes (bts clLow) t3)).out (.bytes nb t1) (.bytes (bts (itm i).2) t2)))) (hC : CelAt h C) (hT : LstAt h TL arr)
    (hQ : ∀ bb seen', stepL i seen = some (bb, seen') → ∀ len c' d' s', LenIs len seen' → But [L, C, TL] h s'.heap → OkS w.params g o s' → LocAt s'.heap L (locR R lk TL len cd ((Sh.two c' d').out (.bytes nb t1) (.bytes (bts (itm i).2) t2))) → CelAt s'.heap C →
      (match bb with | false => LstAt s'.heap TL arr | true => ∃ a, @LE.le Nat _ h.objs.size a ∧ LstAt s'.heap TL (arr.push (.ref a)) ∧ pRow s'.heap (.ref a) (nb, bts clLow, bts (oneI i))) → Q .next s')
    (hR : stepL i seen = none → ∀ v l s', But [L, C] h s'.heap → OkS w.params g o s' → RetAt s'.heap v 400 l → LstAt s'.heap l #[] → @LE.le Nat _ h.objs.size l → Q (.ret v) s') :
    wpAny (model pw w) A (execs [rB 2] (envR L C)) Q E ⟨h, g, dr, t, o⟩ := by
  obtain ⟨hs, tk, ep, sl, hL⟩ := hL
  obtain ⟨cv, hC⟩ := hC
  obtain ⟨n, hn⟩ := ok.size
  obtain ⟨b1, b2, b3, hP⟩ := params_split w.params
  have n1 : L ≠ C := ne_cls hL hC (by simp [frm, celO])
  have n2 : L ≠ TL := by obtain ⟨_, e⟩ := hT; exact ne_cls hL e (by simp [frm, lstO])
  have n3 : C ≠ TL := by obtain ⟨_, e⟩ := hT; exact ne_cls hC e (by simp [celO, lstO])
  refine wpAny_execs_at ?_
  rw [rB2_eq]
  refine wpAny_If ?_
  rw [isTrue_zf]
  refine wpAny_boolT (segFin hP ar ok hn [L] [frm hs tk ep sl _] 0 20 (low1 lL) (by simp) ⟨hL, trivial⟩ (rcT w.params b1 b2 b3 n t L C R TL lk (.bytes (bts (seenB seen)) tl) cd hs tk ep sl r hr (.bytes nb t1) (.bytes (bts (itm i).2) t2) t3) fun out h₁ dr₁ S af => ?_)
  rw [S]
  simp only [if_true]
  have b₁ : But [] h h₁ := af.but
  have k : ∀ {x o}, h.get? x = some o → h₁.get? x = some o := fun e => b₁.keep _ _ e (fun m => nomatch m)
  obtain ⟨n₁, hn₁⟩ := af.ok.size
  rw [cB_eq]
  refine wpAny_execs_append [cB 0, cB 1] ?_
  rw [execs_zf]
  refine wpAny_flowT (segFin hP ar af.ok hn₁ [L, C] [frm hs tk ep sl _, celO cv] 2 180 (low2 lL lC) (by simp [n1]) ⟨k hL, k hC, trivial⟩ (rc01 w.params b1 b2 b3 n₁ _ L C R TL lk (.bytes (bts (seenB seen)) tl) cd hs tk ep sl r hr (.bytes nb t1) (.bytes (bts clLow) t3) i hi t2 cv) fun out h₂ dr₂ S af₂ => ?_)
  obtain ⟨hf, h0, h1, h4⟩ := S
  rw [hf]
  have b₂ : But [L, C] h₁ h₂ := af₂.but
  have T₂ : LstAt h₂ TL arr := (hT.keep b₁ (fun m => nomatch m)).keep b₂ (by simp [n2.symm, n3.symm])
  have l2 : LocAt h₂ L (locR R lk TL (.bytes (bts (seenB seen)) tl) cd (((r.low (.bytes (bts clLow) t3)).wd (.ref (n₁ + 258 + 2))).out (.bytes nb t1) (.bytes (bts (itm i).2) t2))) := ⟨_, _, _, _, af₂.get 0 _ h0⟩
  rw [Sh.low_out] at l2
  have C₂ := af₂.get 1 _ h1
  have W₂ := af₂.get 4 _ h4
  have bLC : But [L, C] h h₂ := b₁.nil.trans b₂
  have szW : @LE.le Nat _ h.objs.size h₁.objs.size := b₁.size
  show wpAny _ _ (execs [cB 2, cB 3, cB 4] (envR L C)) _ _ _
  refine wpAny_execs_at ?_
  rw [cB2_eq]
  refine wpAny_If (r2test ar hu af₂.ok hso hi lL lC (Low.high (by omega)) l2 C₂ W₂ fun s₃ b₃ ok₃ => ?_)
  obtain ⟨h₃, g₃, dr₃, t₃, o₃⟩ := s₃
  obtain ⟨ok₃, rfl, rfl⟩ := ok₃
  cases hst : stepL i seen with
  | none =>
    simp only [Option.isNone_none, if_true]
    refine r2ret ar ok₃ fun v l s₄ b₄ ok₄ rt ls le => ?_
    have b₂₄ := b₃.trans b₄
    exact hR hst v l s₄ (bLC.trans b₂₄.nil) ok₄ rt ls (Nat.le_trans (bLC.trans b₃.nil).size le)
  | some p =>
    obtain ⟨bb, seen'⟩ := p
    simp only [Option.isNone_some, Bool.false_eq_true, if_false]
    refine wpAny_execs_nil ?_
    refine r2tail ar ok₃ hso hst (oneOk i hi hso hst) hsz lL lC lT (l2.keep b₃) (b₃.keep _ _ C₂ (fun m => nomatch m)) (T₂.keep b₃ (fun m => nomatch m)) fun len s₄ hlen b₄ ok₄ l₄ c₄ m₄ => ?_
    refine wpAny_execs_nil ?_
    refine hQ bb seen' hst len _ _ s₄ hlen ((bLC.mono (fun a m => by simp only [List.mem_cons, List.not_mem_nil, or_false] at m ⊢; rcases m with rfl | rfl <;> simp)).trans (b₃.nil.trans b₄)) ok₄ l₄ c₄ ?_
    cases bb with
    | false => exact m₄
    | true => obtain ⟨a, le, x, y⟩ := m₄; exact ⟨a, Nat.le_trans (bLC.trans b₃.nil).size le, x, y⟩
end
end Mine
end
section
open PySem PySem.W PySem.W.X PySem.Calls PyProof.Rows
set_option maxRecDepth 100000
set_option maxHeartbeats 400000
namespace Mine
open PySem.W.ZFast
theorem Sh.low_full (r : Sh) (x : Value) : (r.low x).full := by cases r <;> trivial
theorem Sh.low_low (r : Sh) (x y : Value) : (r.low x).low y = r.low y := by cases r <;> rfl
theorem forR_split : forBd (stR 3) = [rB 0, rB 1] ++ [rB 2] := forR_eq
theorem stp_plain : ∀ i, (i = 0 ∨ i = 1 ∨ i = 2 ∨ i = 3 ∨ i = 4 ∨ i = 5 ∨ i = 15) → kind i = .plain ∧ (told i).2 = (itm i).2 := by rintro i (rfl | rfl | rfl | rfl | rfl | rfl | rfl) <;> decide
theorem stp_cl : ∀ i, (i = 6 ∨ i = 7 ∨ i = 8 ∨ i = 9 ∨ i = 10 ∨ i = 11) → ∀ seen, SeenOk seen → ∀ saw, step false i seen saw = match stepL i seen with | none => .error 400 | some (b, s') => .ok (b, s', saw) := by
  rintro i (rfl | rfl | rfl | rfl | rfl | rfl) seen (rfl | rfl | rfl) saw <;> cases saw <;> rfl
theorem stp_clt : ∀ i, (i = 6 ∨ i = 7 ∨ i = 8 ∨ i = 9 ∨ i = 10 ∨ i = 11) → (told i).1 = clLow ∧ ∀ seen b s', stepL i seen = some (b, s') → (told i).2 = oneI i := by
  rintro i (rfl | rfl | rfl | rfl | rfl | rfl) <;> refine ⟨by decide, fun seen b s' h => ?_⟩ <;> first | decide | (simp [stepL] at h)
section
variable {w : World} {A : Around} {Q : Flow → Shared → Prop} {E : Value → Shared → Prop} {h : Heap} {g : Array GenState} {dr : Drawn} {t : Nat} {o : OsState}
theorem r01 (ark : ArK 3 A) (hu : A.units + 8 < cLine) (ok : Okay w.params h) {L C R TL : Nat} {lk : Bool} {len cd : Value} {r : Sh} {i : Nat} (hi : i < 16) {t1 t2 : Nat} (lL : Low w.params L)
    (hL : LocAt h L (locR R lk TL len cd (r.out (.bytes (bts (itm i).1) t1) (.bytes (bts (itm i).2) t2))))
    (hQ : (lk = false ∨ sound i = true) → ∀ t3 s', But [L] h s'.heap → OkS w.params g o s' → LocAt s'.heap L (locR R lk TL len cd ((r.low (.bytes (bts (told i).1) t3)).out (.bytes (bts (itm i).1) t1) (.bytes (bts (itm i).2) t2))) → Q .next s')
    (hR : lk = true → sound i = false → ∀ v l s', But [L] h s'.heap → OkS w.params g o s' → RetAt s'.heap v 400 l → LstAt s'.heap l #[] → @LE.le Nat _ h.objs.size l → Q (.ret v) s') :
    wpAny (model pw w) A (execs [rB 0, rB 1] (envR L C)) Q E ⟨h, g, dr, t, o⟩ := by
  have ar := ark.weak
  obtain ⟨en, rn⟩ := rep_n i hi
  have et := rep_t i hi
  obtain ⟨hs, tk, ep, sl, hL⟩ := hL
  obtain ⟨n, hn⟩ := ok.size
  obtain ⟨b1, b2, b3, hP⟩ := params_split w.params
  rw [execs_zf]
  cases lk with
  | false =>
    have K := re01f w.params b1 b2 b3 n t L C R TL len cd hs tk ep sl r (repN i) rn (bts (itm i).2) t1 t2
    rw [← en, ← et] at K
    refine wpAny_flowT (segFin hP ar ok hn [L] [frm hs tk ep sl _] 1 40 (low1 lL) (by simp) ⟨hL, trivial⟩ K fun out h₁ dr₁ S af => ?_)
    obtain ⟨hf, h0⟩ := S
    rw [hf]
    exact hQ (.inl rfl) _ _ af.but af.ok ⟨_, _, _, _, af.get 0 _ h0⟩
  | true =>
    have K := re01t w.params b1 b2 b3 n t L C R TL len cd hs tk ep sl r (repN i) rn (bts (itm i).2) t1 t2
    rw [← en, ← et] at K
    refine wpAny_flowT (segCall hP ar ok hn [L] [frm hs tk ep sl _] 1 50 (low1 lL) (by simp) ⟨hL, trivial⟩ K fun out h₁ dr₁ hout S af => ?_)
    subst hout
    obtain ⟨hc, h0⟩ := S
    rw [hc]
    have b₁ : But [L] h h₁ := af.but
    have l1 : LocAt h₁ L _ := ⟨_, _, _, _, af.get 0 _ h0⟩
    refine lawSound ark hu af.ok hi fun s₂ b₂ ok₂ => ?_
    obtain ⟨h₂, g₂, dr₂, t₂, o₂⟩ := s₂
    obtain ⟨ok₂, rfl, rfl⟩ := ok₂
    obtain ⟨n₂, hn₂⟩ := ok₂.size
    cases hsd : sound i with
    | true =>
      have K := re01b w.params b1 b2 b3 n t n₂ t₂ L C R TL len cd hs tk ep sl r (repN i) rn (bts (itm i).2) t1 t2
      rw [← en] at K
      refine segFin hP ar ok₂ hn₂ [] [] 0 30 low0 (by simp) trivial K fun out h₃ dr₃ S af₃ => ?_
      rw [S]
      have b₃ : But [] h₂ h₃ := af₃.but
      exact hQ (.inr hsd) _ _ (b₁.trans (b₂.trans b₃).nil) af₃.ok ((l1.keep b₂).keep b₃)
    | false =>
      have K := re01x w.params b1 b2 b3 n t n₂ t₂ L C R TL len cd hs tk ep sl r (repN i) rn (bts (itm i).2) t1 t2
      rw [← en] at K
      refine segFin hP ar ok₂ hn₂ [] [] 0 30 low0 (by simp) trivial K fun out h₃ dr₃ S af₃ => ?_
      obtain ⟨hf, h0, h1⟩ := S
      rw [hf]
      have b₃ : But [] h₂ h₃ := af₃.but
      have bb : But [L] h h₂ := b₁.trans b₂.nil
      have sz : @LE.le Nat _ h.objs.size (n₂ + 258) := by have := bb.size; rw [hn₂] at this; exact this
      exact hR rfl hsd _ (n₂ + 258) _ (bb.trans b₃.nil) af₃.ok ⟨_, _, _, rfl, by omega, af₃.get 1 _ h1⟩ ⟨_, af₃.get 0 _ h0⟩ sz
theorem turnR (ark : ArK 3 A) (hu : A.units + 8 < cLine) (ok : Okay w.params h) {L C R TL : Nat} {lk : Bool} {len : Value} {seen : Seen} {saw : Bool} (hlen : LenIs len seen) {r : Sh} {i : Nat} (hi : i < 16) {t1 t2 : Nat} {arr : Array Value} (hsz : arr.size ≤ 1000)
    (lL : Low w.params L) (lC : Low w.params C) (lT : Low w.params TL)
    (hL : LocAt h L (locR R lk TL len (.bool saw) (r.out (.bytes (bts (itm i).1) t1) (.bytes (bts (itm i).2) t2)))) (hC : CelAt h C) (hT : LstAt h TL arr)
    (hQ : ∀ b seen' saw', step lk i seen saw = .ok (b, seen', saw') → ∀ len' u v r' arr' s', r'.full → LenIs len' seen' → But [L, C, TL] h s'.heap → OkS w.params g o s' → LocAt s'.heap L (locR R lk TL len' (.bool saw') (Sh.out r' u v)) → CelAt s'.heap C → LstAt s'.heap TL arr' →
      (match b with | false => arr' = arr | true => ∃ a, arr' = arr.push (.ref a) ∧ @LE.le Nat _ h.objs.size a ∧ pRow s'.heap (.ref a) (rowI i)) → Q .next s')
    (hR : ∀ hint, step lk i seen saw = .error hint → ∀ v l s', But [L, C] h s'.heap → OkS w.params g o s' → RetAt s'.heap v hint l → LstAt s'.heap l #[] → @LE.le Nat _ h.objs.size l → Q (.ret v) s') :
    wpAny (model pw w) A (execs (forBd (stR 3)) (envR L C)) Q E ⟨h, g, dr, t, o⟩ := by
  have ar := ark.weak
  have n1 : L ≠ C := by obtain ⟨_, _, _, _, e⟩ := hL; obtain ⟨_, e'⟩ := hC; exact ne_cls e e' (by simp [frm, celO])
  have n2 : L ≠ TL := by obtain ⟨_, _, _, _, e⟩ := hL; obtain ⟨_, e'⟩ := hT; exact ne_cls e e' (by simp [frm, lstO])
  rw [forR_split]
  refine wpAny_execs_append _ (r01 ark hu ok hi lL hL (fun hlk t3 s₁ b₁ ok₁ l₁ => ?_) (fun hlk hsd v l s' b' ok' rt ls le => ?_))
  rotate_left
  · subst hlk
    exact hR 400 (step_bad i seen saw hsd) v l s' (b'.mono (fun a m => by rw [List.mem_singleton.mp m]; simp)) ok' rt ls le
  rw [step_look i seen saw lk hlk] at hQ hR
  have C₁ : CelAt s₁.heap C := let ⟨v, e⟩ := hC; ⟨v, b₁.keep _ _ e (by simpa using n1.symm)⟩
  have T₁ := hT.keep b₁ (by simpa using n2.symm)
  have m1 : ∀ {ds : List Nat}, L ∈ ds → But ds h s₁.heap := fun hm => b₁.mono (fun a m => by rw [List.mem_singleton.mp m]; exact hm)
  have sz1 : @LE.le Nat _ h.objs.size s₁.heap.objs.size := b₁.size
  obtain ⟨h₁, g₁, dr₁, t₁, o₁⟩ := s₁
  obtain ⟨ok₁, rfl, rfl⟩ := ok₁
  rcases it_ends i hi with hi' | hi' | hi'
  · obtain ⟨hk, ht⟩ := stp_plain i hi'
    have st : step false i seen saw = .ok (true, seen, saw) := by unfold step; simp [hk]
    refine r2plain ar ok₁ (r := r.low (.bytes (bts (told i).1) t3)) (Sh.low_full _ _) hi' (t3 := t3) hsz lL lT (by rw [Sh.low_low]; exact l₁) T₁ fun a s₂ b₂ ok₂ le T₂ p₂ => ?_
    refine hQ true seen saw st len _ _ _ _ s₂ (Sh.low_full r _) hlen ((m1 (by simp)).trans (b₂.mono (fun a m => by rw [List.mem_singleton.mp m]; simp))) ok₂ (l₁.keeps b₂ (by simpa using n2)) ?_ T₂ ⟨a, rfl, Nat.le_trans sz1 le, ?_⟩
    · obtain ⟨v, e⟩ := C₁
      exact ⟨v, b₂.keep _ _ e (by obtain ⟨_, e'⟩ := T₁; simpa using ne_cls e e' (by simp [celO, lstO]))⟩
    · unfold rowI; rw [ht]; exact p₂
  · have hl : (told i).1 = teLow := by rcases hi' with rfl | rfl | rfl <;> decide
    rw [hl] at l₁
    have gz : ∀ c, saw = c → ((i = 12 ∧ c = true) ∨ (i = 13 ∧ c = true) ∨ (i = 14 ∧ c = true) ∨ (i = 14 ∧ c = false)) → step false i seen saw = .error 501 → wpAny (model pw w) A (execs [rB 2] (envR L C)) Q E ⟨h₁, g, dr₁, t₁, o⟩ := by
      intro c hc hcase st
      subst hc
      refine r2gz ar ok₁ (r := r.low (.bytes (bts teLow) t3)) (Sh.low_full _ _) hcase (t3 := t3) lL (by rw [Sh.low_low]; exact l₁) fun v l s₂ b₂ ok₂ rt ls le => ?_
      exact hR 501 st v l s₂ ((m1 (by simp)).trans b₂.nil) ok₂ rt ls (Nat.le_trans sz1 le)
    have te : (i = 12 ∨ i = 13) → saw = false → wpAny (model pw w) A (execs [rB 2] (envR L C)) Q E ⟨h₁, g, dr₁, t₁, o⟩ := by
      intro hii hs
      subst hs
      have st : step false i seen false = .ok (true, seen, true) := by rcases hii with rfl | rfl <;> rfl
      have h2 : (told i).2 = chunked := by rcases hii with rfl | rfl <;> decide
      refine r2te ar ok₁ (r := r.low (.bytes (bts teLow) t3)) (Sh.low_full _ _) hii (t3 := t3) hsz lL lT (by rw [Sh.low_low]; exact l₁) T₁ fun a s₂ b₂ ok₂ l₂ le T₂ p₂ => ?_
      rw [Sh.low_low] at l₂
      refine hQ true seen true st len _ _ _ _ s₂ (Sh.low_full r _) hlen ((m1 (by simp)).trans (b₂.mono (fun a m => by simp only [List.mem_cons, List.not_mem_nil, or_false] at m ⊢; rcases m with rfl | rfl <;> simp))) ok₂ l₂ ?_ T₂ ⟨a, rfl, Nat.le_trans sz1 le, ?_⟩
      · obtain ⟨v, e⟩ := C₁
        exact ⟨v, b₂.keep _ _ e (by obtain ⟨_, e'⟩ := T₁; simpa [n1.symm] using ne_cls e e' (by simp [celO, lstO]))⟩
      · unfold rowI; rw [hl, h2]; exact p₂
    cases hsaw : saw with
    | true =>
      rw [hsaw] at gz
      rcases hi' with rfl | rfl | rfl
      · exact gz true rfl (.inl ⟨rfl, rfl⟩) rfl
      · exact gz true rfl (.inr (.inl ⟨rfl, rfl⟩)) rfl
      · exact gz true rfl (.inr (.inr (.inl ⟨rfl, rfl⟩))) rfl
    | false =>
      rcases hi' with rfl | rfl | rfl
      · exact te (.inl rfl) hsaw
      · exact te (.inr rfl) hsaw
      · exact gz false hsaw (.inr (.inr (.inr ⟨rfl, rfl⟩))) (by rw [hsaw]; rfl)
  · obtain ⟨hl, h2⟩ := stp_clt i hi'
    rw [hl] at l₁
    obtain ⟨hso, tl, rfl⟩ := hlen
    rw [stp_cl i hi' seen hso saw] at hQ hR
    refine r2cl ar (by omega) ok₁ hso (r := r.low (.bytes (bts clLow) t3)) (Sh.low_full _ _) hi' (t3 := t3) hsz lL lC lT (by rw [Sh.low_low]; exact l₁) C₁ T₁ (fun bb seen' hst len' c' d' s₂ hlen' b₂ ok₂ l₂ c₂ m₂ => ?_) (fun hst v l s₂ b₂ ok₂ rt ls le => ?_)
    · rw [hst] at hQ
      have B : But [L, C, TL] h s₂.heap := (m1 (by simp)).trans b₂
      cases bb with
      | false => exact hQ false seen' saw rfl len' _ _ (.two c' d') arr s₂ trivial hlen' B ok₂ l₂ c₂ m₂ rfl
      | true =>
        obtain ⟨a, le, T₂, p₂⟩ := m₂
        refine hQ true seen' saw rfl len' _ _ (.two c' d') _ s₂ trivial hlen' B ok₂ l₂ c₂ T₂ ⟨a, rfl, Nat.le_trans sz1 le, ?_⟩
        unfold rowI
        rw [hl, h2 seen true seen' hst]
        exact p₂
    · rw [hst] at hR
      exact hR 400 rfl v l s₂ ((m1 (by simp)).trans b₂) ok₂ rt ls (Nat.le_trans sz1 le)
end
end Mine
end
section
open PySem PySem.W PySem.W.X PySem.Calls PyProof.Rows
set_option maxRecDepth 100000
set_option maxHeartbeats 400000
namespace Mine
open PySem.W.ZFast
theorem inn_fullS {r : Sh} (h : r.full) (a b : Value) : r.inn a b = r.out a b := by cases r <;> first | exact h.elim | rfl
theorem But.ext {a : Nat} {h0 h h₁ : Heap} {L : Nat} {o : Obj} (b : But [] h0 h) (eb : Heap.ExtBut a h h₁) (ha : @LE.le Nat _ h0.objs.size a) (hL : h₁.get? L = some o) (sL : @LE.le Nat _ h0.objs.size L) : But [] h0 h₁ :=
  ⟨fun x ox e _ => eb _ _ (fun q => by rw [q] at e; exact absurd (Heap.lt_size e) (Nat.not_lt.mpr ha)) (b.keep _ _ e (fun m => nomatch m)), Nat.le_of_lt (Nat.lt_of_le_of_lt sL (Heap.lt_size hL))⟩
structure LoopR (w : World) (g : Array GenState) (o : OsState) (h0 : Heap) (L C TL it R : Nat) (lk : Bool) (is : List Nat) (k : Nat) (s : Shared) : Prop where
  kle : k ≤ is.length
  ok : OkS w.params g o s
  but : But [] h0 s.heap
  iter : s.heap.IsListIter it R k
  cel : CelAt s.heap C
  st : ∃ len seen saw a b r arr done, LenIs len seen ∧ LocAt s.heap L (locR R lk TL len (.bool saw) (Sh.inn r a b)) ∧ LstAt s.heap TL arr ∧ All2 (pRow s.heap) arr.toList (done.map rowI) ∧ done.length ≤ k ∧
    fold lk is none false = contF done (fold lk (is.drop k) seen saw)
def RowsGive (lk : Bool) (is : List Nat) (hint : Int) (rows : List Row) : Prop := match fold lk is none false with
  | .ok r => hint = 0 ∧ rows = r.map rowI
  | .error e => hint = e ∧ rows = []
section
variable {w : World} {A : Around} {h : Heap} {g : Array GenState} {dr : Drawn} {t : Nat} {o : OsState}
theorem lawRows (ark : ArK 6 A) (hu : A.units + 20 < cLine) (ok : Okay w.params h) {R : Nat} {lk : Bool} {items : Array Value} {is : List Nat} (his : is.length ≤ 1000) (h16 : ∀ i ∈ is, i < 16) (hR : h.IsList R items) (hit : All2 (ItemAt w.params h) items.toList is) {Y : Result → Shared → Prop}
    (hQ : ∀ v hint TL arr rows s', But [] h s'.heap → OkS w.params g o s' → RetAt s'.heap v hint TL → @LE.le Nat _ h.objs.size TL → LstAt s'.heap TL arr → All2 (pRow s'.heap) arr.toList rows → RowsGive lk is hint rows → Y (.ok (.ret v)) s') :
    codeAny (model pw w) A (.call (.ref 240) ⟨[.ref R, .bool lk], []⟩) Y ⟨h, g, dr, t, o⟩ := by
  obtain ⟨n, hn⟩ := ok.size
  obtain ⟨b1, b2, b3, hP⟩ := params_split w.params
  refine codeAny_enter (fun _ => Nat.lt_of_le_of_lt ark.weak.deep (by decide)) ?_
  refine segFin hP (A := A.under (.call (.ref 240) ⟨[.ref R, .bool lk], []⟩)) ⟨ark.weak.deep, ark.handled⟩ ok hn [] [] 0 20 low0 (by simp) trivial (reE w.params b1 b2 b3 n t R lk) fun out h₁ dr₁ S af => ?_
  obtain ⟨hf, h0, h1⟩ := S
  rw [hf]
  refine ⟨af.ok.nolimit, rfl, ?_⟩
  have l1 := af.get 0 _ h0
  have c1 : CelAt h₁ (n + 258 + 1) := ⟨_, af.get 1 _ h1⟩
  replace l1 : LocAt h₁ (n + 258) [(sRows, .ref R), (sLooked, .bool lk)] := ⟨_, _, _, _, l1⟩
  generalize hCd : n + 258 + 1 = C at c1
  generalize hLd : n + 258 = L at l1
  have sL : @LE.le Nat _ h.objs.size L := by omega
  have sC : @LE.le Nat _ h.objs.size C := by omega
  have lL : Low w.params L := highOk ok sL
  have lC : Low w.params C := highOk ok sC
  have b₁ : But [] h h₁ := af.but
  have ok₁ := af.ok
  generalize htk : t + tokOf out = t₁
  have arD : ArK 5 (A.deeper (envR L C)) := ark.deeper _
  have huD : (A.deeper (envR L C)).units + 8 < cLine := by show A.units + 3 + 8 < cLine; omega
  refine codeAny_func ?_
  rw [bodyR_eq]
  refine wpAny_execs_append [stR 0, stR 1, stR 2] ?_
  rw [execs_zf]
  obtain ⟨hs, tk, ep, sl, l1⟩ := l1
  obtain ⟨n₁, hn₁⟩ := ok₁.size
  refine wpAny_flowT (segFin hP arD.weak ok₁ hn₁ [L] [frm hs tk ep sl _] 1 40 (low1 lL) (by simp) ⟨l1, trivial⟩ (reB w.params b1 b2 b3 n₁ t₁ L C R lk hs tk ep sl) fun out h₂ dr₂ S af₂ => ?_)
  obtain ⟨hf, h0, h1⟩ := S
  rw [hf]
  have l2 : LocAt h₂ L _ := ⟨_, _, _, _, af₂.get 0 _ h0⟩
  have T2 : LstAt h₂ (n₁ + 258) #[] := ⟨_, af₂.get 1 _ h1⟩
  have hz1 : @LE.le Nat _ h.objs.size h₁.objs.size := b₁.size
  have sT : @LE.le Nat _ h.objs.size (n₁ + 258) := by rw [hn₁] at hz1; exact hz1
  generalize n₁ + 258 = TL at l2 T2 sT
  have lT : Low w.params TL := highOk ok sT
  have nCL : C ≠ L := by omega
  have b₂ : But [L] h₁ h₂ := af₂.but
  have c2 : CelAt h₂ C := let ⟨v, e⟩ := c1; ⟨v, b₂.keep _ _ e (by simpa using nCL)⟩
  have B₂ : But [] h h₂ := b₁.fresh b₂ (fun a m => by rw [List.mem_singleton.mp m]; exact sL)
  have ok₂ := af₂.ok
  generalize t₁ + tokOf out = t₂
  show wpAny _ _ (execs [.For (forTg (stR 3)) (forIt (stR 3)) (forBd (stR 3)) [] (forPos (stR 3)), stR 4] (envR L C)) _ _ _
  refine wpAny_execs_at (wpAny_For ?_)
  rw [eval_zf]
  obtain ⟨hs₂, tk₂, ep₂, sl₂, l2⟩ := l2
  obtain ⟨n₂, hn₂⟩ := ok₂.size
  refine wpAny_valT (segFin hP arD.weak ok₂ hn₂ [L] [frm hs₂ tk₂ ep₂ sl₂ _] 0 10 (low1 lL) (by simp) ⟨l2, trivial⟩ (reI w.params b1 b2 b3 n₂ t₂ L C R TL lk _ (.bool false) hs₂ tk₂ ep₂ sl₂) fun out h₃ dr₃ S af₃ => ?_)
  rw [S]
  have b₃ : But [] h₂ h₃ := af₃.but
  have B₃ := B₂.trans b₃
  have HL₃ : h₃.IsList R items := IsList.keepB hR B₃ (fun m => nomatch m)
  refine wpAny_pyIter_list HL₃ ?_
  have bp : But [] h₃ (h₃.push { cls := .type "list_iterator", data := .fields #[.ref R, .int 0 0] }) := .push _
  have B₄ := B₃.trans bp
  have l4 : LocAt (h₃.push { cls := .type "list_iterator", data := .fields #[.ref R, .int 0 0] }) L _ := ⟨_, _, _, _, bp.keep _ _ (b₃.keep _ _ l2 (fun m => nomatch m)) (fun m => nomatch m)⟩
  have i4 : (h₃.push { cls := .type "list_iterator", data := .fields #[.ref R, .int 0 0] }).get? h₃.objs.size = some (iterO (.ref R) 0) := Heap.get?_push_size _ rfl
  have c4 : CelAt (h₃.push { cls := .type "list_iterator", data := .fields #[.ref R, .int 0 0] }) C := let ⟨v, e⟩ := c2; ⟨v, bp.keep _ _ (b₃.keep _ _ e (fun m => nomatch m)) (fun m => nomatch m)⟩
  have T4 := (T2.keep b₃ (fun m => nomatch m)).keep bp (fun m => nomatch m)
  have sI : @LE.le Nat _ h.objs.size h₃.objs.size := B₃.size
  have ok₄ := af₃.ok.but low0 bp
  show codeAny (model pw w) _ (.forLoop _ (.ref h₃.objs.size) _ _ _) _ ⟨h₃.push { cls := .type "list_iterator", data := .fields #[.ref R, .int 0 0] }, _, _, _, _⟩
  generalize h₃.push { cls := .type "list_iterator", data := .fields #[.ref R, .int 0 0] } = h₄ at *
  generalize h₃.objs.size = it at *
  have lI : Low w.params it := highOk ok sI
  refine codeAny_forT (fun m s => ∃ k, m = is.length - k ∧ LoopR w g o h L C TL it R lk is k s) (fun m s hI => ?_) _
    ⟨0, rfl, Nat.zero_le _, ok₄, B₄, ⟨_, i4, rfl, rfl⟩, c4, _, none, false, .none, .none, .zero, #[], [], ⟨.inl rfl, _, rfl⟩, l4, T4, trivial, Nat.zero_le _, ?_⟩
  rotate_left
  · show fold lk is none false = contF [] (fold lk is none false)
    cases fold lk is none false <;> rfl
  obtain ⟨k, rfl, I⟩ := hI
  obtain rfl := I.ok.gens
  obtain rfl := I.ok.os
  obtain ⟨len, seen, saw, a, b, r, arr, done, hlen, hL, hT, hp, hdl, hfd⟩ := I.st
  have hsz : arr.size ≤ 1000 := by have := hp.len; have := I.kle; simp at *; omega
  obtain ⟨oi, hoi, hci, hdi⟩ := id I.iter
  have HLs : s.heap.IsList R items := IsList.keepB hR I.but (fun m => nomatch m)
  have nLI : L ≠ it := by obtain ⟨_, _, _, _, e⟩ := hL; exact ne_cls e hoi (by rw [hci]; simp [frm])
  have nTI : TL ≠ it := by obtain ⟨_, e⟩ := hT; exact ne_cls e hoi (by rw [hci]; simp [lstO])
  have nCI : C ≠ it := by obtain ⟨_, e⟩ := I.cel; exact ne_cls e hoi (by rw [hci]; simp [celO])
  have nLT : L ≠ TL := by obtain ⟨_, _, _, _, e⟩ := hL; obtain ⟨_, e'⟩ := hT; exact ne_cls e e' (by simp [frm, lstO])
  have arI : ArK 3 (A.deeper (envR L C)) := arD.less (by decide)
  rcases Nat.lt_or_ge k is.length with hk | hk
  · have hik : is[k]? = some is[k] := by simp [hk]
    obtain ⟨v, hv', hi', p, u1, u2, epp, rfl, lp, hpp⟩ := hit.at hik
    have hi16 := h16 is[k] (List.getElem_mem hk)
    refine wpAny_pyNext_list_item I.iter HLs (by simpa using hv') fun h₅ it₅ sb => ?_
    have b₅ : But [it] s.heap h₅ := .same sb
    have B₅ : But [] h h₅ := I.but.fresh b₅ (fun x m => by rw [List.mem_singleton.mp m]; exact sI)
    have ok₅ : Okay w.params h₅ := I.ok.but (low1 lI) b₅
    obtain ⟨hs₅, tk₅, ep₅, sl₅, l5⟩ := hL.keeps b₅ (by simpa using nLI)
    have T₅ := hT.keep b₅ (by simpa using nTI)
    have p₅ := B₅.keep _ _ hpp (fun m => nomatch m)
    obtain ⟨⟨ci, di, dti, sli⟩, hoi', hci', hdi'⟩ := id it₅
    simp only at hci' hdi'
    subst hci' hdi'
    obtain ⟨n₅, hn₅⟩ := ok₅.size
    have nLp : L ≠ p := ne_cls l5 p₅ (by simp [frm, tupO])
    have npI : p ≠ it := ne_cls p₅ hoi' (by simp [tupO])
    refine wpAny_unitT (segFin hP arD.weak ok₅ hn₅ [L, p, it] [frm hs₅ tk₅ ep₅ sl₅ _, tupO [.bytes (bts (itm is[k]).1) u1, .bytes (bts (itm is[k]).2) u2] epp, _] 1 70 (low3 lL lp lI) (by simp [nLp, nLI, npI]) ⟨l5, p₅, hoi', trivial⟩ (reT w.params b1 b2 b3 n₅ _ L C p it R TL lk len (.bool saw) hs₅ tk₅ ep₅ sl₅ r a b (bts (itm is[k]).1) (bts (itm is[k]).2) u1 u2 epp (.ref R) (k + 1) di sli) fun out h₆ dr₆ S af₆ => ?_)
    obtain ⟨hf, h0⟩ := S
    have b₆ : But [L] h₅ h₆ := af₆.but
    have l6 : LocAt h₆ L _ := ⟨_, _, _, _, af₆.get 0 _ h0⟩
    have T₆ := T₅.keep b₆ (by simpa using nLT.symm)
    have C₆ : CelAt h₆ C := let ⟨v, e⟩ := I.cel; ⟨v, b₆.keep _ _ (b₅.keep _ _ e (by simpa using nCI)) (by simpa using nCL)⟩
    have B₆ : But [] h h₆ := B₅.fresh b₆ (fun x m => by rw [List.mem_singleton.mp m]; exact sL)
    have t₅ : TupK s.heap h₅ := TupK.of b₅ (fun a m => by rw [List.mem_singleton.mp m]; exact ⟨_, hoi, by rw [hci]; simp⟩)
    have t₆ : TupK h₅ h₆ := TupK.of b₆ (fun a m => by rw [List.mem_singleton.mp m]; exact ⟨_, l5, by simp [frm]⟩)
    have i₆ : h₆.IsListIter it R (k + 1) := ⟨_, b₆.keep _ _ hoi' (by simpa using nLI.symm), rfl, rfl⟩
    have hstep : fold lk (is.drop k) seen saw = match step lk is[k] seen saw with
        | .error e => .error e
        | .ok (b, seen', saw') => match fold lk (is.drop (k + 1)) seen' saw' with
          | .error e => .error e
          | .ok r => .ok (if b then is[k] :: r else r) := by
      rw [List.drop_eq_getElem_cons hk]; rfl
    have hp₆ : All2 (pRow h₆) arr.toList (done.map rowI) := hp.imp fun v i x => pRow_keep _ _ _ _ t₆ (pRow_keep _ _ _ _ t₅ x)
    obtain ⟨hsL, tkL, epL, slL, eL6⟩ := l6
    obtain ⟨epT, eT6⟩ := T₆
    obtain ⟨vC, eC6⟩ := C₆
    refine turnR arI huD af₆.ok hlen hi16 hsz lL lC lT ⟨_, _, _, _, eL6⟩ ⟨_, eC6⟩ ⟨_, eT6⟩ (fun bb seen' saw' st len' u v r' arr' s₇ fr' hlen' b₇ ok₇ l₇ c₇ T₇ td => ?_) (fun hint st v l s₇ b₇ ok₇ rt ls le => ?_)
    · have B₇ : But [] h s₇.heap := B₆.fresh b₇ (fun x m => by simp only [List.mem_cons, List.not_mem_nil, or_false] at m; rcases m with rfl | rfl | rfl <;> assumption)
      have i₇ := IsIter.keepB i₆ b₇ (by simp [nLI.symm, nTI.symm, nCI.symm])
      have t₇ : TupK h₆ s₇.heap := TupK.of b₇ (fun a m => by
        simp only [List.mem_cons, List.not_mem_nil, or_false] at m
        rcases m with rfl | rfl | rfl
        · exact ⟨_, eL6, by simp [frm]⟩
        · exact ⟨_, eC6, by simp [celO]⟩
        · exact ⟨_, eT6, by simp [lstO]⟩)
      have hp₇ : All2 (pRow s₇.heap) arr.toList (done.map rowI) := hp₆.imp fun v i x => pRow_keep _ _ _ _ t₇ x
      rw [hstep, st] at hfd
      cases bb with
      | false =>
        have td : arr' = arr := td
        subst td
        refine ⟨is.length - (k + 1), by omega, k + 1, rfl, hk, ok₇, B₇, i₇, c₇, len', seen', saw', u, v, r', arr', done, hlen', by rw [inn_fullS fr']; exact l₇, T₇, hp₇, by omega, ?_⟩
        rw [hfd]
        simp only
        cases fold lk (is.drop (k + 1)) seen' saw' <;> rfl
      | true =>
        obtain ⟨x, rfl, hle, rw'⟩ := td
        refine ⟨is.length - (k + 1), by omega, k + 1, rfl, hk, ok₇, B₇, i₇, c₇, len', seen', saw', u, v, r', _, done ++ [is[k]], hlen', by rw [inn_fullS fr']; exact l₇, T₇, ?_, by simp; omega, ?_⟩
        · rw [Array.toList_push, List.map_append]
          exact hp₇.snoc rw'
        · rw [hfd]
          simp only
          cases fold lk (is.drop (k + 1)) seen' saw' with
          | error e => rfl
          | ok r => simp [contF]
    · rw [hstep, st] at hfd
      refine hQ v hint l #[] [] s₇ (B₆.fresh b₇ (fun x m => by simp only [List.mem_cons, List.not_mem_nil, or_false] at m; rcases m with rfl | rfl <;> assumption)) ok₇ rt (Nat.le_trans B₆.size le) ls trivial ?_
      unfold RowsGive
      rw [hfd]
      exact ⟨rfl, rfl⟩
  · have hkk : k = is.length := by have := I.kle; omega
    subst hkk
    have hnone : items[is.length]? = none := by have := hit.len; simp at *; omega
    refine wpAny_pyNext_list_end arD.handled I.iter HLs hnone fun h₅ eb => ?_
    obtain ⟨hs₅, tk₅, ep₅, sl₅, hL⟩ := hL
    have l5 := eb _ _ nLI hL
    have B₅ : But [] h h₅ := I.but.ext eb sI l5 sL
    have ok₅ : Okay w.params h₅ := ok.but low0 B₅
    obtain ⟨n₅, hn₅⟩ := ok₅.size
    refine wpAny_execs_nil ?_
    show wpAny _ _ (execs [stR 4] (envR L C)) _ _ _
    rw [execs_zf]
    refine wpAny_flowT (segFin hP arD.weak ok₅ hn₅ [L] [frm hs₅ tk₅ ep₅ sl₅ _] 0 30 (low1 lL) (by simp) ⟨l5, trivial⟩ (reZ w.params b1 b2 b3 n₅ _ L C R TL lk len (.bool saw) _ hs₅ tk₅ ep₅ sl₅) fun out h₆ dr₆ S af₆ => ?_)
    obtain ⟨hf, h1⟩ := S
    rw [hf]
    have b₆ : But [] h₅ h₆ := af₆.but
    obtain ⟨epT, hT⟩ := hT
    have t₅ : TupK s.heap h₅ := fun x ox ho hc => eb _ _ (fun q => by rw [q, hoi] at ho; cases ho; rw [hci] at hc; simp at hc) ho
    refine hQ _ 0 TL arr (done.map rowI) _ (B₅.trans b₆) af₆.ok ⟨_, _, _, rfl, Nat.le_add_left _ _, af₆.get 1 _ h1⟩ sT ⟨_, b₆.keep _ _ (eb _ _ nTI hT) (fun m => nomatch m)⟩ (hp.imp fun v i x => pRow_keep _ _ _ _ (TupK.nil b₆) (pRow_keep _ _ _ _ t₅ x)) ?_
    unfold RowsGive
    rw [hfd, List.drop_length]
    simp [fold, contF]
end
end Mine
end
section
open PySem PySem.W PySem.W.X PySem.Calls PyProof.Rows
set_option maxRecDepth 100000
set_option maxHeartbeats 4000000
namespace Mine
open PySem.W.ZFast
noncomputable def outRH (P : Params) (n t d : Nat) (hd : Option Value) (os : List Obj) (fuel ora calls : Nat) (tr : Sem Fin) : Out :=
  run ⟨pw, P⟩ (Ktop P) (n + 258) t d 500 fuel (dec fuel ora) calls default hd [] tr (tabFrom 0 os) 0 0 [] []
section
variable {w : World} {A : Around} {Q : Fin → Shared → Prop} {E : Value → Shared → Prop} {h : Heap} {g : Array GenState} {dr : Drawn} {t : Nat} {o : OsState} {n : Nat} {ora : Nat} {calls : Nat} {tr : Sem Fin}
theorem segFinH {b1 b2 b3 : Bool} (hP : w.params = mkP w.params b1 b2 b3) (hA : A.depth ≤ 500) (hdl : Option Value) (hh : A.handled = hdl) (ok : Okay w.params h) (hn : h.objs.size = n + 258) (ds : List Nat) (os : List Obj) (c fuel : Nat) {S : Out → Prop} (hl : ∀ a ∈ ds, Low w.params a) (hd : ds.Nodup) (hs : Slots h ds os)
    (K : FinK (outRH (mkP w.params b1 b2 b3) n t ds.length hdl os fuel ora calls tr) ds n c os S)
    (hQ : ∀ out h' dr', S out → After w ds c n (numOf out) (tabOf out) h h' → Q (finOf out) ⟨h', g, dr', t + tokOf out, o⟩) : wpAny (model pw w) A tr Q E ⟨h, g, dr, t, o⟩ := by
  obtain ⟨F, U, s⟩ := K
  rw [← hP] at F U s
  have hlen := hs.len
  have G : Good (model pw w) A Q E ds h g t o (outRH w.params n t ds.length hdl os fuel ora calls tr) :=
    good_fin F.1 (hn ▸ F.2) fun h' dr' I => hQ _ h' dr' s (.of ok hn hl hs I U)
  unfold outRH at G
  rw [← hn, ← hh] at G
  refine run_any (ok.fit hl (fun a ha => ?_) hd) hA hlen hs.at G
  obtain ⟨i, hi, rfl⟩ := List.getElem_of_mem ha
  exact ⟨_, hs.at i hi (hlen ▸ hi)⟩
end
def sErr : Str := ⟨#[101, 114, 114, 111, 114]⟩
def sPars : Str := ⟨#[112, 97, 114, 115, 101, 100]⟩
def locT (R : Nat) (pa : Bool) (rest : List (Str × Value)) : List (Str × Value) := (sRows, .ref R) :: (sPars, .bool pa) :: rest
def tryBd : Stmt → List Stmt | .Try b _ _ _ _ => b | _ => []
def tryHs : Stmt → List ExceptHandler | .Try _ h _ _ _ => h | _ => []
def tryPos : Stmt → Pos | .Try _ _ _ _ p => p | _ => pos0
def hT : List ExceptHandler → Expr | .ExceptHandler (some t) _ _ _ :: _ => t | _ => exN
def hB : List ExceptHandler → List Stmt | .ExceptHandler _ _ b _ :: _ => b | _ => []
def hPos : List ExceptHandler → Pos | .ExceptHandler _ _ _ p :: _ => p | _ => pos0
noncomputable def stT : Stmt := nthSt (bodyF 247) 0
theorem bodyT : bodyF 247 = [.Try (tryBd stT) [.ExceptHandler (some (hT (tryHs stT))) (some sErr) [nthSt (hB (tryHs stT)) 0] (hPos (tryHs stT))] [] [] (tryPos stT)] := by kernel_rfl
theorem tyE (P : Params) (b1 b2 b3 : Bool) (n t R : Nat) (pa : Bool) : FinK (outR (mkP P b1 b2 b3) n t 0 [] 20 1103823437824 1000 (enterT (.call (.ref 247) ⟨[.ref R, .bool pa], []⟩))) [] n 0 []
    (fun o => finOf o = .again (.func (bodyF 247) (envF 247 (n + 258))) ∧ tget (tabOf o) 0 = some (frm (hsOf (objAt o 0)) (tkOf (objAt o 0)) (epOf (objAt o 0)) #[] (locT R pa []))) := by
  cases pa <;> refine ⟨⟨?_, ?_, ?_, ?_⟩, ?_, ?_, ?_⟩
  all_goals first | exact True.intro | (show _ = _; kernel_rfl)
noncomputable abbrev outTB (P : Params) (n t L R : Nat) (pa : Bool) (hs : Nat → Int) (tk : Nat → Nat) (ep : Nat) (sl : Array (Option Value)) : Out :=
  outR P n t 1 [frm hs tk ep sl (locT R pa [])] 20 65792 0 (flowT (zw12563942051412417395 (tryBd stT) (envF 247 L)))
theorem tyB (P : Params) (b1 b2 b3 : Bool) (n t L R : Nat) (pa : Bool) (hs : Nat → Int) (tk : Nat → Nat) (ep : Nat) (sl : Array (Option Value)) :
    CallK (outTB (mkP P b1 b2 b3) n t L R pa hs tk ep sl) [L] n 0 [frm hs tk ep sl (locT R pa [])] (fun o => codeOf o = .call (.ref 174) ⟨[.ref R], kwN (some pa)⟩) := by
  cases pa <;> refine ⟨⟨?_, ?_, ?_, ?_, ?_⟩, ⟨?_, ?_⟩, ?_⟩
  all_goals first | exact True.intro | (show _ = _; kernel_rfl)
theorem tyO (P : Params) (b1 b2 b3 : Bool) (n t n' t' L R F : Nat) (pa : Bool) (hs : Nat → Int) (tk : Nat → Nat) (ep : Nat) (sl : Array (Option Value)) :
    FinK (outR (mkP P b1 b2 b3) n' t' 0 [] 10 0 1000 (treeOf (outTB (mkP P b1 b2 b3) n t L R pa hs tk ep sl) (.ok (.ret (.ref F))))) [] n' 0 [] (fun o => finOf o = .done (.ret (.ref F))) := by
  cases pa <;> refine ⟨⟨?_, ?_, ?_, ?_⟩, ?_, ?_⟩
  all_goals first | exact True.intro | (show _ = _; kernel_rfl)
theorem tyX (P : Params) (b1 b2 b3 : Bool) (n t n' t' L R e : Nat) (pa : Bool) (hs : Nat → Int) (tk : Nat → Nat) (ep : Nat) (sl : Array (Option Value)) :
    exc3 (outR (mkP P b1 b2 b3) n' t' 0 [] 10 0 1000 (treeOf (outTB (mkP P b1 b2 b3) n t L R pa hs tk ep sl) (.error (.ref e)))) [] (n' + 258) ∧ Unch (tabOf (outR (mkP P b1 b2 b3) n' t' 0 [] 10 0 1000 (treeOf (outTB (mkP P b1 b2 b3) n t L R pa hs tk ep sl) (.error (.ref e))))) 0 [] ∧ excOf (outR (mkP P b1 b2 b3) n' t' 0 [] 10 0 1000 (treeOf (outTB (mkP P b1 b2 b3) n t L R pa hs tk ep sl) (.error (.ref e)))) = .ref e := by
  cases pa <;> refine ⟨⟨?_, ?_, ?_, ?_⟩, trivial, ?_⟩
  all_goals (show _ = _; kernel_rfl)
theorem tyT1 (P : Params) (b1 b2 b3 : Bool) (n t L e : Nat) : FinK (outRH (mkP P b1 b2 b3) n t 0 (some (.ref e)) [] 20 0 1000 (valT (evalZ (hT (tryHs stT)) (envF 247 L)))) [] n 0 [] (fun o => finOf o = .done (.ret (.ref 78))) := by
  refine ⟨⟨?_, ?_, ?_, ?_⟩, ?_, ?_⟩
  all_goals first | exact True.intro | (show _ = _; kernel_rfl)
theorem tyT2 (P : Params) (b1 b2 b3 : Bool) (n t e d a : Nat) (tb : Value) : FinK (outRH (mkP P b1 b2 b3) n t 1 (some (.ref e)) [excT d a tb] 20 16777216 1000 (boolT (zw17346088374725804007 (.ref e) (.ref 78)))) [e] n 0 [excT d a tb] (fun o => finOf o = .done .next) := by
  refine ⟨⟨?_, ?_, ?_, ?_⟩, ⟨?_, ?_⟩, ?_⟩
  all_goals first | exact True.intro | (show _ = _; kernel_rfl)
theorem tyS (P : Params) (b1 b2 b3 : Bool) (n t L R e : Nat) (pa : Bool) (hs : Nat → Int) (tk : Nat → Nat) (ep : Nat) (sl : Array (Option Value)) :
    FinK (outRH (mkP P b1 b2 b3) n t 1 (some (.ref e)) [frm hs tk ep sl (locT R pa [])] 20 257 1000 (unitT (zw7998390705656384164 (envF 247 L) sErr (.ref e)))) [L] n 1 [frm hs tk ep sl (locT R pa [])]
      (fun o => frm0 o sl (locT R pa [(sErr, .ref e)])) := by
  cases pa <;> refine ⟨⟨?_, ?_, ?_, ?_⟩, ?_, ?_⟩
  all_goals first | exact True.intro | (show _ = _; kernel_rfl)
theorem tyU (P : Params) (b1 b2 b3 : Bool) (n t L R e d a : Nat) (tb : Value) (pa : Bool) (hs : Nat → Int) (tk : Nat → Nat) (ep : Nat) (sl : Array (Option Value)) (hh : Int) (kk ti epd : Nat) (sld : Array (Option Value)) (hint : Int) :
    FinK (outRH (mkP P b1 b2 b3) n t 3 (some (.ref e)) [frm hs tk ep sl (locT R pa [(sErr, .ref e)]), excT d a tb, ⟨.type "dict", none, .dict #[⟨hh, .str sHint kk, .int hint ti⟩] epd, sld⟩] 50 73560537173404253285310998749392251666957317193886335489 1000 (flowT (zw12563942051412417395 [nthSt (hB (tryHs stT)) 0] (envF 247 L))))
      [L, e, d] n 0 [frm hs tk ep sl (locT R pa [(sErr, .ref e)]), excT d a tb, ⟨.type "dict", none, .dict #[⟨hh, .str sHint kk, .int hint ti⟩] epd, sld⟩] (fun o => finOf o = .done (.ret (.int hint ti))) := by
  cases pa <;> cases b1 <;> refine ⟨⟨?_, ?_, ?_, ?_⟩, ⟨?_, ?_, ?_, ?_⟩, ?_⟩
  all_goals first | exact True.intro | (show _ = _; kernel_rfl)
noncomputable def goesZ (env : Env) (x : Str) (pos : Pos) : Sem Unit := R.bindR (zw7536695828754713326 env x .none) fun _ => zw14851354246082423155 env x pos
theorem goes_zf (env : Env) (x : Str) (pos : Pos) : (do bindName env x .none; unbindBehindTheSuite env x pos) = goesZ env x pos := by
  unfold goesZ
  rw [← R.bindR_eq, ← ze7536695828754713326, ← ze14851354246082423155]
  rfl
theorem tyG (P : Params) (b1 b2 b3 : Bool) (n t L R e : Nat) (pa : Bool) (hs : Nat → Int) (tk : Nat → Nat) (ep : Nat) (sl : Array (Option Value)) (pos : Pos) :
    FinK (outR (mkP P b1 b2 b3) n t 1 [frm hs tk ep sl (locT R pa [(sErr, .ref e)])] 30 16843009 1000 (unitT (goesZ (envF 247 L) sErr pos))) [L] n 1 [frm hs tk ep sl (locT R pa [(sErr, .ref e)])] (fun o => True) := by
  cases pa <;> refine ⟨⟨?_, ?_, ?_, ?_⟩, ?_, ?_⟩
  all_goals first | exact True.intro | (show _ = _; kernel_rfl)
def isSome2 : Option Obj → Bool | some _ => true | none => false
theorem k2 (P : Params) : isSome2 (Ktop P 2) = true := by kernel_rfl
def okD (o : Obj) : Bool := match o.data with
  | .dict es _ => match es.toList with
    | [_] => false
    | _ => true
  | _ => true
noncomputable def scanD (P : Params) : Nat → Bool := fun n => Nat.rec (motive := fun _ => Bool) true (fun a ih => match Ktop P a with
  | none => ih
  | some o => match okD o with | true => ih | false => false) n
theorem scan_ok (P : Params) : scanD P 258 = true := by kernel_rfl
theorem scan_at (P : Params) : ∀ (n : Nat), scanD P n = true → ∀ a < n, ∀ o, Ktop P a = some o → okD o = true
  | 0, _, a, ha, _, _ => absurd ha (Nat.not_lt_zero a)
  | n + 1, h, a, ha, o, ho => by
    have h' : (match Ktop P n with | none => scanD P n | some o => match okD o with | true => scanD P n | false => false) = true := h
    rcases Nat.lt_succ_iff_lt_or_eq.mp ha with q | q
    · refine scan_at P n ?_ a q o ho
      cases e : Ktop P n with
      | none => rw [e] at h'; exact h'
      | some o' =>
        rw [e] at h'
        simp only at h'
        cases e2 : okD o' with
        | true => rw [e2] at h'; exact h'
        | false => rw [e2] at h'; cases h'
    · subst q
      rw [ho] at h'
      simp only at h'
      cases e2 : okD o with
      | true => rfl
      | false => rw [e2] at h'; cases h'
theorem lowOne {P : Params} {h : Heap} (ok : Okay P h) {d : Nat} {c : Value} {dt : Option Addr} {e : DictEntry} {ep : Nat} {sl : Array (Option Value)} (hd : h.get? d = some ⟨c, dt, .dict #[e] ep, sl⟩) : Low P d := by
  have k : Ktop P d = none := by
    cases q : Ktop P d with
    | none => rfl
    | some o =>
      have lt : d < 258 := by
        rcases Nat.lt_or_ge d 258 with z | z
        · exact z
        · rw [Ktop_high z] at q; cases q
      have := scan_at P 258 (scan_ok P) d lt o q
      have e' := ok.top d o q
      rw [hd] at e'
      cases e'
      cases this
  refine ⟨k, fun e => ?_⟩
  have := k2 P
  rw [e] at k
  have k' : Ktop P 2 = none := k
  rw [k'] at this
  cases this
theorem Okay.lowNone {P : Params} {h : Heap} {a : Nat} (ok : Okay P h) (hn : h.get? a = none) : Low P a := by
  refine ⟨?_, fun e => ?_⟩
  · cases q : Ktop P a with
    | none => rfl
    | some o => rw [ok.top a o q] at hn; cases hn
  · obtain ⟨mc, ⟨o, es, ep, e', _⟩, _⟩ := ok.nolimit
    rw [e, e'] at hn
    cases hn
abbrev ExcK (o : Out) (ds : List Nat) (n c : Nat) (os : List Obj) (e : Nat) : Prop := exc3 o ds (n + 258) ∧ Unch (tabOf o) c (os.drop c) ∧ excOf o = .ref e
section
variable {w : World} {A : Around} {Q : Fin → Shared → Prop} {E : Value → Shared → Prop} {h : Heap} {g : Array GenState} {dr : Drawn} {t : Nat} {o : OsState} {n : Nat} {ora : Nat} {calls : Nat} {tr : Sem Fin}
theorem segExc {b1 b2 b3 : Bool} (hP : w.params = mkP w.params b1 b2 b3) (ar : Ar A) (ok : Okay w.params h) (hn : h.objs.size = n + 258) (ds : List Nat) (os : List Obj) (c fuel : Nat) {e : Nat} (hl : ∀ a ∈ ds, Low w.params a) (hd : ds.Nodup) (hs : Slots h ds os)
    (K : ExcK (outR (mkP w.params b1 b2 b3) n t ds.length os fuel ora calls tr) ds n c os e)
    (hQ : ∀ out h' dr', After w ds c n (numOf out) (tabOf out) h h' → E (.ref e) ⟨h', g, dr', t + tokOf out, o⟩) : wpAny (model pw w) A tr Q E ⟨h, g, dr, t, o⟩ := by
  obtain ⟨F, U, s⟩ := K
  rw [← hP] at F U s
  refine run_exc ok hn ds os c 500 fuel hl hd hs ar.deep ar.handled (outR w.params n t ds.length os fuel ora calls tr) rfl F.1 F.2 U fun h' dr' af => ?_
  rw [s]
  exact hQ _ h' dr' af
end
end Mine
end
section
open PySem PySem.W PySem.W.X PySem.Calls PyProof.Rows
set_option maxRecDepth 100000
set_option maxHeartbeats 400000
namespace Mine
open PySem.W.ZFast
theorem toldRow {h : Heap} {lo : Nat} (hlo : @LE.le Nat _ 258 lo) {v : Value} {i : Nat} (x : ToldAt h lo v i) : pRow h v (rowI i) := by
  obtain ⟨a, rfl, hl, t1, t2, t3, ep, e⟩ := x
  exact tupRow (Nat.le_trans hlo hl) e
theorem envF_frame (a L : Nat) : (envF a L).frame = some L := rfl
theorem env247_kind (L : Nat) : (envF 247 L).scope.kind ≠ .module := by
  have : (match (envF 247 L).scope.kind with | .module => true | _ => false) = false := by kernel_rfl
  intro e
  rw [e] at this
  cases this
theorem frames_cons {env : Env} {L : Nat} {outer : List Env} (hf : env.frame = some L) : frames (env :: outer) = L :: frames outer := by unfold frames; simp [hf]
theorem Okay.s258 {P : Params} {h : Heap} (ok : Okay P h) : @LE.le Nat _ 258 h.objs.size := by obtain ⟨n, hn⟩ := ok.size; omega
theorem exc_ne {B h : Heap} {e L d a T : Nat} {tb : Value} {hint : Int} {oL : Obj} (hL : h.get? L = some oL) (hc : oL.cls = .type "frame") (he : h.get? e = some (excT d a tb)) (hd : HintAt h d hint) : L ≠ e ∧ L ≠ d ∧ e ≠ d := by
  obtain ⟨x1, x2, x3, x4, x5, hd⟩ := hd
  exact ⟨ne_cls hL he (by rw [hc]; simp [excT]), ne_cls hL hd (by rw [hc]; simp), ne_cls he hd (by simp [excT])⟩
theorem wpAny_excMatchesZ {w : World} {A : Around} {e c : Value} {Q : Bool → Shared → Prop} {E : Value → Shared → Prop} {s : Shared} (h : wpAny (model pw w) A (zw17346088374725804007 e c) Q E s) : wpAny (model pw w) A (excMatches e c) Q E s := by
  rw [← ze17346088374725804007] at h
  exact h
theorem wpAny_storeZ {w : World} {A : Around} {env : Env} {x : Str} {v : Value} {Q : Unit → Shared → Prop} {E : Value → Shared → Prop} {s : Shared} (h : wpAny (model pw w) A (zw7998390705656384164 env x v) Q E s) : wpAny (model pw w) A (storeName env x v) Q E s := by
  rw [← ze7998390705656384164] at h
  exact h
section
variable {w : World} {A : Around} {h : Heap} {g : Array GenState} {dr : Drawn} {t : Nat} {o : OsState}
theorem lawTry (ark : ArK 12 A) (ok : Okay w.params h) {outer : List Env} (hfr : A.frames = some outer) (hl : h.FunFrames heap0 outer) (lF : ∀ a ∈ frames outer, Low w.params a) {R : Nat} {pa : Bool} {items : Array Value} {is : List Nat} (his : is.length ≤ 1000) (hR : h.IsList R items) (hit : All2 (ItemAt w.params h) items.toList is) {Y : Result → Shared → Prop}
    (hQ : ∀ r, fold (!pa) is none false = .ok r → ∀ F s', But [] h s'.heap → OkS w.params g o s' → HdrIs w s'.heap F (r.map rowI) → Y (.ok (.ret (.ref F))) s')
    (hE : ∀ hint, fold (!pa) is none false = .error hint → ∀ tk s', g = s'.gens ∧ o = s'.os → Keep h (frames outer) s'.heap → s'.heap.FunFrames heap0 outer → Y (.ok (.ret (.int hint tk))) s') :
    codeAny (model pw w) A (.call (.ref 247) ⟨[.ref R, .bool pa], []⟩) Y ⟨h, g, dr, t, o⟩ := by
  obtain ⟨n, hn⟩ := ok.size
  obtain ⟨b1, b2, b3, hP⟩ := params_split w.params
  refine codeAny_enter (fun _ => Nat.lt_of_le_of_lt ark.weak.deep (by decide)) ?_
  refine segFin hP (A := A.under (.call (.ref 247) ⟨[.ref R, .bool pa], []⟩)) ⟨ark.weak.deep, ark.handled⟩ ok hn [] [] 0 20 low0 (by simp) trivial (tyE w.params b1 b2 b3 n t R pa) fun out h₁ dr₁ S af => ?_
  obtain ⟨hf, h0⟩ := S
  rw [hf]
  refine ⟨af.ok.nolimit, rfl, ?_⟩
  have l1 := af.get 0 _ h0
  replace l1 : LocAt h₁ (n + 258) (locT R pa []) := ⟨_, _, _, _, l1⟩
  generalize hLd : n + 258 = L at l1
  have sL : @LE.le Nat _ h.objs.size L := by omega
  have lL : Low w.params L := highOk ok sL
  have b₁ : But [] h h₁ := af.but
  have ok₁ := af.ok
  generalize htk : t + tokOf out = t₁
  have arD : ArK 11 (A.deeper (envF 247 L)) := ark.deeper _
  have frD : (A.deeper (envF 247 L)).frames = some (envF 247 L :: outer) := by show A.frames.map _ = _; rw [hfr]; rfl
  have nLh : h.get? L = none := by
    cases q : h.get? L with
    | none => rfl
    | some o => exact absurd (Heap.lt_size q) (Nat.not_lt.mpr sL)
  have fcons : frames (envF 247 L :: outer) = L :: frames outer := frames_cons (envF_frame 247 L)
  have lFL : ∀ a ∈ frames (envF 247 L :: outer), Low w.params a := by
    intro a m
    rw [fcons] at m
    rcases List.mem_cons.mp m with rfl | m
    · exact lL
    · exact lF a m
  refine codeAny_func ?_
  rw [bodyT]
  obtain ⟨hs, tk, ep, sl, l1⟩ := l1
  obtain ⟨n₁, hn₁⟩ := ok₁.size
  refine wpAny_execs_at (wpAny_Try_except ?_)
  rw [execs_zf]
  refine wpAny_flowT (segCall hP arD.weak ok₁ hn₁ [L] [frm hs tk ep sl _] 0 20 (low1 lL) (by simp) ⟨l1, trivial⟩ (tyB w.params b1 b2 b3 n₁ t₁ L R pa hs tk ep sl) fun out h₂ dr₂ hout S af₂ => ?_)
  subst hout
  rw [S]
  have b₂ : But [] h₁ h₂ := af₂.but
  have B₂ := b₁.trans b₂
  have l2 := b₂.keep _ _ l1 (fun m => nomatch m)
  have R₂ : h₂.IsList R items := IsList.keepB hR B₂ (fun m => nomatch m)
  have hit₂ : All2 (ItemAt w.params h₂) items.toList is := hit.imp fun v i x => x.keep B₂
  have tc₂ : Tc (A.deeper (envF 247 L)) h₂ (envF 247 L :: outer) h₂ :=
    ⟨frD, frCons (FunFrames.but hl B₂ (fun _ _ m => nomatch m)) (env247_kind L) (envF_frame 247 L) ⟨_, l2, fun _ q => by cases q⟩, .refl _ _⟩
  refine nvN (arD.less (by decide)) af₂.ok (B := h₂) (outer := envF 247 L :: outer) (kw := some pa) his (iters_list R₂ hit₂) af₂.ok lFL tc₂ (fun r hr F NH arr s₃ hF hN b₃ ok₃ hd ln hT => ?_) (fun hint hr e s₃ tc₃ x₃ => ?_)
  · obtain ⟨h₃, g₃, dr₃, t₃, o₃⟩ := s₃
    obtain ⟨ok₃, rfl, rfl⟩ := ok₃
    obtain ⟨n₃, hn₃⟩ := ok₃.size
    refine segFin hP arD.weak ok₃ hn₃ [] [] 0 10 low0 (by simp) trivial (tyO w.params b1 b2 b3 n₁ t₁ n₃ t₃ L R F pa hs tk ep sl) fun out h₄ dr₄ S af₄ => ?_
    rw [S]
    have b₄ : But [] h₃ h₄ := af₄.but
    have q258 : @LE.le Nat _ 258 h₂.objs.size := af₂.ok.s258
    refine hQ r hr F _ (B₂.trans (b₃.trans b₄)) af₄.ok (HdrIs.keep (h := h₃) ⟨Nat.le_trans q258 hF, NH, hd, ⟨Nat.le_trans q258 hN, arr, ln, All2.map (hT.imp fun v i x => toldRow q258 x)⟩⟩ b₄)
  · obtain ⟨h₃, g₃, dr₃, t₃, o₃⟩ := s₃
    obtain ⟨tc₃, rfl, rfl⟩ := tc₃
    have ok₃ : Okay w.params h₃ := tc₃.keep.okay af₂.ok lFL
    obtain ⟨n₃, hn₃⟩ := ok₃.size
    refine segExc hP arD.weak ok₃ hn₃ [] [] 0 10 low0 (by simp) trivial (tyX w.params b1 b2 b3 n₁ t₁ n₃ t₃ L R e pa hs tk ep sl) fun out h₄ dr₄ af₄ => ?_
    have tc₄ := tc₃.nil af₄.but
    have x₄ := x₃.nil af₄.but
    refine noteN tc₄.fr tc₄.live rfl tc₄.keep x₄ (.inr (.inl rfl)) fun h₅ k₅ l₅ x₅ => ?_
    refine flightN l₅ k₅ x₅ fun h₆ k₆ l₆ x₆ => ?_
    have ok₆ : Okay w.params h₆ := k₆.okay af₂.ok lFL
    have hdl : ((A.deeper (envF 247 L)).mark (some (.ref e))).handled = some (.ref e) := rfl
    have dpl : ((A.deeper (envF 247 L)).mark (some (.ref e))).depth ≤ 500 := arD.weak.deep
    refine wpAny_handleBy_cons (codeAny_handlers_test ?_) (by intro q; cases q)
    rw [eval_zf]
    obtain ⟨n₆, hn₆⟩ := ok₆.size
    refine wpAny_valT (segFinH hP dpl (some (.ref e)) hdl ok₆ hn₆ [] [] 0 20 low0 (by simp) trivial (tyT1 w.params b1 b2 b3 n₆ _ L e) fun out h₇ dr₇ S af₇ => ?_)
    rw [S]
    have b₇ : But [] h₆ h₇ := af₇.but
    have k₇ := k₆.but b₇ (fun _ m => nomatch m)
    have l₇ := FunFrames.but l₆ b₇ (fun _ _ m => nomatch m)
    have x₇ := x₆.nil b₇
    have ok₇ := af₇.ok
    obtain ⟨n₇, hn₇⟩ := ok₇.size
    have x₇' := x₇
    obtain ⟨d, a, tb, he, hen, hh, htb⟩ := x₇'
    have lE : Low w.params e := af₂.ok.lowNone hen
    have hh' := hh
    obtain ⟨x1, x2, x3, x4, x5, hd⟩ := hh'
    have lD : Low w.params d := lowOne ok₇ hd
    refine wpAny_excMatchesZ ?_
    refine wpAny_boolT (segFinH hP dpl (some (.ref e)) hdl ok₇ hn₇ [e] [excT d a tb] 0 20 (low1 lE) (by simp) ⟨he, trivial⟩ (tyT2 w.params b1 b2 b3 n₇ _ e d a tb) fun out h₈ dr₈ S af₈ => ?_)
    rw [S]
    simp only [if_true]
    have b₈ : But [] h₇ h₈ := af₈.but
    have k₈ := k₇.but b₈ (fun _ m => nomatch m)
    have l₈ := FunFrames.but l₇ b₈ (fun _ _ m => nomatch m)
    have x₈ := x₇.nil b₈
    refine codeAny_handlers_suite_as ?_
    refine flightN l₈ k₈ x₈ fun h₉ k₉ l₉ x₉ => ?_
    have ok₉ : Okay w.params h₉ := k₉.okay af₂.ok lFL
    obtain ⟨slL, eL⟩ := k₉.frm L _ l2
    have l9 : h₉.get? L = some (frm hs tk ep slL (locT R pa [])) := eL
    obtain ⟨d, a, tb, he, hen, hh, htb⟩ := x₉
    have hh' := hh
    obtain ⟨x1, x2, x3, x4, x5, hd⟩ := hh'
    have lE : Low w.params e := af₂.ok.lowNone hen
    have lD : Low w.params d := lowOne ok₉ hd
    obtain ⟨n1, n2, n3⟩ := exc_ne (B := h) (T := 0) l9 rfl he hh
    obtain ⟨n₉, hn₉⟩ := ok₉.size
    refine wpAny_storeZ (wpAny_unitT ?_)
    refine segFinH hP dpl (some (.ref e)) hdl ok₉ hn₉ [L] [frm hs tk ep slL _] 1 20 (low1 lL) (by simp) ⟨l9, trivial⟩ (tyS w.params b1 b2 b3 n₉ _ L R e pa hs tk ep slL) fun out h₁₀ dr₁₀ S af₁₀ => ?_
    have b₁₀ : But [L] h₉ h₁₀ := af₁₀.but
    have l10 := af₁₀.get 0 _ S
    have l10' : h₁₀.get? L = some _ := l10
    have he10 := b₁₀.keep _ _ he (by simpa using n1.symm)
    have hd10 := b₁₀.keep _ _ hd (by simpa using n2.symm)
    obtain ⟨n₁₀, hn₁₀⟩ := af₁₀.ok.size
    rw [execs_zf]
    refine wpAny_flowT (segFinH hP dpl (some (.ref e)) hdl af₁₀.ok hn₁₀ [L, e, d] [_, excT d a tb, _] 0 50 (low3 lL lE lD) (by simp [n1, n2, n3]) ⟨l10', he10, hd10, trivial⟩ (tyU w.params b1 b2 b3 n₁₀ _ L R e d a tb pa _ _ _ _ x1 x2 x3 x4 x5 hint) fun out h₁₁ dr₁₁ S af₁₁ => ?_)
    rw [S]
    have b₁₁ : But [] h₁₀ h₁₁ := af₁₁.but
    have l11 := b₁₁.keep _ _ l10' (fun m => nomatch m)
    obtain ⟨n₁₁, hn₁₁⟩ := af₁₁.ok.size
    show wpAny _ _ (do bindName _ _ .none; unbindBehindTheSuite _ _ _) _ _ _
    rw [goes_zf]
    refine wpAny_unitT (segFin hP arD.weak af₁₁.ok hn₁₁ [L] [_] 1 30 (low1 lL) (by simp) ⟨l11, trivial⟩ (tyG w.params b1 b2 b3 n₁₁ _ L R e pa _ _ _ _ (hPos (tryHs stT))) fun out h₁₂ dr₁₂ S af₁₂ => ?_)
    have b₁₂ : But [L] h₁₁ h₁₂ := af₁₂.but
    have kh : Keep h (L :: frames outer) h₉ := by
      rw [← fcons]
      exact ⟨fun x ox ex nx => k₉.old x ox (B₂.keep _ _ ex (fun m => nomatch m)) nx, fun x ox ex => k₉.frm x ox (B₂.keep _ _ ex (fun m => nomatch m)), Nat.le_trans B₂.size k₉.size⟩
    have bb : But [L] h₉ h₁₂ := b₁₀.trans (b₁₁.nil.trans b₁₂)
    have kf : Keep h (L :: frames outer) h₁₂ := kh.but bb (fun x m => by rw [List.mem_singleton.mp m]; exact nLh)
    refine hE hint hr x3 _ ⟨rfl, rfl⟩ (kf.drop nLh) ?_
    refine FunFrames.but l₉.2.2 bb (fun x m q => ?_)
    rw [List.mem_singleton.mp q] at m
    obtain ⟨_, ox, hox, _⟩ := hl.mem m
    rw [nLh] at hox
    cases hox
end
end Mine
end
section
open PySem PySem.W PySem.W.X PySem.Calls PyProof.Rows
set_option maxRecDepth 100000
set_option maxHeartbeats 4000000
namespace Mine
open PySem.W.ZFast
def cL1 (F : Nat) : Code := .call (.type "list") ⟨[.ref F], []⟩
def cL2 (F : Nat) : Code := .builtin "type.__call__" ⟨[.type "list", .ref F], []⟩
def cL3 (S F : Nat) : Code := .call (.builtin "list.__init__") ⟨[.ref S, .ref F], []⟩
def cL4 (S F : Nat) : Code := .builtin "list.__init__" ⟨[.ref S, .ref F], []⟩
def cL5 (S it : Nat) : Code := .builtin "list.extend.loop" ⟨[.ref S, .ref it, .none], []⟩
theorem k1R (P : Params) (b1 b2 b3 : Bool) (n t F : Nat) : FinK (outR (mkP P b1 b2 b3) n t 0 [] 10 0 1000 (enterT (cL1 F))) [] n 0 [] (fun o => finOf o = .again (cL2 F)) := by
  refine ⟨⟨?_, ?_, ?_, ?_⟩, ?_, ?_⟩
  all_goals first | exact True.intro | (show _ = _; kernel_rfl)
noncomputable abbrev outK2 (P : Params) (n t F : Nat) : Out := outR P n t 0 [] 20 257 1 (enterT (cL2 F))
theorem k2R (P : Params) (b1 b2 b3 : Bool) (n t F : Nat) : CallK (outK2 (mkP P b1 b2 b3) n t F) [] n 0 [] (fun o => codeOf o = cL3 (n + 258) F ∧ tget (tabOf o) 0 = some (lstO #[] 0)) := by
  cases b1 <;> refine ⟨⟨?_, ?_, ?_, ?_, ?_⟩, ?_, ?_, ?_⟩
  all_goals first | exact True.intro | (show _ = _; kernel_rfl)
theorem k3R (P : Params) (b1 b2 b3 : Bool) (n t n' t' F : Nat) : FinK (outR (mkP P b1 b2 b3) n' t' 0 [] 10 0 1000 (treeOf (outK2 (mkP P b1 b2 b3) n t F) (.ok (.ret .none)))) [] n' 0 [] (fun o => finOf o = .done (.ret (.ref (n + 258)))) := by
  cases b1 <;> refine ⟨⟨?_, ?_, ?_, ?_⟩, ?_, ?_⟩
  all_goals first | exact True.intro | (show _ = _; kernel_rfl)
def five : Nat → Value → Value → Value → Value → Value → List Value
  | 0, _, _, _, _, _ => []
  | 1, a, _, _, _, _ => [a]
  | 2, a, b, _, _, _ => [a, b]
  | 3, a, b, c, _, _ => [a, b, c]
  | 4, a, b, c, d, _ => [a, b, c, d]
  | _, a, b, c, d, e => [a, b, c, d, e]
theorem five_of : ∀ (l : List Value), l.length ≤ 5 → ∃ k a b c d e, k ≤ 5 ∧ l = five k a b c d e
  | [], _ => ⟨0, .none, .none, .none, .none, .none, by omega, rfl⟩
  | [a], _ => ⟨1, a, .none, .none, .none, .none, by omega, rfl⟩
  | [a, b], _ => ⟨2, a, b, .none, .none, .none, by omega, rfl⟩
  | [a, b, c], _ => ⟨3, a, b, c, .none, .none, by omega, rfl⟩
  | [a, b, c, d], _ => ⟨4, a, b, c, d, .none, by omega, rfl⟩
  | [a, b, c, d, e], _ => ⟨5, a, b, c, d, e, by omega, rfl⟩
  | _ :: _ :: _ :: _ :: _ :: _ :: _, h => by simp at h
theorem k8R (P : Params) (b1 b2 b3 : Bool) (n t F d NH epn : Nat) (k : Nat) (hk : k ≤ 5) (x1 x2 x3 x4 x5 : Value) : FinK (outR (mkP P b1 b2 b3) n t 2 [hdrO d NH, lstO (five k x1 x2 x3 x4 x5).toArray epn] 100 71952895603843980266651453802568921783223398260230893775981197171761962542562820965587274742372684005377 1000 (boolT (zw15112759502256325868 (.ref F))))
    [F, NH] n 0 [hdrO d NH, lstO (five k x1 x2 x3 x4 x5).toArray epn] (fun o => finOf o = bfin (match k with | 0 => false | _ => true)) := by
  obtain rfl | rfl | rfl | rfl | rfl | rfl : k = 0 ∨ k = 1 ∨ k = 2 ∨ k = 3 ∨ k = 4 ∨ k = 5 := by omega
  all_goals (cases b1 <;> refine ⟨⟨?_, ?_, ?_, ?_⟩, ⟨?_, ?_, ?_⟩, ?_⟩)
  all_goals first | exact True.intro | (show _ = _; kernel_rfl)
def sOther : Str := ⟨#[111, 116, 104, 101, 114]⟩
def locEq (a b : Nat) : List (Str × Value) := [(sSelf, .ref a), (sOther, .ref b)]
noncomputable def eEq : Expr := retE (nthSt (bodyF 138) 0)
theorem bodyEq : bodyF 138 = [.Return (some (.Compare (subE eEq [0]) [.Eq] [subE eEq [1]] (posC eEq))) (posS (nthSt (bodyF 138) 0))] := by kernel_rfl
theorem eqE (P : Params) (b1 b2 b3 : Bool) (n t a b : Nat) : FinK (outR (mkP P b1 b2 b3) n t 0 [] 20 1103823437824 1000 (enterT (.call (.ref 138) ⟨[.ref a, .ref b], []⟩))) [] n 0 []
    (fun o => finOf o = .again (.func (bodyF 138) (envF 138 (n + 258))) ∧ tget (tabOf o) 0 = some (frm (hsOf (objAt o 0)) (tkOf (objAt o 0)) (epOf (objAt o 0)) #[] (locEq a b))) := by
  refine ⟨⟨?_, ?_, ?_, ?_⟩, ?_, ?_, ?_⟩
  all_goals first | exact True.intro | (show _ = _; kernel_rfl)
def pick (j : Bool) (a b : Nat) : Nat := match j with | true => b | false => a
def pickE (j : Bool) : Nat := match j with | true => 1 | false => 0
noncomputable abbrev outEL (P : Params) (j : Bool) (n t L a b : Nat) (hs : Nat → Int) (tk : Nat → Nat) (ep : Nat) (sl : Array (Option Value)) : Out := outR P n t 1 [frm hs tk ep sl (locEq a b)] 20 65536 0 (valT (evalZ (subE eEq [pickE j]) (envF 138 L)))
theorem eqA (P : Params) (b1 b2 b3 : Bool) (j : Bool) (n t L a b : Nat) (hs : Nat → Int) (tk : Nat → Nat) (ep : Nat) (sl : Array (Option Value)) : CallK (outEL (mkP P b1 b2 b3) j n t L a b hs tk ep sl) [L] n 0 [frm hs tk ep sl (locEq a b)] (fun o => codeOf o = cL1 (pick j a b)) := by
  cases j <;> cases b1 <;> refine ⟨⟨?_, ?_, ?_, ?_, ?_⟩, ⟨?_, ?_⟩, ?_⟩
  all_goals first | exact True.intro | (show _ = _; kernel_rfl)
theorem eqB (P : Params) (b1 b2 b3 : Bool) (j : Bool) (n t n' t' L a b x : Nat) (hs : Nat → Int) (tk : Nat → Nat) (ep : Nat) (sl : Array (Option Value)) : FinK (outR (mkP P b1 b2 b3) n' t' 0 [] 10 0 1000 (treeOf (outEL (mkP P b1 b2 b3) j n t L a b hs tk ep sl) (.ok (.ret (.ref x))))) [] n' 0 [] (fun o => finOf o = .done (.ret (.ref x))) := by
  cases j <;> cases b1 <;> refine ⟨⟨?_, ?_, ?_, ?_⟩, ?_, ?_⟩
  all_goals first | exact True.intro | (show _ = _; kernel_rfl)
theorem k9R (P : Params) (b1 b2 b3 : Bool) (n t F d NH : Nat) : FinK (outR (mkP P b1 b2 b3) n t 1 [hdrO d NH] 10 1 1000 (valT (zw14684505520029207082 (.ref F)))) [F] n 0 [hdrO d NH] (fun o => finOf o = .done (.ret (.ref 165))) := by
  cases b1 <;> refine ⟨⟨?_, ?_, ?_, ?_⟩, ⟨?_, ?_⟩, ?_⟩
  all_goals first | exact True.intro | (show _ = _; kernel_rfl)
noncomputable def richT (op : CmpOp) (a b : Value) : Unit → Sem Value := by
  refine (fun (r : Unit → Sem Value) (_ : zw9423741818375054981 op a b = zw17359229931016689406 [a, b] (@bind Sem (@Monad.toBind Sem zw12456147031677567982) Unit Value (zw13383273872528276517 SZ.s11780134324901847377x10 [a, b]) r)) => r) ?r ?h
  case h => with_unfolding_all exact rfl
theorem rich_eq (op : CmpOp) (a b : Value) : zw9423741818375054981 op a b = zw17359229931016689406 [a, b] (@bind Sem (@Monad.toBind Sem zw12456147031677567982) Unit Value (zw13383273872528276517 SZ.s11780134324901847377x10 [a, b]) (richT op a b)) := by kernel_rfl
end Mine
end
section
open PySem PySem.W PySem.W.X PySem.Calls PyProof.Rows
set_option maxRecDepth 100000
set_option maxHeartbeats 400000
namespace Mine
open PySem.W.ZFast
theorem wpAny_hintZ {w : World} {A : Around} {x : Value} {Q : Bool → Shared → Prop} {E : Value → Shared → Prop} {s : Shared} (h : wpAny (model pw w) A (zw15112759502256325868 x) Q E s) : wpAny (model pw w) A (Builtin.List.listLengthHint x) Q E s := by
  rw [← ze15112759502256325868] at h
  exact h
theorem All2.snocAt {α β : Type} {p : α → β → Prop} {l : List α} {m : List β} {k : Nat} {a : α} {b : β} (x : All2 p (l.take k) (m.take k)) (ha : l[k]? = some a) (hb : m[k]? = some b) (h : p a b) : All2 p (l.take (k + 1)) (m.take (k + 1)) := by
  rw [List.take_add_one, List.take_add_one, ha, hb]
  exact x.snoc h
section
variable {w : World} {A : Around} {h : Heap} {g : Array GenState} {dr : Drawn} {t : Nat} {o : OsState}
theorem But.upd {h : Heap} (a : Nat) (f : Obj → Obj) : But [a] h (h.update a f) := ⟨fun b o e n => (Heap.get?_update_other _ _ (fun q => n (by rw [q]; simp))).trans e, by rw [Heap.size_update]; exact Nat.le_refl _⟩
theorem extLoop (ar : Ar A) {h0 h1 : Heap} {S it lst : Nat} {items : Array Value} (ok0 : Okay w.params h0) (lS : Low w.params S) (lI : Low w.params it) (hsz : items.size ≤ 1000)
    (sS : @LE.le Nat _ h0.objs.size S) (sI : @LE.le Nat _ h0.objs.size it) (nSI : S ≠ it) (nSl : S ≠ lst) {Y : Result → Shared → Prop}
    (hQ : ∀ s', But [] h0 s'.heap → TupK h1 s'.heap → OkS w.params g o s' → LstAt s'.heap S items → Y (.ok (.ret .none)) s') :
    ∀ (k : Nat) (s : Shared) (i : Nat), items.size - i = k → i ≤ items.size → But [] h0 s.heap → TupK h1 s.heap → OkS w.params g o s → s.heap.IsListIter it lst i → s.heap.IsList lst items → LstAt s.heap S (items.extract 0 i) → codeAny (model pw w) A (cL5 S it) Y s := by
  intro k
  induction k with
  | zero =>
    intro s i hk hi b tk ok hit hl hS
    have hin : i = items.size := by omega
    subst hin
    rw [Array.extract_size] at hS
    refine codeAny_builtin F.entry_extend_loop ?_
    rw [Around.under_plainId F.plain_extend_loop _]
    show wpAny _ A.in1 (pyNext (.ref it) >>= _) _ _ s
    obtain ⟨oi, hoi, hci, _⟩ := id hit
    obtain ⟨ep, hS⟩ := hS
    have nSi : S ≠ it := nSI
    refine wpAny_bind (wpAny_pyNext_list_end (A := A.in1) ar.handled hit hl (by simp) fun h₁ eb => ?_)
    have b₁ := b.ext eb sI (eb _ _ nSI hS) sS
    exact wpAny_pure (hQ _ b₁ (fun x ox ho hc => eb _ _ (fun q => by have := tk x ox ho hc; rw [q, hoi] at this; cases this; rw [hci] at hc; simp at hc) (tk x ox ho hc)) ⟨ok0.but low0 b₁, ok.gens, ok.os⟩ ⟨ep, eb _ _ nSI hS⟩)
  | succ k ih =>
    intro s i hk hi b tk ok hit hl hS
    have hlt : i < items.size := by omega
    refine codeAny_builtin F.entry_extend_loop ?_
    rw [Around.under_plainId F.plain_extend_loop _]
    show wpAny _ A.in1 (pyNext (.ref it) >>= _) _ _ s
    obtain ⟨oi, hoi, hci, _⟩ := id hit
    refine wpAny_bind (wpAny_pyNext_list_item hit hl (x := items[i]) (by simp [hlt]) fun h₁ it₁ sb => ?_)
    have b₁ : But [it] s.heap h₁ := .same sb
    obtain ⟨ep, hS⟩ := hS.keep b₁ (by simpa using nSI)
    show wpAny _ A.in1 (updateSeq S (·.push items[i]) >>= _) _ _ _
    refine wpAny_bind ?_
    have hz : (items.extract 0 i).size ≤ 1000 := by simp; omega
    refine wpAny_updateSeq hS rfl (wpAny_pure ⟨plainId_quiet F.plain_extend_loop _, ?_⟩) (hz := Nat.le_trans hz (by decide)) (_hz' := by rw [Array.size_push]; exact Nat.le_trans (Nat.succ_le_succ hz) (by decide))
    have b₂ : But [S] h₁ (h₁.update S (Obj.mapSeq (·.push items[i]))) := .upd _ _
    have tk₂ : TupK h1 (h₁.update S (Obj.mapSeq (·.push items[i]))) := fun x ox ho hc => TupK.of b₂ (fun a m => by rw [List.mem_singleton.mp m]; exact ⟨_, hS, by simp [lstO]⟩) x ox (TupK.of b₁ (fun a m => by rw [List.mem_singleton.mp m]; exact ⟨_, hoi, by rw [hci]; simp⟩) x ox (tk x ox ho hc) hc) hc
    have nlit : lst ≠ it := by obtain ⟨_, e, c, _⟩ := hl; exact ne_cls e hoi (by rw [c, hci]; simp)
    refine ih _ (i + 1) (by omega) hlt ((b.fresh b₁ (fun x m => by rw [List.mem_singleton.mp m]; exact sI)).fresh b₂ (fun x m => by rw [List.mem_singleton.mp m]; exact sS)) tk₂ ⟨(ok.but (low1 lI) b₁).but (low1 lS) b₂, ok.gens, ok.os⟩ (IsIter.keepB it₁ b₂ (by simpa using nSI.symm)) (IsList.keepB (IsList.keepB hl b₁ (by simpa using nlit)) b₂ (by simpa using nSl.symm)) ?_
    have up := Heap.get?_update_self (Obj.mapSeq (·.push items[i])) hS rfl
    have e : (items.extract 0 i).push items[i] = items.extract 0 (i + 1) := by
      apply Array.ext'
      simp [List.take_add_one, hlt]
    have r : LstAt (h₁.update S (Obj.mapSeq (·.push items[i]))) S ((items.extract 0 i).push items[i]) := ⟨_, up⟩
    rw [e] at r
    exact r
end
end Mine
end
section
open PySem PySem.W PySem.W.X PySem.Calls PyProof.Rows
set_option maxRecDepth 100000
set_option maxHeartbeats 400000
namespace Mine
open PySem.W.ZFast
theorem ArK.under1 {k : Nat} {A : Around} {c : Code} (a : ArK (k + 1) A) (h : Nat.ble (zw1243936422450756474 c) 1 = true) : ArK k (A.under c) := a.under (by rw [ze1243936422450756474]; exact Nat.le_of_ble_eq_true h)
section
variable {w : World} {A : Around} {h : Heap} {g : Array GenState} {dr : Drawn} {t : Nat} {o : OsState}
theorem initH (ark : ArK 5 A) (ok : Okay w.params h) {h0 : Heap} (ok0 : Okay w.params h0) (b0 : But [] h0 h) {S X : Nat} {rows : List Row} (hr : rows.length ≤ 5) (sS : @LE.le Nat _ h0.objs.size S) (hS : h.get? S = some (lstO #[] 0)) (hF : HdrIs w h0 X rows) {Y : Result → Shared → Prop}
    (hQ : ∀ arr' s', But [] h0 s'.heap → OkS w.params g o s' → LstAt s'.heap S arr' → All2 (TupAt s'.heap) arr'.toList (rows.map f12) → Y (.ok (.ret .none)) s') :
    codeAny (model pw w) A (cL3 S X) Y ⟨h, g, dr, t, o⟩ := by
  have ar1 : ArK 5 A.in1 := ⟨ark.deep, ark.handled⟩
  have hT : (⟨h, g, dr, t, o⟩ : Shared).TypeIs (.ref S) "list" := ⟨_, hS, rfl⟩
  refine codeAny_call_builtin F.slot_list_init.plain F.entry_list_init (F.slot_list_init.check _ _ _ _ _ _ _ _ hT (F.args_list_init_2 _ _) ?_)
  show wpAny _ A.in1 (do let old ← Builtin.List.listItems (.ref S); Builtin.List.listUpdate (.ref S) (fun _ => #[]); letGo old.toList.reverse; Builtin.List.listExtendWith (.ref S) (.ref X) .none) _ _ _
  refine wpAny_bind ?_
  unfold Builtin.List.listItems
  refine wpAny_bind (wpAny_seqItems hS rfl (wpAny_pure ?_))
  show wpAny _ A.in1 (updateSeq S (fun _ => #[]) >>= fun _ => letGo (#[] : Array Value).toList.reverse >>= fun _ => Builtin.List.listExtendWith (.ref S) (.ref X) .none) _ _ _
  refine wpAny_bind (wpAny_updateSeq hS rfl ?_)
  have hS₂ := Heap.get?_update_self (Obj.mapSeq (fun _ => (#[] : Array Value))) hS rfl
  have b₂ : But [S] h (h.update S (Obj.mapSeq (fun _ => (#[] : Array Value)))) := .upd _ _
  have B₂ := b0.fresh b₂ (fun x m => by rw [List.mem_singleton.mp m]; exact sS)
  have ok₂ := ok0.but low0 B₂
  refine wpAny_bind (wpAny_letGo ?_)
  replace hS₂ : LstAt (h.update S (Obj.mapSeq (fun _ => (#[] : Array Value)))) S #[] := ⟨_, hS₂⟩
  generalize h.update S (Obj.mapSeq (fun _ => (#[] : Array Value))) = h₂ at *
  obtain ⟨lF, NH, hd, hN⟩ := hF.keep B₂
  obtain ⟨lN, arr, aN, pN⟩ := hN
  obtain ⟨d, eF, _⟩ := id hd
  have eS := hS₂
  obtain ⟨epS, eS⟩ := eS
  have nSF : S ≠ X := ne_cls eS eF (by simp [lstO, hdrO])
  have lS : Low w.params S := highOk ok0 sS
  unfold Builtin.List.listExtendWith
  refine wpAny_bind (wpAny_typeOf_ref eF ?_)
  have h1 : Builtin.List.listSameRef (.ref S) (.ref X) = false := by simp [Builtin.List.listSameRef, nSF]
  have h2 : (Value.ref 165 == Value.type "list") = false := by decide
  have h3 : (Value.ref 165 == Value.type "tuple") = false := by decide
  show wpAny _ A.in1 (if (Builtin.List.listSameRef (.ref S) (.ref X) || Value.ref 165 == Value.type "list" || Value.ref 165 == Value.type "tuple") = true then _ else _) _ _ _
  simp only [h1, h2, h3, Bool.or_false, Bool.false_eq_true, if_false]
  have hrl : rows.length ≤ 1000 := by omega
  refine wpAny_bind (pyIterH (ar1.less (by decide)) ok₂ hrl (Low.high lF) (Low.high lN) hd aN pN fun it acc arr' s₃ b₃ ok₃ le1 le2 i₃ a₃ p₃ => ?_)
  refine wpAny_bind (wpAny_holding (wpAny_hintZ ?_))
  obtain ⟨h₃, g₃, dr₃, t₃, o₃⟩ := s₃
  obtain ⟨ok₃, rfl, rfl⟩ := ok₃
  obtain ⟨n₃, hn₃⟩ := ok₃.size
  obtain ⟨b1, b2, b3, hP⟩ := params_split w.params
  obtain ⟨epn, eN⟩ := aN.keep b₃ (fun m => nomatch m)
  have eF₃ := b₃.keep _ _ eF (fun m => nomatch m)
  have nFN : X ≠ NH := ne_cls eF₃ eN (by simp [hdrO, lstO])
  have hlen : arr.toList.length ≤ 5 := by rw [pN.len]; exact hr
  obtain ⟨k, x1, x2, x3, x4, x5, hk, e5⟩ := five_of arr.toList hlen
  have earr : arr = (five k x1 x2 x3 x4 x5).toArray := by rw [← e5]
  rw [earr] at eN
  refine wpAny_boolT (segFin hP (A := A.in1) ar1.weak ok₃ hn₃ [X, NH] [hdrO d NH, lstO (five k x1 x2 x3 x4 x5).toArray epn] 0 100 (low2 (Low.high lF) (Low.high lN)) (by simp [nFN]) ⟨eF₃, eN, trivial⟩ (k8R w.params b1 b2 b3 n₃ t₃ X d NH epn k hk x1 x2 x3 x4 x5) fun out h₄ dr₄ S' af₄ => ?_)
  rw [S']
  have b₄ : But [] h₃ h₄ := af₄.but
  have B₄ : But [] h0 h₄ := B₂.trans (b₃.trans b₄)
  have i₄ : h₄.IsListIter it acc 0 := ⟨_, b₄.keep _ _ i₃ (fun m => nomatch m), rfl, rfl⟩
  have a₄ := (a₃.keep b₄ (fun m => nomatch m))
  have p₄ : All2 (TupAt h₄) arr'.toList (rows.map f12) := pf_map f12 (p₃.imp fun v i x => pOf_keep _ _ _ _ _ (TupK.nil b₄) x)
  have S₄ : LstAt h₄ S #[] := (hS₂.keep b₃ (fun m => nomatch m)).keep b₄ (fun m => nomatch m)
  have sI : @LE.le Nat _ h0.objs.size it := Nat.le_trans B₂.size le1
  have lI : Low w.params it := highOk ok0 sI
  have nSI : S ≠ it := by obtain ⟨_, e⟩ := S₄; obtain ⟨_, e', c, _⟩ := i₄; exact ne_cls e e' (by rw [c]; simp [lstO])
  have nSa : S ≠ acc := fun e => by rw [← e] at le2; exact absurd (Heap.lt_size eS) (Nat.not_lt.mpr le2)
  have hsa : arr'.size ≤ 1000 := by have := p₄.len; simp at this; omega
  have fin : ∀ s₅ : Shared, But [S] h₄ s₅.heap → OkS w.params g o s₅ → LstAt s₅.heap S #[] → codeAny (model pw w) A (cL5 S it) Y s₅ := by
    intro s₅ b₅ ok₅ S₅
    have B₅ : But [] h0 s₅.heap := B₄.fresh b₅ (fun x m => by rw [List.mem_singleton.mp m]; exact sS)
    have t₅ : TupK h₄ s₅.heap := TupK.of b₅ (fun a m => by rw [List.mem_singleton.mp m]; obtain ⟨_, e⟩ := S₄; exact ⟨_, e, by simp [lstO]⟩)
    have a₅ := a₄.keep b₅ (by simpa using nSa.symm)
    have p₅ := tups_keep p₄ t₅
    have i₅ := IsIter.keepB i₄ b₅ (by simpa using nSI.symm)
    refine extLoop (h1 := s₅.heap) ark.weak ok0 lS lI hsa sS sI nSI nSa (fun s₆ B₆ tk₆ ok₆ S₆ => hQ arr' s₆ B₆ ok₆ S₆ (tups_keep p₅ tk₆)) _ s₅ 0 rfl (Nat.zero_le _) B₅ (fun _ _ e _ => e) ok₅ i₅ a₅.isList ?_
    rw [show arr'.extract 0 0 = #[] from by simp]
    exact S₅
  have quiet : (cL5 S it).quiet = true := plainId_quiet F.plain_extend_loop _
  have touch : wpAny (model pw w) A.in1 (do rule "list.extend.makes-room"; Builtin.List.listTouch (.ref S); again (cL5 S it)) (fun fin s' => match fin with | .done f => Y (.ok f) s' | .again c' => c'.quiet = true ∧ codeAny (model pw w) A c' Y s') (fun e s' => Y (.error e) s') ⟨h₄, g, dr₄, t₃ + tokOf out, o⟩ := by
    refine wpAny_bind (wpAny_rule ?_)
    refine wpAny_bind ?_
    show wpAny _ A.in1 (updateSeq S (·.push .none) >>= fun _ => updateSeq S (·.pop)) _ _ _
    obtain ⟨ep₄, S₄⟩ := S₄
    refine wpAny_bind (wpAny_updateSeq S₄ rfl ?_)
    have hS₅ := Heap.get?_update_self (Obj.mapSeq (·.push Value.none)) S₄ rfl
    refine wpAny_updateSeq (hz := by decide) hS₅ rfl ?_
    have hS₆ := Heap.get?_update_self (Obj.mapSeq (·.pop)) hS₅ rfl
    have b₅ : But [S] h₄ (h₄.update S (Obj.mapSeq (·.push Value.none))) := .upd _ _
    have b₆ : But [S] (h₄.update S (Obj.mapSeq (·.push Value.none))) ((h₄.update S (Obj.mapSeq (·.push Value.none))).update S (Obj.mapSeq (·.pop))) := .upd _ _
    exact wpAny_pure ⟨quiet, fin _ (b₅.trans b₆) ((af₄.ok.but (low1 lS) b₅).but (low1 lS) b₆) ⟨_, hS₆⟩⟩
  cases k with
  | zero =>
    show wpAny _ A.in1 (again (cL5 S it)) _ _ _
    exact wpAny_pure ⟨quiet, fin _ (.refl _ _) af₄.ok S₄⟩
  | succ k => exact touch
end
end Mine
end
section
open PySem PySem.W PySem.W.X PySem.Calls PyProof.Rows
set_option maxRecDepth 100000
set_option maxHeartbeats 400000
namespace Mine
open PySem.W.ZFast
def ListIs (ls : List (List (Array UInt8))) (h : Heap) (S : Nat) : Prop := ∃ arr, LstAt h S arr ∧ All2 (TupAt h) arr.toList ls
theorem ListIs.keep {ls : List (List (Array UInt8))} {h h' : Heap} {S : Nat} (x : ListIs ls h S) (b : But [] h h') : ListIs ls h' S := let ⟨arr, a, p⟩ := x; ⟨arr, a.keep b (fun m => nomatch m), tups_keep p (TupK.nil b)⟩
def Listed (w : World) (h0 : Heap) (X : Nat) (ls : List (List (Array UInt8))) : Prop := ∀ {A : Around} {h : Heap} {g : Array GenState} {dr : Drawn} {t : Nat} {o : OsState} {S : Nat} {Y : Result → Shared → Prop}, ArK 5 A → Okay w.params h → But [] h0 h → @LE.le Nat _ h0.objs.size S → h.get? S = some (lstO #[] 0) →
  (∀ s', But [] h0 s'.heap → OkS w.params g o s' → ListIs ls s'.heap S → Y (.ok (.ret .none)) s') → codeAny (model pw w) A (cL3 S X) Y ⟨h, g, dr, t, o⟩
theorem listedH {w : World} {h0 : Heap} (ok0 : Okay w.params h0) {X : Nat} {rows : List Row} (hr : rows.length ≤ 5) (hX : HdrIs w h0 X rows) : Listed w h0 X (rows.map f12) :=
  fun ark ok b sS hS hQ => initH ark ok ok0 b hr sS hS hX fun arr' s' B ok' a p => hQ s' B ok' ⟨arr', a, p⟩
theorem listedL {w : World} {h0 : Heap} (ok0 : Okay w.params h0) {X : Nat} {ls : List (List (Array UInt8))} (hls : ls.length ≤ 1000) (hX : ListIs ls h0 X) : Listed w h0 X ls := by
  intro A h g dr t o S Y ark ok b sS hS hQ
  obtain ⟨arr, aX, pX⟩ := hX
  obtain ⟨ep, eX⟩ := aX.keep b (fun m => nomatch m)
  have ltX : @LT.lt Nat _ X h0.objs.size := let ⟨_, e⟩ := aX; Heap.lt_size e
  have hne : X ≠ S := fun e => by rw [e] at ltX; exact absurd ltX (Nat.not_lt.mpr sS)
  have hT : (⟨h, g, dr, t, o⟩ : Shared).TypeIs (.ref S) "list" := ⟨_, hS, rfl⟩
  have hsz : arr.size ≤ 1000 := by have := pX.len; simp at this; omega
  refine codeAny_call_builtin F.slot_list_init.plain F.entry_list_init (F.slot_list_init.check _ _ _ _ _ _ _ _ hT (F.args_list_init_2 _ _) ?_)
  refine wpAny_list_init_seq (hsz := Nat.le_trans hsz (by decide)) S X (.inl rfl) hne hS eX rfl rfl ?_
  have b₁ : But [S] h (h.update S (Obj.mapSeq (fun _ => (#[] : Array Value)))) := .upd _ _
  have b₂ : But [S] (h.update S (Obj.mapSeq (fun _ => (#[] : Array Value)))) ((h.update S (Obj.mapSeq (fun _ => (#[] : Array Value)))).update S (Obj.mapSeq (· ++ arr))) := .upd _ _
  have B := b.fresh (b₁.trans b₂) (fun x m => by rw [List.mem_singleton.mp m]; exact sS)
  have hS₂ := Heap.get?_update_self (Obj.mapSeq (fun _ => (#[] : Array Value))) hS rfl
  have hS₃ := Heap.get?_update_self (Obj.mapSeq (· ++ arr)) hS₂ rfl
  have a₃ : LstAt ((h.update S (Obj.mapSeq (fun _ => (#[] : Array Value)))).update S (Obj.mapSeq (· ++ arr))) S (#[] ++ arr) := ⟨_, hS₃⟩
  rw [Array.empty_append] at a₃
  exact hQ _ B (ok0.but low0 B) ⟨arr, a₃, tups_keep pX (TupK.nil B)⟩
section
variable {w : World} {A : Around} {h : Heap} {g : Array GenState} {dr : Drawn} {t : Nat} {o : OsState}
theorem listOf (ark : ArK 8 A) (ok : Okay w.params h) {X : Nat} {ls : List (List (Array UInt8))} (hX : Listed w h X ls) {Y : Result → Shared → Prop}
    (hQ : ∀ S s', But [] h s'.heap → OkS w.params g o s' → @LE.le Nat _ h.objs.size S → ListIs ls s'.heap S → Y (.ok (.ret (.ref S))) s') : codeAny (model pw w) A (cL1 X) Y ⟨h, g, dr, t, o⟩ := by
  obtain ⟨n, hn⟩ := ok.size
  obtain ⟨b1, b2, b3, hP⟩ := params_split w.params
  have ar1 : ArK 7 (A.under (cL1 X)) := ark.under1 (by kernel_rfl)
  refine codeAny_enter (fun hc => by cases hc) ?_
  refine segFin hP ar1.weak ok hn [] [] 0 10 low0 (by simp) trivial (k1R w.params b1 b2 b3 n t X) fun out h₁ dr₁ S af => ?_
  rw [S]
  refine ⟨af.ok.nolimit, by rw [ze17772548960776305114]; kernel_rfl, ?_⟩
  have b₁ : But [] h h₁ := af.but
  generalize t + tokOf out = t₁
  obtain ⟨n₁, hn₁⟩ := af.ok.size
  have ar2 : ArK 7 (A.under (cL2 X)) := ark.under1 (by kernel_rfl)
  refine codeAny_enter (fun hc => by cases hc) ?_
  refine segCall hP ar2.weak af.ok hn₁ [] [] 0 20 low0 (by simp) trivial (k2R w.params b1 b2 b3 n₁ t₁ X) fun out h₂ dr₂ hout S af₂ => ?_
  subst hout
  obtain ⟨hc, h0⟩ := S
  rw [hc]
  have b₂ : But [] h₁ h₂ := af₂.but
  have B₂ := b₁.trans b₂
  have sS : @LE.le Nat _ h.objs.size (n₁ + 258) := by have := b₁.size; rw [hn₁] at this; exact this
  refine hX (ar2.less (by decide)) af₂.ok B₂ sS (af₂.get 0 _ h0) fun s₃ B₃ ok₃ L₃ => ?_
  obtain ⟨h₃, g₃, dr₃, t₃, o₃⟩ := s₃
  obtain ⟨ok₃, rfl, rfl⟩ := ok₃
  obtain ⟨n₃, hn₃⟩ := ok₃.size
  refine segFin hP ar2.weak ok₃ hn₃ [] [] 0 10 low0 (by simp) trivial (k3R w.params b1 b2 b3 n₁ t₁ n₃ t₃ X) fun out h₄ dr₄ S af₄ => ?_
  rw [S]
  have b₄ : But [] h₃ h₄ := af₄.but
  exact ⟨af₄.ok.nolimit, hQ _ _ (B₃.trans b₄) af₄.ok sS (L₃.keep b₄)⟩
def pickL (j : Bool) (a b : List (List (Array UInt8))) : List (List (Array UInt8)) := match j with | true => b | false => a
theorem eq138 (ark : ArK 12 A) (hu : A.units + 8 < cLine) (ok : Okay w.params h) {a b : Nat} {la lb : List (List (Array UInt8))} (ha : ∀ h', But [] h h' → Okay w.params h' → Listed w h' a la) (hb : ∀ h', But [] h h' → Okay w.params h' → Listed w h' b lb) {Y : Result → Shared → Prop}
    (hQ : ∀ s', But [] h s'.heap → OkS w.params g o s' → Y (.ok (.ret (.bool (decide (la = lb))))) s') : codeAny (model pw w) A (.call (.ref 138) ⟨[.ref a, .ref b], []⟩) Y ⟨h, g, dr, t, o⟩ := by
  obtain ⟨n, hn⟩ := ok.size
  obtain ⟨b1, b2, b3, hP⟩ := params_split w.params
  refine codeAny_enter (fun _ => Nat.lt_of_le_of_lt ark.weak.deep (by decide)) ?_
  refine segFin hP (A := A.under (.call (.ref 138) ⟨[.ref a, .ref b], []⟩)) ⟨ark.weak.deep, ark.handled⟩ ok hn [] [] 0 20 low0 (by simp) trivial (eqE w.params b1 b2 b3 n t a b) fun out h₁ dr₁ S af => ?_
  obtain ⟨hf, h0⟩ := S
  rw [hf]
  refine ⟨af.ok.nolimit, rfl, ?_⟩
  have l1 := af.get 0 _ h0
  replace l1 : LocAt h₁ (n + 258) (locEq a b) := ⟨_, _, _, _, l1⟩
  generalize hLd : n + 258 = L at l1
  have sL : @LE.le Nat _ h.objs.size L := by omega
  have lL : Low w.params L := highOk ok sL
  have b₁ : But [] h h₁ := af.but
  generalize t + tokOf out = t₁
  have arD : ArK 11 (A.deeper (envF 138 L)) := ark.deeper _
  have huD : (A.deeper (envF 138 L)).units + 1 < cLine := by show A.units + 3 + 1 < cLine; omega
  refine codeAny_func ?_
  rw [bodyEq]
  refine wpAny_execs_at (wpAny_Return_some (wpAny_Compare1 ?_ (eqMarks _)))
  have side : ∀ (j : Bool) (s₁ : Shared) {Q : Value → Shared → Prop} {E : Value → Shared → Prop}, But [] h s₁.heap → OkS w.params g o s₁ → LocAt s₁.heap L (locEq a b) →
      (∀ S s', But [] s₁.heap s'.heap → OkS w.params g o s' → ListIs (pickL j la lb) s'.heap S → Q (.ref S) s') → wpAny (model pw w) (A.deeper (envF 138 L)) (eval (subE eEq [pickE j]) (envF 138 L)) Q E s₁ := by
    intro j s₁ Q E B₁ ok₁ l₁ hq
    obtain ⟨hs, tk, ep, sl, l₁⟩ := l₁
    obtain ⟨h₁, g₁, dr₁, t₁, o₁⟩ := s₁
    obtain ⟨ok₁, rfl, rfl⟩ := ok₁
    obtain ⟨n₁, hn₁⟩ := ok₁.size
    rw [eval_zf]
    refine wpAny_valT (segCall hP arD.weak ok₁ hn₁ [L] [frm hs tk ep sl _] 0 20 (low1 lL) (by simp) ⟨l₁, trivial⟩ (eqA w.params b1 b2 b3 j n₁ t₁ L a b hs tk ep sl) fun out h₂ dr₂ hout S af₂ => ?_)
    subst hout
    rw [S]
    have b₂ : But [] h₁ h₂ := af₂.but
    have B₂ := B₁.trans b₂
    have hj : Listed w h₂ (pick j a b) (pickL j la lb) := by cases j; exact ha h₂ B₂ af₂.ok; exact hb h₂ B₂ af₂.ok
    refine listOf (arD.less (by decide)) af₂.ok hj fun S s₃ b₃ ok₃ le L₃ => ?_
    obtain ⟨h₃, g₃, dr₃, t₃, o₃⟩ := s₃
    obtain ⟨ok₃, rfl, rfl⟩ := ok₃
    obtain ⟨n₃, hn₃⟩ := ok₃.size
    refine segFin hP arD.weak ok₃ hn₃ [] [] 0 10 low0 (by simp) trivial (eqB w.params b1 b2 b3 j n₁ t₁ n₃ t₃ L a b S hs tk ep sl) fun out h₄ dr₄ S' af₄ => ?_
    rw [S']
    have b₄ : But [] h₃ h₄ := af₄.but
    exact hq S _ (b₂.trans (b₃.trans b₄)) af₄.ok (L₃.keep b₄)
  refine side false _ b₁ af.ok l1 fun S s₂ b₂ ok₂ L₂ => ?_
  refine side true s₂ (b₁.trans b₂) ok₂ (l1.keep b₂) fun S' s₃ b₃ ok₃ L₃ => ?_
  obtain ⟨arr, aS, pS⟩ := L₂.keep b₃
  obtain ⟨arr', aS', pS'⟩ := L₃
  refine eqLst (A := A.deeper (envF 138 L)) (s := s₃) aS aS' pS pS' huD pw w _ _ ?_
  exact hQ _ (b₁.trans (b₂.trans b₃)) ok₃
end
end Mine
end
section
open PySem PySem.W PySem.W.X PySem.Calls PyProof.Rows
set_option maxRecDepth 100000
set_option maxHeartbeats 4000000
namespace Mine
open PySem.W.ZFast
def sScript : Str := ⟨#[115, 99, 114, 105, 112, 116]⟩
def sNumbers : Str := ⟨#[110, 117, 109, 98, 101, 114, 115]⟩
def sFirst : Str := ⟨#[102, 105, 114, 115, 116]⟩
def sMade : Str := ⟨#[109, 97, 100, 101]⟩
def sN : Str := ⟨#[110]⟩
noncomputable def stL (i : Nat) : Stmt := nthSt (bodyF 257) i
theorem bodyL : bodyF 257 = [stL 0, stL 1, stL 2, stL 3, stL 4, stL 5, stL 6] := by kernel_rfl
noncomputable def eL0 : Expr := asgV (stL 0)
noncomputable def eL1 : Expr := asgV (stL 1)
noncomputable def eL2 : Expr := asgV (stL 2)
noncomputable def eL2c : Expr := subE eL2 [1]
def nmPos : Stmt → Pos | .Assign (.Name _ p :: _) _ _ => p | _ => pos0
theorem stL1_eq : stL 1 = .Assign [.Name sFirst (nmPos (stL 1))] (.IfExp (.Compare (subE eL1 [0, 0]) [.NotEq] [.List [] (posL (subE eL1 [0, 1]))] (posC (subE eL1 [0]))) (subE eL1 [1]) (subE eL1 [2]) (posE eL1)) (posS (stL 1)) := by kernel_rfl
theorem stL2_eq : stL 2 = .Assign [.Name sRows (nmPos (stL 2))] (.IfExp (subE eL2 [0]) eL2c (subE eL2 [2]) (posE eL2)) (posS (stL 2)) := by kernel_rfl
theorem eL0_comp : eL0 = .ListComp (eltC eL0) [⟨tgtC eL0, itrC eL0, [], 0⟩] (scpC eL0) (posE eL0) := by kernel_rfl
theorem eL2_comp : eL2c = .ListComp (eltC eL2c) [⟨tgtC eL2c, itrC eL2c, [], 0⟩] (scpC eL2c) (posE eL2c) := by kernel_rfl
theorem lwE (P : Params) (b1 b2 b3 : Bool) (n t S : Nat) : FinK (outR (mkP P b1 b2 b3) n t 0 [] 20 16842752 1000 (enterT (.call (.ref 257) ⟨[.ref S], []⟩))) [] n 0 []
    (fun o => finOf o = .again (.func (bodyF 257) (envF 257 (n + 258))) ∧ tget (tabOf o) 0 = some (frm (hsOf (objAt o 0)) (tkOf (objAt o 0)) (epOf (objAt o 0)) #[] [(sScript, .ref S)])) := by
  refine ⟨⟨?_, ?_, ?_, ?_⟩, ?_, ?_, ?_⟩
  all_goals first | exact True.intro | (show _ = _; kernel_rfl)
def sliO (a b : Value) : Obj := ⟨.type "slice", none, .fields #[a, b, .none], #[]⟩
noncomputable abbrev out0A (P : Params) (n t L S : Nat) (hs : Nat → Int) (tk : Nat → Nat) (ep : Nat) (sl : Array (Option Value)) (arr : Array Value) (eps : Nat) (dt : Option Addr) (sx : Array (Option Value)) : Out :=
  outR P n t 2 [frm hs tk ep sl [(sScript, .ref S)], ⟨.type "list", dt, .seq arr eps, sx⟩] 20 33686017 0 (flowT (zw12563942051412417395 [stL 0] (envF 257 L)))
theorem lw0A (P : Params) (b1 b2 b3 : Bool) (n t L : Nat) (hs : Nat → Int) (tk : Nat → Nat) (ep : Nat) (sl : Array (Option Value)) (S : Nat) (arr : Array Value) (eps : Nat) (dt : Option Addr) (sx : Array (Option Value)) :
    CallK (out0A (mkP P b1 b2 b3) n t L S hs tk ep sl arr eps dt sx) [L, S] n 0 [frm hs tk ep sl [(sScript, .ref S)], ⟨.type "list", dt, .seq arr eps, sx⟩]
      (fun o => codeOf o = .call (.builtin "list.__getitem__") ⟨[.ref S, .ref (n + 258)], []⟩ ∧ tget (tabOf o) 2 = some (sliO .none (.int 6 (sqTok (objAt o 2) 1)))) := by
  cases b1 <;> refine ⟨⟨?_, ?_, ?_, ?_, ?_⟩, ⟨?_, ?_, ?_⟩, ?_, ?_⟩ <;> first | exact True.intro | (show _ = _; kernel_rfl)
noncomputable abbrev out0B (P : Params) (n t L S : Nat) (hs : Nat → Int) (tk : Nat → Nat) (ep : Nat) (sl : Array (Option Value)) (arr : Array Value) (eps : Nat) (dt : Option Addr) (sx : Array (Option Value)) (n' t' N : Nat) (arr' : Array Value) (epn : Nat) : Out :=
  outR P n' t' 1 [lstO arr' epn] 30 33620225 1 (treeOf (out0A P n t L S hs tk ep sl arr eps dt sx) (.ok (.ret (.ref N))))
theorem lw0B (P : Params) (b1 b2 b3 : Bool) (n t L : Nat) (hs : Nat → Int) (tk : Nat → Nat) (ep : Nat) (sl : Array (Option Value)) (S : Nat) (arr : Array Value) (eps : Nat) (dt : Option Addr) (sx : Array (Option Value)) (n' t' N : Nat) (arr' : Array Value) (epn : Nat) :
    CallK (out0B (mkP P b1 b2 b3) n t L S hs tk ep sl arr eps dt sx n' t' N arr' epn) [N] n' 0 [lstO arr' epn]
      (fun o => codeOf o = .compStart eL0 0 (.ref (n' + 258)) (.ref (n' + 258 + 1)) (cenvF 257 eL0 L (n' + 258 + 2)) ∧ numOf o = 3 ∧ tget (tabOf o) 1 = some (iterO (.ref N) 0) ∧ tget (tabOf o) 2 = some (lstO #[] (epOf (objAt o 2))) ∧ tget (tabOf o) 3 = some (dctO (fun _ => 0) (fun _ => 0) 0 [])) := by
  cases b1 <;> refine ⟨⟨?_, ?_, ?_, ?_, ?_⟩, ⟨?_, ?_⟩, ?_, ?_, ?_, ?_, ?_⟩ <;> first | exact True.intro | (show _ = _; kernel_rfl)
theorem lw0Z (P : Params) (b1 b2 b3 : Bool) (n t L : Nat) (hs : Nat → Int) (tk : Nat → Nat) (ep : Nat) (sl : Array (Option Value)) (S : Nat) (arr : Array Value) (eps : Nat) (dt : Option Addr) (sx : Array (Option Value)) (n' t' N : Nat) (arr' : Array Value) (epn n'' t'' : Nat) (hs' : Nat → Int) (tk' : Nat → Nat) (ep' : Nat) (q : Option Value) :
    FinK (outR (mkP P b1 b2 b3) n'' t'' 2 [frm hs tk ep sl [(sScript, .ref S)], dctO hs' tk' ep' (kn1 sN q)] 30 (match q with | none => 131329 | some _ => 8623620353) 1000 (treeOf (out0B (mkP P b1 b2 b3) n t L S hs tk ep sl arr eps dt sx n' t' N arr' epn) (.ok .next))) [L, n' + 258 + 2] n'' 2 [frm hs tk ep sl [(sScript, .ref S)], dctO hs' tk' ep' (kn1 sN q)]
      (fun o => finOf o = .done .next ∧ frm0 o sl [(sScript, .ref S), (sNumbers, .ref (n' + 258 + 1))]) := by
  cases b1 <;> cases q <;> refine ⟨⟨?_, ?_, ?_, ?_⟩, ?_, ?_, ?_⟩ <;> first | exact True.intro | (show _ = _; kernel_rfl)
def retV : Fin → Value | .done (.ret v) => v | _ => .none
theorem lw0T (P : Params) (b1 b2 b3 : Bool) (n t L D it : Nat) (hs : Nat → Int) (tk : Nat → Nat) (ep : Nat) (q : Option Value) (v : Int) (tv : Nat) :
    FinK (outR (mkP P b1 b2 b3) n t 1 [dctO hs tk ep (kn1 sN q)] 40 4294967553 1000 (valT (takeEltZ (tgtC eL0) (.ref it) (.int v tv) (eltC eL0) (cenvF 257 eL0 L D)))) [D] n 1 [dctO hs tk ep (kn1 sN q)]
      (fun o => finOf o = .done (.ret (.int (Int.ofNat v.natAbs) (keyTok (retV (finOf o))))) ∧ tget (tabOf o) 0 = some (dctO (hsOf (objAt o 0)) (tkOf (objAt o 0)) (epOf (objAt o 0)) (kn1 sN (some (.int v tv))))) := by
  cases b1 <;> cases q <;> cases v <;> refine ⟨⟨?_, ?_, ?_, ?_⟩, ?_, ?_, ?_⟩ <;> first | exact True.intro | (show _ = _; kernel_rfl)
def six (k : Nat) (m : Nat → Nat) (u : Nat → Nat) : List Value := match k with
  | 0 => []
  | 1 => [.int (.ofNat (m 0)) (u 0)]
  | 2 => [.int (.ofNat (m 0)) (u 0), .int (.ofNat (m 1)) (u 1)]
  | 3 => [.int (.ofNat (m 0)) (u 0), .int (.ofNat (m 1)) (u 1), .int (.ofNat (m 2)) (u 2)]
  | 4 => [.int (.ofNat (m 0)) (u 0), .int (.ofNat (m 1)) (u 1), .int (.ofNat (m 2)) (u 2), .int (.ofNat (m 3)) (u 3)]
  | 5 => [.int (.ofNat (m 0)) (u 0), .int (.ofNat (m 1)) (u 1), .int (.ofNat (m 2)) (u 2), .int (.ofNat (m 3)) (u 3), .int (.ofNat (m 4)) (u 4)]
  | _ => [.int (.ofNat (m 0)) (u 0), .int (.ofNat (m 1)) (u 1), .int (.ofNat (m 2)) (u 2), .int (.ofNat (m 3)) (u 3), .int (.ofNat (m 4)) (u 4), .int (.ofNat (m 5)) (u 5)]
def locA (S N : Nat) : List (Str × Value) := [(sScript, .ref S), (sNumbers, .ref N)]
theorem lw1N (P : Params) (b1 b2 b3 : Bool) (n t L : Nat) (hs : Nat → Int) (tk : Nat → Nat) (ep : Nat) (sl : Array (Option Value)) (S N : Nat) (k : Nat) (hk : k = 1 ∨ k = 2 ∨ k = 3 ∨ k = 4 ∨ k = 5 ∨ k = 6) (m u : Nat → Nat) (epn : Nat) :
    FinK (outR (mkP P b1 b2 b3) n t 2 [frm hs tk ep sl (locA S N), lstO (six k m u).toArray epn] 30 2207646876161 1000 (valT (evalZ (subE eL1 [1]) (envF 257 L)))) [L, N] n 0 [frm hs tk ep sl (locA S N), lstO (six k m u).toArray epn] (fun o => finOf o = .done (.ret (.int (.ofNat (m 0)) (u 0)))) := by
  rcases hk with rfl | rfl | rfl | rfl | rfl | rfl <;> cases b1 <;> refine ⟨⟨?_, ?_, ?_, ?_⟩, ⟨?_, ?_, ?_⟩, ?_⟩ <;> first | exact True.intro | (show _ = _; kernel_rfl)
theorem lw1L (P : Params) (b1 b2 b3 : Bool) (n t L : Nat) (hs : Nat → Int) (tk : Nat → Nat) (ep : Nat) (sl : Array (Option Value)) (S N : Nat) : FinK (outR (mkP P b1 b2 b3) n t 1 [frm hs tk ep sl (locA S N)] 10 1 1000 (valT (evalZ (subE eL1 [0, 0]) (envF 257 L)))) [L] n 0 [frm hs tk ep sl (locA S N)] (fun o => finOf o = .done (.ret (.ref N))) := by
  cases b1 <;> refine ⟨⟨?_, ?_, ?_, ?_⟩, ⟨?_, ?_⟩, ?_⟩ <;> first | exact True.intro | (show _ = _; kernel_rfl)
theorem lw1E (P : Params) (b1 b2 b3 : Bool) (n t L : Nat) : FinK (outR (mkP P b1 b2 b3) n t 0 [] 10 0 1000 (valT (evalZ (subE eL1 [2]) (envF 257 L)))) [] n 0 [] (fun o => finOf o = .done (.ret (.int (.ofNat 1) (keyTok (retV (finOf o)))))) := by
  refine ⟨⟨?_, ?_, ?_, ?_⟩, ?_, ?_⟩
  all_goals first | exact True.intro | (show _ = _; kernel_rfl)
theorem lw1S (P : Params) (b1 b2 b3 : Bool) (n t L : Nat) (hs : Nat → Int) (tk : Nat → Nat) (ep : Nat) (sl : Array (Option Value)) (S N : Nat) (v : Value) : FinK (outR (mkP P b1 b2 b3) n t 1 [frm hs tk ep sl (locA S N)] 20 257 1000 (unitT (zw7998390705656384164 (envF 257 L) sFirst v))) [L] n 1 [frm hs tk ep sl (locA S N)] (fun o => frm0 o sl (locA S N ++ [(sFirst, v)])) := by
  cases b1 <;> refine ⟨⟨?_, ?_, ?_, ?_⟩, ?_, ?_⟩ <;> first | exact True.intro | (show _ = _; kernel_rfl)
def locB (S N : Nat) (f : Value) : List (Str × Value) := [(sScript, .ref S), (sNumbers, .ref N), (sFirst, f)]
theorem lw2T (P : Params) (b1 b2 b3 : Bool) (n t L : Nat) (hs : Nat → Int) (tk : Nat → Nat) (ep : Nat) (sl : Array (Option Value)) (S N : Nat) (f : Value) (k : Nat) (hk : k = 0 ∨ k = 1 ∨ k = 2 ∨ k = 3 ∨ k = 4 ∨ k = 5 ∨ k = 6) (m u : Nat → Nat) (epn : Nat) :
    FinK (outR (mkP P b1 b2 b3) n t 2 [frm hs tk ep sl (locB S N f), lstO (six k m u).toArray epn] 40 2207646810112 1000 (boolT (isTrueZ (subE eL2 [0]) (envF 257 L)))) [L, N] n 0 [frm hs tk ep sl (locB S N f), lstO (six k m u).toArray epn] (fun o => finOf o = bfin (Nat.blt 1 k)) := by
  rcases hk with rfl | rfl | rfl | rfl | rfl | rfl | rfl <;> cases b1 <;> refine ⟨⟨?_, ?_, ?_, ?_⟩, ⟨?_, ?_, ?_⟩, ?_⟩ <;> first | exact True.intro | (show _ = _; kernel_rfl)
theorem lw2E (P : Params) (b1 b2 b3 : Bool) (n t L : Nat) : FinK (outR (mkP P b1 b2 b3) n t 0 [] 30 0 1000 (valT (evalZ (subE eL2 [2]) (envF 257 L)))) [] n 0 []
    (fun o => finOf o = .done (.ret (.ref (n + 258 + 2))) ∧ tget (tabOf o) 0 = some (tupO [.bytes (bts (itm 0).1) (sqTok (objAt o 0) 0), .bytes (bts (itm 0).2) (sqTok (objAt o 0) 1)] (epOf (objAt o 0))) ∧ tget (tabOf o) 1 = some (tupO [.bytes (bts (itm 6).1) (sqTok (objAt o 1) 0), .bytes (bts (itm 6).2) (sqTok (objAt o 1) 1)] (epOf (objAt o 1))) ∧ tget (tabOf o) 2 = some (lstO #[.ref (n + 258), .ref (n + 258 + 1)] (epOf (objAt o 2)))) := by
  refine ⟨⟨?_, ?_, ?_, ?_⟩, ?_, ?_, ?_, ?_, ?_⟩
  all_goals first | exact True.intro | (show _ = _; kernel_rfl)
noncomputable abbrev out2P (P : Params) (n t L S N : Nat) (f : Value) (hs : Nat → Int) (tk : Nat → Nat) (ep : Nat) (sl : Array (Option Value)) (arr : Array Value) (epn : Nat) : Out :=
  outR P n t 2 [frm hs tk ep sl (locB S N f), lstO arr epn] 50 26042932084110915463009522342298113 2 (valT (evalZ eL2c (envF 257 L)))
theorem lw2P (P : Params) (b1 b2 b3 : Bool) (n t L : Nat) (hs : Nat → Int) (tk : Nat → Nat) (ep : Nat) (sl : Array (Option Value)) (S N : Nat) (f : Value) (k : Nat) (hk : k = 2 ∨ k = 3 ∨ k = 4 ∨ k = 5 ∨ k = 6) (m u : Nat → Nat) (epn : Nat) :
    CallK (out2P (mkP P b1 b2 b3) n t L S N f hs tk ep sl (six k m u).toArray epn) [L, N] n 0 [frm hs tk ep sl (locB S N f), lstO (six k m u).toArray epn]
      (fun o => codeOf o = .compStart eL2c 0 (.ref (n + 258 + 2)) (.ref (n + 258 + 3)) (cenvF 257 eL2c L (n + 258 + 4)) ∧ numOf o = 5 ∧ tget (tabOf o) 3 = some (lstO (six (k - 1) (fun j => m (j + 1)) (fun j => u (j + 1))).toArray (epOf (objAt o 3))) ∧ tget (tabOf o) 4 = some (iterO (.ref (n + 258 + 1)) 0) ∧ tget (tabOf o) 5 = some (lstO #[] (epOf (objAt o 5))) ∧ tget (tabOf o) 6 = some (dctO (fun _ => 0) (fun _ => 0) 0 [])) := by
  rcases hk with rfl | rfl | rfl | rfl | rfl <;> cases b1 <;> refine ⟨⟨?_, ?_, ?_, ?_, ?_⟩, ⟨?_, ?_, ?_⟩, ?_, ?_, ?_, ?_, ?_, ?_⟩ <;> first | exact True.intro | (show _ = _; kernel_rfl)
theorem lw2Z (P : Params) (b1 b2 b3 : Bool) (n t L : Nat) (hs : Nat → Int) (tk : Nat → Nat) (ep : Nat) (sl : Array (Option Value)) (S N : Nat) (f : Value) (k : Nat) (hk : k = 2 ∨ k = 3 ∨ k = 4 ∨ k = 5 ∨ k = 6) (m u : Nat → Nat) (epn n' t' : Nat) (hs' : Nat → Int) (tk' : Nat → Nat) (ep' : Nat) (q : Option Value) :
    FinK (outR (mkP P b1 b2 b3) n' t' 1 [dctO hs' tk' ep' (kn1 sN q)] 20 65793 1000 (treeOf (out2P (mkP P b1 b2 b3) n t L S N f hs tk ep sl (six k m u).toArray epn) (.ok .next))) [n + 258 + 4] n' 1 [dctO hs' tk' ep' (kn1 sN q)] (fun o => finOf o = .done (.ret (.ref (n + 258 + 3)))) := by
  rcases hk with rfl | rfl | rfl | rfl | rfl <;> cases b1 <;> cases q <;> refine ⟨⟨?_, ?_, ?_, ?_⟩, ?_, ?_⟩ <;> first | exact True.intro | (show _ = _; kernel_rfl)
noncomputable abbrev out2T (P : Params) (n t L D it : Nat) (hs : Nat → Int) (tk : Nat → Nat) (ep : Nat) (q : Option Value) (x u : Nat) : Out :=
  outR P n t 1 [dctO hs tk ep (kn1 sN q)] 40 16777473 1 (valT (takeEltZ (tgtC eL2c) (.ref it) (.int (.ofNat x) u) (eltC eL2c) (cenvF 257 eL2c L D)))
theorem lw2t (P : Params) (b1 b2 b3 : Bool) (n t L D it : Nat) (hs : Nat → Int) (tk : Nat → Nat) (ep : Nat) (q : Option Value) (x u : Nat) :
    CallK (out2T (mkP P b1 b2 b3) n t L D it hs tk ep q x u) [D] n 1 [dctO hs tk ep (kn1 sN q)]
      (fun o => codeOf o = .call (.builtin "list.__getitem__") ⟨[.ref 230, .int (Z.modQ (.ofNat x) 16) (keyTok (argAt (codeOf o) 1))], []⟩ ∧ tget (tabOf o) 0 = some (dctO (hsOf (objAt o 0)) (tkOf (objAt o 0)) (epOf (objAt o 0)) (kn1 sN (some (.int (.ofNat x) u))))) := by
  cases b1 <;> cases q <;> refine ⟨⟨?_, ?_, ?_, ?_, ?_⟩, ?_, ?_, ?_⟩ <;> first | exact True.intro | (show _ = _; kernel_rfl)
theorem lw2u (P : Params) (b1 b2 b3 : Bool) (n t n' t' L D it : Nat) (hs : Nat → Int) (tk : Nat → Nat) (ep : Nat) (q : Option Value) (x u y : Nat) :
    FinK (outR (mkP P b1 b2 b3) n' t' 0 [] 20 0 1000 (treeOf (out2T (mkP P b1 b2 b3) n t L D it hs tk ep q x u) (.ok (.ret (.ref y))))) [] n' 0 [] (fun o => finOf o = .done (.ret (.ref y))) := by
  cases b1 <;> cases q <;> refine ⟨⟨?_, ?_, ?_, ?_⟩, ?_, ?_⟩ <;> first | exact True.intro | (show _ = _; kernel_rfl)
def cPool (i u : Nat) : Code := .call (.builtin "list.__getitem__") ⟨[.ref 230, .int (.ofNat i) u], []⟩
def cPool2 (i u : Nat) : Code := .builtin "list.__getitem__" ⟨[.ref 230, .int (.ofNat i) u], []⟩
theorem lwPa (P : Params) (b1 b2 b3 : Bool) (n t i u : Nat) : FinK (outR (mkP P b1 b2 b3) n t 0 [] 20 0 1000 (enterT (cPool i u))) [] n 0 [] (fun o => finOf o = .again (cPool2 i u)) := by
  cases b1 <;> refine ⟨⟨?_, ?_, ?_, ?_⟩, ?_, ?_⟩ <;> first | exact True.intro | (show _ = _; kernel_rfl)
theorem lwPb (P : Params) (b1 b2 b3 : Bool) (n t i u : Nat) (hi : i = 0 ∨ i = 1 ∨ i = 2 ∨ i = 3 ∨ i = 4 ∨ i = 5 ∨ i = 6 ∨ i = 7 ∨ i = 8 ∨ i = 9 ∨ i = 10 ∨ i = 11 ∨ i = 12 ∨ i = 13 ∨ i = 14 ∨ i = 15) : FinK (outR (mkP P b1 b2 b3) n t 0 [] 20 0 1000 (enterT (cPool2 i u))) [] n 0 [] (fun o => finOf o = .done (.ret (.ref (214 + i)))) := by
  rcases hi with rfl | rfl | rfl | rfl | rfl | rfl | rfl | rfl | rfl | rfl | rfl | rfl | rfl | rfl | rfl | rfl <;> cases b1 <;> refine ⟨⟨?_, ?_, ?_, ?_⟩, ?_, ?_⟩ <;> first | exact True.intro | (show _ = _; kernel_rfl)
theorem lw2S (P : Params) (b1 b2 b3 : Bool) (n t L : Nat) (hs : Nat → Int) (tk : Nat → Nat) (ep : Nat) (sl : Array (Option Value)) (S N : Nat) (f v : Value) : FinK (outR (mkP P b1 b2 b3) n t 1 [frm hs tk ep sl (locB S N f)] 20 257 1000 (unitT (zw7998390705656384164 (envF 257 L) sRows v))) [L] n 1 [frm hs tk ep sl (locB S N f)] (fun o => frm0 o sl (locB S N f ++ [(sRows, v)])) := by
  cases b1 <;> refine ⟨⟨?_, ?_, ?_, ?_⟩, ?_, ?_⟩ <;> first | exact True.intro | (show _ = _; kernel_rfl)
end Mine
end
section
open PySem PySem.W PySem.W.X PySem.Calls PyProof.Rows
set_option maxRecDepth 100000
set_option maxHeartbeats 4000000
namespace Mine
open PySem.W.ZFast
def sHintL : Str := ⟨#[104, 105, 110, 116]⟩
def sDue : Str := ⟨#[100, 117, 101]⟩
def locC (S N : Nat) (f : Value) (R : Nat) : List (Str × Value) := [(sScript, .ref S), (sNumbers, .ref N), (sFirst, f), (sRows, .ref R)]
def locD (S N : Nat) (f : Value) (R M : Nat) : List (Str × Value) := [(sScript, .ref S), (sNumbers, .ref N), (sFirst, f), (sRows, .ref R), (sMade, .ref M)]
noncomputable abbrev out3A (P : Params) (n t L : Nat) (hs : Nat → Int) (tk : Nat → Nat) (ep : Nat) (sl : Array (Option Value)) (S N : Nat) (m u : Nat) (R : Nat) : Out :=
  outR P n t 1 [frm hs tk ep sl (locC S N (.int (.ofNat m) u) R)] 40 256 1 (flowT (zw12563942051412417395 [stL 3] (envF 257 L)))
theorem lw3A (P : Params) (b1 b2 b3 : Bool) (n t L : Nat) (hs : Nat → Int) (tk : Nat → Nat) (ep : Nat) (sl : Array (Option Value)) (S N : Nat) (m u : Nat) (R : Nat) : CallK (out3A (mkP P b1 b2 b3) n t L hs tk ep sl S N m u R) [L] n 0 [frm hs tk ep sl (locC S N (.int (.ofNat m) u) R)]
    (fun o => codeOf o = .call (.builtin "int.__eq__") ⟨[.int (Z.modQ (.ofNat m) 2) (keyTok (argAt (codeOf o) 0)), .int 1 (keyTok (argAt (codeOf o) 1))], []⟩ ∧ tget (tabOf o) 1 = some (tupO [.bytes (bts (itm 16).1) (sqTok (objAt o 1) 0), .bytes (bts (itm 16).2) (sqTok (objAt o 1) 1)] (epOf (objAt o 1))) ∧ tget (tabOf o) 2 = some (lstO #[.ref (n + 258)] (epOf (objAt o 2)))) := by
  cases b1 <;> refine ⟨⟨?_, ?_, ?_, ?_, ?_⟩, ⟨?_, ?_⟩, ?_, ?_, ?_⟩ <;> first | exact True.intro | (show _ = _; kernel_rfl)
def cEqI (x : Int) (u v : Nat) : Code := .call (.builtin "int.__eq__") ⟨[.int x u, .int 1 v], []⟩
def cEqI2 (x : Int) (u v : Nat) : Code := .builtin "int.__eq__" ⟨[.int x u, .int 1 v], []⟩
theorem lwQa (P : Params) (b1 b2 b3 : Bool) (n t u v : Nat) (x : Int) : FinK (outR (mkP P b1 b2 b3) n t 0 [] 20 0 1000 (enterT (cEqI x u v))) [] n 0 [] (fun o => finOf o = .again (cEqI2 x u v)) := by
  cases b1 <;> refine ⟨⟨?_, ?_, ?_, ?_⟩, ?_, ?_⟩ <;> first | exact True.intro | (show _ = _; kernel_rfl)
def bitI (c : Bool) : Int := match c with | true => 1 | false => 0
theorem lwQb (P : Params) (b1 b2 b3 : Bool) (n t u v : Nat) (c : Bool) : FinK (outR (mkP P b1 b2 b3) n t 0 [] 20 0 1000 (enterT (cEqI2 (bitI c) u v))) [] n 0 [] (fun o => finOf o = .done (.ret (.bool c))) := by
  cases c <;> cases b1 <;> refine ⟨⟨?_, ?_, ?_, ?_⟩, ?_, ?_⟩ <;> first | exact True.intro | (show _ = _; kernel_rfl)
noncomputable abbrev out3B (P : Params) (n t L : Nat) (hs : Nat → Int) (tk : Nat → Nat) (ep : Nat) (sl : Array (Option Value)) (S N : Nat) (m u : Nat) (R : Nat) (n' t' : Nat) (c : Bool) : Out :=
  outR P n' t' 0 [] 20 0 0 (treeOf (out3A P n t L hs tk ep sl S N m u R) (.ok (.ret (.bool c))))
theorem lw3B (P : Params) (b1 b2 b3 : Bool) (n t L : Nat) (hs : Nat → Int) (tk : Nat → Nat) (ep : Nat) (sl : Array (Option Value)) (S N : Nat) (m u : Nat) (R n' t' : Nat) (c : Bool) : CallK (out3B (mkP P b1 b2 b3) n t L hs tk ep sl S N m u R n' t' c) [] n' 0 [] (fun o => codeOf o = .call (.ref 174) ⟨[.ref (n + 258 + 1)], kwN (some c)⟩) := by
  cases c <;> cases b1 <;> refine ⟨⟨?_, ?_, ?_, ?_, ?_⟩, ?_, ?_⟩ <;> first | exact True.intro | (show _ = _; kernel_rfl)
theorem lw3C (P : Params) (b1 b2 b3 : Bool) (n t L : Nat) (hs : Nat → Int) (tk : Nat → Nat) (ep : Nat) (sl : Array (Option Value)) (S N : Nat) (m u : Nat) (R n' t' : Nat) (c : Bool) (n'' t'' M : Nat) (hs' : Nat → Int) (tk' : Nat → Nat) (ep' : Nat) (sl' : Array (Option Value)) : FinK (outR (mkP P b1 b2 b3) n'' t'' 1 [frm hs' tk' ep' sl' (locC S N (.int (.ofNat m) u) R)] 30 257 1000 (treeOf (out3B (mkP P b1 b2 b3) n t L hs tk ep sl S N m u R n' t' c) (.ok (.ret (.ref M))))) [L] n'' 1 [frm hs' tk' ep' sl' (locC S N (.int (.ofNat m) u) R)]
    (fun o => finOf o = .done .next ∧ frm0 o sl' (locD S N (.int (.ofNat m) u) R M)) := by
  cases c <;> cases b1 <;> refine ⟨⟨?_, ?_, ?_, ?_⟩, ?_, ?_, ?_⟩ <;> first | exact True.intro | (show _ = _; kernel_rfl)
noncomputable def eL4 : Expr := ifTest (stL 4)
theorem stL4_eq : stL 4 = .If (.Compare (subE eL4 [0]) [.NotEq] [subE eL4 [1]] (posC eL4)) (ifBd (stL 4)) [] (posS (stL 4)) := by kernel_rfl
noncomputable abbrev out4L (P : Params) (n t L : Nat) (hs : Nat → Int) (tk : Nat → Nat) (ep : Nat) (sl : Array (Option Value)) (S N : Nat) (f : Value) (R M d NH : Nat) (hs' : Nat → Int) (tk' : Nat → Nat) (ep' : Nat) : Out :=
  outR P n t 3 [frm hs tk ep sl (locD S N f R M), hdrO d NH, dctO hs' tk' ep' []] 40 3998068581071826718701450111813157377 0 (valT (evalZ (subE eL4 [0]) (envF 257 L)))
theorem lw4L (P : Params) (b1 b2 b3 : Bool) (n t L : Nat) (hs : Nat → Int) (tk : Nat → Nat) (ep : Nat) (sl : Array (Option Value)) (S N : Nat) (f : Value) (R M : Nat) (d NH : Nat) (hs' : Nat → Int) (tk' : Nat → Nat) (ep' : Nat) : CallK (out4L (mkP P b1 b2 b3) n t L hs tk ep sl S N f R M d NH hs' tk' ep') [L, M, d] n 0 [frm hs tk ep sl (locD S N f R M), hdrO d NH, dctO hs' tk' ep' []] (fun o => codeOf o = .call (.ref 162) ⟨[.ref M], []⟩) := by
  cases b1 <;> refine ⟨⟨?_, ?_, ?_, ?_, ?_⟩, ⟨?_, ?_, ?_, ?_⟩, ?_⟩ <;> first | exact True.intro | (show _ = _; kernel_rfl)
theorem lw4M (P : Params) (b1 b2 b3 : Bool) (n t L : Nat) (hs : Nat → Int) (tk : Nat → Nat) (ep : Nat) (sl : Array (Option Value)) (S N : Nat) (f : Value) (R M : Nat) (d NH : Nat) (hs' : Nat → Int) (tk' : Nat → Nat) (ep' n' t' x : Nat) : FinK (outR (mkP P b1 b2 b3) n' t' 0 [] 10 0 1000 (treeOf (out4L (mkP P b1 b2 b3) n t L hs tk ep sl S N f R M d NH hs' tk' ep') (.ok (.ret (.ref x))))) [] n' 0 [] (fun o => finOf o = .done (.ret (.ref x))) := by
  cases b1 <;> refine ⟨⟨?_, ?_, ?_, ?_⟩, ?_, ?_⟩ <;> first | exact True.intro | (show _ = _; kernel_rfl)
theorem lw4R (P : Params) (b1 b2 b3 : Bool) (n t L : Nat) : FinK (outR (mkP P b1 b2 b3) n t 0 [] 20 0 1000 (valT (evalZ (subE eL4 [1]) (envF 257 L)))) [] n 0 []
    (fun o => finOf o = .done (.ret (.ref (n + 258 + 1))) ∧ tget (tabOf o) 0 = some (tupO (txts (sqTok (objAt o 0)) 0 [bts (itm 16).1, bts (itm 16).2]) (epOf (objAt o 0))) ∧ tget (tabOf o) 1 = some (lstO #[.ref (n + 258)] (epOf (objAt o 1)))) := by
  refine ⟨⟨?_, ?_, ?_, ?_⟩, ?_, ?_, ?_, ?_⟩
  all_goals first | exact True.intro | (show _ = _; kernel_rfl)
theorem stL5_eq : stL 5 = .For (forTg (stL 5)) (forIt (stL 5)) (forBd (stL 5)) [] (forPos (stL 5)) := by kernel_rfl
noncomputable def fB (i : Nat) : Stmt := nthSt (forBd (stL 5)) i
theorem fB_eq : forBd (stL 5) = [fB 0, fB 1, fB 2] := by kernel_rfl
def tfO (ep : Nat) : Obj := tupO [.bool true, .bool false] ep
def titO (T k : Nat) : Obj := ⟨.type "tuple_iterator", none, .fields #[.ref T, .int k 0], #[]⟩
theorem lw5I (P : Params) (b1 b2 b3 : Bool) (n t L : Nat) : FinK (outR (mkP P b1 b2 b3) n t 0 [] 20 0 1000 (valT (evalZ (forIt (stL 5)) (envF 257 L)))) [] n 0 [] (fun o => finOf o = .done (.ret (.ref (n + 258))) ∧ tget (tabOf o) 0 = some (tfO (epOf (objAt o 0)))) := by
  refine ⟨⟨?_, ?_, ?_, ?_⟩, ?_, ?_, ?_⟩
  all_goals first | exact True.intro | (show _ = _; kernel_rfl)
theorem lw5J (P : Params) (b1 b2 b3 : Bool) (n t T ep : Nat) : FinK (outR (mkP P b1 b2 b3) n t 1 [tfO ep] 20 33620225 1000 (valT (zw8711993805878244202 (.ref T)))) [T] n 0 [tfO ep] (fun o => finOf o = .done (.ret (.ref (n + 258))) ∧ tget (tabOf o) 1 = some (titO T 0)) := by
  cases b1 <;> refine ⟨⟨?_, ?_, ?_, ?_⟩, ⟨?_, ?_⟩, ?_, ?_⟩ <;> first | exact True.intro | (show _ = _; kernel_rfl)
noncomputable def optT (t : Sem (Option Value)) : Sem Fin := R.bindR t fun o => match o with | some v => .pure (.done (.ret v)) | none => .pure (.done .next)
theorem wpAny_optT {M : Model} {A : Around} {E : Value → Shared → Prop} {s : Shared} {t : Sem (Option Value)} {Q : Option Value → Shared → Prop} (h : wpAny M A (optT t) (fun fin s' => match fin with | .done (.ret v) => Q (some v) s' | .done .next => Q none s' | _ => False) E s) : wpAny M A t Q E s := fun Γ p hΓ => by
  have := h Γ p hΓ
  unfold optT at this
  rw [← R.bindR_eq, Sem.wp_bind] at this
  refine Sem.wp_mono _ _ _ (fun o _ _ h => ?_) (fun _ _ _ h => h) _ _ this
  cases o <;> exact h
theorem lw5N (P : Params) (b1 b2 b3 : Bool) (n t T it ep : Nat) (c : Bool) : FinK (outR (mkP P b1 b2 b3) n t 2 [titO T (match c with | true => 0 | false => 1), tfO ep] 30 282583095116033 1000 (optT (zw9404975358583537561 (.ref it)))) [it, T] n 1 [titO T (match c with | true => 0 | false => 1), tfO ep]
    (fun o => finOf o = .done (.ret (.bool c)) ∧ tget (tabOf o) 0 = some (titO T (match c with | true => 1 | false => 2))) := by
  cases c <;> cases b1 <;> refine ⟨⟨?_, ?_, ?_, ?_⟩, ⟨?_, ?_⟩, ?_, ?_⟩ <;> first | exact True.intro | (show _ = _; kernel_rfl)
theorem lw5E (P : Params) (b1 b2 b3 : Bool) (n t T it ep : Nat) : FinK (outR (mkP P b1 b2 b3) n t 2 [titO T 2, tfO ep] 40 288512959246827777 1000 (optT (zw9404975358583537561 (.ref it)))) [it, T] n 1 [titO T 2, tfO ep] (fun o => finOf o = .done .next) := by
  cases b1 <;> refine ⟨⟨?_, ?_, ?_, ?_⟩, ⟨?_, ?_⟩, ?_⟩ <;> first | exact True.intro | (show _ = _; kernel_rfl)
inductive Ol where
  | zero
  | full (p h d f : Value)
def Ol.inn : Ol → List (Str × Value)
  | .zero => []
  | .full p h d f => [(sPars, p), (sHintL, h), (sDue, d), (sFields, f)]
def Ol.tk (r : Ol) (v : Value) : List (Str × Value) := match r with
  | .zero => [(sPars, v)]
  | .full _ h d f => [(sPars, v), (sHintL, h), (sDue, d), (sFields, f)]
def Ol.b0 (r : Ol) (v h d : Value) : List (Str × Value) := match r with
  | .zero => [(sPars, v), (sHintL, h), (sDue, d)]
  | .full _ _ _ f => [(sPars, v), (sHintL, h), (sDue, d), (sFields, f)]
def tkd (v h d f : Value) : List (Str × Value) := [(sPars, v), (sHintL, h), (sDue, d), (sFields, f)]
theorem lw5T (P : Params) (b1 b2 b3 : Bool) (n t L : Nat) (hs : Nat → Int) (tk : Nat → Nat) (ep : Nat) (sl : Array (Option Value)) (S N : Nat) (f : Value) (R M : Nat) (r : Ol) (it : Nat) (c : Bool) : FinK (outR (mkP P b1 b2 b3) n t 1 [frm hs tk ep sl (locD S N f R M ++ r.inn)] 20 257 1000 (unitT (takeZ (forTg (stL 5)) (.ref it) (.bool c) (envF 257 L)))) [L] n 1 [frm hs tk ep sl (locD S N f R M ++ r.inn)]
    (fun o => frm0 o sl (locD S N f R M ++ r.tk (.bool c))) := by
  cases c <;> cases r <;> refine ⟨⟨?_, ?_, ?_, ?_⟩, ?_, ?_⟩ <;> first | exact True.intro | (show _ = _; kernel_rfl)
noncomputable abbrev outB0 (P : Params) (n t L : Nat) (hs : Nat → Int) (tk : Nat → Nat) (ep : Nat) (sl : Array (Option Value)) (S N : Nat) (f : Value) (R M : Nat) (r : Ol) (c : Bool) : Out :=
  outR P n t 1 [frm hs tk ep sl (locD S N f R M ++ r.tk (.bool c))] 20 65792 0 (flowT (zw12563942051412417395 [fB 0] (envF 257 L)))
theorem lwB0a (P : Params) (b1 b2 b3 : Bool) (n t L : Nat) (hs : Nat → Int) (tk : Nat → Nat) (ep : Nat) (sl : Array (Option Value)) (S N : Nat) (f : Value) (R M : Nat) (r : Ol) (c : Bool) : CallK (outB0 (mkP P b1 b2 b3) n t L hs tk ep sl S N f R M r c) [L] n 0 [frm hs tk ep sl (locD S N f R M ++ r.tk (.bool c))] (fun o => codeOf o = .call (.ref 240) ⟨[.ref R, .bool (!c)], []⟩) := by
  cases c <;> cases b1 <;> cases r <;> refine ⟨⟨?_, ?_, ?_, ?_, ?_⟩, ⟨?_, ?_⟩, ?_⟩ <;> first | exact True.intro | (show _ = _; kernel_rfl)
theorem lwB0b (P : Params) (b1 b2 b3 : Bool) (n t L : Nat) (hs : Nat → Int) (tk : Nat → Nat) (ep : Nat) (sl : Array (Option Value)) (S N : Nat) (f : Value) (R M : Nat) (r : Ol) (c : Bool) (n' t' T : Nat) (hs' : Nat → Int) (tk' : Nat → Nat) (ep' : Nat) (sl' : Array (Option Value)) (hint : Int) (th TL epT : Nat) : FinK (outR (mkP P b1 b2 b3) n' t' 2 [frm hs' tk' ep' sl' (locD S N f R M ++ r.tk (.bool c)), tupO [.int hint th, .ref TL] epT] 80 1773775878445854103985531361678255440475213709845790629098341949971235330 1000 (treeOf (outB0 (mkP P b1 b2 b3) n t L hs tk ep sl S N f R M r c) (.ok (.ret (.ref T))))) [L, T] n' 1 [frm hs' tk' ep' sl' (locD S N f R M ++ r.tk (.bool c)), tupO [.int hint th, .ref TL] epT]
    (fun o => finOf o = .done .next ∧ frm0 o sl' (locD S N f R M ++ r.b0 (.bool c) (.int hint th) (.ref TL))) := by
  cases c <;> cases b1 <;> cases r <;> refine ⟨⟨?_, ?_, ?_, ?_⟩, ⟨?_, ?_⟩, ?_, ?_⟩ <;> first | exact True.intro | (show _ = _; kernel_rfl)
noncomputable def callArg (e : Expr) (i : Nat) : Expr := subE e [i + 1]
noncomputable def eB1 : Expr := callArg (asgV (fB 1)) 0
theorem eB1_comp : eB1 = .ListComp (eltC eB1) [⟨tgtC eB1, itrC eB1, [], 0⟩] (scpC eB1) (posE eB1) := by kernel_rfl
noncomputable abbrev outB1 (P : Params) (n t L : Nat) (hs : Nat → Int) (tk : Nat → Nat) (ep : Nat) (sl : Array (Option Value)) (S N : Nat) (f : Value) (R M : Nat) (r : Ol) (c : Bool) (h d : Value) (arr : Array Value) (epa : Nat) : Out :=
  outR P n t 2 [frm hs tk ep sl (locD S N f R M ++ r.b0 (.bool c) h d), lstO arr epa] 30 3307158503680 1 (flowT (zw12563942051412417395 [fB 1] (envF 257 L)))
theorem lwB1a (P : Params) (b1 b2 b3 : Bool) (n t L : Nat) (hs : Nat → Int) (tk : Nat → Nat) (ep : Nat) (sl : Array (Option Value)) (S N : Nat) (f : Value) (R M : Nat) (r : Ol) (c : Bool) (h d : Value) (arr : Array Value) (epa : Nat) : CallK (outB1 (mkP P b1 b2 b3) n t L hs tk ep sl S N f R M r c h d arr epa) [L, R] n 0 [frm hs tk ep sl (locD S N f R M ++ r.b0 (.bool c) h d), lstO arr epa]
    (fun o => codeOf o = .compStart eB1 0 (.ref (n + 258)) (.ref (n + 258 + 1)) (cenvF 257 eB1 L (n + 258 + 2)) ∧ numOf o = 3 ∧ tget (tabOf o) 2 = some (iterO (.ref R) 0) ∧ tget (tabOf o) 3 = some (lstO #[] (epOf (objAt o 3))) ∧ tget (tabOf o) 4 = some (dctO (fun _ => 0) (fun _ => 0) 0 [])) := by
  cases b1 <;> cases r <;> refine ⟨⟨?_, ?_, ?_, ?_, ?_⟩, ⟨?_, ?_, ?_⟩, ?_, ?_, ?_, ?_, ?_⟩ <;> first | exact True.intro | (show _ = _; kernel_rfl)
def oraB1 : Option Value → Nat | none => 513 | some _ => 33620225
noncomputable abbrev outB1b (P : Params) (n t L : Nat) (hs : Nat → Int) (tk : Nat → Nat) (ep : Nat) (sl : Array (Option Value)) (S N : Nat) (f : Value) (R M : Nat) (r : Ol) (c : Bool) (h d : Value) (arr : Array Value) (epa n' t' : Nat) (hs' : Nat → Int) (tk' : Nat → Nat) (ep' : Nat) (q : Option Value) (hs'' : Nat → Int) (tk'' : Nat → Nat) (ep'' : Nat) (sl'' : Array (Option Value)) : Out :=
  outR P n' t' 2 [dctO hs' tk' ep' (kn1 sRow q), frm hs'' tk'' ep'' sl'' (locD S N f R M ++ r.b0 (.bool c) h d)] 30 (oraB1 q) 0 (treeOf (outB1 P n t L hs tk ep sl S N f R M r c h d arr epa) (.ok .next))
theorem lwB1b (P : Params) (b1 b2 b3 : Bool) (n t L : Nat) (hs : Nat → Int) (tk : Nat → Nat) (ep : Nat) (sl : Array (Option Value)) (S N : Nat) (f : Value) (R M : Nat) (r : Ol) (c : Bool) (h d : Value) (arr : Array Value) (epa n' t' : Nat) (hs' : Nat → Int) (tk' : Nat → Nat) (ep' : Nat) (q : Option Value) (hs'' : Nat → Int) (tk'' : Nat → Nat) (ep'' : Nat) (sl'' : Array (Option Value)) :
    CallK (outB1b (mkP P b1 b2 b3) n t L hs tk ep sl S N f R M r c h d arr epa n' t' hs' tk' ep' q hs'' tk'' ep'' sl'') [n + 258 + 2, L] n' 1 [dctO hs' tk' ep' (kn1 sRow q), frm hs'' tk'' ep'' sl'' (locD S N f R M ++ r.b0 (.bool c) h d)] (fun o => codeOf o = .call (.ref 247) ⟨[.ref (n + 258 + 1), .bool c], []⟩) := by
  cases c <;> cases b1 <;> cases r <;> cases q <;> refine ⟨⟨?_, ?_, ?_, ?_, ?_⟩, ⟨?_, ?_⟩, ?_⟩ <;> first | exact True.intro | (show _ = _; kernel_rfl)
def triedV (i : Bool) (x : Nat) (hint : Int) : Value := match i with | true => .int hint x | false => .ref x
theorem lwB1c (P : Params) (b1 b2 b3 : Bool) (n t L : Nat) (hs : Nat → Int) (tk : Nat → Nat) (ep : Nat) (sl : Array (Option Value)) (S N : Nat) (f : Value) (R M : Nat) (r : Ol) (c : Bool) (h d : Value) (arr : Array Value) (epa n' t' : Nat) (hs' : Nat → Int) (tk' : Nat → Nat) (ep' : Nat) (q : Option Value) (hs'' : Nat → Int) (tk'' : Nat → Nat) (ep'' : Nat) (sl'' : Array (Option Value)) (n3 t3 : Nat) (hs3 : Nat → Int) (tk3 : Nat → Nat) (ep3 : Nat) (sl3 : Array (Option Value)) (isI : Bool) (x : Nat) (hint : Int) :
    FinK (outR (mkP P b1 b2 b3) n3 t3 1 [frm hs3 tk3 ep3 sl3 (locD S N f R M ++ r.b0 (.bool c) h d)] 30 257 1000 (treeOf (outB1b (mkP P b1 b2 b3) n t L hs tk ep sl S N f R M r c h d arr epa n' t' hs' tk' ep' q hs'' tk'' ep'' sl'') (.ok (.ret (triedV isI x hint))))) [L] n3 1 [frm hs3 tk3 ep3 sl3 (locD S N f R M ++ r.b0 (.bool c) h d)]
      (fun o => finOf o = .done .next ∧ frm0 o sl3 (locD S N f R M ++ tkd (.bool c) h d (triedV isI x hint))) := by
  cases isI <;> cases c <;> cases b1 <;> cases r <;> cases q <;> refine ⟨⟨?_, ?_, ?_, ?_⟩, ?_, ?_, ?_⟩ <;> first | exact True.intro | (show _ = _; kernel_rfl)
theorem lwB1t (L : Nat) : TurnKI 257 eB1 L sRow := by
  intro P b1 b2 b3 n t D tp it hs tk ep q
  cases b1 <;> cases q <;> refine ⟨⟨?_, ?_, ?_, ?_⟩, ?_, ?_, ?_⟩ <;> first | exact True.intro | (show _ = _; kernel_rfl)
end Mine
end
section
open PySem PySem.W PySem.W.X PySem.Calls PyProof.Rows
set_option maxRecDepth 100000
set_option maxHeartbeats 4000000
namespace Mine
open PySem.W.ZFast
def sAgain : Str := ⟨#[97, 103, 97, 105, 110]⟩
def sSpelt : Str := ⟨#[115, 112, 101, 108, 116]⟩
def locT5 (S N : Nat) (f : Value) (R M : Nat) (c : Bool) (h d fl : Value) (rest : List (Str × Value)) : List (Str × Value) := locD S N f R M ++ ((sPars, .bool c) :: (sHintL, h) :: (sDue, d) :: (sFields, fl) :: rest)
def posU : Expr → Pos | .UnaryOp _ _ p => p | _ => pos0
noncomputable def tT0 : Expr := ifTest (fB 2)
noncomputable def f3 : Stmt := nthSt (ifElse (fB 2)) 0
noncomputable def tT1 : Expr := ifTest f3
noncomputable def f4 : Stmt := nthSt (ifElse f3) 0
noncomputable def tT2 : Expr := ifTest f4
noncomputable def gB (i : Nat) : Stmt := nthSt (ifBd f4) i
noncomputable def jB (i : Nat) : Stmt := nthSt (ifBd (gB 3)) i
theorem fB2_eq : fB 2 = .If tT0 (ifBd (fB 2)) [f3] (posS (fB 2)) := by kernel_rfl
theorem f3_eq : f3 = .If tT1 (ifBd f3) [f4] (posS f3) := by kernel_rfl
theorem f4_eq : f4 = .If tT2 [gB 0, gB 1, gB 2, gB 3, gB 4] [] (posS f4) := by kernel_rfl
noncomputable def eG2 : Expr := ifTest (gB 2)
noncomputable def eG3 : Expr := ifTest (gB 3)
noncomputable def eG4 : Expr := ifTest (gB 4)
theorem gB2_eq : gB 2 = .If (.BoolOp .Or [subE eG2 [0], subE eG2 [1], .UnaryOp .Not (.Compare (subE eG2 [2, 0, 0]) [.Eq] [subE eG2 [2, 0, 1]] (posC (subE eG2 [2, 0]))) (posU (subE eG2 [2]))] (posE eG2)) (ifBd (gB 2)) [] (posS (gB 2)) := by kernel_rfl
theorem gB3_eq : gB 3 = .If (.Compare (subE eG3 [0]) [.NotEq] [.List [] (posL (subE eG3 [1]))] (posC eG3)) [jB 0, jB 1, jB 2] [] (posS (gB 3)) := by kernel_rfl
theorem gB4_eq : gB 4 = .If eG4 (ifBd (gB 4)) [] (posS (gB 4)) := by kernel_rfl
theorem jB1_eq : jB 1 = .If (ifTest (jB 1)) (ifBd (jB 1)) [] (posS (jB 1)) := by kernel_rfl
noncomputable def eJ2 : Expr := ifTest (jB 2)
theorem jB2_eq : jB 2 = .If (.Compare (subE eJ2 [0]) [.Eq] [subE eJ2 [1]] (posC eJ2)) (ifBd (jB 2)) [] (posS (jB 2)) := by kernel_rfl
theorem lwT0 (P : Params) (b1 b2 b3 : Bool) (n t L : Nat) (hs : Nat → Int) (tk : Nat → Nat) (ep : Nat) (sl : Array (Option Value)) (S N : Nat) (f : Value) (R M : Nat) (c : Bool) (hint : Int) (hh : hint = 0 ∨ hint = 400 ∨ hint = 501) (th : Nat) (d fl : Value) : FinK (outR (mkP P b1 b2 b3) n t 1 [frm hs tk ep sl (locT5 S N f R M c (.int hint th) d fl [])] 20 1 1000 (boolT (isTrueZ tT0 (envF 257 L)))) [L] n 0 [frm hs tk ep sl (locT5 S N f R M c (.int hint th) d fl [])] (fun o => finOf o = bfin (match hint with | 0 => false | _ => true)) := by
  rcases hh with rfl | rfl | rfl <;> cases b1 <;> refine ⟨⟨?_, ?_, ?_, ?_⟩, ⟨?_, ?_⟩, ?_⟩ <;> first | exact True.intro | (show _ = _; kernel_rfl)
theorem lwT0b (P : Params) (b1 b2 b3 : Bool) (n t L : Nat) (hs : Nat → Int) (tk : Nat → Nat) (ep : Nat) (sl : Array (Option Value)) (S N : Nat) (f : Value) (R M : Nat) (c : Bool) (hint : Int) (hh : hint = 400 ∨ hint = 501) (th th' : Nat) (d : Value) : FinK (outR (mkP P b1 b2 b3) n t 1 [frm hs tk ep sl (locT5 S N f R M c (.int hint th) d (.int hint th') [])] 40 282574488403968 1000 (flowT (zw12563942051412417395 (ifBd (fB 2)) (envF 257 L)))) [L] n 0 [frm hs tk ep sl (locT5 S N f R M c (.int hint th) d (.int hint th') [])] (fun o => finOf o = .done .next) := by
  rcases hh with rfl | rfl <;> cases b1 <;> refine ⟨⟨?_, ?_, ?_, ?_⟩, ⟨?_, ?_⟩, ?_⟩ <;> first | exact True.intro | (show _ = _; kernel_rfl)
noncomputable abbrev outTL1 (P : Params) (n t L : Nat) (hs : Nat → Int) (tk : Nat → Nat) (ep : Nat) (sl : Array (Option Value)) (S N : Nat) (f : Value) (R M : Nat) (c : Bool) (th DU F d NH : Nat) (hs' : Nat → Int) (tk' : Nat → Nat) (ep' : Nat) : Out :=
  outR P n t 3 [frm hs tk ep sl (locT5 S N f R M c (.int 0 th) (.ref DU) (.ref F) []), hdrO d NH, dctO hs' tk' ep' []] 70 412983077375308801070579221673478282405169727326931170680176640 3 (boolT (isTrueZ tT1 (envF 257 L)))
theorem lwT1 (P : Params) (b1 b2 b3 : Bool) (n t L : Nat) (hs : Nat → Int) (tk : Nat → Nat) (ep : Nat) (sl : Array (Option Value)) (S N : Nat) (f : Value) (R M : Nat) (c : Bool) (th DU F d NH : Nat) (hs' : Nat → Int) (tk' : Nat → Nat) (ep' : Nat) : CallK (outTL1 (mkP P b1 b2 b3) n t L hs tk ep sl S N f R M c th DU F d NH hs' tk' ep') [L, F, d] n 0 [frm hs tk ep sl (locT5 S N f R M c (.int 0 th) (.ref DU) (.ref F) []), hdrO d NH, dctO hs' tk' ep' []] (fun o => codeOf o = .call (.ref 252) ⟨[.ref F, .ref DU], []⟩) := by
  cases b1 <;> refine ⟨⟨?_, ?_, ?_, ?_, ?_⟩, ⟨?_, ?_, ?_, ?_⟩, ?_⟩ <;> first | exact True.intro | (show _ = _; kernel_rfl)
theorem lwT1b (P : Params) (b1 b2 b3 : Bool) (n t L : Nat) (hs : Nat → Int) (tk : Nat → Nat) (ep : Nat) (sl : Array (Option Value)) (S N : Nat) (f : Value) (R M : Nat) (c : Bool) (th DU F d NH : Nat) (hs' : Nat → Int) (tk' : Nat → Nat) (ep' n' t' : Nat) : FinK (outR (mkP P b1 b2 b3) n' t' 0 [] 10 0 1000 (treeOf (outTL1 (mkP P b1 b2 b3) n t L hs tk ep sl S N f R M c th DU F d NH hs' tk' ep') (.ok (.ret (.bool true))))) [] n' 0 [] (fun o => finOf o = .done .brk) := by
  cases b1 <;> refine ⟨⟨?_, ?_, ?_, ?_⟩, ?_, ?_⟩ <;> first | exact True.intro | (show _ = _; kernel_rfl)
theorem lwT2 (P : Params) (b1 b2 b3 : Bool) (n t L : Nat) (hs : Nat → Int) (tk : Nat → Nat) (ep : Nat) (sl : Array (Option Value)) (S N : Nat) (f : Value) (R M : Nat) (c : Bool) (h d fl : Value) : FinK (outR (mkP P b1 b2 b3) n t 1 [frm hs tk ep sl (locT5 S N f R M c h d fl [])] 20 1 1000 (boolT (isTrueZ tT2 (envF 257 L)))) [L] n 0 [frm hs tk ep sl (locT5 S N f R M c h d fl [])] (fun o => finOf o = bfin (!c)) := by
  cases c <;> cases b1 <;> refine ⟨⟨?_, ?_, ?_, ?_⟩, ⟨?_, ?_⟩, ?_⟩ <;> first | exact True.intro | (show _ = _; kernel_rfl)
def locG (S N : Nat) (f : Value) (R M : Nat) (h : Value) (DU F : Nat) (rest : List (Str × Value)) : List (Str × Value) := locT5 S N f R M false h (.ref DU) (.ref F) rest
noncomputable abbrev outG0 (P : Params) (n t L : Nat) (hs : Nat → Int) (tk : Nat → Nat) (ep : Nat) (sl : Array (Option Value)) (S N : Nat) (f : Value) (R M : Nat) (h : Value) (DU F : Nat) : Out :=
  outR P n t 1 [frm hs tk ep sl (locG S N f R M h DU F [])] 20 256 0 (flowT (zw12563942051412417395 [gB 0] (envF 257 L)))
theorem lwG0 (P : Params) (b1 b2 b3 : Bool) (n t L : Nat) (hs : Nat → Int) (tk : Nat → Nat) (ep : Nat) (sl : Array (Option Value)) (S N : Nat) (f : Value) (R M : Nat) (h : Value) (DU F : Nat) : CallK (outG0 (mkP P b1 b2 b3) n t L hs tk ep sl S N f R M h DU F) [L] n 0 [frm hs tk ep sl (locG S N f R M h DU F [])] (fun o => codeOf o = .call (.ref 174) ⟨[.ref F], kwN none⟩) := by
  cases b1 <;> refine ⟨⟨?_, ?_, ?_, ?_, ?_⟩, ⟨?_, ?_⟩, ?_⟩ <;> first | exact True.intro | (show _ = _; kernel_rfl)
theorem lwG0b (P : Params) (b1 b2 b3 : Bool) (n t L : Nat) (hs : Nat → Int) (tk : Nat → Nat) (ep : Nat) (sl : Array (Option Value)) (S N : Nat) (f : Value) (R M : Nat) (h : Value) (DU F : Nat) (n' t' A : Nat) (hs' : Nat → Int) (tk' : Nat → Nat) (ep' : Nat) (sl' : Array (Option Value)) : FinK (outR (mkP P b1 b2 b3) n' t' 1 [frm hs' tk' ep' sl' (locG S N f R M h DU F [])] 20 257 1000 (treeOf (outG0 (mkP P b1 b2 b3) n t L hs tk ep sl S N f R M h DU F) (.ok (.ret (.ref A))))) [L] n' 1 [frm hs' tk' ep' sl' (locG S N f R M h DU F [])]
    (fun o => finOf o = .done .next ∧ frm0 o sl' (locG S N f R M h DU F [(sAgain, .ref A)])) := by
  cases b1 <;> refine ⟨⟨?_, ?_, ?_, ?_⟩, ?_, ?_, ?_⟩ <;> first | exact True.intro | (show _ = _; kernel_rfl)
noncomputable def eG1 : Expr := asgV (gB 1)
theorem eG1_comp : eG1 = .ListComp (eltC eG1) [⟨tgtC eG1, itrC eG1, [], 0⟩] (scpC eG1) (posE eG1) := by kernel_rfl
noncomputable abbrev outG1 (P : Params) (n t L : Nat) (hs : Nat → Int) (tk : Nat → Nat) (ep : Nat) (sl : Array (Option Value)) (S N : Nat) (f : Value) (R M : Nat) (h : Value) (DU F A : Nat) (arr : Array Value) (epa : Nat) : Out :=
  outR P n t 2 [frm hs tk ep sl (locG S N f R M h DU F [(sAgain, .ref A)]), lstO arr epa] 30 12918587905 1 (flowT (zw12563942051412417395 [gB 1] (envF 257 L)))
theorem lwG1 (P : Params) (b1 b2 b3 : Bool) (n t L : Nat) (hs : Nat → Int) (tk : Nat → Nat) (ep : Nat) (sl : Array (Option Value)) (S N : Nat) (f : Value) (R M : Nat) (h : Value) (DU F A : Nat) (arr : Array Value) (epa : Nat) : CallK (outG1 (mkP P b1 b2 b3) n t L hs tk ep sl S N f R M h DU F A arr epa) [L, DU] n 0 [frm hs tk ep sl (locG S N f R M h DU F [(sAgain, .ref A)]), lstO arr epa]
    (fun o => codeOf o = .compStart eG1 0 (.ref (n + 258)) (.ref (n + 258 + 1)) (cenvF 257 eG1 L (n + 258 + 2)) ∧ numOf o = 3 ∧ tget (tabOf o) 2 = some (iterO (.ref DU) 0) ∧ tget (tabOf o) 3 = some (lstO #[] (epOf (objAt o 3))) ∧ tget (tabOf o) 4 = some (dctO (fun _ => 0) (fun _ => 0) 0 [])) := by
  cases b1 <;> refine ⟨⟨?_, ?_, ?_, ?_, ?_⟩, ⟨?_, ?_, ?_⟩, ?_, ?_, ?_, ?_, ?_⟩ <;> first | exact True.intro | (show _ = _; kernel_rfl)
theorem lwG1b (P : Params) (b1 b2 b3 : Bool) (n t L : Nat) (hs : Nat → Int) (tk : Nat → Nat) (ep : Nat) (sl : Array (Option Value)) (S N : Nat) (f : Value) (R M : Nat) (h : Value) (DU F A : Nat) (arr : Array Value) (epa n' t' : Nat) (hs' : Nat → Int) (tk' : Nat → Nat) (ep' : Nat) (q : Option Value) (hs'' : Nat → Int) (tk'' : Nat → Nat) (ep'' : Nat) (sl'' : Array (Option Value)) : FinK (outR (mkP P b1 b2 b3) n' t' 2 [frm hs'' tk'' ep'' sl'' (locG S N f R M h DU F [(sAgain, .ref A)]), dctO hs' tk' ep' (kn1 sRow q)] 30 (match q with | none => 131329 | some _ => 8623620353) 1000 (treeOf (outG1 (mkP P b1 b2 b3) n t L hs tk ep sl S N f R M h DU F A arr epa) (.ok .next))) [L, n + 258 + 2] n' 2 [frm hs'' tk'' ep'' sl'' (locG S N f R M h DU F [(sAgain, .ref A)]), dctO hs' tk' ep' (kn1 sRow q)]
    (fun o => finOf o = .done .next ∧ frm0 o sl'' (locG S N f R M h DU F [(sAgain, .ref A), (sSpelt, .ref (n + 258 + 1))])) := by
  cases b1 <;> cases q <;> refine ⟨⟨?_, ?_, ?_, ?_⟩, ?_, ?_, ?_⟩ <;> first | exact True.intro | (show _ = _; kernel_rfl)
def f112 (r : Row) : List (Array UInt8) := [r.2.1, r.2.1, r.2.2]
theorem lwG1t (P : Params) (b1 b2 b3 : Bool) (n t L D tp it : Nat) (hs : Nat → Int) (tk : Nat → Nat) (ep : Nat) (q : Option Value) (x y z : Array UInt8) (ts : Nat → Nat) (eps : Nat) :
  FinK (outR (mkP P b1 b2 b3) n t 2 [dctO hs tk ep (kn1 sRow q), tupO (txts ts 0 [x, y, z]) eps] 60 11462757939845026669444875606601454995890045185 1000 (valT (takeEltZ (tgtC eG1) (.ref it) (.ref tp) (eltC eG1) (cenvF 257 eG1 L D)))) [D, tp] n 1 [dctO hs tk ep (kn1 sRow q), tupO (txts ts 0 [x, y, z]) eps]
    (fun o => finOf o = .done (.ret (.ref (n + 258))) ∧ tget (tabOf o) 0 = some (dctO (hsOf (objAt o 0)) (tkOf (objAt o 0)) (epOf (objAt o 0)) (kn1 sRow (some (.ref tp)))) ∧ tget (tabOf o) 2 = some (tupO (txts (sqTok (objAt o 2)) 0 (f112 (x, y, z))) (epOf (objAt o 2)))) := by
  cases b1 <;> cases q <;> refine ⟨⟨?_, ?_, ?_, ?_⟩, ⟨?_, ?_⟩, ?_, ?_, ?_⟩ <;> first | exact True.intro | (show _ = _; kernel_rfl)
def locH (S N : Nat) (f : Value) (R M : Nat) (h : Value) (DU F A SP : Nat) : List (Str × Value) := locG S N f R M h DU F [(sAgain, .ref A), (sSpelt, .ref SP)]
def pickA (j : Bool) (F A : Nat) : Nat := match j with | true => A | false => F
noncomputable def eG2j (j : Bool) : Expr := match j with | true => subE eG2 [0] | false => subE eG2 [1]
noncomputable abbrev outG2 (P : Params) (n t L : Nat) (hs : Nat → Int) (tk : Nat → Nat) (ep : Nat) (sl : Array (Option Value)) (S N : Nat) (f : Value) (R M : Nat) (h : Value) (DU F A SP : Nat) (j : Bool) : Out :=
  outR P n t 1 [frm hs tk ep sl (locH S N f R M h DU F A SP)] 20 65792 0 (boolT (isTrueZ (eG2j j) (envF 257 L)))
theorem lwG2 (P : Params) (b1 b2 b3 : Bool) (n t L : Nat) (hs : Nat → Int) (tk : Nat → Nat) (ep : Nat) (sl : Array (Option Value)) (S N : Nat) (f : Value) (R M : Nat) (h : Value) (DU F A SP : Nat) (j : Bool) : CallK (outG2 (mkP P b1 b2 b3) n t L hs tk ep sl S N f R M h DU F A SP j) [L] n 0 [frm hs tk ep sl (locH S N f R M h DU F A SP)] (fun o => codeOf o = .call (.ref 252) ⟨[.ref (pickA j F A), .ref (pickA j DU SP)], []⟩) := by
  cases j <;> cases b1 <;> refine ⟨⟨?_, ?_, ?_, ?_, ?_⟩, ⟨?_, ?_⟩, ?_⟩ <;> first | exact True.intro | (show _ = _; kernel_rfl)
theorem lwG2b (P : Params) (b1 b2 b3 : Bool) (n t L : Nat) (hs : Nat → Int) (tk : Nat → Nat) (ep : Nat) (sl : Array (Option Value)) (S N : Nat) (f : Value) (R M : Nat) (h : Value) (DU F A SP : Nat) (j : Bool) (n' t' : Nat) : FinK (outR (mkP P b1 b2 b3) n' t' 0 [] 10 0 1000 (treeOf (outG2 (mkP P b1 b2 b3) n t L hs tk ep sl S N f R M h DU F A SP j) (.ok (.ret (.bool true))))) [] n' 0 [] (fun o => finOf o = .done .brk) := by
  cases j <;> cases b1 <;> refine ⟨⟨?_, ?_, ?_, ?_⟩, ?_, ?_⟩ <;> first | exact True.intro | (show _ = _; kernel_rfl)
theorem lwG2c (P : Params) (b1 b2 b3 : Bool) (n t L : Nat) (hs : Nat → Int) (tk : Nat → Nat) (ep : Nat) (sl : Array (Option Value)) (S N : Nat) (f : Value) (R M : Nat) (h : Value) (DU F A SP : Nat) (j : Bool) : FinK (outR (mkP P b1 b2 b3) n t 1 [frm hs tk ep sl (locH S N f R M h DU F A SP)] 20 1 1000 (valT (evalZ (match j with | true => subE eG2 [2, 0, 0] | false => subE eG2 [2, 0, 1]) (envF 257 L)))) [L] n 0 [frm hs tk ep sl (locH S N f R M h DU F A SP)] (fun o => finOf o = .done (.ret (.ref (pickA j F A)))) := by
  cases j <;> cases b1 <;> refine ⟨⟨?_, ?_, ?_, ?_⟩, ⟨?_, ?_⟩, ?_⟩ <;> first | exact True.intro | (show _ = _; kernel_rfl)
theorem lwG3 (P : Params) (b1 b2 b3 : Bool) (n t L : Nat) (hs : Nat → Int) (tk : Nat → Nat) (ep : Nat) (sl : Array (Option Value)) (S N : Nat) (f : Value) (R M : Nat) (h : Value) (DU F A SP : Nat) : FinK (outR (mkP P b1 b2 b3) n t 1 [frm hs tk ep sl (locH S N f R M h DU F A SP)] 20 1 1000 (valT (evalZ (subE eG3 [0]) (envF 257 L)))) [L] n 0 [frm hs tk ep sl (locH S N f R M h DU F A SP)] (fun o => finOf o = .done (.ret (.ref DU))) := by
  cases b1 <;> refine ⟨⟨?_, ?_, ?_, ?_⟩, ⟨?_, ?_⟩, ?_⟩ <;> first | exact True.intro | (show _ = _; kernel_rfl)
noncomputable def eJ0 : Expr := subE (asgV (jB 0)) [0]
theorem eJ0_comp : eJ0 = .ListComp (eltC eJ0) [⟨tgtC eJ0, itrC eJ0, [], 0⟩] (scpC eJ0) (posE eJ0) := by kernel_rfl
noncomputable abbrev outJ0 (P : Params) (n t L : Nat) (hs : Nat → Int) (tk : Nat → Nat) (ep : Nat) (sl : Array (Option Value)) (S N : Nat) (f : Value) (R M : Nat) (h : Value) (DU F A SP : Nat) (arr : Array Value) (epa : Nat) : Out :=
  outR P n t 2 [frm hs tk ep sl (locH S N f R M h DU F A SP), lstO arr epa] 50 26042932084110915463009522342298113 2 (flowT (zw12563942051412417395 [jB 0] (envF 257 L)))
def tail5 (k : Nat) (b c d e : Value) : List Value := match k with
  | 1 => []
  | 2 => [b]
  | 3 => [b, c]
  | 4 => [b, c, d]
  | _ => [b, c, d, e]
theorem lwJ0 (P : Params) (b1 b2 b3 : Bool) (n t L : Nat) (hs : Nat → Int) (tk : Nat → Nat) (ep : Nat) (sl : Array (Option Value)) (S N : Nat) (f : Value) (R M : Nat) (h : Value) (DU F A SP : Nat) (k : Nat) (hk : k = 1 ∨ k = 2 ∨ k = 3 ∨ k = 4 ∨ k = 5) (x1 x2 x3 x4 x5 : Value) (epa : Nat) : CallK (outJ0 (mkP P b1 b2 b3) n t L hs tk ep sl S N f R M h DU F A SP (five k x1 x2 x3 x4 x5).toArray epa) [L, DU] n 0 [frm hs tk ep sl (locH S N f R M h DU F A SP), lstO (five k x1 x2 x3 x4 x5).toArray epa]
    (fun o => codeOf o = .compStart eJ0 0 (.ref (n + 258 + 2)) (.ref (n + 258 + 3)) (cenvF 257 eJ0 L (n + 258 + 4)) ∧ numOf o = 5 ∧ tget (tabOf o) 3 = some (lstO (tail5 k x2 x3 x4 x5).toArray (epOf (objAt o 3))) ∧ tget (tabOf o) 4 = some (iterO (.ref (n + 258 + 1)) 0) ∧ tget (tabOf o) 5 = some (lstO #[] (epOf (objAt o 5))) ∧ tget (tabOf o) 6 = some (dctO (fun _ => 0) (fun _ => 0) 0 [])) := by
  rcases hk with rfl | rfl | rfl | rfl | rfl <;> cases b1 <;> refine ⟨⟨?_, ?_, ?_, ?_, ?_⟩, ⟨?_, ?_, ?_⟩, ?_, ?_, ?_, ?_, ?_, ?_⟩ <;> first | exact True.intro | (show _ = _; kernel_rfl)
theorem lwJ0b (P : Params) (b1 b2 b3 : Bool) (n t L : Nat) (hs : Nat → Int) (tk : Nat → Nat) (ep : Nat) (sl : Array (Option Value)) (S N : Nat) (f : Value) (R M : Nat) (h : Value) (DU F A SP : Nat) (k : Nat) (hk : k = 1 ∨ k = 2 ∨ k = 3 ∨ k = 4 ∨ k = 5) (tp : Nat) (x2 x3 x4 x5 : Value) (epa n' t' : Nat) (hs' : Nat → Int) (tk' : Nat → Nat) (ep' : Nat) (q : Option Value) (y2 y3 y4 y5 : Value) (epc : Nat) (hs'' : Nat → Int) (tk'' : Nat → Nat) (ep'' : Nat) (sl'' : Array (Option Value)) (x y : Array UInt8) (zl : List Nat) (hz : zl = [98] ∨ zl = [120, 44, 32, 121] ∨ zl = [51] ∨ zl = [48, 51] ∨ zl = chunked ∨ zl = [255, 1]) (ts : Nat → Nat) (epr : Nat) :
    FinK (outR (mkP P b1 b2 b3) n' t' 5 [dctO hs' tk' ep' (kn1 sRow q), lstO (tail5 k y2 y3 y4 y5).toArray epc, frm hs'' tk'' ep'' sl'' (locH S N f R M h DU F A SP), lstO (five k (.ref tp) x2 x3 x4 x5).toArray epa, tupO (txts ts 0 [x, y, bts zl]) epr] 110
      (match q with | none => 1362287453826467238180396221514166209413777723842691689940972487058678612737 | some _ => 89278870573971356921390446773152396700141336909754642591971572911877561564332289) 1000
      (treeOf (outJ0 (mkP P b1 b2 b3) n t L hs tk ep sl S N f R M h DU F A SP (five k (.ref tp) x2 x3 x4 x5).toArray epa) (.ok .next))) [n + 258 + 4, n + 258 + 3, L, DU, tp] n' 3 [dctO hs' tk' ep' (kn1 sRow q), lstO (tail5 k y2 y3 y4 y5).toArray epc, frm hs'' tk'' ep'' sl'' (locH S N f R M h DU F A SP), lstO (five k (.ref tp) x2 x3 x4 x5).toArray epa, tupO (txts ts 0 [x, y, bts zl]) epr]
      (fun o => finOf o = .done .next ∧ tget (tabOf o) 1 = some (lstO (tail5 k y2 y3 y4 y5).toArray (epOf (objAt o 1))) ∧ tget (tabOf o) 2 = some (frm (hsOf (objAt o 2)) (tkOf (objAt o 2)) (epOf (objAt o 2)) sl'' (locH S N f R M h DU F A SP ++ [(sOther, .ref (n' + 258 + 2))])) ∧ tget (tabOf o) 5 = some (tupO (txts (sqTok (objAt o 5)) 0 [y, bts (zl ++ [120])]) (epOf (objAt o 5))) ∧ tget (tabOf o) 7 = some (lstO (tail5 k y2 y3 y4 y5 ++ [Value.ref (n' + 258)]).toArray (epOf (objAt o 7)))) := by
  rcases hz with rfl | rfl | rfl | rfl | rfl | rfl <;> rcases hk with rfl | rfl | rfl | rfl | rfl <;> cases b1 <;> cases q <;> refine ⟨⟨?_, ?_, ?_, ?_⟩, ⟨?_, ?_, ?_⟩, ?_, ?_, ?_, ?_, ?_⟩ <;> first | exact True.intro | (show _ = _; kernel_rfl)
theorem lwJ0t (L : Nat) : TurnK1 257 eJ0 L sRow f12 := by
  intro P b1 b2 b3 n t D tp it hs tk ep q x y z ts eps
  cases b1 <;> cases q <;> refine ⟨⟨?_, ?_, ?_, ?_⟩, ⟨?_, ?_⟩, ?_, ?_, ?_⟩ <;> first | exact True.intro | (show _ = _; kernel_rfl)
end Mine
end
section
open PySem PySem.W PySem.W.X PySem.Calls PyProof.Rows
set_option maxRecDepth 100000
set_option maxHeartbeats 4000000
namespace Mine
open PySem.W.ZFast
def locI (S N : Nat) (f : Value) (R M : Nat) (h : Value) (DU F A SP OT : Nat) : List (Str × Value) := locH S N f R M h DU F A SP ++ [(sOther, .ref OT)]
def cEqZ (x : Int) (u v : Nat) : Code := .call (.builtin "int.__eq__") ⟨[.int x u, .int 0 v], []⟩
def cEqZ2 (x : Int) (u v : Nat) : Code := .builtin "int.__eq__" ⟨[.int x u, .int 0 v], []⟩
theorem lwQc (P : Params) (b1 b2 b3 : Bool) (n t u v : Nat) (x : Int) : FinK (outR (mkP P b1 b2 b3) n t 0 [] 20 0 1000 (enterT (cEqZ x u v))) [] n 0 [] (fun o => finOf o = .again (cEqZ2 x u v)) := by
  cases b1 <;> refine ⟨⟨?_, ?_, ?_, ?_⟩, ?_, ?_⟩ <;> first | exact True.intro | (show _ = _; kernel_rfl)
theorem lwQd (P : Params) (b1 b2 b3 : Bool) (n t u v : Nat) (c : Bool) : FinK (outR (mkP P b1 b2 b3) n t 0 [] 20 0 1000 (enterT (cEqZ2 (bitI c) u v))) [] n 0 [] (fun o => finOf o = .done (.ret (.bool (!c)))) := by
  cases c <;> cases b1 <;> refine ⟨⟨?_, ?_, ?_, ?_⟩, ?_, ?_⟩ <;> first | exact True.intro | (show _ = _; kernel_rfl)
theorem lwJ1z (P : Params) (b1 b2 b3 : Bool) (n t L : Nat) (hs : Nat → Int) (tk : Nat → Nat) (ep : Nat) (sl : Array (Option Value)) (S N : Nat) (f : Value) (R M : Nat) (h : Value) (DU F A SP OT : Nat) (x1 : Value) (epa : Nat) : FinK (outR (mkP P b1 b2 b3) n t 2 [frm hs tk ep sl (locI S N f R M h DU F A SP OT), lstO #[x1] epa] 50 2207646810112 1000 (boolT (isTrueZ (ifTest (jB 1)) (envF 257 L)))) [L, DU] n 0 [frm hs tk ep sl (locI S N f R M h DU F A SP OT), lstO #[x1] epa] (fun o => finOf o = .done .brk) := by
  cases b1 <;> refine ⟨⟨?_, ?_, ?_, ?_⟩, ⟨?_, ?_, ?_⟩, ?_⟩ <;> first | exact True.intro | (show _ = _; kernel_rfl)
noncomputable abbrev outJ1 (P : Params) (n t L : Nat) (hs : Nat → Int) (tk : Nat → Nat) (ep : Nat) (sl : Array (Option Value)) (S N : Nat) (m u : Nat) (R M : Nat) (h : Value) (DU F A SP OT : Nat) (arr : Array Value) (epa : Nat) : Out :=
  outR P n t 2 [frm hs tk ep sl (locI S N (.int (.ofNat m) u) R M h DU F A SP OT), lstO arr epa] 60 283682623520768 4 (boolT (isTrueZ (ifTest (jB 1)) (envF 257 L)))
theorem lwJ1 (P : Params) (b1 b2 b3 : Bool) (n t L : Nat) (hs : Nat → Int) (tk : Nat → Nat) (ep : Nat) (sl : Array (Option Value)) (S N : Nat) (m u : Nat) (R M : Nat) (h : Value) (DU F A SP OT : Nat) (k : Nat) (hk : k = 2 ∨ k = 3 ∨ k = 4 ∨ k = 5) (x1 x2 x3 x4 x5 : Value) (epa : Nat) : CallK (outJ1 (mkP P b1 b2 b3) n t L hs tk ep sl S N m u R M h DU F A SP OT (five k x1 x2 x3 x4 x5).toArray epa) [L, DU] n 0 [frm hs tk ep sl (locI S N (.int (.ofNat m) u) R M h DU F A SP OT), lstO (five k x1 x2 x3 x4 x5).toArray epa]
    (fun o => codeOf o = .call (.builtin "int.__eq__") ⟨[.int (Z.modQ (.ofNat m) 2) (keyTok (argAt (codeOf o) 0)), .int 0 (keyTok (argAt (codeOf o) 1))], []⟩) := by
  rcases hk with rfl | rfl | rfl | rfl <;> cases b1 <;> refine ⟨⟨?_, ?_, ?_, ?_, ?_⟩, ⟨?_, ?_, ?_⟩, ?_⟩ <;> first | exact True.intro | (show _ = _; kernel_rfl)
theorem lwJ1b (P : Params) (b1 b2 b3 : Bool) (n t L : Nat) (hs : Nat → Int) (tk : Nat → Nat) (ep : Nat) (sl : Array (Option Value)) (S N : Nat) (m u : Nat) (R M : Nat) (h : Value) (DU F A SP OT : Nat) (k : Nat) (hk : k = 2 ∨ k = 3 ∨ k = 4 ∨ k = 5) (x1 x2 x3 x4 x5 : Value) (epa n' t' : Nat) (c : Bool) : FinK (outR (mkP P b1 b2 b3) n' t' 0 [] 10 0 1000 (treeOf (outJ1 (mkP P b1 b2 b3) n t L hs tk ep sl S N m u R M h DU F A SP OT (five k x1 x2 x3 x4 x5).toArray epa) (.ok (.ret (.bool c))))) [] n' 0 [] (fun o => finOf o = bfin c) := by
  rcases hk with rfl | rfl | rfl | rfl <;> cases c <;> cases b1 <;> refine ⟨⟨?_, ?_, ?_, ?_⟩, ?_, ?_⟩ <;> first | exact True.intro | (show _ = _; kernel_rfl)
noncomputable def eJ1 : Expr := asgV (nthSt (ifBd (jB 1)) 0)
theorem eJ1_comp : eJ1 = .ListComp (eltC eJ1) [⟨tgtC eJ1, itrC eJ1, [], 0⟩] (scpC eJ1) (posE eJ1) := by kernel_rfl
noncomputable abbrev outJ1c (P : Params) (n t L : Nat) (hs : Nat → Int) (tk : Nat → Nat) (ep : Nat) (sl : Array (Option Value)) (S N : Nat) (f : Value) (R M : Nat) (h : Value) (DU F A SP OT : Nat) (arr : Array Value) (epa : Nat) : Out :=
  outR P n t 2 [frm hs tk ep sl (locI S N f R M h DU F A SP OT), lstO arr epa] 60 26042932084110915463009522342298113 3 (flowT (zw12563942051412417395 (ifBd (jB 1)) (envF 257 L)))
def init5 (k : Nat) (a b c d : Value) : List Value := match k with
  | 1 => []
  | 2 => [a]
  | 3 => [a, b]
  | 4 => [a, b, c]
  | _ => [a, b, c, d]
theorem lwJ1c (P : Params) (b1 b2 b3 : Bool) (n t L : Nat) (hs : Nat → Int) (tk : Nat → Nat) (ep : Nat) (sl : Array (Option Value)) (S N : Nat) (f : Value) (R M : Nat) (h : Value) (DU F A SP OT : Nat) (k : Nat) (hk : k = 2 ∨ k = 3 ∨ k = 4 ∨ k = 5) (x1 x2 x3 x4 x5 : Value) (epa : Nat) : CallK (outJ1c (mkP P b1 b2 b3) n t L hs tk ep sl S N f R M h DU F A SP OT (five k x1 x2 x3 x4 x5).toArray epa) [L, DU] n 0 [frm hs tk ep sl (locI S N f R M h DU F A SP OT), lstO (five k x1 x2 x3 x4 x5).toArray epa]
    (fun o => codeOf o = .compStart eJ1 0 (.ref (n + 258 + 2)) (.ref (n + 258 + 3)) (cenvF 257 eJ1 L (n + 258 + 4)) ∧ numOf o = 5 ∧ tget (tabOf o) 3 = some (lstO (init5 k x1 x2 x3 x4).toArray (epOf (objAt o 3))) ∧ tget (tabOf o) 4 = some (iterO (.ref (n + 258 + 1)) 0) ∧ tget (tabOf o) 5 = some (lstO #[] (epOf (objAt o 5))) ∧ tget (tabOf o) 6 = some (dctO (fun _ => 0) (fun _ => 0) 0 [])) := by
  rcases hk with rfl | rfl | rfl | rfl <;> cases b1 <;> refine ⟨⟨?_, ?_, ?_, ?_, ?_⟩, ⟨?_, ?_, ?_⟩, ?_, ?_, ?_, ?_, ?_, ?_⟩ <;> first | exact True.intro | (show _ = _; kernel_rfl)
theorem lwJ1d (P : Params) (b1 b2 b3 : Bool) (n t L : Nat) (hs : Nat → Int) (tk : Nat → Nat) (ep : Nat) (sl : Array (Option Value)) (S N : Nat) (f : Value) (R M : Nat) (h : Value) (DU F A SP OT : Nat) (k : Nat) (hk : k = 2 ∨ k = 3 ∨ k = 4 ∨ k = 5) (x1 x2 x3 x4 x5 : Value) (epa n' t' : Nat) (hs' : Nat → Int) (tk' : Nat → Nat) (ep' : Nat) (q : Option Value) (hs'' : Nat → Int) (tk'' : Nat → Nat) (ep'' : Nat) (sl'' : Array (Option Value)) : FinK (outR (mkP P b1 b2 b3) n' t' 2 [frm hs'' tk'' ep'' sl'' (locI S N f R M h DU F A SP OT), dctO hs' tk' ep' (kn1 sRow q)] 40 (match q with | none => 131329 | some _ => 8623620353) 1000 (treeOf (outJ1c (mkP P b1 b2 b3) n t L hs tk ep sl S N f R M h DU F A SP OT (five k x1 x2 x3 x4 x5).toArray epa) (.ok .next))) [L, n + 258 + 4] n' 2 [frm hs'' tk'' ep'' sl'' (locI S N f R M h DU F A SP OT), dctO hs' tk' ep' (kn1 sRow q)]
    (fun o => finOf o = .done .next ∧ frm0 o sl'' (locI S N f R M h DU F A SP (n + 258 + 3))) := by
  rcases hk with rfl | rfl | rfl | rfl <;> cases b1 <;> cases q <;> refine ⟨⟨?_, ?_, ?_, ?_⟩, ?_, ?_, ?_⟩ <;> first | exact True.intro | (show _ = _; kernel_rfl)
theorem lwJ1t (L : Nat) : TurnK1 257 eJ1 L sRow f12 := by
  intro P b1 b2 b3 n t D tp it hs tk ep q x y z ts eps
  cases b1 <;> cases q <;> refine ⟨⟨?_, ?_, ?_, ?_⟩, ⟨?_, ?_⟩, ?_, ?_, ?_⟩ <;> first | exact True.intro | (show _ = _; kernel_rfl)
theorem lwJ2 (P : Params) (b1 b2 b3 : Bool) (n t L : Nat) (hs : Nat → Int) (tk : Nat → Nat) (ep : Nat) (sl : Array (Option Value)) (S N : Nat) (f : Value) (R M : Nat) (h : Value) (DU F A SP OT : Nat) (j : Bool) : FinK (outR (mkP P b1 b2 b3) n t 1 [frm hs tk ep sl (locI S N f R M h DU F A SP OT)] 20 1 1000 (valT (evalZ (match j with | true => subE eJ2 [1] | false => subE eJ2 [0]) (envF 257 L)))) [L] n 0 [frm hs tk ep sl (locI S N f R M h DU F A SP OT)] (fun o => finOf o = .done (.ret (.ref (pickA j F OT)))) := by
  cases j <;> cases b1 <;> refine ⟨⟨?_, ?_, ?_, ?_⟩, ⟨?_, ?_⟩, ?_⟩ <;> first | exact True.intro | (show _ = _; kernel_rfl)
def moreO : Option Nat → List (Str × Value) | none => [] | some o => [(sOther, .ref o)]
noncomputable abbrev outG4 (P : Params) (n t L : Nat) (hs : Nat → Int) (tk : Nat → Nat) (ep : Nat) (sl : Array (Option Value)) (S N : Nat) (f : Value) (R M : Nat) (h : Value) (DU F A SP : Nat) (ot : Option Nat) (d NH : Nat) (hs' : Nat → Int) (tk' : Nat → Nat) (ep' : Nat) : Out :=
  outR P n t 3 [frm hs tk ep sl (locH S N f R M h DU F A SP ++ moreO ot), hdrO d NH, dctO hs' tk' ep' []] 270 15965982142711293509831588778431324224590085918864161388346071258923887450064661742250185508484003657407717573558068047587235101330879911282882226736304599663550800439077199674026352729408944226811177273963469253481907761601934634287982713638926864011895578905995561672606189694916793765382086335091573163408115134243854640475409735210411429218811904 16 (boolT (isTrueZ eG4 (envF 257 L)))
theorem lwG4 (P : Params) (b1 b2 b3 : Bool) (n t L : Nat) (hs : Nat → Int) (tk : Nat → Nat) (ep : Nat) (sl : Array (Option Value)) (S N : Nat) (f : Value) (R M : Nat) (h : Value) (DU F A SP : Nat) (ot : Option Nat) (d NH : Nat) (hs' : Nat → Int) (tk' : Nat → Nat) (ep' : Nat) : CallK (outG4 (mkP P b1 b2 b3) n t L hs tk ep sl S N f R M h DU F A SP ot d NH hs' tk' ep') [L, F, d] n 0 [frm hs tk ep sl (locH S N f R M h DU F A SP ++ moreO ot), hdrO d NH, dctO hs' tk' ep' []] (fun o => codeOf o = .call (.ref 252) ⟨[.ref F, .ref DU], []⟩) := by
  cases ot <;> cases b1 <;> refine ⟨⟨?_, ?_, ?_, ?_, ?_⟩, ⟨?_, ?_, ?_, ?_⟩, ?_⟩ <;> first | exact True.intro | (show _ = _; kernel_rfl)
theorem lwG4b (P : Params) (b1 b2 b3 : Bool) (n t L : Nat) (hs : Nat → Int) (tk : Nat → Nat) (ep : Nat) (sl : Array (Option Value)) (S N : Nat) (f : Value) (R M : Nat) (h : Value) (DU F A SP : Nat) (ot : Option Nat) (d NH : Nat) (hs' : Nat → Int) (tk' : Nat → Nat) (ep' n' t' : Nat) : FinK (outR (mkP P b1 b2 b3) n' t' 0 [] 10 0 1000 (treeOf (outG4 (mkP P b1 b2 b3) n t L hs tk ep sl S N f R M h DU F A SP ot d NH hs' tk' ep') (.ok (.ret (.bool true))))) [] n' 0 [] (fun o => finOf o = .done .brk) := by
  cases ot <;> cases b1 <;> refine ⟨⟨?_, ?_, ?_, ?_⟩, ?_, ?_⟩ <;> first | exact True.intro | (show _ = _; kernel_rfl)
noncomputable def eL6 : Expr := retE (stL 6)
theorem stL6_eq : stL 6 = .Return (some (.Compare (subE eL6 [0]) [.Eq] [subE eL6 [1]] (posC eL6))) (posS (stL 6)) := by kernel_rfl
theorem lw6L (P : Params) (b1 b2 b3 : Bool) (n t L : Nat) (hs : Nat → Int) (tk : Nat → Nat) (ep : Nat) (sl : Array (Option Value)) (S N : Nat) (f : Value) (R M : Nat) (rest : List (Str × Value)) : FinK (outR (mkP P b1 b2 b3) n t 1 [frm hs tk ep sl (locD S N f R M ++ rest)] 20 1 1000 (valT (evalZ (subE eL6 [0]) (envF 257 L)))) [L] n 0 [frm hs tk ep sl (locD S N f R M ++ rest)] (fun o => finOf o = .done (.ret (.ref M))) := by
  cases b1 <;> refine ⟨⟨?_, ?_, ?_, ?_⟩, ⟨?_, ?_⟩, ?_⟩ <;> first | exact True.intro | (show _ = _; kernel_rfl)
theorem lw6R (P : Params) (b1 b2 b3 : Bool) (n t L : Nat) : FinK (outR (mkP P b1 b2 b3) n t 0 [] 20 0 1000 (valT (evalZ (subE eL6 [1]) (envF 257 L)))) [] n 0 []
    (fun o => finOf o = .done (.ret (.ref (n + 258 + 1))) ∧ tget (tabOf o) 0 = some (tupO (txts (sqTok (objAt o 0)) 0 [bts (told 16).1, bts (told 16).2]) (epOf (objAt o 0))) ∧ tget (tabOf o) 1 = some (lstO #[.ref (n + 258)] (epOf (objAt o 1)))) := by
  refine ⟨⟨?_, ?_, ?_, ?_⟩, ?_, ?_, ?_, ?_⟩
  all_goals first | exact True.intro | (show _ = _; kernel_rfl)
def objB (j : Bool) (d NH : Nat) (arr : Array Value) (ep : Nat) : Obj := match j with | true => hdrO d NH | false => lstO arr ep
noncomputable abbrev outCm (P : Params) (n t a b d NH : Nat) (j : Bool) (d' NH' : Nat) (arr : Array Value) (ep : Nat) : Out := outR P n t 2 [hdrO d NH, objB j d' NH' arr ep] 30 66049 0 (valT (richT .Eq (.ref a) (.ref b) ()))
theorem lwCm (P : Params) (b1 b2 b3 : Bool) (n t a b d NH : Nat) (j : Bool) (d' NH' : Nat) (arr : Array Value) (ep : Nat) : CallK (outCm (mkP P b1 b2 b3) n t a b d NH j d' NH' arr ep) [a, b] n 0 [hdrO d NH, objB j d' NH' arr ep] (fun o => codeOf o = .call (.ref 138) ⟨[.ref a, .ref b], []⟩) := by
  cases j <;> cases b1 <;> refine ⟨⟨?_, ?_, ?_, ?_, ?_⟩, ⟨?_, ?_, ?_⟩, ?_⟩ <;> first | exact True.intro | (show _ = _; kernel_rfl)
theorem lwCn (P : Params) (b1 b2 b3 : Bool) (n t a b d NH : Nat) (j : Bool) (d' NH' : Nat) (arr : Array Value) (ep n' t' : Nat) (c : Bool) : FinK (outR (mkP P b1 b2 b3) n' t' 0 [] 20 0 1000 (treeOf (outCm (mkP P b1 b2 b3) n t a b d NH j d' NH' arr ep) (.ok (.ret (.bool c))))) [] n' 0 [] (fun o => finOf o = .done (.ret (.bool c))) := by
  cases c <;> cases j <;> cases b1 <;> refine ⟨⟨?_, ?_, ?_, ?_⟩, ?_, ?_⟩ <;> first | exact True.intro | (show _ = _; kernel_rfl)
end Mine
end
section
open PySem PySem.W PySem.W.X PySem.Calls PyProof.Rows
set_option maxRecDepth 100000
set_option maxHeartbeats 400000
namespace Mine
open PySem.W.ZFast
section
variable {w : World} {A : Around} {h : Heap} {g : Array GenState} {dr : Drawn} {t : Nat} {o : OsState}
theorem sliceN (ok : Okay w.params h) {l sl tk : Nat} {items : Array Value} (hl : h.IsList l items) (hsl : h.get? sl = some (sliO .none (.int 6 tk))) (hsz : items.size ≤ 1000) {R : Result → Shared → Prop}
    (hQ : ∀ N s', But [] h s'.heap → OkS w.params g o s' → @LE.le Nat _ h.objs.size N → LstAt s'.heap N (items.toList.take 6).toArray → R (.ok (.ret (.ref N))) s') :
    codeAny (model pw w) A (.call (.builtin "list.__getitem__") ⟨[.ref l, .ref sl], []⟩) R ⟨h, g, dr, t, o⟩ := by
  obtain ⟨ol, hol, hcl, nl, hdl⟩ := id hl
  have hT : (⟨h, g, dr, t, o⟩ : Shared).TypeIs (.ref l) "list" := ⟨ol, hol, hcl⟩
  have hTs : (⟨h, g, dr, t, o⟩ : Shared).TypeIs (.ref sl) "slice" := ⟨_, hsl, rfl⟩
  refine codeAny_call_builtin slot_list_getitem.plain entry_list_getitem (slot_list_getitem.check _ _ _ _ _ _ _ _ hT (args_list_getitem _ _) ?_)
  show wpAny _ _ (Builtin.List.listSubscript? (.ref sl) >>= _) _ _ _
  refine wpAny_bind ?_
  unfold Builtin.List.listSubscript?
  refine wpAny_bind (wpAny_specialOf hTs slice_no_index ?_)
  simp only [Option.isNone_none, if_true]
  refine wpAny_pure ?_
  show wpAny _ _ (typeOf (.ref sl) >>= _) _ _ _
  refine wpAny_bind (wpAny_typeOf hTs ?_)
  rw [if_neg (by decide)]
  rw [listSliceParts_eq]
  refine wpAny_bind (wpAny_bind (wpAny_field hsl rfl (x := .none) rfl (wpAny_bind (wpAny_listPart .none ?_))))
  rw [if_neg (by decide)]
  refine wpAny_bind (wpAny_field hsl rfl (x := .none) rfl (wpAny_bind (wpAny_listPart .none ?_)))
  refine wpAny_bind (wpAny_field hsl rfl (x := .int 6 tk) rfl (wpAny_bind (wpAny_listPart (.int 6 tk) (wpAny_pure ?_))))
  refine wpAny_bind (m := Builtin.List.listItems (.ref l)) ?_
  unfold Builtin.List.listItems
  refine wpAny_bind (wpAny_seqItems hol hdl (wpAny_pure ?_))
  refine wpAny_bind (wpAny_of_eq (sliceIndices_raw none (some 6) none items.size (by simp)) ?_)
  refine wpAny_bind (wpAny_newObj_type (wpAny_pure ?_) (Nat.le_trans (slicePick_size_le items none (some 6) none) (Nat.le_trans hsz (by decide))))
  have bp : But [] h (h.push { cls := .type "list", data := .seq (slicePick items none (some 6) none) }) := .push _
  have e : slicePick items none (some (6 : Int)) none = (items.toList.take 6).toArray := slicePick_upto' items 6
  refine hQ h.objs.size _ bp ⟨ok.but low0 bp, rfl, rfl⟩ (Nat.le_refl _) ?_
  refine ⟨0, (Heap.get?_push_size _ rfl).trans ?_⟩
  rw [← e]
  rfl
theorem poolN (ar : Ar A) (ok : Okay w.params h) {i u : Nat} (hi : i < 16) {R : Result → Shared → Prop} (hQ : ∀ s', But [] h s'.heap → OkS w.params g o s' → R (.ok (.ret (.ref (214 + i)))) s') : codeAny (model pw w) A (cPool i u) R ⟨h, g, dr, t, o⟩ := by
  obtain ⟨n, hn⟩ := ok.size
  obtain ⟨b1, b2, b3, hP⟩ := params_split w.params
  have ar1 : Ar (A.under (cPool i u)) := ar.under (by rw [ze1243936422450756474]; kernel_rfl)
  refine codeAny_enter (fun hc => by cases hc) ?_
  refine segFin hP ar1 ok hn [] [] 0 20 low0 (by simp) trivial (lwPa w.params b1 b2 b3 n t i u) fun out h₁ dr₁ S af => ?_
  rw [S]
  refine ⟨af.ok.nolimit, by rw [ze17772548960776305114]; kernel_rfl, ?_⟩
  generalize t + tokOf out = t₁
  obtain ⟨n₁, hn₁⟩ := af.ok.size
  have ar2 : Ar (A.under (cPool2 i u)) := ar.under (by rw [ze1243936422450756474]; kernel_rfl)
  refine codeAny_enter (fun hc => by cases hc) ?_
  refine segFin hP ar2 af.ok hn₁ [] [] 0 20 low0 (by simp) trivial (lwPb w.params b1 b2 b3 n₁ t₁ i u (by omega)) fun out h₂ dr₂ S af₂ => ?_
  rw [S]
  exact ⟨af₂.ok.nolimit, hQ _ (But.trans af.but af₂.but) af₂.ok⟩
theorem eqOne (ark : ArK 2 A) (ok : Okay w.params h) {c : Bool} {u v : Nat} {R : Result → Shared → Prop} (hQ : ∀ s', But [] h s'.heap → OkS w.params g o s' → R (.ok (.ret (.bool c))) s') : codeAny (model pw w) A (cEqI (bitI c) u v) R ⟨h, g, dr, t, o⟩ := by
  obtain ⟨n, hn⟩ := ok.size
  obtain ⟨b1, b2, b3, hP⟩ := params_split w.params
  have ar1 : ArK 1 (A.under (cEqI (bitI c) u v)) := ark.under1 (by kernel_rfl)
  refine codeAny_enter (fun hc => by cases hc) ?_
  refine segFin hP ar1.weak ok hn [] [] 0 20 low0 (by simp) trivial (lwQa w.params b1 b2 b3 n t u v (bitI c)) fun out h₁ dr₁ S af => ?_
  rw [S]
  refine ⟨af.ok.nolimit, by rw [ze17772548960776305114]; kernel_rfl, ?_⟩
  generalize t + tokOf out = t₁
  obtain ⟨n₁, hn₁⟩ := af.ok.size
  have ar2 : ArK 1 (A.under (cEqI2 (bitI c) u v)) := ark.under1 (by kernel_rfl)
  refine codeAny_enter (fun hc => by cases hc) ?_
  refine segFin hP ar2.weak af.ok hn₁ [] [] 0 20 low0 (by simp) trivial (lwQb w.params b1 b2 b3 n₁ t₁ u v c) fun out h₂ dr₂ S af₂ => ?_
  rw [S]
  exact ⟨af₂.ok.nolimit, hQ _ (But.trans af.but af₂.but) af₂.ok⟩
theorem eqZero (ark : ArK 2 A) (ok : Okay w.params h) {c : Bool} {u v : Nat} {R : Result → Shared → Prop} (hQ : ∀ s', But [] h s'.heap → OkS w.params g o s' → R (.ok (.ret (.bool (!c)))) s') : codeAny (model pw w) A (cEqZ (bitI c) u v) R ⟨h, g, dr, t, o⟩ := by
  obtain ⟨n, hn⟩ := ok.size
  obtain ⟨b1, b2, b3, hP⟩ := params_split w.params
  have ar1 : ArK 1 (A.under (cEqZ (bitI c) u v)) := ark.under1 (by kernel_rfl)
  refine codeAny_enter (fun hc => by cases hc) ?_
  refine segFin hP ar1.weak ok hn [] [] 0 20 low0 (by simp) trivial (lwQc w.params b1 b2 b3 n t u v (bitI c)) fun out h₁ dr₁ S af => ?_
  rw [S]
  refine ⟨af.ok.nolimit, by rw [ze17772548960776305114]; kernel_rfl, ?_⟩
  generalize t + tokOf out = t₁
  obtain ⟨n₁, hn₁⟩ := af.ok.size
  have ar2 : ArK 1 (A.under (cEqZ2 (bitI c) u v)) := ark.under1 (by kernel_rfl)
  refine codeAny_enter (fun hc => by cases hc) ?_
  refine segFin hP ar2.weak af.ok hn₁ [] [] 0 20 low0 (by simp) trivial (lwQd w.params b1 b2 b3 n₁ t₁ u v c) fun out h₂ dr₂ S af₂ => ?_
  rw [S]
  exact ⟨af₂.ok.nolimit, hQ _ (But.trans af.but af₂.but) af₂.ok⟩
theorem modQ_nat (x k : Nat) : Z.modQ (.ofNat x) (.ofNat k) = .ofNat (x % k) := by
  rw [← Z.modQ_eq]
  show Int.fmod (x : Int) (k : Int) = _
  rw [Int.fmod_eq_emod_of_nonneg _ (Int.natCast_nonneg _)]
  rfl
theorem bit_of (x : Nat) : (Int.ofNat (x % 2)) = bitI (x % 2 == 1) := by
  rcases Nat.mod_two_eq_zero_or_one x with h | h <;> rw [h] <;> rfl
theorem cmpEq (ark : ArK 13 A) (hu : A.units + 20 < cLine) (ok : Okay w.params h) {a b : Nat} {rows : List Row} (hr : rows.length ≤ 5) (ha : HdrIs w h a rows) {lb : List (List (Array UInt8))} (hb : (∃ rows', rows'.length ≤ 5 ∧ HdrIs w h b rows' ∧ lb = rows'.map f12 ∧ a ≠ b) ∨ (lb.length ≤ 1000 ∧ @LE.le Nat _ 258 b ∧ ListIs lb h b))
    {Q : Value → Shared → Prop} {E : Value → Shared → Prop} (hQ : ∀ s', But [] h s'.heap → OkS w.params g o s' → Q (.bool (decide (rows.map f12 = lb))) s') : wpAny (model pw w) A (compareOp .Eq (.ref a) (.ref b)) Q E ⟨h, g, dr, t, o⟩ := by
  show wpAny _ _ (richCompare .Eq (.ref a) (.ref b)) _ _ _
  rw [ze9423741818375054981, rich_eq, ← ze17359229931016689406, ← ze13383273872528276517, ← ze12456147031677567982]
  refine wpAny_holding (wpAny_bind (wpAny_cRoomFor (by omega) ?_))
  obtain ⟨b1, b2, b3, hP⟩ := params_split w.params
  obtain ⟨n, hn⟩ := ok.size
  obtain ⟨la, NH, hda, hNa⟩ := id ha
  obtain ⟨d, ea, _⟩ := id hda
  have main : ∀ (j : Bool) (d' NH' : Nat) (arr : Array Value) (ep : Nat), h.get? b = some (objB j d' NH' arr ep) → a ≠ b → @LE.le Nat _ 258 b → (∀ h', But [] h h' → Okay w.params h' → Listed w h' b lb) → wpAny (model pw w) A (richT .Eq (.ref a) (.ref b) ()) Q E ⟨h, g, dr, t, o⟩ := by
    intro j d' NH' arr ep eb hne lb' hL
    refine wpAny_valT (segCall hP ark.weak ok hn [a, b] [hdrO d NH, objB j d' NH' arr ep] 0 30 (low2 (Low.high la) (Low.high lb')) (by simp [hne]) ⟨ea, eb, trivial⟩ (lwCm w.params b1 b2 b3 n t a b d NH j d' NH' arr ep) fun out h₁ dr₁ hout S af => ?_)
    subst hout
    rw [S]
    have b₁ : But [] h h₁ := af.but
    refine eq138 (ark.less (by decide)) (by omega) af.ok (fun h' b' ok' => listedH ok' hr ((ha.keep b₁).keep b')) (fun h' b' ok' => hL h' (b₁.trans b') ok') fun s₂ b₂ ok₂ => ?_
    obtain ⟨h₂, g₂, dr₂, t₂, o₂⟩ := s₂
    obtain ⟨ok₂, rfl, rfl⟩ := ok₂
    obtain ⟨n₂, hn₂⟩ := ok₂.size
    refine segFin hP ark.weak ok₂ hn₂ [] [] 0 20 low0 (by simp) trivial (lwCn w.params b1 b2 b3 n t a b d NH j d' NH' arr ep n₂ t₂ _) fun out h₃ dr₃ S af₃ => ?_
    rw [S]
    exact hQ _ (b₁.trans (b₂.trans af₃.but)) af₃.ok
  rcases hb with ⟨rows', hr', hB, rfl, hne⟩ | ⟨hls, lb', hB⟩
  · obtain ⟨lb', NH', hdb, _⟩ := id hB
    obtain ⟨d', eb, _⟩ := id hdb
    exact main true d' NH' #[] 0 eb hne lb' (fun h' b' ok' => listedH ok' hr' (hB.keep b'))
  · obtain ⟨arr, aB, _⟩ := id hB
    obtain ⟨ep, eb⟩ := aB
    exact main false 0 0 arr ep eb (ne_cls ea eb (by simp [hdrO, lstO])) lb' (fun h' b' ok' => listedL ok' hls (hB.keep b'))
end
end Mine
end
section
open PySem PySem.W PySem.W.X PySem.Calls PyProof.Rows
set_option maxRecDepth 100000
set_option maxHeartbeats 400000
namespace Mine
open PySem.W.ZFast
def pInt (_ : Heap) (v : Value) (i : Int) : Prop := ∃ t, v = .int i t
def pAbs (_ : Heap) (v : Value) (i : Int) : Prop := ∃ t, v = .int (.ofNat i.natAbs) t
theorem six_of : ∀ (l : List Value) (is : List Int), All2 (pAbs heap0) l is → l.length ≤ 6 → ∃ k m u, k ≤ 6 ∧ k = l.length ∧ l = six k m u := by
  intro l is h hl
  have g : ∀ j (hj : j < l.length), ∃ x t, l[j] = .int (.ofNat x) t := by
    intro j hj
    have h2 := h.len
    obtain ⟨v, hv, t, e⟩ := h.at (k := j) (b := is[j]'(h2 ▸ hj)) (List.getElem?_eq_getElem (h2 ▸ hj))
    refine ⟨(is[j]'(h2 ▸ hj)).natAbs, t, ?_⟩
    have := List.getElem?_eq_getElem hj
    rw [hv] at this
    cases this
    exact e
  let m : Nat → Nat := fun j => match l[j]? with | some (.int i _) => i.toNat | _ => 0
  let u : Nat → Nat := fun j => match l[j]? with | some (.int _ t) => t | _ => 0
  have mu : ∀ j (hj : j < l.length), l[j] = .int (.ofNat (m j)) (u j) := by
    intro j hj
    obtain ⟨x, t, e⟩ := g j hj
    have e1 : l[j]? = some (.int (.ofNat x) t) := by rw [List.getElem?_eq_getElem hj, e]
    simp only [m, u, e1]
    exact e
  refine ⟨l.length, m, u, hl, rfl, ?_⟩
  have key : ∀ k, k ≤ 6 → (six k m u) = (List.range k).map fun j => Value.int (.ofNat (m j)) (u j) := by
    intro k hk
    obtain rfl | rfl | rfl | rfl | rfl | rfl | rfl : k = 0 ∨ k = 1 ∨ k = 2 ∨ k = 3 ∨ k = 4 ∨ k = 5 ∨ k = 6 := by omega
    all_goals rfl
  rw [key _ hl]
  refine List.ext_getElem (by simp) fun j h1 h2 => ?_
  simp [mu j h1]
section
variable {w : World} {A : Around} {Q : Flow → Shared → Prop} {E : Value → Shared → Prop} {h : Heap} {g : Array GenState} {dr : Drawn} {t : Nat} {o : OsState}
theorem absTurn {L it D : Nat} {item : Value} {i : Int} {l : List (Str × Value)} {Q : Value → Shared → Prop} (ar : Ar A) (ok : Okay w.params h) (lD : Low w.params D) (hq : ∃ q, l = kn1 sN q) (hD : DctAt h D l) (hp : pInt h item i)
    (hQ : ∀ v l' s', (∃ q, l' = kn1 sN q) → But [D] h s'.heap → OkS w.params g o s' → DctAt s'.heap D l' → pAbs s'.heap v i → Q v s') : wpAny (model pw w) A (takeEltZ (tgtC eL0) (.ref it) item (eltC eL0) (cenvF 257 eL0 L D)) Q E ⟨h, g, dr, t, o⟩ := by
  obtain ⟨q, rfl⟩ := hq
  obtain ⟨tv, rfl⟩ := hp
  obtain ⟨hs, tk, ep, hD⟩ := hD
  obtain ⟨n, hn⟩ := ok.size
  obtain ⟨b1, b2, b3, hP⟩ := params_split w.params
  refine wpAny_valT (segFin hP ar ok hn [D] [dctO hs tk ep (kn1 sN q)] 1 40 (low1 lD) (by simp) ⟨hD, trivial⟩ (lw0T w.params b1 b2 b3 n t L D it hs tk ep q i tv) fun out h' dr' S af => ?_)
  obtain ⟨hf, h0⟩ := S
  rw [hf]
  exact hQ _ _ _ ⟨_, rfl⟩ af.but af.ok ⟨_, _, _, af.get 0 _ h0⟩ ⟨_, rfl⟩
theorem law0 (ark : ArK 3 A) (ok : Okay w.params h) {L SC : Nat} {items : Array Value} {is : List Int} (hsz : items.size ≤ 1000) (lL : Low w.params L) (lS : Low w.params SC) (hL : LocAt h L [(sScript, .ref SC)]) (hS : h.IsList SC items) (hi : All2 (pInt heap0) items.toList is)
    (hQ : ∀ N k m u s', k ≤ 6 → But [L] h s'.heap → OkS w.params g o s' → @LE.le Nat _ 258 N → LocAt s'.heap L (locA SC N) → LstAt s'.heap N (six k m u).toArray → Q .next s') : wpAny (model pw w) A (execs [stL 0] (envF 257 L)) Q E ⟨h, g, dr, t, o⟩ := by
  have ar := ark.weak
  have hS0 := hS
  obtain ⟨hs, tk, ep, sl, hL⟩ := hL
  obtain ⟨⟨cS, dS, daS, slS⟩, hS, hcS, eps, hdS⟩ := hS
  simp only at hcS hdS
  subst hcS hdS
  obtain ⟨n, hn⟩ := ok.size
  obtain ⟨b1, b2, b3, hP⟩ := params_split w.params
  have nLS : L ≠ SC := ne_cls hL hS (by simp [frm])
  rw [execs_zf]
  refine wpAny_flowT (segCall hP ar ok hn [L, SC] [frm hs tk ep sl _, ⟨.type "list", dS, .seq items eps, slS⟩] 0 20 (low2 lL lS) (by simp [nLS]) ⟨hL, hS, trivial⟩ (lw0A w.params b1 b2 b3 n t L hs tk ep sl SC items eps dS slS) fun out h₁ dr₁ hout S af => ?_)
  subst hout
  obtain ⟨hc, h2⟩ := S
  rw [hc]
  have b₁ : But [] h h₁ := af.but
  refine sliceN af.ok (IsList.keepB hS0 b₁ (fun m => nomatch m)) (af.get 2 _ h2) hsz fun N s₂ b₂ ok₂ le2 a₂ => ?_
  obtain ⟨h₂, g₂, dr₂, t₂, o₂⟩ := s₂
  obtain ⟨ok₂, rfl, rfl⟩ := ok₂
  obtain ⟨n₂, hn₂⟩ := ok₂.size
  obtain ⟨epn, e₂⟩ := a₂
  have lN : Low w.params N := highOk af.ok le2
  refine segCall hP ar ok₂ hn₂ [N] [lstO _ epn] 0 30 (low1 lN) (by simp) ⟨e₂, trivial⟩ (lw0B w.params b1 b2 b3 n t L hs tk ep sl SC items eps dS slS n₂ t₂ N _ epn) fun out h₃ dr₃ hout S af₃ => ?_
  subst hout
  obtain ⟨hc, hnum, i1, l2, d3⟩ := S
  have hc := hc.trans (congrArg (fun z => Code.compStart z 0 (.ref (n₂ + 258)) (.ref (n₂ + 258 + 1)) (cenvF 257 eL0 L (n₂ + 258 + 2))) eL0_comp)
  rw [hc]
  have b₃ : But [] h₂ h₃ := af₃.but
  have B₃ : But [] h h₃ := b₁.trans (b₂.trans b₃)
  have lo : ∀ j, Low w.params (n₂ + 258 + j) := fun j => Low.high (by omega)
  have ltN := Heap.lt_size e₂
  have hne : n₂ + 258 + 1 ≠ N := fun e => by rw [hn₂, ← e] at ltN; exact absurd ltN (Nat.not_lt.mpr (Nat.le_succ _))
  have a₃ : LstAt h₃ N (items.toList.take 6).toArray := ⟨epn, b₃.keep _ _ e₂ (fun m => nomatch m)⟩
  have hi6 : All2 (pInt h₃) (items.toList.take 6) (is.take 6) := by
    have : ∀ (l : List Value) (m : List Int) (k : Nat), All2 (pInt heap0) l m → All2 (pInt h₃) (l.take k) (m.take k) := by
      intro l
      induction l with
      | nil => intro m k x; cases m with
        | nil => simp [All2]
        | cons => exact x.elim
      | cons a l ih => intro m k x; cases m with
        | nil => exact x.elim
        | cons b m => cases k with
          | zero => simp [All2]
          | succ k => exact ⟨x.1, ih m k x.2⟩
    exact this _ _ _ hi
  have sz : @LE.le Nat _ h.objs.size (n₂ + 258) := by have := (b₁.trans b₂).size; rw [hn₂] at this; exact this
  refine compG (DOK := fun l => ∃ q, l = kn1 sN q) (pin := pInt) (pout := pAbs) (cenv := fun D => cenvF 257 eL0 L D) (fun _ _ _ _ _ x => x) (fun _ _ _ _ _ x => x) (fun ar ok li lD hq hD hp hi hQ => absTurn ar ok lD hq hD hp hQ) ar af₃.ok (is := is.take 6) (by rw [List.length_take]; omega) ⟨none, rfl⟩ (lo 0) (lo 1) (lo 2) (by rw [af₃.size, hnum]) (af₃.get 1 _ i1) a₃.isList (by rw [List.toList_toArray]; exact hi6) ⟨_, af₃.get 2 _ l2⟩ ⟨_, _, _, af₃.get 3 _ d3⟩ hne fun arr' l s₄ hq b₄ ok₄ d₄ a₄ p₄ => ?_
  obtain ⟨q, rfl⟩ := hq
  obtain ⟨hs', tk', ep', d₄⟩ := d₄
  obtain ⟨h₄, g₄, dr₄, t₄, o₄⟩ := s₄
  obtain ⟨ok₄, rfl, rfl⟩ := ok₄
  obtain ⟨n₄, hn₄⟩ := ok₄.size
  have ltL : @LT.lt Nat _ L h.objs.size := Heap.lt_size hL
  have nLj : ∀ j, L ≠ n₂ + 258 + j := fun j => Nat.ne_of_lt (Nat.lt_of_lt_of_le ltL (Nat.le_trans sz (Nat.le_add_right _ _)))
  have nLD := nLj 2
  have L₄ : h₄.get? L = some _ := b₄.keep _ _ (B₃.keep _ _ hL (fun m => nomatch m)) (by
    simp only [List.mem_cons, List.not_mem_nil, or_false, not_or]
    exact ⟨nLj 0, nLj 2, nLj 1⟩)
  refine segFin hP ar ok₄ hn₄ [L, n₂ + 258 + 2] [frm hs tk ep sl _, dctO hs' tk' ep' (kn1 sN q)] 2 30 (low2 lL (lo 2)) (by simp [nLD]) ⟨L₄, d₄, trivial⟩ (lw0Z w.params b1 b2 b3 n t L hs tk ep sl SC items eps dS slS n₂ t₂ N _ epn n₄ t₄ hs' tk' ep' q) fun out h₅ dr₅ S af₅ => ?_
  obtain ⟨hf, h0⟩ := S
  rw [hf]
  have b₅ : But [L, n₂ + 258 + 2] h₄ h₅ := af₅.but
  have hlen6 : arr'.toList.length ≤ 6 := by have := p₄.len; rw [List.length_take] at this; omega
  obtain ⟨k, m, u, hk, _, e6⟩ := six_of arr'.toList _ p₄ hlen6
  have a₅ : LstAt h₅ (n₂ + 258 + 1) arr' := a₄.keep b₅ (by simp only [List.mem_cons, List.not_mem_nil, or_false, not_or]; exact ⟨(nLj 1).symm, by omega⟩)
  rw [show arr' = (six k m u).toArray from by rw [← e6]] at a₅
  refine hQ (n₂ + 258 + 1) k m u _ hk ?_ af₅.ok (by omega) ⟨_, _, _, _, af₅.get 0 _ h0⟩ a₅
  refine ⟨fun x ox ex nx => b₅.keep _ _ (b₄.keep _ _ (B₃.keep _ _ ex (fun m => nomatch m)) ?_) ?_, Nat.le_trans B₃.size (Nat.le_trans b₄.size b₅.size)⟩
  · intro mm
    have := Heap.lt_size ex
    simp only [List.mem_cons, List.not_mem_nil, or_false] at mm
    have q1 : @LE.le Nat _ h.objs.size x := by rcases mm with rfl | rfl | rfl <;> first | exact sz | exact Nat.le_trans sz (Nat.le_add_right _ _)
    exact absurd this (Nat.not_lt.mpr q1)
  · intro mm
    simp only [List.mem_cons, List.not_mem_nil, or_false] at mm
    rcases mm with rfl | rfl
    · exact nx (by simp)
    · exact absurd (Heap.lt_size ex) (Nat.not_lt.mpr (Nat.le_trans sz (Nat.le_add_right _ _)))
end
end Mine
end
section
open PySem PySem.W PySem.W.X PySem.Calls PyProof.Rows
set_option maxRecDepth 100000
set_option maxHeartbeats 400000
namespace Mine
open PySem.W.ZFast
def PoolAt (h : Heap) : Prop := ∀ i : Nat, i < 16 → ∃ t1 t2 ep, h.get? (214 + i : Nat) = some (tupO [.bytes (bts (itm i).1) t1, .bytes (bts (itm i).2) t2] ep)
theorem PoolAt.keep {h h' : Heap} {ds : List Nat} (x : PoolAt h) (b : But ds h h') (hd : ∀ a ∈ ds, @LE.le Nat _ 258 a) : PoolAt h' := fun i hi => by
  obtain ⟨t1, t2, ep, e⟩ := x i hi
  refine ⟨t1, t2, ep, b.keep _ _ e fun m => ?_⟩
  have : @LE.le Nat _ 258 (214 + i) := hd _ m
  exact absurd this (by omega)
theorem six_len (m u : Nat → Nat) : ∀ k, k ≤ 6 → (six k m u).length = k := by
  intro k hk
  obtain rfl | rfl | rfl | rfl | rfl | rfl | rfl : k = 0 ∨ k = 1 ∨ k = 2 ∨ k = 3 ∨ k = 4 ∨ k = 5 ∨ k = 6 := by omega
  all_goals rfl
theorem six_all (m u : Nat → Nat) : ∀ k, k ≤ 6 → All2 (fun v (x : Nat) => ∃ t, v = .int (.ofNat x) t) (six k m u) ((List.range k).map m) := by
  intro k hk
  obtain rfl | rfl | rfl | rfl | rfl | rfl | rfl : k = 0 ∨ k = 1 ∨ k = 2 ∨ k = 3 ∨ k = 4 ∨ k = 5 ∨ k = 6 := by omega
  all_goals simp [six, List.range, List.range.loop, All2]
section
variable {w : World} {A : Around} {Q : Flow → Shared → Prop} {E : Value → Shared → Prop} {h : Heap} {g : Array GenState} {dr : Drawn} {t : Nat} {o : OsState}
theorem law1 (ark : ArK 3 A) (hu : A.units + 1 < cLine) (ok : Okay w.params h) {L SC N k : Nat} {m u : Nat → Nat} (hk : k ≤ 6) (lL : Low w.params L) (lN : Low w.params N) (hL : LocAt h L (locA SC N)) (hN : LstAt h N (six k m u).toArray)
    (hQ : ∀ x tx s', But [L] h s'.heap → OkS w.params g o s' → LocAt s'.heap L (locB SC N (.int (.ofNat x) tx)) → Q .next s') : wpAny (model pw w) A (execs [stL 1] (envF 257 L)) Q E ⟨h, g, dr, t, o⟩ := by
  have ar := ark.weak
  have hL0 := hL
  obtain ⟨hs, tk, ep, sl, hL⟩ := hL
  obtain ⟨n, hn⟩ := ok.size
  obtain ⟨b1, b2, b3, hP⟩ := params_split w.params
  have nLN : L ≠ N := by obtain ⟨_, e⟩ := hN; exact ne_cls hL e (by simp [frm, lstO])
  have store : ∀ (x tx : Nat) (s₁ : Shared), But [] h s₁.heap → OkS w.params g o s₁ → wpAny (model pw w) A (storeName (envF 257 L) sFirst (.int (.ofNat x) tx)) (fun _ => Q .next) E s₁ := by
    intro x tx s₁ b₁ ok₁
    obtain ⟨h₁, g₁, dr₁, t₁, o₁⟩ := s₁
    obtain ⟨ok₁, rfl, rfl⟩ := ok₁
    obtain ⟨n₁, hn₁⟩ := ok₁.size
    have l₁ := b₁.keep _ _ hL (fun m => nomatch m)
    refine wpAny_storeZ (wpAny_unitT (segFin hP ar ok₁ hn₁ [L] [frm hs tk ep sl _] 1 20 (low1 lL) (by simp) ⟨l₁, trivial⟩ (lw1S w.params b1 b2 b3 n₁ t₁ L hs tk ep sl SC N (.int (.ofNat x) tx)) fun out h₂ dr₂ S af => ?_))
    exact hQ x tx _ (b₁.nil.trans af.but) af.ok ⟨_, _, _, _, af.get 0 _ S⟩
  refine wpAny_execs_at ?_
  rw [stL1_eq]
  refine wpAny_Assign_Name ?_ (by kernel_rfl)
  refine wpAny_IfExp (testNil hu ?_)
  rw [eval_zf]
  refine wpAny_valT (segFin hP ar ok hn [L] [frm hs tk ep sl _] 0 10 (low1 lL) (by simp) ⟨hL, trivial⟩ (lw1L w.params b1 b2 b3 n t L hs tk ep sl SC N) fun out h₁ dr₁ S af => ?_)
  rw [S]
  have b₁ : But [] h h₁ := af.but
  refine ⟨N, _, rfl, af.ok, hN.keep b₁ (fun m => nomatch m), fun s₂ b₂ ok₂ => ?_⟩
  have b02 := b₁.trans b₂
  obtain ⟨h₂, g₂, dr₂, t₂, o₂⟩ := s₂
  obtain ⟨ok₂, rfl, rfl⟩ := ok₂
  obtain ⟨n₂, hn₂⟩ := ok₂.size
  by_cases k0 : k = 0
  · subst k0
    simp only [six, List.isEmpty_nil, Bool.not_true, Bool.false_eq_true, if_false]
    rw [eval_zf]
    refine wpAny_valT (segFin hP ar ok₂ hn₂ [] [] 0 10 low0 (by simp) trivial (lw1E w.params b1 b2 b3 n₂ t₂ L) fun out h₃ dr₃ S af₃ => ?_)
    rw [S]
    exact wpAny_mono (store 1 _ _ (b02.trans af₃.but) af₃.ok) (fun _ s' x => wpAny_execs_nil x) fun _ _ x => x
  · have hk' : k = 1 ∨ k = 2 ∨ k = 3 ∨ k = 4 ∨ k = 5 ∨ k = 6 := by omega
    have hne : (!(six k m u).isEmpty) = true := by rcases hk' with rfl | rfl | rfl | rfl | rfl | rfl <;> rfl
    rw [show ((six k m u).toArray.toList) = six k m u from rfl, hne]
    simp only [if_true]
    rw [eval_zf]
    obtain ⟨epn, eN⟩ := hN.keep b02 (fun m => nomatch m)
    refine wpAny_valT (segFin hP ar ok₂ hn₂ [L, N] [frm hs tk ep sl _, lstO _ epn] 0 30 (low2 lL lN) (by simp [nLN]) ⟨b02.keep _ _ hL (fun m => nomatch m), eN, trivial⟩ (lw1N w.params b1 b2 b3 n₂ t₂ L hs tk ep sl SC N k hk' m u epn) fun out h₃ dr₃ S af₃ => ?_)
    rw [S]
    exact wpAny_mono (store _ _ _ (b02.trans af₃.but) af₃.ok) (fun _ s' x => wpAny_execs_nil x) fun _ _ x => x
theorem poolTurn {L it D : Nat} {item : Value} {x : Nat} {l : List (Str × Value)} {Q : Value → Shared → Prop} (ar : Ar A) (ok : Okay w.params h) (lD : Low w.params D) (hq : ∃ q, l = kn1 sN q) (hD : DctAt h D l) (hp : ∃ t, item = .int (.ofNat x) t)
    (hQ : ∀ v l' s', (∃ q, l' = kn1 sN q) → But [D] h s'.heap → OkS w.params g o s' → DctAt s'.heap D l' → v = .ref (214 + x % 16) → Q v s') : wpAny (model pw w) A (takeEltZ (tgtC eL2c) (.ref it) item (eltC eL2c) (cenvF 257 eL2c L D)) Q E ⟨h, g, dr, t, o⟩ := by
  obtain ⟨q, rfl⟩ := hq
  obtain ⟨tv, rfl⟩ := hp
  obtain ⟨hs, tk, ep, hD⟩ := hD
  obtain ⟨n, hn⟩ := ok.size
  obtain ⟨b1, b2, b3, hP⟩ := params_split w.params
  refine wpAny_valT (segCall hP ar ok hn [D] [dctO hs tk ep (kn1 sN q)] 1 40 (low1 lD) (by simp) ⟨hD, trivial⟩ (lw2t w.params b1 b2 b3 n t L D it hs tk ep q x tv) fun out h₁ dr₁ hout S af => ?_)
  subst hout
  obtain ⟨hc, h0⟩ := S
  have e : Z.modQ (.ofNat x) 16 = .ofNat (x % 16) := modQ_nat x 16
  rw [e] at hc
  rw [hc]
  have b₁ : But [D] h h₁ := af.but
  have d₁ : DctAt h₁ D _ := ⟨_, _, _, af.get 0 _ h0⟩
  refine poolN ar af.ok (Nat.mod_lt _ (by decide)) fun s₂ b₂ ok₂ => ?_
  obtain ⟨h₂, g₂, dr₂, t₂, o₂⟩ := s₂
  obtain ⟨ok₂, rfl, rfl⟩ := ok₂
  obtain ⟨n₂, hn₂⟩ := ok₂.size
  refine segFin hP ar ok₂ hn₂ [] [] 0 20 low0 (by simp) trivial (lw2u w.params b1 b2 b3 n t n₂ t₂ L D it hs tk ep q x tv _) fun out h₃ dr₃ S af₃ => ?_
  rw [S]
  have b₃ : But [] h₂ h₃ := af₃.but
  exact hQ _ _ _ ⟨_, rfl⟩ (b₁.trans (b₂.trans b₃).nil) af₃.ok ((d₁.keep b₂ (fun m => nomatch m)).keep b₃ (fun m => nomatch m)) rfl
theorem poolItem {P : Params} {h : Heap} (pool : PoolAt h) (x : Nat) : ItemAt P h (.ref (214 + x % 16)) (x % 16) := by
  have hx : x % 16 < 16 := Nat.mod_lt _ (by decide)
  obtain ⟨t1, t2, ep, e⟩ := pool _ hx
  exact ⟨by omega, 214 + x % 16, t1, t2, ep, rfl, Low.pool (by omega) (by omega), e⟩
theorem law2 (ark : ArK 3 A) (ok : Okay w.params h) (pool : PoolAt h) {L SC N k : Nat} {m u : Nat → Nat} {f : Value} (hk : k ≤ 6) (lL : Low w.params L) (l258 : @LE.le Nat _ 258 L) (lN : Low w.params N) (hL : LocAt h L (locB SC N f)) (hN : LstAt h N (six k m u).toArray)
    (hQ : ∀ R arr is s', But [L] h s'.heap → OkS w.params g o s' → @LE.le Nat _ 258 R → LocAt s'.heap L (locC SC N f R) → LstAt s'.heap R arr → All2 (ItemAt w.params s'.heap) arr.toList is → is.length ≤ 5 → (∀ i ∈ is, i < 16) → Q .next s') : wpAny (model pw w) A (execs [stL 2] (envF 257 L)) Q E ⟨h, g, dr, t, o⟩ := by
  have ar := ark.weak
  obtain ⟨hs, tk, ep, sl, hL⟩ := hL
  obtain ⟨n, hn⟩ := ok.size
  obtain ⟨b1, b2, b3, hP⟩ := params_split w.params
  obtain ⟨epn, hN⟩ := hN
  have nLN : L ≠ N := ne_cls hL hN (by simp [frm, lstO])
  have store : ∀ (R : Nat) (s₁ : Shared) arr is, But [] h s₁.heap → OkS w.params g o s₁ → @LE.le Nat _ 258 R → LstAt s₁.heap R arr → All2 (ItemAt w.params s₁.heap) arr.toList is → is.length ≤ 5 → (∀ i ∈ is, i < 16) → wpAny (model pw w) A (storeName (envF 257 L) sRows (.ref R)) (fun _ s' => wpAny (model pw w) A (execs [] (envF 257 L)) Q E s') E s₁ := by
    intro R s₁ arr is b₁ ok₁ lR aR pR hlen h16
    obtain ⟨h₁, g₁, dr₁, t₁, o₁⟩ := s₁
    obtain ⟨ok₁, rfl, rfl⟩ := ok₁
    obtain ⟨n₁, hn₁⟩ := ok₁.size
    have l₁ := b₁.keep _ _ hL (fun m => nomatch m)
    refine wpAny_storeZ (wpAny_unitT (segFin hP ar ok₁ hn₁ [L] [frm hs tk ep sl _] 1 20 (low1 lL) (by simp) ⟨l₁, trivial⟩ (lw2S w.params b1 b2 b3 n₁ t₁ L hs tk ep sl SC N f (.ref R)) fun out h₂ dr₂ S af => ?_))
    refine wpAny_execs_nil ?_
    have b₂ : But [L] h₁ h₂ := af.but
    have t₂ : TupK h₁ h₂ := TupK.of b₂ (fun a m => by rw [List.mem_singleton.mp m]; exact ⟨_, l₁, by simp [frm]⟩)
    have nLR : L ≠ R := by obtain ⟨_, e⟩ := aR; exact ne_cls l₁ e (by simp [frm, lstO])
    refine hQ R arr is _ (b₁.nil.trans b₂) af.ok lR ⟨_, _, _, _, af.get 0 _ S⟩ (aR.keep b₂ (by simpa using nLR.symm)) (pR.imp fun v i x => ?_) hlen h16
    obtain ⟨hi, p, t1, t2, epp, e, lp, ep'⟩ := x
    exact ⟨hi, p, t1, t2, epp, e, lp, t₂ _ _ ep' rfl⟩
  refine wpAny_execs_at ?_
  rw [stL2_eq]
  refine wpAny_Assign_Name ?_ (by kernel_rfl)
  refine wpAny_IfExp ?_
  rw [isTrue_zf]
  have hk7 : k = 0 ∨ k = 1 ∨ k = 2 ∨ k = 3 ∨ k = 4 ∨ k = 5 ∨ k = 6 := by omega
  refine wpAny_boolT (segFin hP ar ok hn [L, N] [frm hs tk ep sl _, lstO _ epn] 0 40 (low2 lL lN) (by simp [nLN]) ⟨hL, hN, trivial⟩ (lw2T w.params b1 b2 b3 n t L hs tk ep sl SC N f k hk7 m u epn) fun out h₁ dr₁ S af => ?_)
  rw [S]
  have b₁ : But [] h h₁ := af.but
  obtain ⟨n₁, hn₁⟩ := af.ok.size
  by_cases k2 : k ≤ 1
  · have e : Nat.blt 1 k = false := by rcases hk7 with rfl | rfl | rfl | rfl | rfl | rfl | rfl <;> first | rfl | omega
    rw [e]
    simp only [bfin, Bool.false_eq_true, if_false]
    rw [eval_zf]
    refine wpAny_valT (segFin hP ar af.ok hn₁ [] [] 0 30 low0 (by simp) trivial (lw2E w.params b1 b2 b3 n₁ _ L) fun out h₂ dr₂ S af₂ => ?_)
    obtain ⟨hf, t0, t1, l2⟩ := S
    rw [hf]
    refine store (n₁ + 258 + 2) _ #[.ref (n₁ + 258), .ref (n₁ + 258 + 1)] [0, 6] (b₁.trans af₂.but) af₂.ok (by omega) ⟨_, af₂.get 2 _ l2⟩ ?_ (by decide) (by decide)
    exact ⟨⟨by decide, _, _, _, _, rfl, Low.high (by omega), af₂.get 0 _ t0⟩, ⟨by decide, _, _, _, _, rfl, Low.high (by omega), af₂.get 1 _ t1⟩, trivial⟩
  · have hk5 : k = 2 ∨ k = 3 ∨ k = 4 ∨ k = 5 ∨ k = 6 := by omega
    have e : Nat.blt 1 k = true := by rcases hk5 with rfl | rfl | rfl | rfl | rfl <;> rfl
    rw [e]
    simp only [bfin, if_true]
    rw [eval_zf]
    have L₁ := b₁.keep _ _ hL (fun m => nomatch m)
    have N₁ := b₁.keep _ _ hN (fun m => nomatch m)
    generalize t + tokOf out = t₁
    refine wpAny_valT (segCall hP ar af.ok hn₁ [L, N] [frm hs tk ep sl _, lstO _ epn] 0 50 (low2 lL lN) (by simp [nLN]) ⟨L₁, N₁, trivial⟩ (lw2P w.params b1 b2 b3 n₁ t₁ L hs tk ep sl SC N f k hk5 m u epn) fun out h₂ dr₂ hout S af₂ => ?_)
    subst hout
    obtain ⟨hc, hnum, l3, i4, l5, d6⟩ := S
    have hc := hc.trans (congrArg (fun z => Code.compStart z 0 (.ref (n₁ + 258 + 2)) (.ref (n₁ + 258 + 3)) (cenvF 257 eL2c L (n₁ + 258 + 4))) eL2_comp)
    rw [hc]
    have b₂ : But [] h₁ h₂ := af₂.but
    have lo : ∀ j, Low w.params (n₁ + 258 + j) := fun j => Low.high (by omega)
    have a₂ : LstAt h₂ (n₁ + 258 + 1) (six (k - 1) (fun j => m (j + 1)) (fun j => u (j + 1))).toArray := ⟨_, af₂.get 3 _ l3⟩
    refine compG (DOK := fun l => ∃ q, l = kn1 sN q) (ι := Nat) (pin := fun _ v x => ∃ t, v = .int (.ofNat x) t) (pout := fun _ v x => v = .ref (214 + x % 16)) (cenv := fun D => cenvF 257 eL2c L D) (fun _ _ _ _ _ x => x) (fun _ _ _ _ _ x => x)
      (fun ar ok li lD hq hD hp hi hQ => poolTurn ar ok lD hq hD hp hQ) ar af₂.ok (is := (List.range (k - 1)).map fun j => m (j + 1)) (by simp; omega) ⟨none, rfl⟩ (lo 2) (lo 3) (lo 4) (by rw [af₂.size, hnum]) (af₂.get 4 _ i4) a₂.isList (six_all (fun j => m (j + 1)) (fun j => u (j + 1)) (k - 1) (by omega)) ⟨_, af₂.get 5 _ l5⟩ ⟨_, _, _, af₂.get 6 _ d6⟩ (by omega) fun arr' l s₃ hq b₃ ok₃ d₃ a₃ p₃ => ?_
    · obtain ⟨q, rfl⟩ := hq
      obtain ⟨hs', tk', ep', d₃⟩ := d₃
      obtain ⟨h₃, g₃, dr₃, t₃, o₃⟩ := s₃
      obtain ⟨ok₃, rfl, rfl⟩ := ok₃
      obtain ⟨n₃, hn₃⟩ := ok₃.size
      refine segFin hP ar ok₃ hn₃ [n₁ + 258 + 4] [dctO hs' tk' ep' (kn1 sN q)] 1 20 (low1 (lo 4)) (by simp) ⟨d₃, trivial⟩ (lw2Z w.params b1 b2 b3 n₁ t₁ L hs tk ep sl SC N f k hk5 m u epn n₃ t₃ hs' tk' ep' q) fun out h₄ dr₄ S af₄ => ?_
      rw [S]
      have b₄ : But [n₁ + 258 + 4] h₃ h₄ := af₄.but
      have sz : @LE.le Nat _ h.objs.size (n₁ + 258) := by have := b₁.size; rw [hn₁] at this; exact this
      have B : But [] h h₄ := ((b₁.trans b₂).fresh b₃ (fun x mm => by simp only [List.mem_cons, List.not_mem_nil, or_false] at mm; rcases mm with rfl | rfl | rfl <;> exact Nat.le_trans sz (Nat.le_add_right _ _))).fresh b₄ (fun x mm => by rw [List.mem_singleton.mp mm]; exact Nat.le_trans sz (Nat.le_add_right _ _))
      have pool₄ : PoolAt h₄ := pool.keep B (fun a m => nomatch m)
      refine store (n₁ + 258 + 3) _ arr' ((List.range (k - 1)).map fun j => m (j + 1) % 16) B af₄.ok (by omega) (a₃.keep b₄ (by simp)) ?_ (by simp; omega) (by simp only [List.mem_map]; rintro i ⟨j, _, rfl⟩; exact Nat.mod_lt _ (by decide))
      have := (p₃.imp (q := fun v x => ItemAt w.params h₄ v (x % 16)) fun v x e => by subst e; exact poolItem pool₄ x).map (f := fun x => x % 16) (p := ItemAt w.params h₄)
      rw [List.map_map] at this
      exact this
end
end Mine
end
section
open PySem PySem.W PySem.W.X PySem.Calls PyProof.Rows
set_option maxRecDepth 100000
set_option maxHeartbeats 400000
namespace Mine
open PySem.W.ZFast
theorem neLst {A : Around} {s : Shared} {x y : Nat} {ls : List (List (Array UInt8))} (hx : ListIs ls s.heap x) (hy : ListIs ls s.heap y) (hu : A.units + 1 < cLine) : SeqAt.RcNeAt A s (.ref x) (.ref y) false := by
  obtain ⟨arr, hx, px⟩ := hx
  obtain ⟨arr', hy, py⟩ := hy
  have l1 := px.len
  have l2 := py.len
  simp only [Array.length_toList] at l1 l2
  have hs : arr.size = arr'.size := by omega
  have := SeqAt.RcNeAt.lists (A := A) (s := s) (e := fun _ => true) hx.isList hy.isList hs (Nat.lt_of_succ_lt hu) (fun j h1 h2 => ?_)
  · rw [show (List.range arr.size).all (fun _ => true) = true from List.all_eq_true.mpr (fun _ _ => rfl)] at this
    exact this
  · obtain ⟨v, hv, p⟩ := px.at (k := j) (List.getElem?_eq_getElem (by omega))
    obtain ⟨v', hv', p'⟩ := py.at (k := j) (List.getElem?_eq_getElem (by omega))
    have e1 : arr[j] = v := by have := Array.getElem?_toList (xs := arr) (i := j); rw [hv] at this; simpa [h1] using this.symm
    have e2 : arr'[j] = v' := by have := Array.getElem?_toList (xs := arr') (i := j); rw [hv'] at this; simpa [h2] using this.symm
    rw [e1, e2]
    have := eqTup (A := A.in1) p p' hu
    rw [decide_eq_true rfl] at this
    exact this
theorem hdrIs_of {w : World} {h : Heap} {lo : Nat} (hlo : @LE.le Nat _ 258 lo) {F NH : Nat} {arr : Array Value} {r : List Nat} (hF : @LE.le Nat _ lo F) (hN : @LE.le Nat _ lo NH) (hd : HdrAt h F NH) (ln : LstAt h NH arr) (hT : All2 (ToldAt h lo) arr.toList r) : HdrIs w h F (r.map rowI) :=
  ⟨Nat.le_trans hlo hF, NH, hd, ⟨Nat.le_trans hlo hN, arr, ln, All2.map (hT.imp fun v i x => toldRow hlo x)⟩⟩
theorem RowsAt.keep1 {w : World} {h h' : Heap} {R : Nat} {rows : List Row} {L : Nat} {oL : Obj} (x : RowsAt w h R rows) (b : But [L] h h') (eL : h.get? L = some oL) (hc : oL.cls ≠ .type "tuple" ∧ oL.cls ≠ .type "list") : RowsAt w h' R rows := by
  obtain ⟨l, arr, a, p⟩ := x
  have t : TupK h h' := TupK.of b (fun a m => by rw [List.mem_singleton.mp m]; exact ⟨_, eL, hc.1⟩)
  refine ⟨l, arr, a.keep b ?_, p.imp fun _ _ y => pRow_keep _ _ _ _ t y⟩
  intro m
  rw [List.mem_singleton.mp m] at a
  obtain ⟨_, e⟩ := a
  rw [eL] at e
  cases e
  exact hc.2 rfl
theorem HdrIs.keep1 {w : World} {h h' : Heap} {F : Nat} {rows : List Row} {L : Nat} {oL : Obj} (x : HdrIs w h F rows) (b : But [L] h h') (eL : h.get? L = some oL) (hc : oL.cls = .type "frame") : HdrIs w h' F rows := by
  obtain ⟨l, NH, ⟨d, e, ld, p, q, r, e'⟩, hr⟩ := x
  have nF : F ∉ [L] := by simpa using ne_cls e eL (by rw [hc]; simp [hdrO])
  have nd : d ∉ [L] := by simpa using ne_cls e' eL (by rw [hc]; simp [dctO])
  exact ⟨l, NH, ⟨d, b.keep _ _ e nF, ld, p, q, r, b.keep _ _ e' nd⟩, hr.keep1 b eL (by rw [hc]; simp)⟩
theorem fold_host (c : Bool) : fold (!c) [16] none false = .ok [16] := by cases c <;> rfl
section
variable {w : World} {A : Around} {Q : Flow → Shared → Prop} {E : Value → Shared → Prop} {h : Heap} {g : Array GenState} {dr : Drawn} {t : Nat} {o : OsState}
theorem law3 (ark : ArK 10 A) (ok : Okay w.params h) {fl : List Env} (hfr : A.frames = some fl) (live : h.FunFrames heap0 fl) (lF : ∀ a ∈ frames fl, Low w.params a) {L SC N R x tx : Nat} (lL : Low w.params L) (hL : LocAt h L (locC SC N (.int (.ofNat x) tx) R))
    (hQ : ∀ M s', But [L] h s'.heap → OkS w.params g o s' → LocAt s'.heap L (locD SC N (.int (.ofNat x) tx) R M) → HdrIs w s'.heap M [rowI 16] → Q .next s') : wpAny (model pw w) A (execs [stL 3] (envF 257 L)) Q E ⟨h, g, dr, t, o⟩ := by
  have ar := ark.weak
  obtain ⟨hs, tk, ep, sl, hL⟩ := hL
  obtain ⟨n, hn⟩ := ok.size
  obtain ⟨b1, b2, b3, hP⟩ := params_split w.params
  rw [execs_zf]
  refine wpAny_flowT (segCall hP ar ok hn [L] [frm hs tk ep sl _] 0 40 (low1 lL) (by simp) ⟨hL, trivial⟩ (lw3A w.params b1 b2 b3 n t L hs tk ep sl SC N x tx R) fun out h₁ dr₁ hout S af => ?_)
  subst hout
  obtain ⟨hc, t1, l2⟩ := S
  have e : Z.modQ (.ofNat x) 2 = bitI (x % 2 == 1) := by rw [← bit_of]; exact modQ_nat x 2
  rw [e] at hc
  rw [hc]
  have b₁ : But [] h h₁ := af.but
  refine eqOne (ark.less (by decide)) af.ok fun s₂ b₂ ok₂ => ?_
  obtain ⟨h₂, g₂, dr₂, t₂, o₂⟩ := s₂
  obtain ⟨ok₂, rfl, rfl⟩ := ok₂
  obtain ⟨n₂, hn₂⟩ := ok₂.size
  refine segCall hP ar ok₂ hn₂ [] [] 0 20 low0 (by simp) trivial (lw3B w.params b1 b2 b3 n t L hs tk ep sl SC N x tx R n₂ t₂ (x % 2 == 1)) fun out h₃ dr₃ hout S af₃ => ?_
  subst hout
  rw [S]
  have b₃ : But [] h₂ h₃ := af₃.but
  have B₃ : But [] h h₃ := b₁.trans (b₂.trans b₃)
  have b13 : But [] h₁ h₃ := b₂.trans b₃
  have a₃ : LstAt h₃ (n + 258 + 1) #[.ref (n + 258)] := ⟨_, b13.keep _ _ (af.get 2 _ l2) (fun m => nomatch m)⟩
  have it₃ : All2 (ItemAt w.params h₃) [.ref (n + 258)] [16] := ⟨⟨by decide, _, _, _, _, rfl, Low.high (by omega), b13.keep _ _ (af.get 1 _ t1) (fun m => nomatch m)⟩, trivial⟩
  refine nvN (ark.less (by decide)) af₃.ok (B := h₃) (outer := fl) (kw := some (x % 2 == 1)) (is := [16]) (by decide) (iters_list a₃.isList it₃) af₃.ok lF ⟨hfr, FunFrames.but live B₃ (fun _ _ m => nomatch m), .refl _ _⟩ (fun r hr F NH arr s₄ hF hN b₄ ok₄ hd ln hT => ?_) (fun hint hr e s₄ tc x₄ => ?_)
  · have hr' : fold (!(x % 2 == 1)) [16] none false = .ok r := hr
    rw [fold_host] at hr'
    cases hr'
    obtain ⟨h₄, g₄, dr₄, t₄, o₄⟩ := s₄
    obtain ⟨ok₄, rfl, rfl⟩ := ok₄
    obtain ⟨n₄, hn₄⟩ := ok₄.size
    have L₄ := b₄.keep _ _ (B₃.keep _ _ hL (fun m => nomatch m)) (fun m => nomatch m)
    refine segFin hP ar ok₄ hn₄ [L] [frm hs tk ep sl _] 1 30 (low1 lL) (by simp) ⟨L₄, trivial⟩ (lw3C w.params b1 b2 b3 n t L hs tk ep sl SC N x tx R n₂ t₂ (x % 2 == 1) n₄ t₄ F hs tk ep sl) fun out h₅ dr₅ S af₅ => ?_
    obtain ⟨hf, h0⟩ := S
    rw [hf]
    have b₅ : But [L] h₄ h₅ := af₅.but
    have hz : @LE.le Nat _ 258 h₃.objs.size := af₃.ok.s258
    have H₄ : HdrIs w h₄ F [rowI 16] := hdrIs_of hz hF hN hd ln hT
    refine hQ F _ ((B₃.trans b₄).nil.trans b₅) af₅.ok ⟨_, _, _, _, af₅.get 0 _ h0⟩ ?_
    exact HdrIs.keep1 H₄ b₅ L₄ rfl
  · have hr' : fold (!(x % 2 == 1)) [16] none false = .error hint := hr
    rw [fold_host] at hr'
    cases hr'
theorem law4 (ark : ArK 10 A) (hu : A.units + 1 < cLine) (ok : Okay w.params h) {L SC N R M : Nat} {f : Value} (lL : Low w.params L) (hL : LocAt h L (locD SC N f R M)) (hM : HdrIs w h M [rowI 16])
    (hQ : ∀ s', But [] h s'.heap → OkS w.params g o s' → Q .next s') : wpAny (model pw w) A (execs [stL 4] (envF 257 L)) Q E ⟨h, g, dr, t, o⟩ := by
  have ar := ark.weak
  obtain ⟨hs, tk, ep, sl, hL⟩ := hL
  obtain ⟨n, hn⟩ := ok.size
  obtain ⟨b1, b2, b3, hP⟩ := params_split w.params
  obtain ⟨lM, NH, hd, hN⟩ := hM
  obtain ⟨lN, arr, aN, pN⟩ := hN
  have hd0 := hd
  obtain ⟨d, eM, ld, hs', tk', ep', eD⟩ := hd
  have n1 : L ≠ M := ne_cls hL eM (by simp [frm, hdrO])
  have n2 : L ≠ d := ne_cls hL eD (by simp [frm, dctO])
  have n3 : M ≠ d := ne_cls eM eD (by simp [hdrO, dctO])
  refine wpAny_execs_at ?_
  rw [stL4_eq]
  refine wpAny_If (wpAny_isTrue_Compare1 ?_ (neMarks _))
  rw [eval_zf]
  refine wpAny_valT (segCall hP ar ok hn [L, M, d] [frm hs tk ep sl _, hdrO d NH, dctO hs' tk' ep' []] 0 40 (low3 lL (Low.high lM) (Low.high ld)) (by simp [n1, n2, n3]) ⟨hL, eM, eD, trivial⟩ (lw4L w.params b1 b2 b3 n t L hs tk ep sl SC N f R M d NH hs' tk' ep') fun out h₁ dr₁ hout S af => ?_)
  subst hout
  rw [S]
  have b₁ : But [] h h₁ := af.but
  refine rawN (ark.less (by decide)) af.ok (rows := [rowI 16]) (by decide) (Low.high lM) (Low.high lN) (hd0.keep b₁) (aN.keep b₁ (fun m => nomatch m)) (pN.imp fun v i x => pRow_keep _ _ _ _ (TupK.nil b₁) x) fun acc arr' s₂ b₂ ok₂ le a₂ p₂ => ?_
  obtain ⟨h₂, g₂, dr₂, t₂, o₂⟩ := s₂
  obtain ⟨ok₂, rfl, rfl⟩ := ok₂
  obtain ⟨n₂, hn₂⟩ := ok₂.size
  refine segFin hP ar ok₂ hn₂ [] [] 0 10 low0 (by simp) trivial (lw4M w.params b1 b2 b3 n t L hs tk ep sl SC N f R M d NH hs' tk' ep' n₂ t₂ acc) fun out h₃ dr₃ S af₃ => ?_
  rw [S]
  have b₃ : But [] h₂ h₃ := af₃.but
  have A₃ : ListIs [f02 (rowI 16)] h₃ acc := ⟨arr', a₂.keep b₃ (fun m => nomatch m), pf_map f02 (p₂.imp fun v i x => pOf_keep _ _ _ _ _ (TupK.nil b₃) x)⟩
  obtain ⟨n₃, hn₃⟩ := af₃.ok.size
  rw [eval_zf]
  refine wpAny_valT (segFin hP ar af₃.ok hn₃ [] [] 0 20 low0 (by simp) trivial (lw4R w.params b1 b2 b3 n₃ _ L) fun out h₄ dr₄ S af₄ => ?_)
  obtain ⟨hf, q0, q1⟩ := S
  rw [hf]
  have b₄ : But [] h₃ h₄ := af₄.but
  have B₄ : ListIs [f02 (rowI 16)] h₄ (n₃ + 258 + 1) := ⟨#[.ref (n₃ + 258)], ⟨_, af₄.get 1 _ q1⟩, ⟨⟨_, _, _, rfl, Nat.le_add_left _ _, af₄.get 0 _ q0⟩, trivial⟩⟩
  refine neLst (A := A) (A₃.keep b₄) B₄ hu pw w _ _ (wpAny_truthy_bool ?_)
  simp only [Bool.false_eq_true, if_false]
  refine wpAny_execs_nil (wpAny_execs_nil (hQ _ (b₁.trans (b₂.trans (b₃.trans b₄))) af₄.ok))
end
end Mine
end
section
open PySem PySem.W PySem.W.X PySem.Calls PyProof.Rows
set_option maxRecDepth 100000
set_option maxHeartbeats 400000
namespace Mine
def ag : Nat → Nat
  | 0 => 17
  | 1 => 18
  | 15 => 19
  | 6 => 20
  | 7 => 20
  | 8 => 21
  | 12 => 22
  | 13 => 22
  | i => i
def okI (i : Nat) : Prop := i = 0 ∨ i = 1 ∨ i = 6 ∨ i = 7 ∨ i = 8 ∨ i = 12 ∨ i = 13 ∨ i = 15
theorem step_ag (i : Nat) (hi : i < 16) (seen : Seen) (hs : SeenOk seen) (saw b : Bool) (s' : Seen) (w' : Bool) (h : step true i seen saw = .ok (b, s', w')) :
    SeenOk s' ∧ (match b with | true => okI i ∧ step true (ag i) seen saw = .ok (true, s', w') | false => s' = seen ∧ w' = saw) := by
  obtain rfl | rfl | rfl | rfl | rfl | rfl | rfl | rfl | rfl | rfl | rfl | rfl | rfl | rfl | rfl | rfl : i = 0 ∨ i = 1 ∨ i = 2 ∨ i = 3 ∨ i = 4 ∨ i = 5 ∨ i = 6 ∨ i = 7 ∨ i = 8 ∨ i = 9 ∨ i = 10 ∨ i = 11 ∨ i = 12 ∨ i = 13 ∨ i = 14 ∨ i = 15 := by omega
  all_goals rcases hs with rfl | rfl | rfl
  all_goals cases saw
  all_goals first
    | (cases h; done)
    | (cases h; exact ⟨by simp [SeenOk], by simp [okI], rfl⟩)
    | (cases h; exact ⟨by simp [SeenOk], rfl, rfl⟩)
theorem fold_ag : ∀ (l : List Nat) (seen : Seen) (saw : Bool) (r : List Nat), (∀ i ∈ l, i < 16) → SeenOk seen → fold true l seen saw = .ok r → (∀ i ∈ r, okI i) ∧ fold true (r.map ag) seen saw = .ok (r.map ag)
  | [], seen, saw, r, _, _, h => by cases h; exact ⟨by simp, rfl⟩
  | i :: l, seen, saw, r, hl, hs, h => by
    have hi := hl i (by simp)
    have hl' : ∀ j ∈ l, j < 16 := fun j m => hl j (by simp [m])
    unfold fold at h
    cases st : step true i seen saw with
    | error e => rw [st] at h; cases h
    | ok p =>
      obtain ⟨b, s', w'⟩ := p
      rw [st] at h
      simp only at h
      cases hf : fold true l s' w' with
      | error e => rw [hf] at h; cases h
      | ok r' =>
        rw [hf] at h
        simp only [Except.ok.injEq] at h
        obtain ⟨hs', hm⟩ := step_ag i hi seen hs saw b s' w' st
        obtain ⟨h1, h2⟩ := fold_ag l s' w' r' hl' hs' hf
        cases b with
        | false =>
          obtain ⟨rfl, rfl⟩ := hm
          simp only [Bool.false_eq_true, if_false] at h
          subst h
          exact ⟨h1, h2⟩
        | true =>
          obtain ⟨ho, hst⟩ := hm
          simp only [if_true] at h
          subst h
          refine ⟨fun j m => (List.mem_cons.mp m).elim (fun e => e ▸ ho) (h1 j), ?_⟩
          rw [List.map_cons]
          unfold fold
          rw [hst]
          simp only
          rw [h2]
          rfl
theorem ag_itm (i : Nat) (h : okI i) : told i = itm (ag i) ∧ ag i < 23 ∧ rowI (ag i) = (bts (told i).1, bts (told i).1, bts (told i).2) ∧ ((told i).2 = [98] ∨ (told i).2 = [120, 44, 32, 121] ∨ (told i).2 = [51] ∨ (told i).2 = [48, 51] ∨ (told i).2 = chunked ∨ (told i).2 = [255, 1]) := by
  rcases h with rfl | rfl | rfl | rfl | rfl | rfl | rfl | rfl <;> exact ⟨by decide, by decide, rfl, by decide⟩
theorem hint_cases : ∀ (l : List Nat) (look : Bool) (seen : Seen) (saw : Bool) (e : Int), fold look l seen saw = .error e → e = 400 ∨ e = 501
  | [], _, _, _, _, h => by cases h
  | i :: l, look, seen, saw, e, h => by
    unfold fold at h
    cases st : step look i seen saw with
    | error e' =>
      rw [st] at h
      simp only [Except.error.injEq] at h
      subst h
      unfold step at st
      split at st
      · cases st; exact .inl rfl
      · split at st
        · cases st
        · split at st
          · cases st
          · split at st
            · cases st
            · cases st; exact .inl rfl
        · cases st; exact .inl rfl
        · cases st; exact .inl rfl
        · cases st; exact .inl rfl
        · split at st
          · cases st; exact .inr rfl
          · cases st
        · cases st; exact .inr rfl
    | ok p =>
      obtain ⟨b, s', w'⟩ := p
      rw [st] at h
      simp only at h
      cases hf : fold look l s' w' with
      | error e' =>
        rw [hf] at h
        simp only [Except.error.injEq] at h
        subst h
        exact hint_cases l look s' w' _ hf
      | ok r' => rw [hf] at h; cases h
theorem fold_len : ∀ (l : List Nat) (look : Bool) (seen : Seen) (saw : Bool) (r : List Nat), fold look l seen saw = .ok r → r.length ≤ l.length
  | [], _, _, _, _, h => by cases h; exact Nat.le_refl _
  | i :: l, look, seen, saw, r, h => by
    unfold fold at h
    cases st : step look i seen saw with
    | error e' => rw [st] at h; cases h
    | ok p =>
      obtain ⟨b, s', w'⟩ := p
      rw [st] at h
      simp only at h
      cases hf : fold look l s' w' with
      | error e' => rw [hf] at h; cases h
      | ok r' =>
        rw [hf] at h
        simp only [Except.ok.injEq] at h
        have := fold_len l look s' w' r' hf
        subst h
        cases b <;> simp <;> omega
def tot (l : List (List (Array UInt8))) : Nat := (l.map fun r => (r.map Array.size).sum).sum
theorem other_ne (a : Row) (rest : List Row) (zl : List Nat) (hz : a.2.2 = bts zl) : (a :: rest).map f12 ≠ rest.map f12 ++ [[a.2.1, bts (zl ++ [120])]] := by
  intro e
  have := congrArg tot e
  simp only [tot, List.map_cons, List.map_append, List.sum_cons, List.sum_append, List.map_nil, List.sum_nil, f12, hz, bts, List.size_toArray, List.length_map, List.length_append, List.length_cons, List.length_nil] at this
  omega
theorem last_ne (l : List Row) (h : l ≠ []) : l.map f12 ≠ l.dropLast.map f12 := by
  intro e
  have := congrArg List.length e
  simp at this
  cases l with
  | nil => exact h rfl
  | cons a l => simp at this
end Mine
end
section
open PySem PySem.W PySem.W.X PySem.Calls PyProof.Rows
set_option maxRecDepth 100000
set_option maxHeartbeats 400000
namespace Mine
open PySem.W.ZFast
section
variable {w : World} {A : Around} {Q : Flow → Shared → Prop} {E : Value → Shared → Prop} {h : Heap} {g : Array GenState} {dr : Drawn} {t : Nat} {o : OsState}
theorem lawB0 (ark : ArK 6 A) (hu : A.units + 20 < cLine) (ok : Okay w.params h) {L S N R M : Nat} {f : Value} {r : Ol} {c : Bool} {arr : Array Value} {is : List Nat} (lL : Low w.params L) (hL : LocAt h L (locD S N f R M ++ r.tk (.bool c))) (aR : LstAt h R arr) (iR : All2 (ItemAt w.params h) arr.toList is) (his : is.length ≤ 5) (h16 : ∀ i ∈ is, i < 16)
    (hQ : ∀ hint th TL rows s', But [L] h s'.heap → OkS w.params g o s' → LocAt s'.heap L (locD S N f R M ++ r.b0 (.bool c) (.int hint th) (.ref TL)) → RowsAt w s'.heap TL rows → RowsGive (!c) is hint rows → Q .next s') : wpAny (model pw w) A (execs [fB 0] (envF 257 L)) Q E ⟨h, g, dr, t, o⟩ := by
  have ar := ark.weak
  obtain ⟨hs, tk, ep, sl, hL⟩ := hL
  obtain ⟨n, hn⟩ := ok.size
  obtain ⟨b1, b2, b3, hP⟩ := params_split w.params
  rw [execs_zf]
  refine wpAny_flowT (segCall hP ar ok hn [L] [frm hs tk ep sl _] 0 20 (low1 lL) (by simp) ⟨hL, trivial⟩ (lwB0a w.params b1 b2 b3 n t L hs tk ep sl S N f R M r c) fun out h₁ dr₁ hout Sx af => ?_)
  subst hout
  rw [Sx]
  have b₁ : But [] h h₁ := af.but
  refine lawRows ark hu af.ok (by omega) h16 (aR.keep b₁ (fun m => nomatch m)).isList (iR.imp fun v i x => x.keep b₁) fun v hint TL arrT rows s₂ b₂ ok₂ rt le a₂ p₂ gv => ?_
  obtain ⟨T, th, epT, rfl, l258, eT⟩ := rt
  obtain ⟨h₂, g₂, dr₂, t₂, o₂⟩ := s₂
  obtain ⟨ok₂, rfl, rfl⟩ := ok₂
  obtain ⟨n₂, hn₂⟩ := ok₂.size
  have L₂ := b₂.keep _ _ (b₁.keep _ _ hL (fun m => nomatch m)) (fun m => nomatch m)
  have nLT : L ≠ T := ne_cls L₂ eT (by simp [frm, tupO])
  refine segFin hP ar ok₂ hn₂ [L, T] [frm hs tk ep sl _, tupO [.int hint th, .ref TL] epT] 1 80 (low2 lL (Low.high l258)) (by simp [nLT]) ⟨L₂, eT, trivial⟩ (lwB0b w.params b1 b2 b3 n t L hs tk ep sl S N f R M r c n₂ t₂ T hs tk ep sl hint th TL epT) fun out h₃ dr₃ Sx af₃ => ?_
  obtain ⟨hf, h0⟩ := Sx
  rw [hf]
  have b₃ : But [L] h₂ h₃ := af₃.but
  have q : @LE.le Nat _ 258 h₁.objs.size := af.ok.s258
  have rT : RowsAt w h₂ TL rows := ⟨Nat.le_trans q le, arrT, a₂, p₂⟩
  exact hQ hint th TL rows _ ((b₁.trans b₂).nil.trans b₃) af₃.ok ⟨_, _, _, _, af₃.get 0 _ h0⟩ (rT.keep1 b₃ L₂ (by simp [frm])) gv
theorem lawB1 (ark : ArK 12 A) (ok : Okay w.params h) {L S N R M : Nat} {f hv dv : Value} {r : Ol} {c : Bool} {arr : Array Value} {is : List Nat} (hfr : A.frames = some [envF 257 L]) (live : h.FunFrames heap0 [envF 257 L]) (l258 : @LE.le Nat _ 258 L) (l258R : @LE.le Nat _ 258 R) (hL : LocAt h L (locD S N f R M ++ r.b0 (.bool c) hv dv)) (aR : LstAt h R arr) (iR : All2 (ItemAt w.params h) arr.toList is) (his : is.length ≤ 5)
    (hQ : ∀ q, fold (!c) is none false = .ok q → ∀ F s', But [L] h s'.heap → OkS w.params g o s' → LocAt s'.heap L (locD S N f R M ++ tkd (.bool c) hv dv (.ref F)) → HdrIs w s'.heap F (q.map rowI) → Q .next s')
    (hE : ∀ hint, fold (!c) is none false = .error hint → ∀ tk s', But [L] h s'.heap → OkS w.params g o s' → LocAt s'.heap L (locD S N f R M ++ tkd (.bool c) hv dv (.int hint tk)) → Q .next s') : wpAny (model pw w) A (execs [fB 1] (envF 257 L)) Q E ⟨h, g, dr, t, o⟩ := by
  have ar := ark.weak
  have lL : Low w.params L := Low.high l258
  obtain ⟨hs, tk, ep, sl, hL⟩ := hL
  obtain ⟨epa, eR⟩ := aR
  obtain ⟨n, hn⟩ := ok.size
  obtain ⟨b1, b2, b3, hP⟩ := params_split w.params
  have nLR : L ≠ R := ne_cls hL eR (by simp [frm, lstO])
  rw [execs_zf]
  refine wpAny_flowT (segCall hP ar ok hn [L, R] [frm hs tk ep sl _, lstO arr epa] 0 30 (low2 lL (Low.high l258R)) (by simp [nLR]) ⟨hL, eR, trivial⟩ (lwB1a w.params b1 b2 b3 n t L hs tk ep sl S N f R M r c hv dv arr epa) fun out h₁ dr₁ hout Sx af => ?_)
  subst hout
  obtain ⟨hc, hnum, i2, l3, d4⟩ := Sx
  have hc := hc.trans (congrArg (fun z => Code.compStart z 0 (.ref (n + 258)) (.ref (n + 258 + 1)) (cenvF 257 eB1 L (n + 258 + 2))) eB1_comp)
  rw [hc]
  have b₁ : But [] h h₁ := af.but
  have lo : ∀ j, Low w.params (n + 258 + j) := fun j => Low.high (by omega)
  have R₁ : LstAt h₁ R arr := ⟨epa, b₁.keep _ _ eR (fun m => nomatch m)⟩
  have ltR := Heap.lt_size eR
  have hne : n + 258 + 1 ≠ R := fun e => by rw [hn, ← e] at ltR; exact absurd ltR (Nat.not_lt.mpr (Nat.le_succ _))
  have ltL := Heap.lt_size hL
  have nLj : ∀ j, L ≠ n + 258 + j := fun j => Nat.ne_of_lt (Nat.lt_of_lt_of_le ltL (by rw [hn]; exact Nat.le_add_right _ _))
  refine compG (DOK := fun l => ∃ q, l = kn1 sRow q) (pin := ItemAt w.params) (pout := ItemAt w.params) (cenv := fun D => cenvF 257 eB1 L D) ?_ ?_
    (fun {A Q E h g dr t o it D lst k item i l} ar ok li lD hq hD hp hi hQ => turnId (lwB1t L) (lst := lst) (k := k) (pin := ItemAt w.params) ?_ ?_ ar ok lD hq hD hp hQ) ar af.ok (is := is) (by omega) ⟨none, rfl⟩ (lo 0) (lo 1) (lo 2) (by rw [af.size, hnum]) (af.get 2 _ i2) R₁.isList (iR.imp fun v i x => x.keep b₁) ⟨_, af.get 3 _ l3⟩ ⟨_, _, _, af.get 4 _ d4⟩ hne fun arr' l s₂ hq b₂ ok₂ d₂ a₂ p₂ => ?_
  · exact fun _ _ v i tk ⟨hi, p, t1, t2, ep, e, lp, q⟩ => ⟨hi, p, t1, t2, ep, e, lp, tk _ _ q rfl⟩
  · exact fun _ _ v i tk ⟨hi, p, t1, t2, ep, e, lp, q⟩ => ⟨hi, p, t1, t2, ep, e, lp, tk _ _ q rfl⟩
  · exact fun _ _ v i tk ⟨hi, p, t1, t2, ep, e, lp, q⟩ => ⟨hi, p, t1, t2, ep, e, lp, tk _ _ q rfl⟩
  · exact fun _ v i ⟨hi, p, t1, t2, ep, e, lp, q⟩ => ⟨p, e⟩
  obtain ⟨q, rfl⟩ := hq
  obtain ⟨hs', tk', ep', d₂⟩ := d₂
  obtain ⟨h₂, g₂, dr₂, t₂, o₂⟩ := s₂
  obtain ⟨ok₂, rfl, rfl⟩ := ok₂
  obtain ⟨n₂, hn₂⟩ := ok₂.size
  have B₂ : But [] h h₂ := b₁.fresh b₂ (fun x mm => by simp only [List.mem_cons, List.not_mem_nil, or_false] at mm; rw [hn]; rcases mm with rfl | rfl | rfl <;> exact Nat.le_add_right _ _)
  have L₂ : h₂.get? L = some _ := B₂.keep _ _ hL (fun m => nomatch m)
  have nDL : n + 258 + 2 ≠ L := (nLj 2).symm
  refine segCall hP ar ok₂ hn₂ [n + 258 + 2, L] [dctO hs' tk' ep' (kn1 sRow q), frm hs tk ep sl _] 1 30 (low2 (lo 2) lL) (by simp [nDL]) ⟨d₂, L₂, trivial⟩ (lwB1b w.params b1 b2 b3 n t L hs tk ep sl S N f R M r c hv dv arr epa n₂ t₂ hs' tk' ep' q hs tk ep sl) fun out h₃ dr₃ hout Sx af₃ => ?_
  subst hout
  rw [Sx]
  have b₃ : But [n + 258 + 2] h₂ h₃ := af₃.but
  have B₃ : But [] h h₃ := B₂.fresh b₃ (fun x mm => by rw [List.mem_singleton.mp mm, hn]; exact Nat.le_add_right _ _)
  have t₃ : TupK h₂ h₃ := TupK.of b₃ (fun a m => by rw [List.mem_singleton.mp m]; exact ⟨_, d₂, by simp [dctO]⟩)
  have a₃ : LstAt h₃ (n + 258 + 1) arr' := a₂.keep b₃ (by simp)
  have p₃ : All2 (ItemAt w.params h₃) arr'.toList is := p₂.imp fun v i ⟨hi, p, t1, t2, ep, e, lp, q⟩ => ⟨hi, p, t1, t2, ep, e, lp, t₃ _ _ q rfl⟩
  have L₃ : h₃.get? L = some _ := B₃.keep _ _ hL (fun m => nomatch m)
  have frs : frames [envF 257 L] = [L] := frames_cons (envF_frame 257 L)
  refine lawTry ark af₃.ok hfr (FunFrames.but live B₃ (fun _ _ m => nomatch m)) (fun a m => by rw [frs, List.mem_singleton] at m; exact m ▸ lL) (by omega) a₃.isList p₃ (fun rr hr F s₄ b₄ ok₄ hF => ?_) (fun hint hr x s₄ q₄ k₄ l₄ => ?_)
  · obtain ⟨h₄, g₄, dr₄, t₄, o₄⟩ := s₄
    obtain ⟨ok₄, rfl, rfl⟩ := ok₄
    obtain ⟨n₄, hn₄⟩ := ok₄.size
    have L₄ := b₄.keep _ _ L₃ (fun m => nomatch m)
    refine segFin hP ar ok₄ hn₄ [L] [frm hs tk ep sl _] 1 30 (low1 lL) (by simp) ⟨L₄, trivial⟩ (lwB1c w.params b1 b2 b3 n t L hs tk ep sl S N f R M r c hv dv arr epa n₂ t₂ hs' tk' ep' q hs tk ep sl n₄ t₄ hs tk ep sl false F 0) fun out h₅ dr₅ Sx af₅ => ?_
    obtain ⟨hf, h0⟩ := Sx
    rw [hf]
    have b₅ : But [L] h₄ h₅ := af₅.but
    exact hQ rr hr F _ ((B₃.trans b₄).nil.trans b₅) af₅.ok ⟨_, _, _, _, af₅.get 0 _ h0⟩ (HdrIs.keep1 hF b₅ L₄ rfl)
  · obtain ⟨h₄, g₄, dr₄, t₄, o₄⟩ := s₄
    obtain ⟨rfl, rfl⟩ := q₄
    rw [frs] at k₄
    have ok₄ : Okay w.params h₄ := k₄.okay af₃.ok (fun a m => by rw [List.mem_singleton.mp m]; exact lL)
    obtain ⟨n₄, hn₄⟩ := ok₄.size
    obtain ⟨sl4, e4⟩ := k₄.frm L _ L₃
    have L₄ : h₄.get? L = some (frm hs tk ep sl4 _) := e4
    have b₄ : But [L] h₃ h₄ := ⟨fun x ox ex nx => k₄.old x ox ex nx, k₄.size⟩
    refine segFin hP ar ok₄ hn₄ [L] [frm hs tk ep sl4 _] 1 30 (low1 lL) (by simp) ⟨L₄, trivial⟩ (lwB1c w.params b1 b2 b3 n t L hs tk ep sl S N f R M r c hv dv arr epa n₂ t₂ hs' tk' ep' q hs tk ep sl n₄ t₄ hs tk ep sl4 true x hint) fun out h₅ dr₅ Sx af₅ => ?_
    obtain ⟨hf, h0⟩ := Sx
    rw [hf]
    have b₅ : But [L] h₄ h₅ := af₅.but
    exact hE hint hr x _ (B₃.nil.trans (b₄.trans b₅)) af₅.ok ⟨_, _, _, _, af₅.get 0 _ h0⟩
theorem lawB2e (ar : Ar A) (ok : Okay w.params h) {L S N R M : Nat} {f dv : Value} {c : Bool} {hint : Int} {th th' : Nat} (hh : hint = 400 ∨ hint = 501) (lL : Low w.params L) (hL : LocAt h L (locD S N f R M ++ tkd (.bool c) (.int hint th) dv (.int hint th')))
    (hQ : ∀ s', But [] h s'.heap → OkS w.params g o s' → Q .next s') : wpAny (model pw w) A (execs [fB 2] (envF 257 L)) Q E ⟨h, g, dr, t, o⟩ := by
  obtain ⟨hs, tk, ep, sl, hL⟩ := hL
  obtain ⟨n, hn⟩ := ok.size
  obtain ⟨b1, b2, b3, hP⟩ := params_split w.params
  refine wpAny_execs_at ?_
  rw [fB2_eq]
  refine wpAny_If ?_
  rw [isTrue_zf]
  refine wpAny_boolT (segFin hP ar ok hn [L] [frm hs tk ep sl _] 0 20 (low1 lL) (by simp) ⟨hL, trivial⟩ (lwT0 w.params b1 b2 b3 n t L hs tk ep sl S N f R M c hint (.inr hh) th dv (.int hint th')) fun out h₁ dr₁ Sx af => ?_)
  have Sx' : finOf out = bfin true := Sx.trans (by rcases hh with rfl | rfl <;> rfl)
  rw [Sx']
  have b₁ : But [] h h₁ := af.but
  have L₁ := b₁.keep _ _ hL (fun m => nomatch m)
  obtain ⟨n₁, hn₁⟩ := af.ok.size
  simp only [bfin, if_true]
  rw [execs_zf]
  refine wpAny_flowT (segFin hP ar af.ok hn₁ [L] [frm hs tk ep sl _] 0 40 (low1 lL) (by simp) ⟨L₁, trivial⟩ (lwT0b w.params b1 b2 b3 n₁ _ L hs tk ep sl S N f R M c hint hh th th' dv) fun out h₂ dr₂ Sx af₂ => ?_)
  rw [Sx]
  have b₂ : But [] h₁ h₂ := af₂.but
  exact wpAny_execs_nil (hQ _ (b₁.trans b₂) af₂.ok)
end
end Mine
end
section
open PySem PySem.W PySem.W.X PySem.Calls PyProof.Rows
set_option maxRecDepth 100000
set_option maxHeartbeats 400000
namespace Mine
open PySem.W.ZFast
theorem All2.remap {β γ : Type} (f : Nat → β) (g : Nat → γ) {p : Value → β → Prop} {q : Value → γ → Prop} : ∀ {l : List Value} {r : List Nat}, (∀ i ∈ r, ∀ v, p v (f i) → q v (g i)) → All2 p l (r.map f) → All2 q l (r.map g)
  | [], [], _, _ => trivial
  | _ :: _, [], _, x => x.elim
  | [], _ :: _, _, x => x.elim
  | v :: l, i :: r, k, x => ⟨k i (by simp) v x.1, All2.remap f g (fun j m => k j (by simp [m])) x.2⟩
theorem But.step2 {h h₁ h₂ : Heap} {L D : Nat} (x : But [] h h₁) (y : But [L, D] h₁ h₂) (hD : @LE.le Nat _ h.objs.size D) : But [L] h h₂ :=
  ⟨fun a o e n => y.keep _ _ (x.keep _ _ e (fun m => nomatch m)) (fun m => by
    simp only [List.mem_cons, List.not_mem_nil, or_false] at m
    rcases m with rfl | rfl
    · exact n (by simp)
    · exact absurd (Heap.lt_size e) (Nat.not_lt.mpr hD)), Nat.le_trans x.size y.size⟩
theorem iters_hdr {w : World} {F : Nat} {q : List Nat} {h0 : Heap} (hq : ∀ i ∈ q, okI i) (hl : q.length ≤ 1000) (hF : HdrIs w h0 F (q.map rowI)) : Iters w F (q.map ag) h0 := fun {A Q E s} ark ok b hQ => by
  obtain ⟨lF, NH, hd, ⟨lN, arr, aN, pN⟩⟩ := hF.keep b
  obtain ⟨h, g, dr, t, o⟩ := s
  refine pyIterH (ark.less (by decide)) ok (by simpa using hl) (Low.high lF) (Low.high lN) hd aN pN fun it acc arr' s' b' ok' l1 l2 i' a' p' => ?_
  refine hQ it acc arr' s' b' ok' l1 (.inl l2) i' a'.isList (All2.remap (q := ItemAt w.params s'.heap) rowI ag (fun i m v x => ?_) p')
  obtain ⟨a, ts, ep, rfl, la, e⟩ := x
  obtain ⟨e1, e2, _, _⟩ := ag_itm i (hq i m)
  refine ⟨e2, a, ts 0, ts 1, ep, rfl, Low.high la, ?_⟩
  rw [← e1]
  exact e
section
variable {w : World} {A : Around} {Q : Flow → Shared → Prop} {E : Value → Shared → Prop} {h : Heap} {g : Array GenState} {dr : Drawn} {t : Nat} {o : OsState}
theorem lawB2 (ark : ArK 6 A) (hu : A.units + 8 < cLine) (ok : Okay w.params h) {L S N R M DU F : Nat} {f : Value} {c : Bool} {th : Nat} {rows : List Row} (lL : Low w.params L) (hL : LocAt h L (locT5 S N f R M c (.int 0 th) (.ref DU) (.ref F) [])) (hr : rows.length ≤ 1000) (hF : HdrIs w h F rows) (hR : RowsAt w h DU rows)
    (hT : c = true → ∀ s', But [] h s'.heap → OkS w.params g o s' → Q .next s')
    (hN : c = false → ∀ s', But [] h s'.heap → OkS w.params g o s' → wpAny (model pw w) A (execs [gB 0, gB 1, gB 2, gB 3, gB 4] (envF 257 L)) Q E s') : wpAny (model pw w) A (execs [fB 2] (envF 257 L)) Q E ⟨h, g, dr, t, o⟩ := by
  have ar := ark.weak
  obtain ⟨hs, tk, ep, sl, hL⟩ := hL
  obtain ⟨n, hn⟩ := ok.size
  obtain ⟨b1, b2, b3, hP⟩ := params_split w.params
  refine wpAny_execs_at ?_
  rw [fB2_eq]
  refine wpAny_If ?_
  rw [isTrue_zf]
  refine wpAny_boolT (segFin hP ar ok hn [L] [frm hs tk ep sl _] 0 20 (low1 lL) (by simp) ⟨hL, trivial⟩ (lwT0 w.params b1 b2 b3 n t L hs tk ep sl S N f R M c 0 (.inl rfl) th (.ref DU) (.ref F)) fun out h₁ dr₁ Sx af => ?_)
  have Sx' : finOf out = bfin false := Sx
  rw [Sx']
  simp only [bfin, Bool.false_eq_true, if_false]
  generalize t + tokOf out = t₁
  have b₁ : But [] h h₁ := af.but
  have L₁ := b₁.keep _ _ hL (fun m => nomatch m)
  obtain ⟨n₁, hn₁⟩ := af.ok.size
  have F₁ := hF.keep b₁
  have R₁ := hR.keep b₁
  obtain ⟨lF, NH, ⟨d, eF, ld, hs', tk', ep', eD⟩, _⟩ := id F₁
  have n1 : L ≠ F := ne_cls L₁ eF (by simp [frm, hdrO])
  have n2 : L ≠ d := ne_cls L₁ eD (by simp [frm, dctO])
  have n3 : F ≠ d := ne_cls eF eD (by simp [hdrO, dctO])
  refine wpAny_execs_at ?_
  rw [f3_eq]
  refine wpAny_If ?_
  rw [isTrue_zf]
  refine wpAny_boolT (segCall hP ar af.ok hn₁ [L, F, d] [frm hs tk ep sl _, hdrO d NH, dctO hs' tk' ep' []] 0 70 (low3 lL (Low.high lF) (Low.high ld)) (by simp [n1, n2, n3]) ⟨L₁, eF, eD, trivial⟩ (lwT1 w.params b1 b2 b3 n₁ t₁ L hs tk ep sl S N f R M c th DU F d NH hs' tk' ep') fun out h₂ dr₂ hout Sx af₂ => ?_)
  subst hout
  rw [Sx]
  have b₂ : But [] h₁ h₂ := af₂.but
  refine lawIs ark hu af₂.ok hr (F₁.keep b₂) (R₁.keep b₂) fun s₃ b₃ ok₃ => ?_
  obtain ⟨h₃, g₃, dr₃, t₃, o₃⟩ := s₃
  obtain ⟨ok₃, rfl, rfl⟩ := ok₃
  obtain ⟨n₃, hn₃⟩ := ok₃.size
  refine segFin hP ar ok₃ hn₃ [] [] 0 10 low0 (by simp) trivial (lwT1b w.params b1 b2 b3 n₁ t₁ L hs tk ep sl S N f R M c th DU F d NH hs' tk' ep' n₃ t₃) fun out h₄ dr₄ Sx af₄ => ?_
  rw [Sx]
  simp only [Bool.false_eq_true, if_false]
  generalize t₃ + tokOf out = t₄
  have b₄ : But [] h₃ h₄ := af₄.but
  have B₄ : But [] h h₄ := b₁.trans (b₂.trans (b₃.trans b₄))
  have L₄ := B₄.keep _ _ hL (fun m => nomatch m)
  obtain ⟨n₄, hn₄⟩ := af₄.ok.size
  refine wpAny_execs_at ?_
  rw [f4_eq]
  refine wpAny_If ?_
  rw [isTrue_zf]
  refine wpAny_boolT (segFin hP ar af₄.ok hn₄ [L] [frm hs tk ep sl _] 0 20 (low1 lL) (by simp) ⟨L₄, trivial⟩ (lwT2 w.params b1 b2 b3 n₄ t₄ L hs tk ep sl S N f R M c _ _ _) fun out h₅ dr₅ Sx af₅ => ?_)
  rw [Sx]
  have b₅ : But [] h₄ h₅ := af₅.but
  cases c with
  | true =>
    simp only [bfin, Bool.not_true, Bool.false_eq_true, if_false]
    exact wpAny_execs_nil (wpAny_execs_nil (wpAny_execs_nil (wpAny_execs_nil (hT rfl _ (B₄.trans b₅) af₅.ok))))
  | false =>
    simp only [bfin, Bool.not_false, if_true]
    refine wpAny_mono (hN rfl _ (B₄.trans b₅) af₅.ok) (fun f s' x => ?_) fun _ _ x => x
    cases f with
    | next => exact wpAny_execs_nil (wpAny_execs_nil (wpAny_execs_nil x))
    | cont => exact x
    | brk => exact x
    | ret v => exact x
theorem lawG0 (ark : ArK 8 A) (ok : Okay w.params h) {L S N R M DU F : Nat} {f hv : Value} {is q : List Nat} (hfr : A.frames = some [envF 257 L]) (live : h.FunFrames heap0 [envF 257 L]) (lL : Low w.params L) (hL : LocAt h L (locG S N f R M hv DU F [])) (hF : HdrIs w h F (q.map rowI)) (hq : fold true is none false = .ok q) (h16 : ∀ i ∈ is, i < 16) (his : is.length ≤ 1000)
    (hQ : ∀ A' s', F ≠ A' → But [L] h s'.heap → OkS w.params g o s' → LocAt s'.heap L (locG S N f R M hv DU F [(sAgain, .ref A')]) → HdrIs w s'.heap A' ((q.map ag).map rowI) → Q .next s') : wpAny (model pw w) A (execs [gB 0] (envF 257 L)) Q E ⟨h, g, dr, t, o⟩ := by
  have ar := ark.weak
  obtain ⟨hs, tk, ep, sl, hL⟩ := hL
  obtain ⟨n, hn⟩ := ok.size
  obtain ⟨b1, b2, b3, hP⟩ := params_split w.params
  obtain ⟨hok, hag⟩ := fold_ag is none false q h16 (.inl rfl) hq
  have hlen : q.length ≤ 1000 := Nat.le_trans (fold_len is true none false q hq) his
  rw [execs_zf]
  refine wpAny_flowT (segCall hP ar ok hn [L] [frm hs tk ep sl _] 0 20 (low1 lL) (by simp) ⟨hL, trivial⟩ (lwG0 w.params b1 b2 b3 n t L hs tk ep sl S N f R M hv DU F) fun out h₁ dr₁ hout Sx af => ?_)
  subst hout
  rw [Sx]
  have b₁ : But [] h h₁ := af.but
  have L₁ := b₁.keep _ _ hL (fun m => nomatch m)
  have frs : frames [envF 257 L] = [L] := frames_cons (envF_frame 257 L)
  have F₁ := hF.keep b₁
  have ltF : @LT.lt Nat _ F h₁.objs.size := by obtain ⟨_, _, ⟨_, e, _⟩, _⟩ := F₁; exact Heap.lt_size e
  refine nvN ark af.ok (B := h₁) (outer := [envF 257 L]) (kw := none) (is := q.map ag) (by simpa using hlen) (iters_hdr hok hlen F₁) af.ok (fun a m => by rw [frs, List.mem_singleton] at m; exact m ▸ lL) ⟨hfr, FunFrames.but live b₁ (fun _ _ m => nomatch m), .refl _ _⟩ (fun r hr A' NH arr s₂ hA hN b₂ ok₂ hd ln hT => ?_) (fun hint hr e s₂ tc x₂ => ?_)
  · have hr' : fold true (q.map ag) none false = .ok r := hr
    rw [hag] at hr'
    cases hr'
    obtain ⟨h₂, g₂, dr₂, t₂, o₂⟩ := s₂
    obtain ⟨ok₂, rfl, rfl⟩ := ok₂
    obtain ⟨n₂, hn₂⟩ := ok₂.size
    have L₂ := b₂.keep _ _ L₁ (fun m => nomatch m)
    refine segFin hP ar ok₂ hn₂ [L] [frm hs tk ep sl _] 1 20 (low1 lL) (by simp) ⟨L₂, trivial⟩ (lwG0b w.params b1 b2 b3 n t L hs tk ep sl S N f R M hv DU F n₂ t₂ A' hs tk ep sl) fun out h₃ dr₃ Sx af₃ => ?_
    obtain ⟨hf, h0⟩ := Sx
    rw [hf]
    have b₃ : But [L] h₂ h₃ := af₃.but
    have hz : @LE.le Nat _ 258 h₁.objs.size := af.ok.s258
    have H₂ : HdrIs w h₂ A' ((q.map ag).map rowI) := hdrIs_of hz hA hN hd ln hT
    refine hQ A' _ (fun e => ?_) ((b₁.trans b₂).nil.trans b₃) af₃.ok ⟨_, _, _, _, af₃.get 0 _ h0⟩ (HdrIs.keep1 H₂ b₃ L₂ rfl)
    rw [e] at ltF
    exact absurd ltF (Nat.not_lt.mpr hA)
  · have hr' : fold true (q.map ag) none false = .error hint := hr
    rw [hag] at hr'
    cases hr'
theorem turnG1 {L it D lst k : Nat} {item : Value} {i : Row} {l : List (Str × Value)} {Q : Value → Shared → Prop} (ar : Ar A) (ok : Okay w.params h) (lD : Low w.params D) (hq : ∃ q, l = kn1 sRow q) (hD : DctAt h D l) (hp : pRow h item i)
    (hQ : ∀ v l' s', (∃ q, l' = kn1 sRow q) → But [D] h s'.heap → OkS w.params g o s' → DctAt s'.heap D l' → pOf f112 s'.heap v i → Q v s') : wpAny (model pw w) A (takeEltZ (tgtC eG1) (.ref it) item (eltC eG1) (cenvF 257 eG1 L D)) Q E ⟨h, g, dr, t, o⟩ := by
  obtain ⟨q, rfl⟩ := hq
  obtain ⟨tp, ts, eps, rfl, ltp, htp⟩ := hp
  obtain ⟨x, y, z⟩ := i
  obtain ⟨hs, tk, ep, hD⟩ := hD
  obtain ⟨n, hn⟩ := ok.size
  obtain ⟨b1, b2, b3, hP⟩ := params_split w.params
  have nD : D ≠ tp := ne_cls hD htp (by simp [dctO, tupO])
  refine wpAny_valT (segFin hP ar ok hn [D, tp] [dctO hs tk ep (kn1 sRow q), tupO (txts ts 0 [x, y, z]) eps] 1 60 (low2 lD (Low.high ltp)) (by simp [nD]) ⟨hD, htp, trivial⟩ (lwG1t w.params b1 b2 b3 n t L D tp it hs tk ep q x y z ts eps) fun out h' dr' Sx af => ?_)
  obtain ⟨hf, h0, h2⟩ := Sx
  rw [hf]
  exact hQ _ _ _ ⟨_, rfl⟩ af.but af.ok ⟨_, _, _, af.get 0 _ h0⟩ ⟨n + 258, _, _, rfl, Nat.le_add_left _ _, af.get 2 _ h2⟩
theorem lawG1 (ar : Ar A) (ok : Okay w.params h) {L S N R M DU F A' : Nat} {f hv : Value} {q : List Nat} (lL : Low w.params L) (hL : LocAt h L (locG S N f R M hv DU F [(sAgain, .ref A')])) (hR : RowsAt w h DU (q.map rowI)) (hlen : q.length ≤ 1000) (hok : ∀ i ∈ q, okI i)
    (hQ : ∀ SP s', But [L] h s'.heap → OkS w.params g o s' → LocAt s'.heap L (locH S N f R M hv DU F A' SP) → RowsAt w s'.heap SP ((q.map ag).map rowI) → Q .next s') : wpAny (model pw w) A (execs [gB 1] (envF 257 L)) Q E ⟨h, g, dr, t, o⟩ := by
  obtain ⟨hs, tk, ep, sl, hL⟩ := hL
  obtain ⟨lD, arr, aR, pR⟩ := hR
  obtain ⟨epa, eR⟩ := aR
  obtain ⟨n, hn⟩ := ok.size
  obtain ⟨b1, b2, b3, hP⟩ := params_split w.params
  have nLR : L ≠ DU := ne_cls hL eR (by simp [frm, lstO])
  rw [execs_zf]
  refine wpAny_flowT (segCall hP ar ok hn [L, DU] [frm hs tk ep sl _, lstO arr epa] 0 30 (low2 lL (Low.high lD)) (by simp [nLR]) ⟨hL, eR, trivial⟩ (lwG1 w.params b1 b2 b3 n t L hs tk ep sl S N f R M hv DU F A' arr epa) fun out h₁ dr₁ hout Sx af => ?_)
  subst hout
  obtain ⟨hc, hnum, i2, l3, d4⟩ := Sx
  have hc := hc.trans (congrArg (fun z => Code.compStart z 0 (.ref (n + 258)) (.ref (n + 258 + 1)) (cenvF 257 eG1 L (n + 258 + 2))) eG1_comp)
  rw [hc]
  have b₁ : But [] h h₁ := af.but
  have lo : ∀ j, Low w.params (n + 258 + j) := fun j => Low.high (by omega)
  have R₁ : LstAt h₁ DU arr := ⟨epa, b₁.keep _ _ eR (fun m => nomatch m)⟩
  have ltR := Heap.lt_size eR
  have hne : n + 258 + 1 ≠ DU := fun e => by rw [hn, ← e] at ltR; exact absurd ltR (Nat.not_lt.mpr (Nat.le_succ _))
  have ltL := Heap.lt_size hL
  have nLj : ∀ j, L ≠ n + 258 + j := fun j => Nat.ne_of_lt (Nat.lt_of_lt_of_le ltL (by rw [hn]; exact Nat.le_add_right _ _))
  refine compG (DOK := fun l => ∃ q, l = kn1 sRow q) (pin := pRow) (pout := pOf f112) (cenv := fun D => cenvF 257 eG1 L D) pRow_keep (pOf_keep f112)
    (fun {A Q E h g dr t o it D lst k item i l} ar ok li lD hq hD hp hi hQ => turnG1 (lst := lst) (k := k) ar ok lD hq hD hp hQ) ar af.ok (is := q.map rowI) (by simpa using hlen) ⟨none, rfl⟩ (lo 0) (lo 1) (lo 2) (by rw [af.size, hnum]) (af.get 2 _ i2) R₁.isList (pR.imp fun v i x => pRow_keep _ _ _ _ (TupK.nil b₁) x) ⟨_, af.get 3 _ l3⟩ ⟨_, _, _, af.get 4 _ d4⟩ hne fun arr' l s₂ hq b₂ ok₂ d₂ a₂ p₂ => ?_
  obtain ⟨qq, rfl⟩ := hq
  obtain ⟨hs', tk', ep', d₂⟩ := d₂
  obtain ⟨h₂, g₂, dr₂, t₂, o₂⟩ := s₂
  obtain ⟨ok₂, rfl, rfl⟩ := ok₂
  obtain ⟨n₂, hn₂⟩ := ok₂.size
  have B₂ : But [] h h₂ := b₁.fresh b₂ (fun x mm => by simp only [List.mem_cons, List.not_mem_nil, or_false] at mm; rw [hn]; rcases mm with rfl | rfl | rfl <;> exact Nat.le_add_right _ _)
  have L₂ : h₂.get? L = some _ := B₂.keep _ _ hL (fun m => nomatch m)
  have nLD : L ≠ n + 258 + 2 := nLj 2
  refine segFin hP ar ok₂ hn₂ [L, n + 258 + 2] [frm hs tk ep sl _, dctO hs' tk' ep' (kn1 sRow qq)] 2 30 (low2 lL (lo 2)) (by simp [nLD]) ⟨L₂, d₂, trivial⟩ (lwG1b w.params b1 b2 b3 n t L hs tk ep sl S N f R M hv DU F A' arr epa n₂ t₂ hs' tk' ep' qq hs tk ep sl) fun out h₃ dr₃ Sx af₃ => ?_
  obtain ⟨hf, h0⟩ := Sx
  rw [hf]
  have b₃ : But [L, n + 258 + 2] h₂ h₃ := af₃.but
  have t₃ : TupK h₂ h₃ := TupK.of b₃ (fun a m => by
    simp only [List.mem_cons, List.not_mem_nil, or_false] at m
    rcases m with rfl | rfl
    · exact ⟨_, L₂, by simp [frm]⟩
    · exact ⟨_, d₂, by simp [dctO]⟩)
  refine hQ (n + 258 + 1) _ (B₂.step2 b₃ (by rw [hn]; exact Nat.le_add_right _ _)) af₃.ok ⟨_, _, _, _, af₃.get 0 _ h0⟩ ⟨by omega, arr', a₂.keep b₃ (by simp only [List.mem_cons, List.not_mem_nil, or_false, not_or]; exact ⟨(nLj 1).symm, by omega⟩), ?_⟩
  rw [List.map_map]
  refine All2.remap rowI (rowI ∘ ag) (fun i m v x => ?_) p₂
  have e3 := (ag_itm i (hok i m)).2.2.1
  show TupAt h₃ v (rowI (ag i)).l
  rw [e3]
  exact TupAt.keepT t₃ x
theorem lawG4 (ark : ArK 6 A) (hu : A.units + 8 < cLine) (ok : Okay w.params h) {L S N R M DU F A' SP : Nat} {f hv : Value} {ot : Option Nat} {rows : List Row} (lL : Low w.params L) (hL : LocAt h L (locH S N f R M hv DU F A' SP ++ moreO ot)) (hr : rows.length ≤ 1000) (hF : HdrIs w h F rows) (hR : RowsAt w h DU rows)
    (hQ : ∀ s', But [] h s'.heap → OkS w.params g o s' → Q .next s') : wpAny (model pw w) A (execs [gB 4] (envF 257 L)) Q E ⟨h, g, dr, t, o⟩ := by
  have ar := ark.weak
  obtain ⟨hs, tk, ep, sl, hL⟩ := hL
  obtain ⟨n, hn⟩ := ok.size
  obtain ⟨b1, b2, b3, hP⟩ := params_split w.params
  obtain ⟨lF, NH, ⟨d, eF, ld, hs', tk', ep', eD⟩, _⟩ := id hF
  have n1 : L ≠ F := ne_cls hL eF (by simp [frm, hdrO])
  have n2 : L ≠ d := ne_cls hL eD (by simp [frm, dctO])
  have n3 : F ≠ d := ne_cls eF eD (by simp [hdrO, dctO])
  refine wpAny_execs_at ?_
  rw [gB4_eq]
  refine wpAny_If ?_
  rw [isTrue_zf]
  refine wpAny_boolT (segCall hP ar ok hn [L, F, d] [frm hs tk ep sl _, hdrO d NH, dctO hs' tk' ep' []] 0 270 (low3 lL (Low.high lF) (Low.high ld)) (by simp [n1, n2, n3]) ⟨hL, eF, eD, trivial⟩ (lwG4 w.params b1 b2 b3 n t L hs tk ep sl S N f R M hv DU F A' SP ot d NH hs' tk' ep') fun out h₁ dr₁ hout Sx af => ?_)
  subst hout
  rw [Sx]
  have b₁ : But [] h h₁ := af.but
  refine lawIs ark hu af.ok hr (hF.keep b₁) (hR.keep b₁) fun s₂ b₂ ok₂ => ?_
  obtain ⟨h₂, g₂, dr₂, t₂, o₂⟩ := s₂
  obtain ⟨ok₂, rfl, rfl⟩ := ok₂
  obtain ⟨n₂, hn₂⟩ := ok₂.size
  refine segFin hP ar ok₂ hn₂ [] [] 0 10 low0 (by simp) trivial (lwG4b w.params b1 b2 b3 n t L hs tk ep sl S N f R M hv DU F A' SP ot d NH hs' tk' ep' n₂ t₂) fun out h₃ dr₃ Sx af₃ => ?_
  rw [Sx]
  simp only [Bool.false_eq_true, if_false]
  have b₃ : But [] h₂ h₃ := af₃.but
  exact wpAny_execs_nil (wpAny_execs_nil (hQ _ (b₁.trans (b₂.trans b₃)) af₃.ok))
end
end Mine
end
section
open PySem PySem.W PySem.W.X PySem.Calls PyProof.Rows
set_option maxRecDepth 100000
set_option maxHeartbeats 400000
namespace Mine
open PySem.W.ZFast
theorem k5 {k : Nat} (h1 : 1 ≤ k) (h5 : k ≤ 5) : k = 1 ∨ k = 2 ∨ k = 3 ∨ k = 4 ∨ k = 5 := by omega
theorem five_cons {k : Nat} (hk : k = 1 ∨ k = 2 ∨ k = 3 ∨ k = 4 ∨ k = 5) (a b c d e : Value) : five k a b c d e = a :: tail5 k b c d e := by rcases hk with rfl | rfl | rfl | rfl | rfl <;> rfl
theorem five_init {k : Nat} (hk : k = 1 ∨ k = 2 ∨ k = 3 ∨ k = 4 ∨ k = 5) (a b c d e : Value) : (five k a b c d e).dropLast = init5 k a b c d := by rcases hk with rfl | rfl | rfl | rfl | rfl <;> rfl
theorem five_len {k : Nat} (hk : k ≤ 5) (a b c d e : Value) : (five k a b c d e).length = k := by
  obtain rfl | rfl | rfl | rfl | rfl | rfl : k = 0 ∨ k = 1 ∨ k = 2 ∨ k = 3 ∨ k = 4 ∨ k = 5 := by omega
  all_goals rfl
theorem tail5_of {k : Nat} (hk : k = 1 ∨ k = 2 ∨ k = 3 ∨ k = 4 ∨ k = 5) : ∀ (l : List Value), l.length + 1 = k → ∃ b c d e, l = tail5 k b c d e := by
  rcases hk with rfl | rfl | rfl | rfl | rfl
  · intro l h; exact ⟨.none, .none, .none, .none, List.eq_nil_of_length_eq_zero (by omega)⟩
  · rintro (_ | ⟨a, _ | ⟨b, l⟩⟩) h
    · simp at h
    · exact ⟨a, .none, .none, .none, rfl⟩
    · simp at h
  · rintro (_ | ⟨a, _ | ⟨b, _ | ⟨c, l⟩⟩⟩) h
    · simp at h
    · simp at h
    · exact ⟨a, b, .none, .none, rfl⟩
    · simp at h
  · rintro (_ | ⟨a, _ | ⟨b, _ | ⟨c, _ | ⟨d, l⟩⟩⟩⟩) h
    · simp at h
    · simp at h
    · simp at h
    · exact ⟨a, b, c, .none, rfl⟩
    · simp at h
  · rintro (_ | ⟨a, _ | ⟨b, _ | ⟨c, _ | ⟨d, _ | ⟨e, l⟩⟩⟩⟩⟩) h
    · simp at h
    · simp at h
    · simp at h
    · simp at h
    · exact ⟨a, b, c, d, rfl⟩
    · simp at h
theorem All2.dropLast {α β : Type} {p : α → β → Prop} : ∀ {l : List α} {m : List β}, All2 p l m → All2 p l.dropLast m.dropLast
  | [], [], _ => trivial
  | _ :: _, [], x => x.elim
  | [], _ :: _, x => x.elim
  | [a], [b], _ => trivial
  | [a], b :: c :: m, x => x.2.elim
  | a :: c :: l, [b], x => x.2.elim
  | a :: c :: l, b :: d :: m, x => ⟨x.1, All2.dropLast (l := c :: l) (m := d :: m) x.2⟩
theorem But.step3 {h h₁ h₂ : Heap} {L D D' : Nat} (x : But [] h h₁) (y : But [D, D', L] h₁ h₂) (hD : @LE.le Nat _ h.objs.size D) (hD' : @LE.le Nat _ h.objs.size D') : But [L] h h₂ :=
  ⟨fun a o e n => y.keep _ _ (x.keep _ _ e (fun m => nomatch m)) (fun m => by
    simp only [List.mem_cons, List.not_mem_nil, or_false] at m
    rcases m with rfl | rfl | rfl
    · exact absurd (Heap.lt_size e) (Nat.not_lt.mpr hD)
    · exact absurd (Heap.lt_size e) (Nat.not_lt.mpr hD')
    · exact n (by simp)), Nat.le_trans x.size y.size⟩
section
variable {w : World} {A : Around} {Q : Flow → Shared → Prop} {E : Value → Shared → Prop} {h : Heap} {g : Array GenState} {dr : Drawn} {t : Nat} {o : OsState}
theorem lawG2 (ark : ArK 13 A) (hu : A.units + 20 < cLine) (ok : Okay w.params h) {L S N R M DU F A' SP : Nat} {f hv : Value} {q : List Nat} (lL : Low w.params L) (hL : LocAt h L (locH S N f R M hv DU F A' SP)) (hlen : q.length ≤ 5) (hok : ∀ i ∈ q, okI i) (hne : F ≠ A') (hF : HdrIs w h F (q.map rowI)) (hR : RowsAt w h DU (q.map rowI)) (hA : HdrIs w h A' ((q.map ag).map rowI)) (hS : RowsAt w h SP ((q.map ag).map rowI))
    (hQ : ∀ s', But [] h s'.heap → OkS w.params g o s' → Q .next s') : wpAny (model pw w) A (execs [gB 2] (envF 257 L)) Q E ⟨h, g, dr, t, o⟩ := by
  have ar := ark.weak
  obtain ⟨hs, tk, ep, sl, hL⟩ := hL
  obtain ⟨b1, b2, b3, hP⟩ := params_split w.params
  have lq : (q.map rowI).length ≤ 5 := by simpa using hlen
  have la : ((q.map ag).map rowI).length ≤ 5 := by simpa using hlen
  have same : ((q.map ag).map rowI).map f12 = (q.map rowI).map f12 := by
    rw [List.map_map, List.map_map, List.map_map]
    refine List.map_congr_left fun i m => ?_
    show f12 (rowI (ag i)) = f12 (rowI i)
    rw [(ag_itm i (hok i m)).2.2.1]
    rfl
  have one : ∀ (j : Bool) {Q' : Bool → Shared → Prop} (s : Shared), But [] h s.heap → OkS w.params g o s → (∀ s', But [] h s'.heap → OkS w.params g o s' → Q' false s') → wpAny (model pw w) A (PySem.isTrue (eG2j j) (envF 257 L) (eval (eG2j j) (envF 257 L))) Q' E s := by
    intro j Q' s b ok k
    obtain ⟨h₀, g₀, dr₀, t₀, o₀⟩ := s
    obtain ⟨ok, rfl, rfl⟩ := ok
    obtain ⟨n, hn⟩ := ok.size
    have L₀ := b.keep _ _ hL (fun m => nomatch m)
    rw [isTrue_zf]
    refine wpAny_boolT (segCall hP ar ok hn [L] [frm hs tk ep sl _] 0 20 (low1 lL) (by simp) ⟨L₀, trivial⟩ (lwG2 w.params b1 b2 b3 n t₀ L hs tk ep sl S N f R M hv DU F A' SP j) fun out h₁ dr₁ hout Sx af => ?_)
    subst hout
    rw [Sx]
    have b₁ : But [] h₀ h₁ := af.but
    have B₁ := b.trans b₁
    have fin : ∀ s₂ : Shared, But [] h₁ s₂.heap → OkS w.params g o s₂ → wpAny (model pw w) A (treeOf (outG2 (mkP w.params b1 b2 b3) n t₀ L hs tk ep sl S N f R M hv DU F A' SP j) (.ok (.ret (.bool true)))) (fun fin s' => match fin with | .done .next => Q' true s' | .done .brk => Q' false s' | _ => False) E s₂ := by
      intro s₂ b₂ ok₂
      obtain ⟨h₂, g₂, dr₂, t₂, o₂⟩ := s₂
      obtain ⟨ok₂, rfl, rfl⟩ := ok₂
      obtain ⟨n₂, hn₂⟩ := ok₂.size
      refine segFin hP ar ok₂ hn₂ [] [] 0 10 low0 (by simp) trivial (lwG2b w.params b1 b2 b3 n t₀ L hs tk ep sl S N f R M hv DU F A' SP j n₂ t₂) fun out h₃ dr₃ Sx af₃ => ?_
      rw [Sx]
      have b₃ : But [] h₂ h₃ := af₃.but
      exact k _ (B₁.trans (b₂.trans b₃)) af₃.ok
    cases j with
    | true => exact lawIs (ark.less (by decide)) (by omega) af.ok (rows := (q.map ag).map rowI) (by omega) (hA.keep B₁) (hS.keep B₁) fin
    | false => exact lawIs (ark.less (by decide)) (by omega) af.ok (rows := q.map rowI) (by omega) (hF.keep B₁) (hR.keep B₁) fin
  refine wpAny_execs_at ?_
  rw [gB2_eq]
  refine wpAny_If (wpAny_isTrue_BoolOp (wpAny_allTrue_Or_cons (one true _ (.refl _ _) ok fun s₁ b₁ ok₁ => ?_)))
  simp only [Bool.false_eq_true, if_false]
  refine wpAny_allTrue_Or_cons (one false _ b₁ ok₁ fun s₂ b₂ ok₂ => ?_)
  simp only [Bool.false_eq_true, if_false]
  refine wpAny_allTrue_Or_cons (wpAny_isTrue_Not (wpAny_isTrue_Compare1 ?_ (eqMarks _)))
  have side : ∀ (j : Bool) {Q' : Value → Shared → Prop} (s : Shared), But [] h s.heap → OkS w.params g o s → (∀ s', But [] h s'.heap → OkS w.params g o s' → Q' (.ref (pickA j F A')) s') → wpAny (model pw w) A (eval (match j with | true => subE eG2 [2, 0, 0] | false => subE eG2 [2, 0, 1]) (envF 257 L)) Q' E s := by
    intro j Q' s b ok k
    obtain ⟨h₀, g₀, dr₀, t₀, o₀⟩ := s
    obtain ⟨ok, rfl, rfl⟩ := ok
    obtain ⟨n, hn⟩ := ok.size
    have L₀ := b.keep _ _ hL (fun m => nomatch m)
    rw [eval_zf]
    refine wpAny_valT (segFin hP ar ok hn [L] [frm hs tk ep sl _] 0 20 (low1 lL) (by simp) ⟨L₀, trivial⟩ (lwG2c w.params b1 b2 b3 n t₀ L hs tk ep sl S N f R M hv DU F A' SP j) fun out h₁ dr₁ Sx af => ?_)
    rw [Sx]
    exact k _ (b.trans af.but) af.ok
  refine side true _ b₂ ok₂ fun s₃ b₃ ok₃ => ?_
  refine side false _ b₃ ok₃ fun s₄ b₄ ok₄ => ?_
  obtain ⟨h₄, g₄, dr₄, t₄, o₄⟩ := s₄
  obtain ⟨ok₄, rfl, rfl⟩ := ok₄
  refine cmpEq ark hu ok₄ la (hA.keep b₄) (.inl ⟨q.map rowI, lq, hF.keep b₄, rfl, fun e => hne e.symm⟩) fun s₅ b₅ ok₅ => ?_
  rw [decide_eq_true same]
  refine wpAny_truthy_bool ?_
  simp only [Bool.not_true, Bool.false_eq_true, if_false]
  refine wpAny_allTrue_Or_nil ?_
  simp only [Bool.false_eq_true, if_false]
  exact wpAny_execs_nil (wpAny_execs_nil (hQ _ (b₄.trans b₅) ok₅))
end
end Mine
end
section
open PySem PySem.W PySem.W.X PySem.Calls PyProof.Rows
set_option maxRecDepth 100000
set_option maxHeartbeats 400000
namespace Mine
open PySem.W.ZFast
theorem low5 {P : Params} {a b c d e : Nat} (ha : Low P a) (hb : Low P b) (hc : Low P c) (hd : Low P d) (he : Low P e) : ∀ x ∈ [a, b, c, d, e], Low P x := fun x m => by
  simp only [List.mem_cons, List.not_mem_nil, or_false] at m
  rcases m with rfl | rfl | rfl | rfl | rfl <;> assumption
theorem eJ2_pick (F A : Nat) : pickA true F A = A ∧ pickA false F A = F := ⟨rfl, rfl⟩
section
variable {w : World} {A : Around} {Q : Flow → Shared → Prop} {E : Value → Shared → Prop} {h : Heap} {g : Array GenState} {dr : Drawn} {t : Nat} {o : OsState}
theorem compJ {L : Nat} {e : Expr} (hE : TurnK1 257 e L sRow f12) (he : e = .ListComp (eltC e) [⟨tgtC e, itrC e, [], 0⟩] (scpC e) (posE e)) (ar : Ar A) (ok : Okay w.params h) {it acc D lst : Nat} {arr : Array Value} {rows : List Row} (his : rows.length ≤ 1000)
    (li : Low w.params it) (la : Low w.params acc) (lD : Low w.params D) (hsz : h.objs.size = D + 1) (hi : IterAt h it (.ref lst) 0) (hl : LstAt h lst arr) (hp : All2 (pRow h) arr.toList rows) (ha : LstAt h acc #[]) (hD : DctAt h D []) (hne : acc ≠ lst)
    {R : Result → Shared → Prop} (hQ : ∀ arr q s', But [it, D, acc] h s'.heap → OkS w.params g o s' → DctAt s'.heap D (kn1 sRow q) → LstAt s'.heap acc arr → All2 (pOf f12 s'.heap) arr.toList rows → R (.ok .next) s') :
    codeAny (model pw w) A (.compStart e 0 (.ref it) (.ref acc) (cenvF 257 e L D)) R ⟨h, g, dr, t, o⟩ := by
  have hc := congrArg (fun z => Code.compStart z 0 (.ref it) (.ref acc) (cenvF 257 e L D)) he
  rw [hc]
  refine compG (DOK := fun l => ∃ q, l = kn1 sRow q) (pin := pRow) (pout := pOf f12) (cenv := fun D => cenvF 257 e L D) pRow_keep (pOf_keep f12)
    (fun {A Q E h g dr t o it D lst k item i l} ar ok li lD hq hD hp hi hQ => turnRow1 hE (lst := lst) (k := k) ar ok lD hq hD hp hQ) ar ok (is := rows) his ⟨none, rfl⟩ li la lD hsz hi hl.isList hp ha hD hne fun arr' l s₂ hq b₂ ok₂ d₂ a₂ p₂ => ?_
  obtain ⟨q, rfl⟩ := hq
  exact hQ arr' q s₂ b₂ ok₂ d₂ a₂ p₂
theorem lawJ0 (ar : Ar A) (ok : Okay w.params h) {L S N R M DU F A' SP i0 : Nat} {f hv : Value} {q : List Nat} (lL : Low w.params L) (hL : LocAt h L (locH S N f R M hv DU F A' SP)) (hlen : (i0 :: q).length ≤ 5) (hok : okI i0) (hR : RowsAt w h DU ((i0 :: q).map rowI))
    (hQ : ∀ OT s', But [L] h s'.heap → OkS w.params g o s' → LocAt s'.heap L (locI S N f R M hv DU F A' SP OT) → @LE.le Nat _ 258 OT → ListIs ((q.map rowI).map f12 ++ [[(rowI i0).2.1, bts ((told i0).2 ++ [120])]]) s'.heap OT → Q .next s') : wpAny (model pw w) A (execs [jB 0] (envF 257 L)) Q E ⟨h, g, dr, t, o⟩ := by
  obtain ⟨hs, tk, ep, sl, hL⟩ := hL
  obtain ⟨lD, arr, aR, pR⟩ := hR
  obtain ⟨epa, eR⟩ := aR
  obtain ⟨n, hn⟩ := ok.size
  obtain ⟨b1, b2, b3, hP⟩ := params_split w.params
  have hll := pR.len
  rw [List.length_map] at hll
  obtain ⟨k, x1, x2, x3, x4, x5, hk, e5⟩ := five_of arr.toList (by omega)
  have kl : k = (i0 :: q).length := by rw [← hll, e5, five_len hk]
  have hk5 := k5 (k := k) (by rw [kl]; simp) hk
  have ea : arr = (five k x1 x2 x3 x4 x5).toArray := by rw [← e5]
  subst ea
  rw [List.toList_toArray, five_cons hk5] at pR
  obtain ⟨p1, pR⟩ := pR
  obtain ⟨tp, ts, epr, rfl, ltp, etp⟩ := p1
  have nLR : L ≠ DU := ne_cls hL eR (by simp [frm, lstO])
  have nLt : L ≠ tp := ne_cls hL etp (by simp [frm, tupO])
  have nRt : DU ≠ tp := ne_cls eR etp (by simp [lstO, tupO])
  rw [execs_zf]
  refine wpAny_flowT (segCall hP ar ok hn [L, DU] [frm hs tk ep sl _, lstO (five k (.ref tp) x2 x3 x4 x5).toArray epa] 0 50 (low2 lL (Low.high lD)) (by simp [nLR]) ⟨hL, eR, trivial⟩ (lwJ0 w.params b1 b2 b3 n t L hs tk ep sl S N f R M hv DU F A' SP k hk5 (.ref tp) x2 x3 x4 x5 epa) fun out h₁ dr₁ hout Sx af => ?_)
  subst hout
  obtain ⟨hc, hnum, l3, i4, l5, d6⟩ := Sx
  rw [hc]
  have b₁ : But [] h h₁ := af.but
  have lo : ∀ j, Low w.params (n + 258 + j) := fun j => Low.high (by omega)
  have fr : ∀ j, @LE.le Nat _ h.objs.size (n + 258 + j) := fun j => by rw [hn]; exact Nat.le_add_right _ _
  have ltL := Heap.lt_size hL
  have ltR := Heap.lt_size eR
  have ltt := Heap.lt_size etp
  have nLj : ∀ j, L ≠ n + 258 + j := fun j => Nat.ne_of_lt (Nat.lt_of_lt_of_le ltL (fr j))
  have nRj : ∀ j, DU ≠ n + 258 + j := fun j => Nat.ne_of_lt (Nat.lt_of_lt_of_le ltR (fr j))
  have ntj : ∀ j, tp ≠ n + 258 + j := fun j => Nat.ne_of_lt (Nat.lt_of_lt_of_le ltt (fr j))
  refine compJ (lwJ0t L) eJ0_comp ar af.ok (rows := q.map rowI) (by rw [List.length_map]; simp only [List.length_cons] at hlen; omega) (lo 2) (lo 3) (lo 4) (by rw [af.size, hnum]) (af.get 4 _ i4) (lst := n + 258 + 1) ⟨_, af.get 3 _ l3⟩ (pR.imp fun v i x => pRow_keep _ _ _ _ (TupK.nil b₁) x) ⟨_, af.get 5 _ l5⟩ ⟨_, _, _, af.get 6 _ d6⟩ (by omega) fun arr' qq s₂ b₂ ok₂ d₂ a₂ p₂ => ?_
  obtain ⟨hs', tk', ep', d₂⟩ := d₂
  obtain ⟨h₂, g₂, dr₂, t₂, o₂⟩ := s₂
  obtain ⟨ok₂, rfl, rfl⟩ := ok₂
  obtain ⟨n₂, hn₂⟩ := ok₂.size
  have B₂ : But [] h h₂ := b₁.fresh b₂ (fun x mm => by simp only [List.mem_cons, List.not_mem_nil, or_false] at mm; rcases mm with rfl | rfl | rfl <;> exact fr _)
  have L₂ : h₂.get? L = some _ := B₂.keep _ _ hL (fun m => nomatch m)
  have R₂ := B₂.keep _ _ eR (fun m => nomatch m)
  have T₂ : h₂.get? tp = some (tupO (txts ts 0 [bts (itm i0).1, bts (told i0).1, bts (told i0).2]) epr) := B₂.keep _ _ etp (fun m => nomatch m)
  have l2 := p₂.len
  rw [List.length_map] at l2
  obtain ⟨y2, y3, y4, y5, ey⟩ := tail5_of hk5 arr'.toList (by rw [l2, kl]; simp)
  have ea' : arr' = (tail5 k y2 y3 y4 y5).toArray := by rw [← ey]
  subst ea'
  obtain ⟨epc, a₂⟩ := a₂
  refine segFin hP ar ok₂ hn₂ [n + 258 + 4, n + 258 + 3, L, DU, tp] [dctO hs' tk' ep' (kn1 sRow qq), lstO (tail5 k y2 y3 y4 y5).toArray epc, frm hs tk ep sl _, lstO (five k (.ref tp) x2 x3 x4 x5).toArray epa, tupO (txts ts 0 [bts (itm i0).1, bts (told i0).1, bts (told i0).2]) epr] 3 110
    (low5 (lo 4) (lo 3) lL (Low.high lD) (Low.high ltp)) ?_ ⟨d₂, a₂, L₂, R₂, T₂, trivial⟩ (lwJ0b w.params b1 b2 b3 n t L hs tk ep sl S N f R M hv DU F A' SP k hk5 tp x2 x3 x4 x5 epa n₂ t₂ hs' tk' ep' qq y2 y3 y4 y5 epc hs tk ep sl (bts (itm i0).1) (bts (told i0).1) (told i0).2 (ag_itm i0 hok).2.2.2 ts epr) fun out h₃ dr₃ Sx af₃ => ?_
  · simp only [List.nodup_cons, List.mem_cons, List.not_mem_nil, or_false, not_or, List.nodup_nil, and_true, not_false_eq_true]
    exact ⟨⟨by omega, (nLj 4).symm, (nRj 4).symm, (ntj 4).symm⟩, ⟨(nLj 3).symm, (nRj 3).symm, (ntj 3).symm⟩, ⟨nLR, nLt⟩, nRt⟩
  obtain ⟨hf, s1, s2, s5, s7⟩ := Sx
  rw [hf]
  have b₃ : But [n + 258 + 4, n + 258 + 3, L] h₂ h₃ := af₃.but
  have t₃ : TupK h₂ h₃ := TupK.of b₃ (fun a m => by
    simp only [List.mem_cons, List.not_mem_nil, or_false] at m
    rcases m with rfl | rfl | rfl
    · exact ⟨_, d₂, by simp [dctO]⟩
    · exact ⟨_, a₂, by simp [lstO]⟩
    · exact ⟨_, L₂, by simp [frm]⟩)
  refine hQ (n₂ + 258 + 2) _ (B₂.step3 b₃ (fr 4) (fr 3)) af₃.ok ⟨_, _, _, _, af₃.get 2 _ s2⟩ (by omega) ⟨_, ⟨_, af₃.get 7 _ s7⟩, ?_⟩
  rw [List.toList_toArray]
  refine All2.snoc ⟨n₂ + 258, _, _, rfl, Nat.le_add_left _ _, af₃.get 5 _ s5⟩ ?_
  exact All2.map ((show All2 (pOf f12 h₂) (tail5 k y2 y3 y4 y5) (q.map rowI) from p₂).imp fun v i x => TupAt.keepT t₃ x)
theorem lawJ1 (ark : ArK 3 A) (ok : Okay w.params h) {L S N R M DU F A' SP OT x tx : Nat} {hv : Value} {rows : List Row} {lb : List (List (Array UInt8))} (lL : Low w.params L) (hL : LocAt h L (locI S N (.int (.ofNat x) tx) R M hv DU F A' SP OT)) (h1 : 1 ≤ rows.length) (hlen : rows.length ≤ 5) (hR : RowsAt w h DU rows) (lO : @LE.le Nat _ 258 OT) (hO : ListIs lb h OT)
    (hQ : ∀ OT' lb' s', But [L] h s'.heap → OkS w.params g o s' → LocAt s'.heap L (locI S N (.int (.ofNat x) tx) R M hv DU F A' SP OT') → @LE.le Nat _ 258 OT' → ListIs lb' s'.heap OT' → (lb' = lb ∨ lb' = rows.dropLast.map f12) → Q .next s') : wpAny (model pw w) A (execs [jB 1] (envF 257 L)) Q E ⟨h, g, dr, t, o⟩ := by
  have ar := ark.weak
  obtain ⟨hs, tk, ep, sl, hL⟩ := hL
  obtain ⟨lD, arr, aR, pR⟩ := hR
  obtain ⟨epa, eR⟩ := aR
  obtain ⟨n, hn⟩ := ok.size
  obtain ⟨b1, b2, b3, hP⟩ := params_split w.params
  have hll := pR.len
  obtain ⟨k, x1, x2, x3, x4, x5, hk, e5⟩ := five_of arr.toList (by omega)
  have kl : k = rows.length := by rw [← hll, e5, five_len hk]
  have hk5 := k5 (k := k) (by omega) hk
  have ea : arr = (five k x1 x2 x3 x4 x5).toArray := by rw [← e5]
  subst ea
  rw [List.toList_toArray] at pR
  have nLR : L ≠ DU := ne_cls hL eR (by simp [frm, lstO])
  have stay : ∀ s' : Shared, But [] h s'.heap → OkS w.params g o s' → Q .next s' := fun s' b ok' =>
    hQ OT lb s' b.nil ok' ⟨_, _, _, _, b.keep _ _ hL (fun m => nomatch m)⟩ lO (hO.keep b) (.inl rfl)
  refine wpAny_execs_at ?_
  rw [jB1_eq]
  refine wpAny_If ?_
  rw [isTrue_zf]
  by_cases h2 : k = 1
  · subst h2
    refine wpAny_boolT (segFin hP ar ok hn [L, DU] [frm hs tk ep sl _, lstO #[x1] epa] 0 50 (low2 lL (Low.high lD)) (by simp [nLR]) ⟨hL, eR, trivial⟩ (lwJ1z w.params b1 b2 b3 n t L hs tk ep sl S N (.int (.ofNat x) tx) R M hv DU F A' SP OT x1 epa) fun out h₁ dr₁ Sx af => ?_)
    rw [Sx]
    simp only [Bool.false_eq_true, if_false]
    exact wpAny_execs_nil (wpAny_execs_nil (stay _ af.but af.ok))
  · have hk4 : k = 2 ∨ k = 3 ∨ k = 4 ∨ k = 5 := by omega
    refine wpAny_boolT (segCall hP ar ok hn [L, DU] [frm hs tk ep sl _, lstO (five k x1 x2 x3 x4 x5).toArray epa] 0 60 (low2 lL (Low.high lD)) (by simp [nLR]) ⟨hL, eR, trivial⟩ (lwJ1 w.params b1 b2 b3 n t L hs tk ep sl S N x tx R M hv DU F A' SP OT k hk4 x1 x2 x3 x4 x5 epa) fun out h₁ dr₁ hout Sx af => ?_)
    subst hout
    have e : Z.modQ (.ofNat x) 2 = bitI (x % 2 == 1) := by rw [← bit_of]; exact modQ_nat x 2
    rw [e] at Sx
    rw [Sx]
    have b₁ : But [] h h₁ := af.but
    refine eqZero (ark.less (by decide)) af.ok fun s₂ b₂ ok₂ => ?_
    obtain ⟨h₂, g₂, dr₂, t₂, o₂⟩ := s₂
    obtain ⟨ok₂, rfl, rfl⟩ := ok₂
    obtain ⟨n₂, hn₂⟩ := ok₂.size
    refine segFin hP ar ok₂ hn₂ [] [] 0 10 low0 (by simp) trivial (lwJ1b w.params b1 b2 b3 n t L hs tk ep sl S N x tx R M hv DU F A' SP OT k hk4 x1 x2 x3 x4 x5 epa n₂ t₂ _) fun out h₃ dr₃ Sx af₃ => ?_
    rw [Sx]
    have b₃ : But [] h₂ h₃ := af₃.but
    have B₃ : But [] h h₃ := b₁.trans (b₂.trans b₃)
    cases hb : (x % 2 == 1) with
    | true =>
      simp only [bfin, Bool.not_true, Bool.false_eq_true, if_false]
      exact wpAny_execs_nil (wpAny_execs_nil (stay _ B₃ af₃.ok))
    | false =>
      simp only [bfin, Bool.not_false, if_true]
      generalize t₂ + tokOf out = t₃
      obtain ⟨n₃, hn₃⟩ := af₃.ok.size
      have L₃ := B₃.keep _ _ hL (fun m => nomatch m)
      have R₃ := B₃.keep _ _ eR (fun m => nomatch m)
      rw [execs_zf]
      refine wpAny_flowT (segCall hP ar af₃.ok hn₃ [L, DU] [frm hs tk ep sl _, lstO (five k x1 x2 x3 x4 x5).toArray epa] 0 60 (low2 lL (Low.high lD)) (by simp [nLR]) ⟨L₃, R₃, trivial⟩ (lwJ1c w.params b1 b2 b3 n₃ t₃ L hs tk ep sl S N (.int (.ofNat x) tx) R M hv DU F A' SP OT k hk4 x1 x2 x3 x4 x5 epa) fun out h₄ dr₄ hout Sx af₄ => ?_)
      subst hout
      obtain ⟨hc, hnum, l3, i4, l5, d6⟩ := Sx
      rw [hc]
      have b₄ : But [] h₃ h₄ := af₄.but
      have B₄ := B₃.trans b₄
      have lo : ∀ j, Low w.params (n₃ + 258 + j) := fun j => Low.high (by omega)
      have fr : ∀ j, @LE.le Nat _ h.objs.size (n₃ + 258 + j) := fun j => by have := B₃.size; rw [hn₃] at this; exact Nat.le_trans this (Nat.le_add_right _ _)
      have ltL := Heap.lt_size hL
      have nLj : ∀ j, L ≠ n₃ + 258 + j := fun j => Nat.ne_of_lt (Nat.lt_of_lt_of_le ltL (fr j))
      have pI : All2 (pRow h₄) (init5 k x1 x2 x3 x4).toArray.toList rows.dropLast := by
        rw [List.toList_toArray, ← five_init hk5]
        exact pR.dropLast.imp fun v i x => pRow_keep _ _ _ _ (TupK.nil B₄) x
      refine compJ (lwJ1t L) eJ1_comp ar af₄.ok (rows := rows.dropLast) (by rw [List.length_dropLast]; omega) (lo 2) (lo 3) (lo 4) (by rw [af₄.size, hnum]) (af₄.get 4 _ i4) (lst := n₃ + 258 + 1) ⟨_, af₄.get 3 _ l3⟩ pI ⟨_, af₄.get 5 _ l5⟩ ⟨_, _, _, af₄.get 6 _ d6⟩ (by omega) fun arr' qq s₅ b₅ ok₅ d₅ a₅ p₅ => ?_
      obtain ⟨hs', tk', ep', d₅⟩ := d₅
      obtain ⟨h₅, g₅, dr₅, t₅, o₅⟩ := s₅
      obtain ⟨ok₅, rfl, rfl⟩ := ok₅
      obtain ⟨n₅, hn₅⟩ := ok₅.size
      have B₅ : But [] h h₅ := B₄.fresh b₅ (fun x mm => by simp only [List.mem_cons, List.not_mem_nil, or_false] at mm; rcases mm with rfl | rfl | rfl <;> exact fr _)
      have L₅ : h₅.get? L = some _ := B₅.keep _ _ hL (fun m => nomatch m)
      have nLD : L ≠ n₃ + 258 + 4 := nLj 4
      refine segFin hP ar ok₅ hn₅ [L, n₃ + 258 + 4] [frm hs tk ep sl _, dctO hs' tk' ep' (kn1 sRow qq)] 2 40 (low2 lL (lo 4)) (by simp [nLD]) ⟨L₅, d₅, trivial⟩ (lwJ1d w.params b1 b2 b3 n₃ t₃ L hs tk ep sl S N (.int (.ofNat x) tx) R M hv DU F A' SP OT k hk4 x1 x2 x3 x4 x5 epa n₅ t₅ hs' tk' ep' qq hs tk ep sl) fun out h₆ dr₆ Sx af₆ => ?_
      obtain ⟨hf, s0⟩ := Sx
      rw [hf]
      have b₆ : But [L, n₃ + 258 + 4] h₅ h₆ := af₆.but
      have t₆ : TupK h₅ h₆ := TupK.of b₆ (fun a m => by
        simp only [List.mem_cons, List.not_mem_nil, or_false] at m
        rcases m with rfl | rfl
        · exact ⟨_, L₅, by simp [frm]⟩
        · exact ⟨_, d₅, by simp [dctO]⟩)
      refine wpAny_execs_nil (hQ (n₃ + 258 + 3) _ _ (B₅.step2 b₆ (fr 4)) af₆.ok ⟨_, _, _, _, af₆.get 0 _ s0⟩ (by omega) ⟨arr', a₅.keep b₆ (by simp only [List.mem_cons, List.not_mem_nil, or_false, not_or]; exact ⟨(nLj 3).symm, by omega⟩), pf_map f12 (p₅.imp fun v i x => TupAt.keepT t₆ x)⟩ (.inr rfl))
theorem lawJ2 (ark : ArK 13 A) (hu : A.units + 20 < cLine) (ok : Okay w.params h) {L S N R M DU F A' SP OT : Nat} {f hv : Value} {rows : List Row} {lb : List (List (Array UInt8))} (lL : Low w.params L) (hL : LocAt h L (locI S N f R M hv DU F A' SP OT)) (hlen : rows.length ≤ 5) (hF : HdrIs w h F rows) (lO : @LE.le Nat _ 258 OT) (hO : ListIs lb h OT) (hll : lb.length ≤ 1000) (hne : rows.map f12 ≠ lb)
    (hQ : ∀ s', But [] h s'.heap → OkS w.params g o s' → Q .next s') : wpAny (model pw w) A (execs [jB 2] (envF 257 L)) Q E ⟨h, g, dr, t, o⟩ := by
  have ar := ark.weak
  obtain ⟨hs, tk, ep, sl, hL⟩ := hL
  obtain ⟨b1, b2, b3, hP⟩ := params_split w.params
  have side : ∀ (j : Bool) {Q' : Value → Shared → Prop} (s : Shared), But [] h s.heap → OkS w.params g o s → (∀ s', But [] h s'.heap → OkS w.params g o s' → Q' (.ref (pickA j F OT)) s') → wpAny (model pw w) A (eval (match j with | true => subE eJ2 [1] | false => subE eJ2 [0]) (envF 257 L)) Q' E s := by
    intro j Q' s b ok k
    obtain ⟨h₀, g₀, dr₀, t₀, o₀⟩ := s
    obtain ⟨ok, rfl, rfl⟩ := ok
    obtain ⟨n, hn⟩ := ok.size
    have L₀ := b.keep _ _ hL (fun m => nomatch m)
    rw [eval_zf]
    refine wpAny_valT (segFin hP ar ok hn [L] [frm hs tk ep sl _] 0 20 (low1 lL) (by simp) ⟨L₀, trivial⟩ (lwJ2 w.params b1 b2 b3 n t₀ L hs tk ep sl S N f R M hv DU F A' SP OT j) fun out h₁ dr₁ Sx af => ?_)
    rw [Sx]
    exact k _ (b.trans af.but) af.ok
  refine wpAny_execs_at ?_
  rw [jB2_eq]
  refine wpAny_If (wpAny_isTrue_Compare1 ?_ (eqMarks _))
  refine side false _ (.refl _ _) ok fun s₁ b₁ ok₁ => ?_
  refine side true _ b₁ ok₁ fun s₂ b₂ ok₂ => ?_
  obtain ⟨h₂, g₂, dr₂, t₂, o₂⟩ := s₂
  obtain ⟨ok₂, rfl, rfl⟩ := ok₂
  refine cmpEq ark hu ok₂ hlen (hF.keep b₂) (.inr ⟨hll, lO, hO.keep b₂⟩) fun s₃ b₃ ok₃ => ?_
  rw [decide_eq_false hne]
  refine wpAny_truthy_bool ?_
  simp only [Bool.false_eq_true, if_false]
  exact wpAny_execs_nil (wpAny_execs_nil (hQ _ (b₂.trans b₃) ok₃))
theorem lawG3 (ark : ArK 13 A) (hu : A.units + 20 < cLine) (ok : Okay w.params h) {L S N R M DU F A' SP x tx : Nat} {hv : Value} {q : List Nat} (lL : Low w.params L) (hL : LocAt h L (locH S N (.int (.ofNat x) tx) R M hv DU F A' SP)) (hlen : q.length ≤ 5) (hok : ∀ i ∈ q, okI i) (hF : HdrIs w h F (q.map rowI)) (hR : RowsAt w h DU (q.map rowI))
    (hQ : ∀ ot s', But [L] h s'.heap → OkS w.params g o s' → LocAt s'.heap L (locH S N (.int (.ofNat x) tx) R M hv DU F A' SP ++ moreO ot) → Q .next s') : wpAny (model pw w) A (execs [gB 3] (envF 257 L)) Q E ⟨h, g, dr, t, o⟩ := by
  have ar := ark.weak
  obtain ⟨hs, tk, ep, sl, hL⟩ := hL
  obtain ⟨n, hn⟩ := ok.size
  obtain ⟨b1, b2, b3, hP⟩ := params_split w.params
  refine wpAny_execs_at ?_
  rw [gB3_eq]
  refine wpAny_If (testNil (by omega) ?_)
  rw [eval_zf]
  refine wpAny_valT (segFin hP ar ok hn [L] [frm hs tk ep sl _] 0 20 (low1 lL) (by simp) ⟨hL, trivial⟩ (lwG3 w.params b1 b2 b3 n t L hs tk ep sl S N (.int (.ofNat x) tx) R M hv DU F A' SP) fun out h₁ dr₁ Sx af => ?_)
  rw [Sx]
  have b₁ : But [] h h₁ := af.but
  obtain ⟨lD, arr, aR, pR⟩ := id hR
  refine ⟨DU, arr, rfl, af.ok, aR.keep b₁ (fun m => nomatch m), fun s₂ b₂ ok₂ => ?_⟩
  have B₂ := b₁.trans b₂
  have L₂ := B₂.keep _ _ hL (fun m => nomatch m)
  cases q with
  | nil =>
    have e : arr.toList = [] := List.eq_nil_of_length_eq_zero pR.len
    rw [e]
    simp only [List.isEmpty_nil, Bool.not_true, Bool.false_eq_true, if_false]
    exact wpAny_execs_nil (wpAny_execs_nil (hQ none _ B₂.nil ok₂ ⟨hs, tk, ep, sl, L₂⟩))
  | cons i0 q =>
    have e : (!arr.toList.isEmpty) = true := by
      have := pR.len
      cases h : arr.toList with
      | nil => rw [h] at this; simp at this
      | cons => rfl
    rw [e]
    simp only [if_true]
    obtain ⟨h₂, g₂, dr₂, t₂, o₂⟩ := s₂
    obtain ⟨ok₂, rfl, rfl⟩ := ok₂
    have frl : ∀ l, (frm hs tk ep sl l).cls = .type "frame" := fun _ => rfl
    refine wpAny_mono (Q := fun f s' => match f with | .next => Q .next s' | _ => False) ?_ (fun f s' x => ?_) fun _ _ x => x
    · refine wpAny_execs_append [jB 0] ?_
      refine lawJ0 ar ok₂ lL ⟨_, _, _, _, L₂⟩ hlen (hok i0 (by simp)) (hR.keep B₂) fun OT s₃ b₃ ok₃ L₃ lO hO => ?_
      obtain ⟨h₃, g₃, dr₃, t₃, o₃⟩ := s₃
      obtain ⟨ok₃, rfl, rfl⟩ := ok₃
      have R₃ : RowsAt w h₃ DU ((i0 :: q).map rowI) := (hR.keep B₂).keep1 b₃ L₂ (by rw [frl]; simp)
      have F₃ : HdrIs w h₃ F ((i0 :: q).map rowI) := (hF.keep B₂).keep1 b₃ L₂ (frl _)
      refine wpAny_execs_append [jB 1] ?_
      refine lawJ1 (ark.less (by decide)) ok₃ lL L₃ (by simp) (by rw [List.length_map]; exact hlen) R₃ lO hO fun OT' lb' s₄ b₄ ok₄ L₄ lO' hO' hlb => ?_
      obtain ⟨h₄, g₄, dr₄, t₄, o₄⟩ := s₄
      obtain ⟨ok₄, rfl, rfl⟩ := ok₄
      obtain ⟨x1, x2, x3, x4, e3⟩ := L₃
      have F₄ : HdrIs w h₄ F ((i0 :: q).map rowI) := F₃.keep1 b₄ e3 (by rfl)
      simp only [List.length_cons] at hlen
      refine lawJ2 ark hu ok₄ lL L₄ (by rw [List.length_map]; simpa using hlen) F₄ lO' hO' ?_ ?_ fun s₅ b₅ ok₅ => ?_
      · rcases hlb with rfl | rfl
        · simp only [List.length_append, List.length_map, List.length_cons, List.length_nil]; omega
        · simp only [List.length_map, List.length_dropLast, List.length_cons]; omega
      · rcases hlb with rfl | rfl
        · exact other_ne (rowI i0) (q.map rowI) (told i0).2 rfl
        · exact last_ne _ (by simp)
      · obtain ⟨y1, y2, y3, y4, e4⟩ := L₄
        exact hQ (some OT') _ (B₂.nil.trans (b₃.trans (b₄.trans b₅.nil))) ok₅ ⟨_, _, _, _, b₅.keep _ _ e4 (fun m => nomatch m)⟩
    · cases f with
      | next => exact wpAny_execs_nil x
      | cont => exact x.elim
      | brk => exact x.elim
      | ret v => exact x.elim
end
end Mine
end
section
open PySem PySem.W PySem.W.X PySem.Calls PyProof.Rows
set_option maxRecDepth 100000
set_option maxHeartbeats 400000
namespace Mine
open PySem.W.ZFast
theorem LstAt.keep1 {h h' : Heap} {R L : Nat} {arr : Array Value} {oL : Obj} (x : LstAt h R arr) (b : But [L] h h') (eL : h.get? L = some oL) (hc : oL.cls ≠ .type "list") : LstAt h' R arr := x.keep b (fun m => by
  rw [List.mem_singleton.mp m] at x
  obtain ⟨_, e⟩ := x
  rw [eL] at e
  cases e
  exact hc rfl)
theorem items1 {P : Params} {h h' : Heap} {L : Nat} {oL : Obj} {l : List Value} {is : List Nat} (x : All2 (ItemAt P h) l is) (b : But [L] h h') (eL : h.get? L = some oL) (hc : oL.cls ≠ .type "tuple") : All2 (ItemAt P h') l is :=
  have t : TupK h h' := TupK.of b (fun a m => by rw [List.mem_singleton.mp m]; exact ⟨_, eL, hc⟩)
  x.imp fun _ _ ⟨hi, p, t1, t2, ep, e, lp, q⟩ => ⟨hi, p, t1, t2, ep, e, lp, t _ _ q rfl⟩
theorem live1 {h h' : Heap} {l : List Env} {L : Nat} {ls : List (Str × Value)} (x : h.FunFrames heap0 l) (b : But [L] h h') (hL : LocAt h' L ls) : h'.FunFrames heap0 l := by
  obtain ⟨_, _, _, _, e⟩ := hL
  exact frBut x b ⟨_, e, fun _ q => by cases q⟩
section
variable {w : World} {A : Around} {Q : Flow → Shared → Prop} {E : Value → Shared → Prop} {h : Heap} {g : Array GenState} {dr : Drawn} {t : Nat} {o : OsState}
theorem lawTurn (ark : ArK 13 A) (hu : A.units + 20 < cLine) (ok : Okay w.params h) {L S N R M x tx : Nat} {r : Ol} {c : Bool} {arr : Array Value} {is : List Nat} (hfr : A.frames = some [envF 257 L]) (live : h.FunFrames heap0 [envF 257 L]) (l258 : @LE.le Nat _ 258 L) (l258R : @LE.le Nat _ 258 R) (hL : LocAt h L (locD S N (.int (.ofNat x) tx) R M ++ r.tk (.bool c))) (aR : LstAt h R arr) (iR : All2 (ItemAt w.params h) arr.toList is) (his : is.length ≤ 5) (h16 : ∀ i ∈ is, i < 16)
    (hQ : ∀ rest s', But [L] h s'.heap → OkS w.params g o s' → LocAt s'.heap L (locD S N (.int (.ofNat x) tx) R M ++ rest) → (c = true → ∃ r' : Ol, rest = r'.inn) → Q .next s') : wpAny (model pw w) A (execs [fB 0, fB 1, fB 2] (envF 257 L)) Q E ⟨h, g, dr, t, o⟩ := by
  have lL : Low w.params L := Low.high l258
  refine wpAny_execs_append [fB 0] ?_
  obtain ⟨x1, x2, x3, x4, e0⟩ := id hL
  refine lawB0 (ark.less (by decide)) hu ok lL hL aR iR his h16 fun hint th TL rows s₁ b₁ ok₁ L₁ R₁ gv => ?_
  obtain ⟨h₁, g₁, dr₁, t₁, o₁⟩ := s₁
  obtain ⟨ok₁, rfl, rfl⟩ := ok₁
  have live₁ := live1 live b₁ L₁
  obtain ⟨y1, y2, y3, y4, e1⟩ := id L₁
  refine wpAny_execs_append [fB 1] ?_
  refine lawB1 (ark.less (by decide)) ok₁ hfr live₁ l258 l258R L₁ (aR.keep1 b₁ e0 (by simp [frm])) (items1 iR b₁ e0 (by simp [frm])) his (fun q hq F s₂ b₂ ok₂ L₂ F₂ => ?_) (fun er hq tk s₂ b₂ ok₂ L₂ => ?_)
  · unfold RowsGive at gv
    rw [hq] at gv
    obtain ⟨rfl, rfl⟩ := gv
    have qlen : q.length ≤ 5 := Nat.le_trans (fold_len is (!c) none false q hq) his
    obtain ⟨h₂, g₂, dr₂, t₂, o₂⟩ := s₂
    obtain ⟨ok₂, rfl, rfl⟩ := ok₂
    have R₂ := R₁.keep1 b₂ e1 (by simp [frm])
    have B₂ := b₁.trans b₂
    refine lawB2 (ark.less (by decide)) (by omega) ok₂ lL L₂ (by rw [List.length_map]; omega) F₂ R₂ (fun hc s₃ b₃ ok₃ => ?_) (fun hc s₃ b₃ ok₃ => ?_)
    · obtain ⟨z1, z2, z3, z4, e2⟩ := L₂
      exact hQ _ s₃ (B₂.trans b₃.nil) ok₃ ⟨_, _, _, _, b₃.keep _ _ e2 (fun m => nomatch m)⟩ (fun _ => ⟨.full _ _ _ _, rfl⟩)
    · subst hc
      have hq' : fold true is none false = .ok q := hq
      obtain ⟨hok, hag⟩ := fold_ag is none false q h16 (.inl rfl) hq'
      obtain ⟨z1, z2, z3, z4, e2⟩ := L₂
      have L₃ : LocAt s₃.heap L (locG S N (.int (.ofNat x) tx) R M (.int 0 th) TL F []) := ⟨z1, z2, z3, z4, b₃.keep _ _ e2 (fun m => nomatch m)⟩
      have B₃ : But [L] h s₃.heap := B₂.trans b₃.nil
      have F₃ := F₂.keep b₃
      have R₃ := R₂.keep b₃
      have live₃ := live1 live B₃ L₃
      obtain ⟨h₃, g₃, dr₃, t₃, o₃⟩ := s₃
      obtain ⟨ok₃, rfl, rfl⟩ := ok₃
      obtain ⟨w1, w2, w3, w4, e3⟩ := id L₃
      refine wpAny_execs_append [gB 0] ?_
      refine lawG0 (ark.less (by decide)) ok₃ hfr live₃ lL L₃ F₃ hq' h16 (by omega) fun A' s₄ hne b₄ ok₄ L₄ A₄ => ?_
      have F₄ := F₃.keep1 b₄ e3 rfl
      have R₄ := R₃.keep1 b₄ e3 (by simp [frm])
      obtain ⟨h₄, g₄, dr₄, t₄, o₄⟩ := s₄
      obtain ⟨ok₄, rfl, rfl⟩ := ok₄
      obtain ⟨v1, v2, v3, v4, e4⟩ := id L₄
      refine wpAny_execs_append [gB 1] ?_
      refine lawG1 ark.weak ok₄ lL L₄ R₄ (by omega) hok fun SP s₅ b₅ ok₅ L₅ S₅ => ?_
      have F₅ := F₄.keep1 b₅ e4 rfl
      have R₅ := R₄.keep1 b₅ e4 (by simp [frm])
      have A₅ := A₄.keep1 b₅ e4 rfl
      obtain ⟨h₅, g₅, dr₅, t₅, o₅⟩ := s₅
      obtain ⟨ok₅, rfl, rfl⟩ := ok₅
      obtain ⟨u1, u2, u3, u4, e5⟩ := id L₅
      refine wpAny_execs_append [gB 2] ?_
      refine lawG2 ark hu ok₅ lL L₅ qlen hok hne F₅ R₅ A₅ S₅ fun s₆ b₆ ok₆ => ?_
      have F₆ := F₅.keep b₆
      have R₆ := R₅.keep b₆
      have e6 := b₆.keep _ _ e5 (fun m => nomatch m)
      obtain ⟨h₆, g₆, dr₆, t₆, o₆⟩ := s₆
      obtain ⟨ok₆, rfl, rfl⟩ := ok₆
      refine wpAny_execs_append [gB 3] ?_
      refine lawG3 ark hu ok₆ lL ⟨_, _, _, _, e6⟩ qlen hok F₆ R₆ fun ot s₇ b₇ ok₇ L₇ => ?_
      have F₇ := F₆.keep1 b₇ e6 rfl
      have R₇ := R₆.keep1 b₇ e6 (by simp [frm])
      obtain ⟨h₇, g₇, dr₇, t₇, o₇⟩ := s₇
      obtain ⟨ok₇, rfl, rfl⟩ := ok₇
      refine lawG4 (ark.less (by decide)) (by omega) ok₇ lL L₇ (by rw [List.length_map]; omega) F₇ R₇ fun s₈ b₈ ok₈ => ?_
      obtain ⟨a1, a2, a3, a4, e7⟩ := L₇
      refine hQ ((sPars, .bool false) :: (sHintL, .int 0 th) :: (sDue, .ref TL) :: (sFields, .ref F) :: (sAgain, .ref A') :: (sSpelt, .ref SP) :: moreO ot) s₈ (B₃.trans (b₄.trans (b₅.trans (b₆.nil.trans (b₇.trans b₈.nil))))) ok₈ ⟨a1, a2, a3, a4, b₈.keep _ _ e7 (fun m => nomatch m)⟩ (fun q => nomatch q)
  · unfold RowsGive at gv
    rw [hq] at gv
    obtain ⟨rfl, rfl⟩ := gv
    obtain ⟨h₂, g₂, dr₂, t₂, o₂⟩ := s₂
    obtain ⟨ok₂, rfl, rfl⟩ := ok₂
    refine lawB2e ark.weak ok₂ (hint_cases _ _ _ _ _ hq) lL L₂ fun s₃ b₃ ok₃ => ?_
    obtain ⟨z1, z2, z3, z4, e2⟩ := L₂
    exact hQ _ s₃ (b₁.trans (b₂.trans b₃.nil)) ok₃ ⟨_, _, _, _, b₃.keep _ _ e2 (fun m => nomatch m)⟩ (fun _ => ⟨.full _ _ _ _, rfl⟩)
end
end Mine
end
section
open PySem PySem.W PySem.W.X PySem.Calls PyProof.Rows
set_option maxRecDepth 100000
set_option maxHeartbeats 400000
namespace Mine
open PySem.W.ZFast
def tcn : Option Bool → Nat | some true => 0 | some false => 1 | none => 2
def left : Option Bool → Nat | some true => 2 | some false => 1 | none => 0
def nxt : Bool → Option Bool | true => some false | false => none
structure LoopL (w : World) (g : Array GenState) (o : OsState) (h0 : Heap) (L T it epT S N R M : Nat) (f : Value) (st : Option Bool) (s : Shared) : Prop where
  ok : OkS w.params g o s
  but : But [L] h0 s.heap
  iter : s.heap.get? it = some (titO T (tcn st))
  tup : s.heap.get? T = some (tfO epT)
  loc : ∃ rest, LocAt s.heap L (locD S N f R M ++ rest) ∧ (st ≠ none → ∃ r : Ol, rest = r.inn)
theorem env257_kind (L : Nat) : (envF 257 L).scope.kind ≠ .module := by
  have : (match (envF 257 L).scope.kind with | .module => true | _ => false) = false := by kernel_rfl
  intro e
  rw [e] at this
  cases this
section
variable {w : World} {A : Around} {Q : Flow → Shared → Prop} {E : Value → Shared → Prop} {h : Heap} {g : Array GenState} {dr : Drawn} {t : Nat} {o : OsState}
theorem lw5N' (P : Params) (b1 b2 b3 : Bool) (n t T it ep : Nat) (c : Bool) : FinK (outR (mkP P b1 b2 b3) n t 2 [titO T (tcn (some c)), tfO ep] 30 282583095116033 1000 (optT (zw9404975358583537561 (.ref it)))) [it, T] n 1 [titO T (tcn (some c)), tfO ep]
    (fun o => finOf o = .done (.ret (.bool c)) ∧ tget (tabOf o) 0 = some (titO T (tcn (nxt c)))) := by
  cases c
  · exact lw5N P b1 b2 b3 n t T it ep false
  · exact lw5N P b1 b2 b3 n t T it ep true
theorem law5 (ark : ArK 13 A) (hu : A.units + 20 < cLine) (ok : Okay w.params h) {L S N R M x tx : Nat} {arr : Array Value} {is : List Nat} (hfr : A.frames = some [envF 257 L]) (live : h.FunFrames heap0 [envF 257 L]) (l258 : @LE.le Nat _ 258 L) (l258R : @LE.le Nat _ 258 R) (hL : LocAt h L (locD S N (.int (.ofNat x) tx) R M)) (aR : LstAt h R arr) (iR : All2 (ItemAt w.params h) arr.toList is) (his : is.length ≤ 5) (h16 : ∀ i ∈ is, i < 16)
    (hQ : ∀ rest s', But [L] h s'.heap → OkS w.params g o s' → LocAt s'.heap L (locD S N (.int (.ofNat x) tx) R M ++ rest) → Q .next s') : wpAny (model pw w) A (execs [stL 5] (envF 257 L)) Q E ⟨h, g, dr, t, o⟩ := by
  have ar := ark.weak
  have lL : Low w.params L := Low.high l258
  obtain ⟨n, hn⟩ := ok.size
  obtain ⟨b1, b2, b3, hP⟩ := params_split w.params
  obtain ⟨x1, x2, x3, x4, e0⟩ := id hL
  refine wpAny_execs_at ?_
  rw [stL5_eq]
  refine wpAny_For ?_
  rw [eval_zf]
  refine wpAny_valT (segFin hP ar ok hn [] [] 0 20 low0 (by simp) trivial (lw5I w.params b1 b2 b3 n t L) fun out h₁ dr₁ Sx af => ?_)
  obtain ⟨hf, s0⟩ := Sx
  rw [hf]
  have b₁ : But [] h h₁ := af.but
  have T₁ : h₁.get? (n + 258) = some (tfO _) := af.get 0 _ s0
  generalize epOf (objAt out 0) = epT at T₁
  generalize t + tokOf out = t₁
  obtain ⟨n₁, hn₁⟩ := af.ok.size
  have lT : Low w.params (n + 258) := Low.high (by omega)
  show wpAny _ _ (pyIter (.ref (n + 258))) _ _ _
  rw [show pyIter (.ref (n + 258)) = zw8711993805878244202 (.ref (n + 258)) from by rw [← ze8711993805878244202]]
  refine wpAny_valT (segFin hP ar af.ok hn₁ [n + 258] [tfO epT] 0 20 (low1 lT) (by simp) ⟨T₁, trivial⟩ (lw5J w.params b1 b2 b3 n₁ t₁ (n + 258) epT) fun out h₂ dr₂ Sx af₂ => ?_)
  obtain ⟨hf, s1⟩ := Sx
  rw [hf]
  have b₂ : But [] h₁ h₂ := af₂.but
  have I₂ : h₂.get? (n₁ + 258) = some (titO (n + 258) 0) := af₂.get 1 _ s1
  have T₂ := b₂.keep _ _ T₁ (fun m => nomatch m)
  have B₂ := b₁.trans b₂
  have sI : @LE.le Nat _ h.objs.size (n₁ + 258) := by have := b₁.size; rw [hn₁] at this; exact this
  have lI : Low w.params (n₁ + 258) := Low.high (by omega)
  generalize n + 258 = T at *
  generalize n₁ + 258 = it at *
  have nTI : T ≠ it := ne_cls T₂ I₂ (by simp [tfO, tupO, titO])
  have base : LoopL w g o h L T it epT S N R M (.int (.ofNat x) tx) (some true) ⟨h₂, g, dr₂, t₁ + tokOf out, o⟩ := ⟨af₂.ok, B₂.nil, I₂, T₂, [], ⟨_, _, _, _, B₂.keep _ _ e0 (fun m => nomatch m)⟩, fun _ => ⟨.zero, rfl⟩⟩
  refine codeAny_forT (fun m s => ∃ st, m = left st ∧ LoopL w g o h L T it epT S N R M (.int (.ofNat x) tx) st s) (fun m s hI => ?_) 2 ⟨some true, rfl, base⟩
  obtain ⟨st, rfl, I⟩ := hI
  obtain ⟨h₃, g₃, dr₃, t₃, o₃⟩ := s
  obtain ⟨rfl, rfl⟩ : g = g₃ ∧ o = o₃ := ⟨I.ok.gens, I.ok.os⟩
  obtain ⟨n₃, hn₃⟩ := I.ok.size
  obtain ⟨rest, L₃, hr⟩ := I.loc
  obtain ⟨y1, y2, y3, y4, e3⟩ := L₃
  have nLI : L ≠ it := ne_cls e3 I.iter (by simp [frm, titO])
  rw [show pyNext (.ref it) = zw9404975358583537561 (.ref it) from by rw [← ze9404975358583537561]]
  cases st with
  | none =>
    refine wpAny_optT (segFin hP ar I.ok hn₃ [it, T] [titO T 2, tfO epT] 1 40 (low2 lI lT) (by simp [nTI.symm]) ⟨I.iter, I.tup, trivial⟩ (lw5E w.params b1 b2 b3 n₃ t₃ T it epT) fun out h₄ dr₄ Sx af₄ => ?_)
    rw [Sx]
    have b₄ : But [it] h₃ h₄ := af₄.but
    refine wpAny_execs_nil (wpAny_execs_nil (hQ rest _ (I.but.new b₄ (fun a m => by rw [List.mem_singleton.mp m]; exact sI)) af₄.ok ⟨_, _, _, _, b₄.keep _ _ e3 (by simpa using nLI)⟩))
  | some c =>
    have K := lw5N' w.params b1 b2 b3 n₃ t₃ T it epT c
    refine wpAny_optT (segFin hP ar I.ok hn₃ [it, T] [titO T (tcn (some c)), tfO epT] 1 30 (low2 lI lT) (by simp [nTI.symm]) ⟨I.iter, I.tup, trivial⟩ K fun out h₄ dr₄ Sx af₄ => ?_)
    obtain ⟨hf, s0⟩ := Sx
    rw [hf]
    have b₄ : But [it] h₃ h₄ := af₄.but
    have I₄ : h₄.get? it = some (titO T (tcn (nxt c))) := af₄.get 0 _ s0
    have T₄ := b₄.keep _ _ I.tup (by simpa using nTI)
    have e4 := b₄.keep _ _ e3 (by simpa using nLI)
    have B₄ : But [L] h h₄ := I.but.new b₄ (fun a m => by rw [List.mem_singleton.mp m]; exact sI)
    obtain ⟨r, rfl⟩ := hr (by simp)
    obtain ⟨n₄, hn₄⟩ := af₄.ok.size
    refine wpAny_unitT (segFin hP ar af₄.ok hn₄ [L] [frm y1 y2 y3 y4 _] 1 20 (low1 lL) (by simp) ⟨e4, trivial⟩ (lw5T w.params b1 b2 b3 n₄ _ L y1 y2 y3 y4 S N (.int (.ofNat x) tx) R M r it c) fun out h₅ dr₅ Sx af₅ => ?_)
    have e5 := af₅.get 0 _ Sx
    have b₅ : But [L] h₄ h₅ := af₅.but
    have B₅ := B₄.trans b₅
    have L₅ : LocAt h₅ L (locD S N (.int (.ofNat x) tx) R M ++ r.tk (.bool c)) := ⟨_, _, _, _, e5⟩
    have I₅ := b₅.keep _ _ I₄ (by simpa using nLI.symm)
    have nTL : T ≠ L := ne_cls T₄ e4 (by simp [tfO, tupO, frm])
    have T₅ := b₅.keep _ _ T₄ (by simpa using nTL)
    rw [fB_eq]
    refine lawTurn ark hu af₅.ok hfr (live1 live B₅ L₅) l258 l258R L₅ (aR.keep1 B₅ e0 (by simp [frm])) (items1 iR B₅ e0 (by simp [frm])) his h16 fun rest' s₆ b₆ ok₆ L₆ hr' => ?_
    refine ⟨left (nxt c), by cases c <;> decide, nxt c, rfl, ok₆, B₅.trans b₆, b₆.keep _ _ I₅ (by simpa using nLI.symm), b₆.keep _ _ T₅ (by simpa using nTL), rest', L₆, fun q => ?_⟩
    cases c with
    | true => exact hr' rfl
    | false => exact absurd rfl q
theorem lawAll (ark : ArK 14 A) (hu : A.units + 30 < cLine) (hfr : A.frames = some []) (ok : Okay w.params h) (pool : PoolAt h) {SC : Nat} {items : Array Value} {ixs : List Int} (hsz : items.size ≤ 1000) (lS : Low w.params SC) (hS : h.IsList SC items) (hi : All2 (pInt heap0) items.toList ixs) {Y : Result → Shared → Prop}
    (hQ : ∀ s', But [] h s'.heap → OkS w.params g o s' → Y (.ok (.ret (.bool true))) s') : codeAny (model pw w) A (.call (.ref 257) ⟨[.ref SC], []⟩) Y ⟨h, g, dr, t, o⟩ := by
  obtain ⟨n, hn⟩ := ok.size
  obtain ⟨b1, b2, b3, hP⟩ := params_split w.params
  refine codeAny_enter (fun _ => Nat.lt_of_le_of_lt ark.weak.deep (by decide)) ?_
  refine segFin hP (A := A.under (.call (.ref 257) ⟨[.ref SC], []⟩)) ⟨ark.weak.deep, ark.handled⟩ ok hn [] [] 0 20 low0 (by simp) trivial (lwE w.params b1 b2 b3 n t SC) fun out h₁ dr₁ Sx af => ?_
  obtain ⟨hf, h0⟩ := Sx
  rw [hf]
  refine ⟨af.ok.nolimit, rfl, ?_⟩
  have L₁ : LocAt h₁ (n + 258) [(sScript, .ref SC)] := ⟨_, _, _, _, af.get 0 _ h0⟩
  have l258 : @LE.le Nat _ 258 (n + 258) := by omega
  generalize hLd : n + 258 = L at L₁ l258
  have sL : @LE.le Nat _ h.objs.size L := by omega
  have lL : Low w.params L := Low.high l258
  have b₁ : But [] h h₁ := af.but
  generalize t + tokOf out = t₁
  have arD : ArK 13 (A.deeper (envF 257 L)) := ark.deeper _
  have huD : (A.deeper (envF 257 L)).units + 20 < cLine := by show A.units + 3 + 20 < cLine; omega
  have frD : (A.deeper (envF 257 L)).frames = some [envF 257 L] := by show A.frames.map _ = _; rw [hfr]; rfl
  have lF : ∀ a ∈ frames [envF 257 L], Low w.params a := fun a m => by
    rw [show frames [envF 257 L] = [L] from frames_cons (envF_frame 257 L), List.mem_singleton] at m
    exact m ▸ lL
  have live0 : ∀ {h' : Heap} {ls : List (Str × Value)}, LocAt h' L ls → h'.FunFrames heap0 [envF 257 L] := fun {h' ls} ⟨_, _, _, _, e⟩ =>
    frCons (l := []) trivial (env257_kind L) (envF_frame 257 L) ⟨_, e, fun _ q => by cases q⟩
  refine codeAny_func ?_
  rw [bodyL]
  refine wpAny_execs_append [stL 0] ?_
  obtain ⟨p1, p2, p3, p4, e1⟩ := id L₁
  refine law0 (arD.less (by decide)) af.ok hsz lL lS L₁ (IsList.keepB hS b₁ (fun m => nomatch m)) hi fun N k m u s₂ hk b₂ ok₂ lN L₂ N₂ => ?_
  have B₂ := b₁.fresh b₂ (fun a mm => by rw [List.mem_singleton.mp mm]; exact sL)
  obtain ⟨h₂, g₂, dr₂, t₂, o₂⟩ := s₂
  obtain ⟨ok₂, rfl, rfl⟩ := ok₂
  obtain ⟨p1, p2, p3, p4, e2⟩ := id L₂
  refine wpAny_execs_append [stL 1] ?_
  refine law1 (arD.less (by decide)) (by omega) ok₂ hk lL (Low.high lN) L₂ N₂ fun x tx s₃ b₃ ok₃ L₃ => ?_
  have B₃ := B₂.fresh b₃ (fun a mm => by rw [List.mem_singleton.mp mm]; exact sL)
  have N₃ := N₂.keep1 b₃ e2 (by simp [frm])
  obtain ⟨h₃, g₃, dr₃, t₃, o₃⟩ := s₃
  obtain ⟨ok₃, rfl, rfl⟩ := ok₃
  obtain ⟨p1, p2, p3, p4, e3⟩ := id L₃
  refine wpAny_execs_append [stL 2] ?_
  refine law2 (arD.less (by decide)) ok₃ (pool.keep B₃ (fun a m => nomatch m)) hk lL l258 (Low.high lN) L₃ N₃ fun R arr is s₄ b₄ ok₄ l258R L₄ aR iR his h16 => ?_
  have B₄ := B₃.fresh b₄ (fun a mm => by rw [List.mem_singleton.mp mm]; exact sL)
  obtain ⟨h₄, g₄, dr₄, t₄, o₄⟩ := s₄
  obtain ⟨ok₄, rfl, rfl⟩ := ok₄
  obtain ⟨p1, p2, p3, p4, e4⟩ := id L₄
  refine wpAny_execs_append [stL 3] ?_
  refine law3 (arD.less (by decide)) ok₄ frD (live0 L₄) lF lL L₄ fun M s₅ b₅ ok₅ L₅ M₅ => ?_
  have B₅ := B₄.fresh b₅ (fun a mm => by rw [List.mem_singleton.mp mm]; exact sL)
  have aR₅ := aR.keep1 b₅ e4 (by simp [frm])
  have iR₅ := items1 iR b₅ e4 (by simp [frm])
  obtain ⟨h₅, g₅, dr₅, t₅, o₅⟩ := s₅
  obtain ⟨ok₅, rfl, rfl⟩ := ok₅
  refine wpAny_execs_append [stL 4] ?_
  refine law4 (arD.less (by decide)) (by omega) ok₅ lL L₅ M₅ fun s₆ b₆ ok₆ => ?_
  have B₆ := B₅.trans b₆
  obtain ⟨p1, p2, p3, p4, e5⟩ := id L₅
  have e6 := b₆.keep _ _ e5 (fun m => nomatch m)
  have L₆ : LocAt s₆.heap L (locD SC N (.int (.ofNat x) tx) R M) := ⟨_, _, _, _, e6⟩
  obtain ⟨h₆, g₆, dr₆, t₆, o₆⟩ := s₆
  obtain ⟨ok₆, rfl, rfl⟩ := ok₆
  refine wpAny_execs_append [stL 5] ?_
  refine law5 arD huD ok₆ frD (live0 L₆) l258 l258R L₆ (aR₅.keep b₆ (fun m => nomatch m)) (iR₅.imp fun v i x => x.keep b₆) his h16 fun rest s₇ b₇ ok₇ L₇ => ?_
  have B₇ := B₆.fresh b₇ (fun a mm => by rw [List.mem_singleton.mp mm]; exact sL)
  have M₇ := (M₅.keep b₆).keep1 b₇ e6 rfl
  obtain ⟨p1, p2, p3, p4, e7⟩ := id L₇
  obtain ⟨h₇, g₇, dr₇, t₇, o₇⟩ := s₇
  obtain ⟨ok₇, rfl, rfl⟩ := ok₇
  obtain ⟨n₇, hn₇⟩ := ok₇.size
  refine wpAny_execs_at ?_
  rw [stL6_eq]
  refine wpAny_Return_some (wpAny_Compare1 ?_ (eqMarks _))
  rw [eval_zf]
  refine wpAny_valT (segFin hP arD.weak ok₇ hn₇ [L] [frm p1 p2 p3 p4 _] 0 20 (low1 lL) (by simp) ⟨e7, trivial⟩ (lw6L w.params b1 b2 b3 n₇ t₇ L p1 p2 p3 p4 SC N (.int (.ofNat x) tx) R M rest) fun out h₈ dr₈ Sx af₈ => ?_)
  rw [Sx]
  have b₈ : But [] h₇ h₈ := af₈.but
  obtain ⟨n₈, hn₈⟩ := af₈.ok.size
  rw [eval_zf]
  refine wpAny_valT (segFin hP arD.weak af₈.ok hn₈ [] [] 0 20 low0 (by simp) trivial (lw6R w.params b1 b2 b3 n₈ _ L) fun out h₉ dr₉ Sx af₉ => ?_)
  obtain ⟨hf, s0, s1⟩ := Sx
  rw [hf]
  have b₉ : But [] h₈ h₉ := af₉.but
  have lW : @LE.le Nat _ 258 (n₈ + 258 + 1) := Nat.le_trans (Nat.le_add_left 258 n₈) (Nat.le_succ _)
  have eW : decide (List.map f12 [rowI 16] = [[bts (told 16).1, bts (told 16).2]]) = true := decide_eq_true rfl
  refine cmpEq arD huD af₉.ok (rows := [rowI 16]) (lb := [[bts (told 16).1, bts (told 16).2]]) (by decide) ((M₇.keep b₈).keep b₉) (.inr ⟨by decide, lW, #[.ref (n₈ + 258)], ⟨_, af₉.get 1 _ s1⟩, ⟨⟨_, _, _, rfl, Nat.le_add_left _ _, af₉.get 0 _ s0⟩, trivial⟩⟩) fun s₁₀ b₁₀ ok₁₀ => ?_
  rw [eW]
  exact hQ _ (B₇.trans (b₈.trans (b₉.trans b₁₀))) ok₁₀
end
end Mine
end
section
open PySem PySem.W PySem.W.X PySem.Calls PyProof.Rows
set_option maxRecDepth 100000
set_option maxHeartbeats 400000
namespace Mine
open PySem.W.ZFast
def topL : List Nat := (List.range 258).filter fun a => Nat.beq (Nat.land (Nat.shiftRight topMask a) 1) 1
theorem okTop {P : Params} {h : Heap} {T : KT} (H : KT.Holds h 1 0 T) (e : topL.map T.get = topL.map (Ktop P)) (a : Nat) (o : Obj) (k : Ktop P a = some o) : h.get? a = some o := by
  refine kt_at H ?_
  have lt : a < 258 := by
    rcases Nat.lt_or_ge a 258 with q | q
    · exact q
    · rw [Ktop_high q] at k; cases k
  have m : a ∈ topL := by
    unfold topL
    rw [List.mem_filter]
    refine ⟨List.mem_range.mpr lt, ?_⟩
    unfold Ktop at k
    cases q : Nat.beq (Nat.land (Nat.shiftRight topMask a) 1) 1 with
    | true => rfl
    | false => rw [q] at k; cases k
  exact ((List.map_inj_left.mp e) a m).trans k
def poolO (T : KT) (i : Nat) : Obj := (T.get (214 + i)).getD default
theorem okPool {h : Heap} {T : KT} (H : KT.Holds h 1 0 T) (e : (List.range 16).map (fun i => T.get (214 + i)) = (List.range 16).map (fun i => some (tupO (txts (sqTok (poolO T i)) 0 [bts (itm i).1, bts (itm i).2]) (epOf (poolO T i))))) : PoolAt h := fun i hi => by
  have := (List.map_inj_left.mp e) i (List.mem_range.mpr hi)
  exact ⟨_, _, _, kt_at H this⟩
theorem intsAll {l : List Value} {m : List Int} (x : IntsAre l m) : All2 (pInt heap0) l m := by
  induction x with
  | nil => trivial
  | cons n t _ ih => exact ⟨⟨t, rfl⟩, ih⟩
theorem intsLen {l : List Value} {m : List Int} (x : IntsAre l m) : l.length = m.length := (intsAll x).len
theorem post1 (a b : List WData) : PySem.Challenge.rw_ae6006_01.row.claim.post a (WData.bool true) b = true := by kernel_rfl
end Mine
end
open PySem PySem.W PySem.W.X PySem.W.ZRun PySem.Calls PyProof.Rows
set_option maxRecDepth 100000 in
set_option maxHeartbeats 0 in
theorem PySem.Challenge.cw_ae6006_01_holds : PySem.Challenge.rw_ae6006_01.Holds := by
  w_on
  o_law
  z_head
  (case hw => w_witness2)
  k_fill
  intro w s₀ s₁ mg mb G y fa o pm cd doc dV kV ho hd hcd hD hmg hg args vals as L hpre hlay hrd hwl hlo
  z_open y L KX ZH ZN ZT
  refine Ground.open G ?_
  intro T B D TE TW
  wrow_args hpre hlay hrd hwl hlo
  obtain ⟨hat, hsz⟩ := script_at L
  rw [ZN] at hat hsz
  subst hat
  x_fa T KX hmg
  clear ho hd hcd hD y hmg B D TE TW KX G
  rename Heap.IsList _ _ _ => hS
  rename IntsAre _ _ => hI
  rename ¬ _ < _ => hlen
  have ok : Mine.Okay w.params s₁.heap := ⟨Mine.okTop ZH (by generalize w.params = P; kernel_rfl), T.nolimit, ⟨1, hsz⟩⟩
  have pool : Mine.PoolAt s₁.heap := Mine.okPool ZH (by generalize w.params = P; kernel_rfl)
  refine wpAny_call ?_
  obtain ⟨h, g, dr, t, os⟩ := s₁
  refine Mine.lawAll ⟨by decide, rfl⟩ (by decide) rfl ok pool ?_ (Mine.Low.high (by decide)) hS (by rw [List.toList_toArray]; exact Mine.intsAll hI) fun s' b' ok' => ?_
  · have := Mine.intsLen hI
    rw [List.size_toArray]
    omega
  · refine ⟨.inl ⟨.bool true, .bool true, [], rfl, ?_, .bool true, ?_, ?_⟩, .of_keep fun b o e => b'.keep _ _ e (fun m => nomatch m), ok'.os.symm, .of_eq (ok'.gens.symm.trans hg)⟩
    · intro cls; rfl
    · exact Mine.post1 _ _
    · intro _; simp
