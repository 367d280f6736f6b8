import PyProof.Rows.All
import Wide.All
import OpenK.AllK
import Wide.FinOn
import PySem.Challenge.RW_oh0129_01
set_option Elab.async false
set_option maxRecDepth 100000
set_option maxHeartbeats 8000000
section PartHeadK
open PySem PySem.W PyProof.Rows
namespace Mine
open_top hd for PySem.Challenge.rw_oh0129_01
end Mine
end PartHeadK
section PartBase1
open PySem PySem.W PyProof.Rows
namespace Mine
abbrev prg : Program := Challenge.rw_oh0129_01.row.prog

section
variable {prog : Program} {w : World} {A : Around} {s : Shared} {K : Frag} {R : Result → Shared → Prop}
  {name qual : Str} {params : Arguments} {body : List Stmt} {scope : Scope} {dV kV doc pm cdv ct oc : Value} {an od : Option Addr} {osl : Array (Option Value)} {f : Addr} {args : Args} {binds : List (Str × Value)}

theorem enter_def (X : K.In s.heap) (hlim : s.heap.NoLimit) (hroom : A.depth < recursionLimit)
    (ho : K.lookup f = some ⟨oc, od, .func (fnOf name qual params body scope dV kV doc pm an cdv ct), osl⟩) (hcd : codeIn K cdv qual = true)
    (hbind : BindsTo s (fnOf name qual params body scope dV kV doc pm an cdv ct) args binds) (hloc : ∀ y ∈ binds, scope.names.lookup y.1 = some .local)
    (h : ∀ h₁, Fr s.heap s.heap.objs.size h₁ (fun y => binds.reverse.lookup y) →
      wpAny (model prog w) (A.deeper (envOf qual scope s.heap.objs.size f cdv)) (execs body (envOf qual scope s.heap.objs.size f cdv))
        (fun fl s' => R (.ok (.ret (match fl with | .ret v => v | _ => .none))) s') (fun _ _ => False) { s with heap := h₁, toks := s.toks + binds.length })
    (hco : scope.isCoroutine = false) (hgen : scope.isGenerator = false) (hk : scope.kind = .function) (hcell : ∀ x ∈ scope.names, x.2 ≠ .cell) :
    codeAny (model prog w) A (.call (.ref f) args) R s := by
  refine codeAny_call_def (fd := fnOf name qual params body scope dV kV doc pm an cdv ct) hroom (X _ _ ho) rfl hlim (codeRec_of X hcd) rfl hbind hcell hloc (fun h₁ hns hk₁ => ?_) hco hgen hk
  exact wpAny_mono (h h₁ ⟨hns, hk₁, Nat.le_refl _⟩) (fun _ _ x => x) (fun _ _ x => x.elim)

theorem enter_defC (X : K.In s.heap) (hlim : s.heap.NoLimit) (hroom : A.depth < recursionLimit)
    (ho : K.lookup f = some ⟨oc, od, .func (fnOf name qual params body scope dV kV doc pm an cdv ct), osl⟩) (hcd : codeIn K cdv qual = true)
    (hbind : BindsTo s (fnOf name qual params body scope dV kV doc pm an cdv ct) args binds)
    (hkind : (binds.all fun y => scope.names.lookup y.1 == some .local || scope.names.lookup y.1 == some .cell) = true)
    (h : ∀ L h₁ tk, L = s.heap.objs.size → Fr s.heap L h₁ (bindL (envOfC qual scope L f cdv).kindOf binds fun _ => none) →
      (∀ n c, (cellsFrom (L + 1) scope.names []).lookup n = some c → h₁.IsCell c (bindC (envOfC qual scope L f cdv).kindOf binds (fun _ => none) n)) →
      ((cellsFrom (L + 1) scope.names []).Pairwise fun x y => x.2 ≠ y.2) → (∀ n c, (n, c) ∈ cellsFrom (L + 1) scope.names [] → L < c) →
      wpAny (model prog w) (A.deeper (envOfC qual scope L f cdv)) (execs body (envOfC qual scope L f cdv))
        (fun fl s' => R (.ok (.ret (match fl with | .ret v => v | _ => .none))) s') (fun _ _ => False) { s with heap := h₁, toks := tk })
    (hco : scope.isCoroutine = false) (hgen : scope.isGenerator = false) (hk : scope.kind = .function) :
    codeAny (model prog w) A (.call (.ref f) args) R s := by
  refine codeAny_call_function (fd := fnOf name qual params body scope dV kV doc pm an cdv ct) hroom (X _ _ ho) rfl hco hgen rfl (codeRec_of X hcd) (hbind _ _ _ _ ?_)
  refine wpAny_newFunctionEnv_cells hk (kindsX hkind _) fun env' he s' x => ?_
  subst he
  refine ⟨hlim.keeps x.toInCall.keep, codeAny_func ?_⟩
  obtain ⟨h₁, tk, rfl, _⟩ := x.done
  exact wpAny_mono (h _ h₁ tk rfl ⟨x.toInCall.ns, x.toInCall.keep, Nat.le_refl _⟩ x.cell x.apart x.above) (fun _ _ x => x) (fun _ _ x => x.elim)
end
end Mine
end PartBase1
section PartSegR
open PySem PySem.W PyProof.Rows
open Sem (wp)
namespace Mine

section
variable {prog : Program} {w : World} {A : Around} {R : GenEnd} {Y : Protocol} {n : Nat} {s₀ : Shared} {c : Code} {fs : List Frame} {s : Shared} {env : Env}
  {K : Flow → Sem Fin} {H : Value → Sem Fin} {gd : Bool → Bool} {lv : List Value → List Value}

theorem seg_stmt {st : Stmt} (h : wpAny (model prog w) (A.over c fs) (exec st env) (fun f s' => Seg (model prog w) A R Y n s₀ c (K f) fs s') (fun _ _ => False) s) :
    Seg (model prog w) A R Y n s₀ c ((exec st env).wrap K H gd lv) fs s :=
  seg_wrap (wpAny_mono h (fun _ _ x => x) (fun _ _ x => x.elim))

theorem seg_If {test : Expr} {body orelse : List Stmt} {pos : Pos}
    (h : wpAny (model prog w) (A.over c fs) (isTrue test env (eval test env)) (fun b s' =>
      if b = true then Seg (model prog w) A R Y n s₀ c ((execs body env).wrap K H gd lv) fs s' else Seg (model prog w) A R Y n s₀ c ((execs orelse env).wrap K H gd lv) fs s') (fun _ _ => False) s) :
    Seg (model prog w) A R Y n s₀ c ((exec (.If test body orelse pos) env).wrap K H gd lv) fs s := by
  rw [exec_If]
  show Seg _ A R Y n s₀ c (.at pos fun _ => ((isTrue test env (eval test env)) >>= fun b => if b = true then execs body env else execs orelse env).wrap K H gd lv) fs s
  refine seg_at ?_
  rw [Sem.bind_eq_wrap', Sem.wrap_wrap]
  refine seg_wrap (wpAny_mono h (fun b s' hb => ?_) fun _ _ x => x.elim)
  cases b with
  | true => rw [if_pos rfl] at hb; exact hb
  | false => rw [if_neg Bool.false_ne_true] at hb; exact hb

theorem seg_For {target iter : Expr} {body orelse : List Stmt} {pos : Pos}
    (h : wpAny (model prog w) (A.over c fs) (eval iter env) (fun x s₁ => wpAny (model prog w) (A.over c fs) (pyIter x) (fun it s₂ =>
      ∀ p, Seg (model prog w) A R Y n s₀ (.forLoop target it body orelse env) ((model prog w).den (.forLoop target it body orelse env))
      (.ret (fun r => ((match r with | .ok f => (.pure f : Sem Flow) | .error e => .raise e).onRaise fun (x : Value) => do
        if (← field x 1) == Value.none then unsupported "frame.own-activation:exception-without-traceback"
        setFlight x env.frame).wrap K H gd lv) none (gd false) (lv []) c p [] :: fs) s₂) (fun _ _ => False) s₁) (fun _ _ => False) s)
    (hs : ∀ x, foldedSetIterable iter env x = pure x) :
    Seg (model prog w) A R Y n s₀ c ((exec (.For target iter body orelse pos) env).wrap K H gd lv) fs s := by
  rw [exec_For]
  show Seg _ A R Y n s₀ c (.at pos fun _ => (eval iter env >>= fun v => (foldedSetIterable iter env v >>= fun x => (standAt iter.pos >>= fun _ => (holding [x] (pyIter x) >>= fun it => runOwn (.forLoop target it body orelse env) env)))).wrap K H gd lv) fs s
  refine seg_at ?_
  rw [Sem.bind_eq_wrap', Sem.wrap_wrap]
  refine seg_wrap (wpAny_mono h (fun x s₁ h₁ => ?_) fun _ _ x => x.elim)
  rw [hs x]
  show Seg _ A R Y n s₀ c (.at iter.pos fun _ => (holding [x] (pyIter x) >>= fun it => runOwn (.forLoop target it body orelse env) env).wrap K H _ _) fs s₁
  refine seg_at ?_
  rw [Sem.bind_eq_wrap', Sem.wrap_wrap]
  refine seg_wrap (wpAny_holding (wpAny_mono h₁ (fun it s₂ h₂ => ?_) fun _ _ x => x.elim))
  exact seg_call h₂

theorem seg_forLoop {target : Expr} {it : Value} {body orelse : List Stmt}
    (h : wpAny (model prog w) (A.over (.forLoop target it body orelse env) fs) (pyNext it) (fun r s' => match r with
      | none => Seg (model prog w) A R Y n s₀ (.block orelse env) ((model prog w).den (.block orelse env)) fs s'
      | some v => wpAny (model prog w) (A.over (.forLoop target it body orelse env) fs) (assign target env v) (fun _ s₂ =>
          Seg (model prog w) A R Y n s₀ (.forLoop target it body orelse env) ((execs body env).wrap (fun f => match f with
            | .next | .cont => .pure (.again (.forLoop target it body orelse env))
            | .brk => .pure (.done .next)
            | .ret v => .pure (.done (.ret v))) (fun e => (do noteFrame e env; theTreesLotGoes e : Sem Unit).wrap (fun _ => .raise e) .raise id id) id id) fs s₂) (fun _ _ => False) s') (fun _ _ => False) s)
    (ht : ∀ v, letOwnedTupleGo target it v = pure ()) :
    Seg (model prog w) A R Y n s₀ (.forLoop target it body orelse env) ((model prog w).den (.forLoop target it body orelse env)) fs s := by
  show Seg _ A R Y n s₀ _ ((forTurn target it body orelse env).onRaise (fun x => do noteFrame x env; theTreesLotGoes x)) fs s
  unfold forTurn
  rw [Sem.onRaise_eq_wrap]
  show Seg _ A R Y n s₀ _ (.at target.pos fun _ => (((pyNext it).onRaise (fun _ => standAt { target.pos with line := 0 })) >>= _).wrap _ _ _ _) fs s
  refine seg_at ?_
  rw [Sem.bind_eq_wrap', Sem.wrap_wrap]
  refine seg_wrap (wpAny_onRaise (wpAny_mono h (fun r s₁ h₁ => ?_) fun _ _ x => x.elim))
  cases r with
  | none => exact seg_again rfl h₁
  | some v =>
    dsimp only at h₁ ⊢
    rw [ht v]
    show Seg _ A R Y n s₀ _ ((assign target env v >>= fun _ => (execs body env >>= fun f => match f with
            | .next | .cont => again (.forLoop target it body orelse env)
            | .brk => pure (.done .next)
            | .ret v => pure (.done (.ret v)))).wrap _ _ _ _) fs s₁
    rw [Sem.bind_eq_wrap', Sem.wrap_wrap]
    refine seg_wrap (wpAny_mono h₁ (fun _ s₂ h₂ => ?_) fun _ _ x => x.elim)
    rw [Sem.bind_eq_wrap', Sem.wrap_wrap]
    rw [Sem.wrap_congr (execs body env) _ _ (K' := fun f => match f with
            | .next | .cont => .pure (.again (.forLoop target it body orelse env))
            | .brk => .pure (.done .next)
            | .ret v => .pure (.done (.ret v))) (H' := (fun e => (do noteFrame e env; theTreesLotGoes e : Sem Unit).wrap (fun _ => .raise e) .raise id id))
        (fun f => by cases f <;> rfl)
        (fun e => by first | exact Sem.bind_eq_wrap _ _ | (show (do noteFrame e env; theTreesLotGoes e : Sem Unit).bind (fun _ => .raise e) = _; rw [Sem.bind_eq_wrap]))]
    exact h₂
end
end Mine
end PartSegR
section PartGenN
open PySem PySem.W PyProof.Rows
open Sem (wp)
namespace Mine

section
variable {prog : Program} {w : World} {A : Around} {E : Value → Shared → Prop} {s : Shared}

/-- One pull at a generator FUNCTION's object; what it leaves asleep bears no cleanup. -/
theorem next_gen {a : Addr} {g n : Nat} {gs : GenState} {P : Nat → Shared → Shared → Prop} {Y : Protocol} {Q : Option Value → Shared → Prop} (hh : A.handled = none)
    (hl : s.heap.NoLimit) (hroom : A.depth < recursionLimit) (hg : s.heap.IsGen a g) (hgs : s.gens[g]? = some gs)
    (hgo : gs.Goes (model prog w) A.in1 (fun n s₀ r s₁ => r = .ok (.ret .none) ∧ P n s₀ s₁) Y n (.send .none) (s.setGen g .running))
    (hY : ∀ v s₁ gs', gs'.bare = true → Y (n - 1) (s.setGen g .running) v s₁ (fun r' s'' => match n with
        | 0 => False
        | m + 1 => gs'.Goes (model prog w) A.in1 (fun n s₀ r s₁ => r = .ok (.ret .none) ∧ P n s₀ s₁) Y m r' s'') → Q (some v) (s₁.setGen g gs'))
    (hP : ∀ s₁, P n (s.setGen g .running) s₁ → ∀ h', (∀ b o, s₁.heap.get? b = some o → h'.get? b = some o) → Q none { s₁.setGen g .finished with heap := h' }) :
    wpAny (model prog w) A (pyNext (.ref a)) Q E s := by
  have wake : ∀ Q' : Fin → Shared → Prop, ∀ E' : Value → Shared → Prop,
      (∀ v s₁ gs', gs'.bare = true → Y (n - 1) (s.setGen g .running) v s₁ (fun r' s'' => match n with
        | 0 => False
        | m + 1 => gs'.Goes (model prog w) A.in1 (fun n s₀ r s₁ => r = .ok (.ret .none) ∧ P n s₀ s₁) Y m r' s'') → Q' (.done (.ret v)) (s₁.setGen g gs')) →
      (∀ s₁ x h', P n (s.setGen g .running) s₁ → (∀ b o, s₁.heap.get? b = some o → h'.get? b = some o) → ({ s₁.setGen g .finished with heap := h' } : Shared).TypeIs x "StopIteration" →
        E' x { s₁.setGen g .finished with heap := h' }) →
      wpAny (model prog w) A.in1 (Builtin.Generator.genWake (.ref a) (.send .none)) Q' E' s := by
    intro Q' E' hq he
    unfold Builtin.Generator.genWake
    refine wpAny_bind (wpAny_holding (wpAny_genNumber hg (wpAny_bind (wpAny_genState hgs ?_))))
    cases gs with
    | running => exact hgo.elim
    | finished => exact hgo.elim
    | _ =>
      refine wpAny_bind (wpAny_roomToWake hl hroom ?_)
      show wpAny _ A.in1 (.resume g (.send .none) [] _) _ _ s
      refine wpAny_resumeQ hgs hgo (fun x s₁ hx => ?_) (fun v s₁ gs' hb hv => ?_)
      · obtain ⟨rfl, hp⟩ := hx
        show wpAny _ A.in1 (newExc (.type "StopIteration") [] >>= _) _ _ _
        refine wpAny_bind ?_
        simp only [newExc, newTuple]
        refine wpAny_bind (wpAny_newObj_type ?_ (by size_fits))
        refine wpAny_bind (m := firstArgMember _ _) (wpAny_of_eq (a := Value.none) (by first | rfl | (simp only [firstArgMember]; rfl)) ?_)
        refine wpAny_newObj_type ?_ (by size_fits)
        simp only [raiseNew]
        refine wpAny_bind (wpAny_bind (wpAny_handled ?_))
        first | rw [show A.in1.handled = none from hh] | rw [hh]
        refine wpAny_throw (he s₁ _ _ hp (fun b o hb => Heap.get?_push_of_some _ (Heap.get?_push_of_some _ hb)) ⟨_, Heap.get?_push_size _ rfl, rfl⟩)
      · exact wpAny_pure (hq v s₁ gs' hb hv)
  unfold pyNext
  refine wpAny_bind (wpAny_attempt (wpAny_callSpecial?_slot (name := Str.ofString "__next__") hg.typeIs slot_gen_next
    (wpAny_call_entry slot_gen_next hg.typeIs entry_gen_next ?_ (args_gen_next _))))
  refine wake _ _ (fun v s₁ gs' hb hv => ⟨v, rfl, wpAny_pure (hY v s₁ gs' hb hv)⟩) fun s₁ x h' hp hk hT => ?_
  refine wpAny_bind (wpAny_isInstance (T := "StopIteration") (b := true) hT isSubtype_stop ?_)
  exact wpAny_pure (hP s₁ hp h' hk)
end
end Mine
end PartGenN
section PartGen2
open PySem PySem.W PyProof.Rows
open Sem (wp)
namespace Mine

def stGI : Stmt := Challenge.rw_oh0129_01.row.prog.main.body.getD 2 (.Pass default)
def bodyOfDef : Stmt → List Stmt
  | .FunctionDef _ _ b _ _ _ _ _ _ _ => b
  | _ => []
def scopeOfDef : Stmt → Scope
  | .FunctionDef _ _ _ _ _ _ sc _ _ _ => sc
  | _ => default
def forBody : Stmt → List Stmt
  | .For _ _ b _ _ => b
  | _ => []
def forTarget : Stmt → Expr
  | .For t _ _ _ _ => t
  | _ => .Constant .none 0 default

abbrev giEnv (L : Addr) : Env := envOf (Str.ofString "_grouping_intervals") (scopeOfDef stGI) L 21 (.ref 20)
def giFor : Stmt := (bodyOfDef stGI).getD 1 (.Pass default)
abbrev giLoop (L I : Addr) : Code := .forLoop (forTarget giFor) (.ref I) (forBody giFor) [] (giEnv L)

def Since (B : Nat) (L : Addr) (s₀ s₁ : Shared) : Prop := ∃ h₁ tk₁, s₁ = { s₀ with heap := h₁, toks := tk₁ } ∧ ∀ b o, b < B → b ≠ L → s₀.heap.get? b = some o → h₁.get? b = some o
/-- what the generator's own objects are: its frame's names, and what it made itself -/
def Priv (B : Nat) (L : Addr) (h h' : Heap) : Prop := ∀ b o, (b = L ∨ B ≤ b) → h.get? b = some o → h'.get? b = some o

def Yp (B : Nat) (L : Addr) (h₀ : Heap) (val : Nat → Int) (N len : Nat) : Protocol := fun n s₀ v s' kap =>
  ((∃ t, v = .int (val (N - 1 - n)) t) ∧ N - 1 - n < len) ∧ Since B L s₀ s' ∧
  (0 < n → ∀ s'', (∀ b o, h₀.get? b = some o → s''.heap.get? b = some o) → Priv B L s'.heap s''.heap → kap (.send .none) s'')

def Pp (B : Nat) (L : Addr) (N len : Nat) : Nat → Shared → Shared → Prop := fun n s₀ s₁ => n = N - len ∧ Since B L s₀ s₁
abbrev Rp (B : Nat) (L : Addr) (N len : Nat) : GenEnd := fun n s₀ r s₁ => r = .ok (.ret .none) ∧ Pp B L N len n s₀ s₁

structure GS (h₀ : Heap) (L I l : Addr) (i : Nat) (last : Value) (s : Shared) : Prop where
  fr : ∃ m, Fr h₀ L s.heap m ∧ m (Str.ofString "last_interval") = some last
  it : s.heap.IsListIter I l i


theorem Fr.other {h₀ h h' : Heap} {L a : Addr} {m : Str → Option Value} (F : Fr h₀ L h m) (hs : Heap.SameBut a h h') (hne : a ≠ L) (ha : h₀.objs.size ≤ a) : Fr h₀ L h' m :=
  ⟨F.ns.sameBut hs (Ne.symm hne), fun b o e => hs.extBut b o (Nat.ne_of_lt (Nat.lt_of_lt_of_le (Heap.lt_size e) ha)) (F.keep b o e), F.above⟩
theorem Since.refl (B : Nat) (L : Addr) (s : Shared) : Since B L s s := ⟨s.heap, s.toks, rfl, fun _ _ _ _ e => e⟩
theorem Since.go {B : Nat} {L : Addr} {s₀ s : Shared} {h' : Heap} {tk : Nat} (S : Since B L s₀ s) (hk : ∀ b o, b < B → b ≠ L → s.heap.get? b = some o → h'.get? b = some o) : Since B L s₀ { s with heap := h', toks := tk } := by
  obtain ⟨h₁, tk₁, rfl, k⟩ := S
  exact ⟨h', tk, rfl, fun b o hb hL e => hk b o hb hL (k b o hb hL e)⟩

def giIf1 : Stmt := (forBody giFor).getD 0 (.Pass default)
def giIf2 : Stmt := (forBody giFor).getD 1 (.Pass default)
def giY : Stmt := (forBody giFor).getD 2 (.Pass default)
def giA : Stmt := (forBody giFor).getD 3 (.Pass default)
def ifTest : Stmt → Expr
  | .If t _ _ _ => t
  | _ => .Constant .none 0 default
def ifBody : Stmt → List Stmt
  | .If _ b _ _ => b
  | _ => []
def posOf : Stmt → Pos
  | .If _ _ _ p => p
  | .While _ _ _ p => p
  | _ => default
def giIf3 : Stmt := (ifBody giIf2).getD 0 (.Pass default)
def giWh : Stmt := (ifBody giIf2).getD 1 (.Pass default)
def whBody : Stmt → List Stmt
  | .While _ b _ _ => b
  | _ => []
def whTest : Stmt → Expr
  | .While t _ _ _ => t
  | _ => .Constant .none 0 default
def giWY : Stmt := (whBody giWh).getD 0 (.Pass default)
theorem gi_body : forBody giFor = [.If (ifTest giIf1) (ifBody giIf1) [] (posOf giIf1), .If (ifTest giIf2) (ifBody giIf2) [] (posOf giIf2), giY, giA] := rfl
theorem gi_body2 : ifBody giIf2 = [.If (ifTest giIf3) (ifBody giIf3) [] (posOf giIf3), .While (whTest giWh) (whBody giWh) [] (posOf giWh)] := rfl
abbrev giWhile (L : Addr) : Code := .whileLoop (whTest giWh) (whBody giWh) [] (giEnv L)

section
variable {w : World} {mean : ExcName → Option Value} {mg mb : Str → Option Value} {A : Around} {B N len n i : Nat} {h₀ : Heap} {val : Nat → Int} {L I l : Addr} {vs : List Value} {last : Value} {z : Int} {t : Tok} {fs : List Frame} {s₀ s : Shared}
  {m : Str → Option Value} {E : Value → Shared → Prop}

theorem test_max {Q : Bool → Shared → Prop} (X : (hd.heap_39 w.params).In h₀) (T : Top hd.view_39 (looseW hd.view_39 []) mean mg mb h₀) (F : Fr h₀ L s.heap m) (hm : m (Str.ofString "interval") = some (.int z t))
    (h : Q (z == 127) s) : wpAny (model Challenge.rw_oh0129_01.row.prog w) A (isTrue (ifTest giIf1) (giEnv L) (eval (ifTest giIf1) (giEnv L))) Q E s := by
  revert X
  k_fill
  intro X
  show wpAny _ _ (isTrue (.Compare (.Name _ _) [_] [.Name _ _] _) _ _) _ _ _
  walk1
  refine ld F hm ?_
  refine name_K F X (topRead_of T) (by k_is) ?_
  walk1
  walk1
  exact h

theorem test_zero {Q : Bool → Shared → Prop} (F : Fr h₀ L s.heap m) (hm : m (Str.ofString "interval") = some (.int z t))
    (h : Q (z == 0) { s with toks := s.toks + 1 }) : wpAny (model Challenge.rw_oh0129_01.row.prog w) A (isTrue (ifTest giIf2) (giEnv L) (eval (ifTest giIf2) (giEnv L))) Q E s := by
  show wpAny _ _ (isTrue (.Compare (.Name _ _) [_] [.Constant _ _ _] _) _ _) _ _ _
  walk1
  refine ld F hm ?_
  walk1
  walk1
  walk1
  exact h

theorem test_none {Q : Bool → Shared → Prop} (F : Fr h₀ L s.heap m) (hm : m (Str.ofString "last_interval") = some (.int z t))
    (h : Q false s) : wpAny (model Challenge.rw_oh0129_01.row.prog w) A (isTrue (ifTest giIf3) (giEnv L) (eval (ifTest giIf3) (giEnv L))) Q E s := by
  show wpAny _ _ (isTrue (.Compare (.Name _ _) [_] [.Constant _ _ _] _) _ _) _ _ _
  walk1
  refine ld F hm ?_
  walk1
  walk1
  walk1
  exact h

/-- the head of a turn: the item is taken, bound; the first test says no -/
theorem turn_head {R : GenEnd} {Y : Protocol} (X : (hd.heap_39 w.params).In h₀) (T : Top hd.view_39 (looseW hd.view_39 []) mean mg mb h₀) (hl : h₀.IsList l vs.toArray) (hB : h₀.objs.size ≤ B) (hBI : B ≤ I) (hIL : I ≠ L)
    (hv : vs[i]? = some (.int z t)) (h1 : z ≠ 127) (G : GS h₀ L I l i last s) (S : Since B L s₀ s)
    (next : ∀ s' m', Fr h₀ L s'.heap m' → m' (Str.ofString "interval") = some (.int z t) → m' (Str.ofString "last_interval") = some last → s'.heap.IsListIter I l (i + 1) → Since B L s₀ s' →
      Seg (model Challenge.rw_oh0129_01.row.prog w) A R Y n s₀ (giLoop L I) ((execs [.If (ifTest giIf2) (ifBody giIf2) [] (posOf giIf2), giY, giA] (giEnv L)).wrap (fun f => match f with
            | .next | .cont => .pure (.again (giLoop L I))
            | .brk => .pure (.done .next)
            | .ret v => .pure (.done (.ret v))) (fun e => (do noteFrame e (giEnv L); theTreesLotGoes e : Sem Unit).wrap (fun _ => .raise e) .raise id id) id id) fs s') :
    Seg (model Challenge.rw_oh0129_01.row.prog w) A R Y n s₀ (giLoop L I) ((model Challenge.rw_oh0129_01.row.prog w).den (giLoop L I)) fs s := by
  obtain ⟨⟨m, F, hm⟩, hit⟩ := G
  refine seg_forLoop ?_ (fun _ => rfl)
  have hls : s.heap.IsList l vs.toArray := hl.at fun o e => F.keep l o e
  refine wpAny_pyNext_list_item hit hls (by simpa using hv) fun h' hit' hs' => ?_
  dsimp only
  have F1 : Fr h₀ L h' m := Fr.other F hs' hIL (Nat.le_trans hB hBI)
  show wpAny _ _ (assign (.Name (Str.ofString "interval") _) (giEnv L) (.int z t)) _ _ _
  refine wpAny_assign_Name (wpAny_storeName_local rfl F1.ns (fun h₂ hn₂ hs₂ => ?_) rfl)
  have F2 := F1.set hn₂ hs₂
  have S2 : Since B L s₀ { s with heap := h₂, toks := s.toks + 1 } := S.go fun b o hb hL e => hs₂.extBut b o hL (hs'.extBut b o (Nat.ne_of_lt (Nat.lt_of_lt_of_le hb hBI)) e)
  rw [gi_body]
  refine seg_execs_cons (seg_If ?_)
  refine test_max X T F2 (z := z) (t := t) (by simp) ?_
  rw [if_neg (by simpa using h1)]
  refine seg_execs_nil ?_
  exact next _ _ F2 (by simp) (by simp only [show ¬ (Str.ofString "last_interval" = Str.ofString "interval") from by decide, if_false]; exact hm) (hit'.extBut hs₂.extBut hIL) S2
end
end Mine
end PartGen2
section PartGen3
open PySem PySem.W PyProof.Rows
open Sem (wp)
namespace Mine
section
variable {w : World} {mean : ExcName → Option Value} {mg mb : Str → Option Value} {A : Around} {B N len n i : Nat} {h₀ : Heap} {val : Nat → Int} {L I l : Addr} {vs : List Value} {last : Value} {z v : Int} {t : Tok} {fs : List Frame} {s₀ s : Shared}
  {m : Str → Option Value} {E : Value → Shared → Prop}

theorem Fr.wake {h h' : Heap} (F : Fr h₀ L h m) (hb : ∀ b o, h₀.get? b = some o → h'.get? b = some o) (hp : Priv B L h h') : Fr h₀ L h' m :=
  ⟨F.ns.at' fun o e => hp L o (.inl rfl) e, hb, F.above⟩

theorem turn_yield (X : (hd.heap_39 w.params).In h₀) (T : Top hd.view_39 (looseW hd.view_39 []) mean mg mb h₀) (hl : h₀.IsList l vs.toArray) (hB : h₀.objs.size ≤ B) (hBI : B ≤ I) (hIL : I ≠ L)
    (hfs : splitAtGen fs = none) (hfg : fs.any Frame.guarded = false)
    (hv : vs[i]? = some (.int z t)) (h1 : z ≠ 127) (h2 : z ≠ 0) (hz : val (N - 1 - n) = z) (hlen : N - 1 - n < len)
    (next : 0 < n → ∀ s'', GS h₀ L I l (i + 1) (.int z t) s'' → ∀ s₀', Since B L s₀' s'' → Seg (model Challenge.rw_oh0129_01.row.prog w) A (Rp B L N len) (Yp B L h₀ val N len) n s₀' (giLoop L I) ((model Challenge.rw_oh0129_01.row.prog w).den (giLoop L I)) fs s'')
    (G : GS h₀ L I l i last s) (S : Since B L s₀ s) :
    Seg (model Challenge.rw_oh0129_01.row.prog w) A (Rp B L N len) (Yp B L h₀ val N len) (n + 1) s₀ (giLoop L I) ((model Challenge.rw_oh0129_01.row.prog w).den (giLoop L I)) fs s := by
  refine turn_head X T hl hB hBI hIL hv h1 G S fun s' m' F' hm1 hm2 hit' S' => ?_
  refine seg_execs_cons (seg_If ?_)
  refine test_zero F' hm1 ?_
  rw [if_neg (by simpa using h2)]
  refine seg_execs_nil ?_
  refine seg_execs_cons ?_
  show Seg _ _ _ _ _ _ _ (Sem.wrap _ _ _ _ (exec (.Expr (.Yield (some (.Name (Str.ofString "interval") _)) _) _) (giEnv L))) _ _
  refine seg_Expr_Yield hfs rfl hfg ?_
  refine ld (s := { s' with toks := s'.toks + 1 }) F' hm1 ?_
  intro kap hkap
  refine ⟨⟨⟨t, by rw [hz]⟩, hlen⟩, S'.go fun _ _ _ _ e => e, fun hn s'' hb hp => hkap .none s'' ?_⟩
  have F3 : Fr h₀ L s''.heap m' := Fr.wake F' hb hp
  show Seg _ _ _ _ _ _ _ (Sem.wrap _ _ _ _ (execs [giA] (giEnv L))) _ _
  refine seg_execs_cons (seg_stmt ?_)
  show wpAny _ _ (exec (.Assign [.Name (Str.ofString "last_interval") _] (.Name (Str.ofString "interval") _) _) (giEnv L)) _ _ _
  refine wpAny_Assign_Name ?_ rfl
  refine ld F3 hm1 ?_
  refine wpAny_storeName_local rfl F3.ns (fun h₂ hn₂ hs₂ => ?_) rfl
  refine seg_execs_nil ?_
  refine seg_again rfl (next hn { s'' with heap := h₂, toks := s''.toks + 1 } ⟨⟨_, F3.set hn₂ hs₂, by simp⟩, ?_⟩ s'' ?_)
  · exact (hit'.at fun o e => hp I o (.inr hBI) e).extBut hs₂.extBut hIL
  · exact (Since.refl B L s'').go fun b o hb' hL e => hs₂.extBut b o hL e

theorem while_forever (hfs : splitAtGen fs = none) (hfg : fs.any Frame.guarded = false) :
    ∀ (n : Nat) (s₀ s : Shared), (∀ j, j ≤ n → val (N - 1 - j) = v ∧ N - 1 - j < len) → (∃ m, Fr h₀ L s.heap m ∧ m (Str.ofString "last_interval") = some (.int v t)) → Since B L s₀ s →
      Seg (model Challenge.rw_oh0129_01.row.prog w) A (Rp B L N len) (Yp B L h₀ val N len) (n + 1) s₀ (giWhile L) ((model Challenge.rw_oh0129_01.row.prog w).den (giWhile L)) fs s := by
  intro n
  induction n with
  | zero =>
    rintro s₀ s hval ⟨m, F, hm⟩ S
    refine seg_whileLoop ?_
    show wpAny _ _ (isTrue (.Constant (.bool true) _ _) (giEnv L) (eval (.Constant (.bool true) _ _) (giEnv L))) _ _ _
    walk1
    walk1
    walk1
    rw [if_pos rfl]
    show Seg _ _ _ _ _ _ _ (Sem.wrap _ _ _ _ (execs [giWY] (giEnv L))) _ _
    refine seg_execs_cons ?_
    show Seg _ _ _ _ _ _ _ (Sem.wrap _ _ _ _ (exec (.Expr (.Yield (some (.Name (Str.ofString "last_interval") _)) _) _) (giEnv L))) _ _
    refine seg_Expr_Yield hfs rfl hfg ?_
    refine ld F hm ?_
    intro kap hkap
    exact ⟨⟨⟨t, by rw [(hval 0 (Nat.le_refl _)).1]⟩, (hval 0 (Nat.le_refl _)).2⟩, S, fun hn => absurd hn (Nat.lt_irrefl _)⟩
  | succ n ih =>
    rintro s₀ s hval ⟨m, F, hm⟩ S
    refine seg_whileLoop ?_
    show wpAny _ _ (isTrue (.Constant (.bool true) _ _) (giEnv L) (eval (.Constant (.bool true) _ _) (giEnv L))) _ _ _
    walk1
    walk1
    walk1
    rw [if_pos rfl]
    show Seg _ _ _ _ _ _ _ (Sem.wrap _ _ _ _ (execs [giWY] (giEnv L))) _ _
    refine seg_execs_cons ?_
    show Seg _ _ _ _ _ _ _ (Sem.wrap _ _ _ _ (exec (.Expr (.Yield (some (.Name (Str.ofString "last_interval") _)) _) _) (giEnv L))) _ _
    refine seg_Expr_Yield hfs rfl hfg ?_
    refine ld F hm ?_
    intro kap hkap
    refine ⟨⟨⟨t, by rw [(hval (n + 1) (Nat.le_refl _)).1]⟩, (hval (n + 1) (Nat.le_refl _)).2⟩, S, fun hn s'' hb hp => hkap .none s'' ?_⟩
    refine seg_execs_nil ?_
    exact seg_again rfl (ih s'' s'' (fun j hj => hval j (Nat.le_succ_of_le hj)) ⟨m, Fr.wake F hb hp, hm⟩ (Since.refl B L s''))

theorem turn_zero (X : (hd.heap_39 w.params).In h₀) (T : Top hd.view_39 (looseW hd.view_39 []) mean mg mb h₀) (hl : h₀.IsList l vs.toArray) (hB : h₀.objs.size ≤ B) (hBI : B ≤ I) (hIL : I ≠ L)
    (hfs : splitAtGen fs = none) (hfg : fs.any Frame.guarded = false) {t' : Tok}
    (hv : vs[i]? = some (.int 0 t')) (hval : ∀ j, j ≤ n → val (N - 1 - j) = v ∧ N - 1 - j < len)
    (G : GS h₀ L I l i (.int v t) s) (S : Since B L s₀ s) :
    Seg (model Challenge.rw_oh0129_01.row.prog w) A (Rp B L N len) (Yp B L h₀ val N len) (n + 1) s₀ (giLoop L I) ((model Challenge.rw_oh0129_01.row.prog w).den (giLoop L I)) fs s := by
  refine turn_head X T hl hB hBI hIL hv (by decide) G S fun s' m' F' hm1 hm2 hit' S' => ?_
  refine seg_execs_cons (seg_If ?_)
  refine test_zero F' hm1 ?_
  rw [if_pos (by rfl), gi_body2]
  refine seg_execs_cons (seg_If ?_)
  refine test_none (s := { s' with toks := s'.toks + 1 }) F' hm2 ?_
  rw [if_neg Bool.false_ne_true]
  refine seg_execs_nil ?_
  refine seg_execs_cons (seg_While fun p => ?_)
  exact while_forever (by simp [splitAtGen, hfs]) (by simp only [List.any_cons, hfg]; rfl) n _ _ hval ⟨m', F', hm2⟩ (S'.go fun _ _ _ _ e => e)
end
end Mine
end PartGen3
section PartGen4
open PySem PySem.W PyProof.Rows
open Sem (wp)
namespace Mine
section
variable {w : World} {mean : ExcName → Option Value} {mg mb : Str → Option Value} {A : Around} {B N len n i : Nat} {h₀ : Heap} {val : Nat → Int} {L I l : Addr} {vs : List Value} {last : Value} {z v : Int} {t : Tok} {fs : List Frame} {s₀ s : Shared}
  {m : Str → Option Value} {E : Value → Shared → Prop}

theorem turn_end {R : GenEnd} {Y : Protocol} (X : (hd.heap_39 w.params).In h₀) (T : Top hd.view_39 (looseW hd.view_39 []) mean mg mb h₀) (hl : h₀.IsList l vs.toArray) (hB : h₀.objs.size ≤ B) (hBI : B ≤ I) (hIL : I ≠ L)
    (hv : vs[i]? = some (.int 127 t))
    (hret : ∀ s', Since B L s₀ s' → Seg (model Challenge.rw_oh0129_01.row.prog w) A R Y n s₀ (giLoop L I) (.pure (.done (.ret .none))) fs s')
    (G : GS h₀ L I l i last s) (S : Since B L s₀ s) :
    Seg (model Challenge.rw_oh0129_01.row.prog w) A R Y n s₀ (giLoop L I) ((model Challenge.rw_oh0129_01.row.prog w).den (giLoop L I)) fs s := by
  obtain ⟨⟨m, F, hm⟩, hit⟩ := G
  refine seg_forLoop ?_ (fun _ => rfl)
  have hls : s.heap.IsList l vs.toArray := hl.at fun o e => F.keep l o e
  refine wpAny_pyNext_list_item hit hls (by simpa using hv) fun h' hit' hs' => ?_
  dsimp only
  have F1 : Fr h₀ L h' m := Fr.other F hs' hIL (Nat.le_trans hB hBI)
  show wpAny _ _ (assign (.Name (Str.ofString "interval") _) (giEnv L) (.int 127 t)) _ _ _
  refine wpAny_assign_Name (wpAny_storeName_local rfl F1.ns (fun h₂ hn₂ hs₂ => ?_) rfl)
  have F2 := F1.set hn₂ hs₂
  have S2 : Since B L s₀ { s with heap := h₂, toks := s.toks + 1 } := S.go fun b o hb hL e => hs₂.extBut b o hL (hs'.extBut b o (Nat.ne_of_lt (Nat.lt_of_lt_of_le hb hBI)) e)
  rw [gi_body]
  refine seg_execs_cons (seg_If ?_)
  refine test_max X T F2 (z := 127) (t := t) (by simp) ?_
  rw [if_pos (by rfl)]
  show Seg _ _ _ _ _ _ _ (Sem.wrap _ _ _ _ (execs [.Return none _] (giEnv L))) _ _
  refine seg_execs_cons (seg_stmt (wpAny_Return_none ?_))
  exact hret _ S2

/-- what stands below the loop: nothing but the generator's own frame -/
structure Floor (w : World) (A : Around) (R : GenEnd) (Y : Protocol) (fs : List Frame) : Prop where
  split : splitAtGen fs = none
  guard : fs.any Frame.guarded = false
  ret : ∀ n s₀ c s', R n s₀ (.ok (.ret .none)) s' → Seg (model Challenge.rw_oh0129_01.row.prog w) A R Y n s₀ c (.pure (.done (.ret .none))) fs s'

theorem gen_start {R : GenEnd} {Y : Protocol} (F : Fr h₀ L s.heap m) (hg : m (Str.ofString "grouping") = some (.ref l)) (hl : h₀.IsList l vs.toArray) (hBs : B ≤ s.heap.objs.size) (S : Since B L s₀ s)
    (loop : ∀ I fs s', Floor w A R Y fs → B ≤ I → I ≠ L → GS h₀ L I l 0 .none s' → Since B L s₀ s' → 
      Seg (model Challenge.rw_oh0129_01.row.prog w) A R Y n s₀ (giLoop L I) ((model Challenge.rw_oh0129_01.row.prog w).den (giLoop L I)) fs s') :
    Seg (model Challenge.rw_oh0129_01.row.prog w) A R Y n s₀ (.func (bodyOfDef stGI) (giEnv L)) ((model Challenge.rw_oh0129_01.row.prog w).den (.func (bodyOfDef stGI) (giEnv L))) [] s := by
  refine seg_func ?_
  show Seg _ _ _ _ _ _ _ (Sem.wrap _ _ _ _ (execs [.Assign [.Name (Str.ofString "last_interval") _] (.Constant .none _ _) _, .For (forTarget giFor) (.Name (Str.ofString "grouping") _) (forBody giFor) [] _] (giEnv L))) _ _
  refine seg_execs_cons (seg_stmt (wpAny_Assign_Name ?_ rfl))
  walk1
  refine wpAny_storeName_local rfl F.ns (fun h₂ hn₂ hs₂ => ?_) rfl
  have F2 := F.set hn₂ hs₂
  have S2 : Since B L s₀ { s with heap := h₂, toks := s.toks + 1 } := S.go fun b o hb hL e => hs₂.extBut b o hL e
  refine seg_execs_cons (seg_For ?_ (fun _ => rfl))
  refine ld F2 (v := .ref l) (by simp only [show ¬ (Str.ofString "grouping" = Str.ofString "last_interval") from by decide, if_false]; exact hg) ?_
  have hls : h₂.IsList l vs.toArray := hl.at fun o e => F2.keep l o e
  refine wpAny_pyIter_list (s := { s with heap := h₂, toks := s.toks + 1 }) hls ?_
  intro p
  have hLs : L < h₂.objs.size := F2.ns.lt
  refine loop h₂.objs.size _ _ ⟨rfl, rfl, ?_⟩ (by rw [hs₂.1]; exact hBs) (Nat.ne_of_gt hLs) ⟨⟨_, F2.push _, by simp⟩, ⟨_, Heap.get?_push_size _ rfl, rfl, rfl⟩⟩ (S2.go fun b o hb hL e => Heap.get?_push_of_some _ e)
  intro n' s₀' c' s' hR
  refine seg_leaf (r := .ok (.ret .none)) ?_
  exact seg_end (.ok (.ret .none)) hR
end
end Mine
end PartGen4
section PartGen5
open PySem PySem.W PyProof.Rows
open Sem (wp)
namespace Mine

def gval (kind : Nat) (a : Int) (j : Nat) : Int := if kind = 1 then (if j = 0 then a else 2 * a) else a
def glen (kind : Nat) : Nat := if kind = 0 then 20 else if kind = 1 then 20 else 2
def shape (kind : Nat) (a : Int) : List Int := if kind = 0 then [a, 0, 3] else if kind = 1 then [a, 2 * a, 0] else [a, a, 127, 1]

section
variable {w : World} {mean : ExcName → Option Value} {mg mb : Str → Option Value} {A : Around} {B kind : Nat} {h₀ : Heap} {L l : Addr} {vs : List Value} {a : Int} {s : Shared}
  {m : Str → Option Value}

theorem gen_goes (X : (hd.heap_39 w.params).In h₀) (T : Top hd.view_39 (looseW hd.view_39 []) mean mg mb h₀) (hl : h₀.IsList l vs.toArray) (hi : IntsAre vs (shape kind a)) (hB : h₀.objs.size ≤ B) (hBs : B ≤ s.heap.objs.size)
    (ha : 1 ≤ a) (ha2 : a ≤ 16) (F : Fr h₀ L s.heap m) (hg : m (Str.ofString "grouping") = some (.ref l)) :
    Seg (model Challenge.rw_oh0129_01.row.prog w) A (Rp B L 20 (glen kind)) (Yp B L h₀ (gval kind a) 20 (glen kind)) 20 s (.func (bodyOfDef stGI) (giEnv L)) ((model Challenge.rw_oh0129_01.row.prog w).den (.func (bodyOfDef stGI) (giEnv L))) [] s := by
  refine gen_start F hg hl hBs (Since.refl B L s) ?_
  intro I fs s' Fl hBI hIL G S
  by_cases k0 : kind = 0
  · subst k0
    obtain ⟨t0, e0⟩ := hi.get 0 a rfl
    obtain ⟨t1, e1⟩ := hi.get 1 0 rfl
    refine turn_yield X T hl hB hBI hIL Fl.split Fl.guard e0 (by omega) (by omega) rfl (by decide) (fun _ s'' G'' s₀' S'' => ?_) G S
    exact turn_zero X T hl hB hBI hIL Fl.split Fl.guard (n := 18) e1 (fun j _ => ⟨rfl, by show 20 - 1 - j < 20; omega⟩) G'' S''
  · by_cases k1 : kind = 1
    · subst k1
      obtain ⟨t0, e0⟩ := hi.get 0 a rfl
      obtain ⟨t1, e1⟩ := hi.get 1 (2 * a) rfl
      obtain ⟨t2, e2⟩ := hi.get 2 0 rfl
      refine turn_yield X T hl hB hBI hIL Fl.split Fl.guard e0 (by omega) (by omega) rfl (by decide) (fun _ s'' G'' s₀' S'' => ?_) G S
      refine turn_yield X T hl hB hBI hIL Fl.split Fl.guard (n := 18) e1 (by omega) (by omega) rfl (by decide) (fun _ s3 G3 s₀3 S3 => ?_) G'' S''
      refine turn_zero X T hl hB hBI hIL Fl.split Fl.guard (n := 17) e2 (fun j hj => ?_) G3 S3
      refine ⟨?_, by show 20 - 1 - j < 20; omega⟩
      unfold gval
      rw [if_pos rfl, if_neg (by omega)]
    · have hsh : shape kind a = [a, a, 127, 1] := by unfold shape; rw [if_neg k0, if_neg k1]
      rw [hsh] at hi
      have hgl : glen kind = 2 := by unfold glen; rw [if_neg k0, if_neg k1]
      have hv : ∀ j, gval kind a j = a := fun j => by unfold gval; rw [if_neg k1]
      obtain ⟨t0, e0⟩ := hi.get 0 a rfl
      obtain ⟨t1, e1⟩ := hi.get 1 a rfl
      obtain ⟨t2, e2⟩ := hi.get 2 127 rfl
      refine turn_yield X T hl hB hBI hIL Fl.split Fl.guard e0 (by omega) (by omega) (hv _) (by rw [hgl]; decide) (fun _ s'' G'' s₀' S'' => ?_) G S
      refine turn_yield X T hl hB hBI hIL Fl.split Fl.guard (n := 18) e1 (by omega) (by omega) (hv _) (by rw [hgl]; decide) (fun _ s3 G3 s₀3 S3 => ?_) G'' S''
      refine turn_end X T hl hB hBI hIL (n := 18) e2 (fun s4 S4 => Fl.ret _ _ _ _ ⟨rfl, ?_, S4⟩) G3 S3
      unfold glen
      rw [if_neg k0, if_neg k1]
end
end Mine
end PartGen5
section PartMk1
open PySem PySem.W PyProof.Rows
open Sem (wp)
namespace Mine

section
variable {w : World} {A : Around} {s : Shared} {Q : Value → Shared → Prop} {E : Value → Shared → Prop} {l : Addr}
theorem gen_call (X : (hd.heap_39 w.params).In s.heap) (hlim : s.heap.NoLimit) (hroom : A.depth < recursionLimit)
    (h : ∀ h₁ ga tk, h₁.Ns s.heap.objs.size (fun x => [(Str.ofString "grouping", Value.ref l)].reverse.lookup x) → (∀ b o, s.heap.get? b = some o → h₁.get? b = some o) → h₁.IsGen ga s.gens.size → s.heap.objs.size < ga →
      Q (.ref ga) { s with heap := h₁, toks := tk, gens := s.gens.push (.fresh (.func (bodyOfDef stGI) (giEnv s.heap.objs.size))) }) :
    wpAny (model Challenge.rw_oh0129_01.row.prog w) A (call (.ref 21) [.ref l]) Q E s := by
  revert X
  k_fill
  intro X
  refine wpAny_call (codeAny_call_generator (fd := fnOf _ _ _ _ _ _ _ _ _ _ _ _) hroom (X _ _ (by k_is)) rfl rfl rfl rfl (codeRec_of X (by k_is)) ?_)
  refine BindsTo.of_eq (binds := [(Str.ofString "grouping", .ref l)]) (by rfl) _ _ _ _ ?_
  refine wpAny_newFunctionEnv (by decide) (locs rfl) (fun h₁ hns hsb => ⟨hlim.fresh _ hsb, ?_⟩) rfl
  have hsz : h₁.objs.size = s.heap.objs.size + 1 := by rw [hsb.1, Heap.size_push]
  have keep : ∀ b o, s.heap.get? b = some o → h₁.get? b = some o := fun b o e => hsb.extBut b o (Nat.ne_of_lt (Heap.lt_size e)) (Heap.get?_push_of_some _ e)
  refine h _ _ _ (hns.push _) (fun b o e => Heap.get?_push_of_some _ (keep b o e)) ⟨_, _, _, Heap.get?_push_size _ rfl, rfl, rfl, rfl⟩ (by show _ < h₁.objs.size; omega)
end
end Mine
end PartMk1
section PartMk2
open PySem PySem.W PyProof.Rows
open Sem (wp)
namespace Mine

def collect (val : Nat → Int) (len : Nat) : Nat → Nat → Int → List Int
  | 0, _, _ => []
  | f + 1, j, tot => if j = len then [] else if 16 < tot + val j then [] else (tot + val j) :: collect val len f (j + 1) (tot + val j)
def marksOf (kind : Nat) (a : Int) : List Int := collect (gval kind a) (glen kind) 20 0 0

theorem AllBare.set {gs : Array GenState} {g : Nat} {x : GenState} (h : AllBare gs) (hx : x.bare = true) : AllBare (gs.setIfInBounds g x) := by
  intro y hy
  rcases Array.mem_or_eq_of_mem_setIfInBounds hy with hy | rfl
  · exact h y hy
  · exact hx

abbrev mkMap (sz : Option Value) (tot : Int) (t : Tok) (D l : Addr) : Str → Option Value := fun y =>
  if y = Str.ofString "size" then sz else if y = Str.ofString "total" then some (.int tot t) else if y = Str.ofString "marks" then some (.ref D) else if y = Str.ofString "sizes" then some (.ref l) else none
theorem Fr.to {h₀ h : Heap} {L : Addr} {m m' : Str → Option Value} (F : Fr h₀ L h m) (e : ∀ y, m y = m' y) : Fr h₀ L h m' := (funext e : m = m') ▸ F

def stMk : Stmt := Challenge.rw_oh0129_01.row.prog.main.body.getD 4 (.Pass default)
abbrev mkEnv (L : Addr) : Env := envOf (Str.ofString "_law_marks") (scopeOfDef stMk) L 28 (.ref 27)
def mkFor : Stmt := (bodyOfDef stMk).getD 1 (.Pass default)

section
variable {w : World} {mean : ExcName → Option Value} {mg mb : Str → Option Value} {dp un : Nat} {fr : Option (List Env)} {gd : Option (List Code)} {kind : Nat} {l : Addr} {vs : List Value} {a : Int} {s : Shared}

theorem marks_turn {A : Around} {h₀ : Heap} {L D : Addr} {z tot : Int} {u t : Tok} {vacc : List Value} {Q : Flow → Shared → Prop} {E : Value → Shared → Prop}
    (F : Fr h₀ L s.heap (mkMap (some (.int z u)) tot t D l)) (hD : s.heap.PlainList D vacc.toArray) (hDL : D ≠ L) (hD0 : h₀.get? D = none) (hsz : vacc.length ≤ 100)
    (brk : 16 < tot + z → ∀ h' tk, h'.PlainList D vacc.toArray → Fr h₀ L h' (mkMap (some (.int z u)) (tot + z) s.toks D l) → Heap.SameBut L s.heap h' → Q .brk { s with heap := h', toks := tk })
    (next : ¬ 16 < tot + z → ∀ h' tk, h'.PlainList D (vacc ++ [Value.int (tot + z) s.toks]).toArray → Fr h₀ L h' (mkMap (some (.int z u)) (tot + z) s.toks D l) →
      (∀ b o, b ≠ L → b ≠ D → s.heap.get? b = some o → h'.get? b = some o) → Q .next { s with heap := h', toks := tk }) :
    wpAny (model Challenge.rw_oh0129_01.row.prog w) A (execs (forBody mkFor) (mkEnv L)) Q E s := by
  show wpAny _ _ (execs [.AugAssign (.Name (Str.ofString "total") _) .Add (.Name (Str.ofString "size") _) _, .If (.Compare (.Name (Str.ofString "total") _) [.Gt] [.Constant (.int 16) _ _] _) [.Break _] [] _, .Expr (.Call (.Attribute (.Name (Str.ofString "marks") _) (Str.ofString "append") _) [.Name (Str.ofString "total") _] [] _) _] (mkEnv L)) _ _ _
  refine wpAny_execs_cons (wpAny_AugAssign_Name ?_)
  refine ldn F (v := .int tot t) rfl ?_
  refine ld F (v := .int z u) rfl ?_
  walk1
  refine wpAny_storeName_local rfl F.ns (fun h₂ hn₂ hs₂ => ?_) rfl
  have F2 : Fr h₀ L h₂ (mkMap (some (.int z u)) (tot + z) s.toks D l) := Fr.to (F.set hn₂ hs₂) fun y => by
    by_cases e : y = Str.ofString "total"
    · subst e; rfl
    · simp only [mkMap, if_neg e]
  have hD2 : h₂.PlainList D vacc.toArray := hD.at fun o e => hs₂.extBut D o hDL e
  clear hn₂
  dsimp only
  refine wpAny_execs_cons (wpAny_If ?_)
  walk1
  refine ld F2 (v := .int (tot + z) s.toks) rfl ?_
  walk1
  walk1
  walk1
  by_cases hc : 16 < tot + z
  · rw [if_pos (by simpa using hc)]
    refine wpAny_execs_cons (wpAny_Break ?_)
    exact brk hc _ _ hD2 F2 hs₂
  · rw [if_neg (by simpa using hc)]
    refine wpAny_execs_nil ?_
    dsimp only
    refine wpAny_execs_cons (wpAny_Expr ?_)
    obtain ⟨n, hn⟩ := hD2
    have N : News h₀ L h₂ [(D, W.listOf vacc.toArray n)] := fun p hp => by
      rw [List.mem_singleton.mp hp]; exact ⟨hn, hDL, hD0⟩
    walk1
    walk1
    walk1
    walk1
    walk1
    walk1
    walk1
    show wpAny _ _ (call (Value.builtin "list.append") [.ref D, .int (tot + z) s.toks]) _ _ _
    refine wpAny_list_append_plain ⟨n, hn⟩ (fun h₃ hp₃ hs₃ => ?_) (by rw [List.size_toArray]; exact Nat.le_trans hsz (by decide))
    refine wpAny_execs_nil ?_
    refine next hc _ _ (by simpa using hp₃) ?_ fun b o hbL hbD e => hs₃.extBut b o hbD (hs₂.extBut b o hbL e)
    exact ⟨F2.ns.sameBut hs₃ (Ne.symm hDL), fun b o e => hs₃.extBut b o (fun q => by rw [q, hD0] at e; cases e) (F2.keep b o e), F2.above⟩

theorem collect_succ {val : Nat → Int} {len f j : Nat} {tot : Int} : collect val len (f + 1) j tot = if j = len then [] else if 16 < tot + val j then [] else (tot + val j) :: collect val len f (j + 1) (tot + val j) := rfl

theorem marks_loop {A : Around} {h₀ : Heap} {L D ga Lg : Addr} {g B : Nat} {R : Result → Shared → Prop} (hh : A.handled = none) (hroom : A.depth < recursionLimit) (hlim : h₀.NoLimit) (hBL : L < B) (hLg : L ≠ Lg) (hBD : D < B) (hDg : D ≠ Lg) (hBg : B = ga + 1) (hgg : ga ≠ Lg)
    (hgL : ga ≠ L) (hgD : ga ≠ D) (h0g : h₀.objs.size ≤ Lg) (hDL : D ≠ L) (hD0 : h₀.get? D = none)
    (ha : 1 ≤ a)
    (fin : ∀ h' tk gs sz tot t vacc, Fr h₀ L h' (mkMap sz tot t D l) → h'.PlainList D vacc.toArray → IntsAre vacc (marksOf kind a) → AllBare gs → R (.ok .next) { s with heap := h', toks := tk, gens := gs })
    {h : Heap} {tk : Nat} {gs : Array GenState} {sz : Option Value} {t : Tok} {gst : GenState}
    (F : Fr h₀ L h (mkMap sz 0 t D l)) (hD : h.PlainList D #[]) (hgen : h.IsGen ga g) (hgst : gs[g]? = some gst) (hbare : AllBare gs)
    (hgo : ∀ s'' : Shared, (∀ b o, h₀.get? b = some o → s''.heap.get? b = some o) → Priv B Lg h s''.heap → B ≤ s''.heap.objs.size →
      gst.Goes (model Challenge.rw_oh0129_01.row.prog w) A.in1 (Rp B Lg 20 (glen kind)) (Yp B Lg h₀ (gval kind a) 20 (glen kind)) 20 (.send .none) s'') :
    codeAny (model Challenge.rw_oh0129_01.row.prog w) A (.forLoop (forTarget mkFor) (.ref ga) (forBody mkFor) [] (mkEnv L)) R { s with heap := h, toks := tk, gens := gs } := by
  have hval : ∀ j, 1 ≤ gval kind a j := fun j => by unfold gval; split <;> (try split) <;> omega
  refine codeAny_forLoop (I := fun k s' => ∃ h tk gs sz tot t vacc acc j gst, s' = { s with heap := h, toks := tk, gens := gs } ∧ k = 20 - j ∧ j ≤ 16 ∧ (j : Int) ≤ tot ∧ tot ≤ 16 ∧ acc ++ collect (gval kind a) (glen kind) (20 - j) j tot = marksOf kind a ∧ acc.length = j ∧
      Fr h₀ L h (mkMap sz tot t D l) ∧ h.PlainList D vacc.toArray ∧ IntsAre vacc acc ∧ h.IsGen ga g ∧ gs[g]? = some gst ∧ AllBare gs ∧
      ∀ s'' : Shared, (∀ b o, h₀.get? b = some o → s''.heap.get? b = some o) → Priv B Lg h s''.heap → B ≤ s''.heap.objs.size →
      gst.Goes (model Challenge.rw_oh0129_01.row.prog w) A.in1 (Rp B Lg 20 (glen kind)) (Yp B Lg h₀ (gval kind a) 20 (glen kind)) (20 - j) (.send .none) s'') ?_ 20
    ⟨h, tk, gs, sz, 0, t, [], [], 0, gst, rfl, rfl, by omega, by omega, by omega, rfl, rfl, F, hD, .nil, hgen, hgst, hbare, hgo⟩ (fun _ => rfl)
  rintro k s' ⟨h, tk, gs, sz, tot, t, vacc, acc, j, gst, rfl, rfl, hj, hjt, ht, hcol, hlen, F, hD, hI, hgen, hgst, hbare, hgo⟩
  obtain ⟨f, hf⟩ : ∃ f, 20 - j = f + 1 := ⟨19 - j, by omega⟩
  have base : ∀ {h' : Heap}, (∀ b o, b < B → b ≠ Lg → h.get? b = some o → h'.get? b = some o) → ∀ b o, h₀.get? b = some o → h'.get? b = some o := fun hk b o e =>
    hk b o (Nat.lt_of_lt_of_le (Heap.lt_size e) (Nat.le_trans F.above (Nat.le_of_lt hBL))) (Nat.ne_of_lt (Nat.lt_of_lt_of_le (Heap.lt_size e) h0g)) (F.keep b o e)
  refine next_gen (n := 20 - j) hh (hlim.keeps F.keep) hroom hgen hgst (hgo _ F.keep (fun _ _ _ e => e) (by let ⟨_, _, _, ho, _⟩ := hgen; rw [hBg]; exact Heap.lt_size ho)) (fun v s₁ gs' hb' hv => ?_) (fun s₁ hp h' hk => ?_)
  · obtain ⟨⟨⟨t', rfl⟩, hjl⟩, ⟨h₁, tk₁, rfl, hk₁⟩, hkap⟩ := hv
    rw [show 20 - 1 - (20 - j - 1) = j from by omega] at hjl ⊢
    have F1 : Fr h₀ L h₁ (mkMap sz tot t D l) := ⟨F.ns.at' fun o e => hk₁ L o hBL hLg e, base hk₁, F.above⟩
    have hD1 : h₁.PlainList D vacc.toArray := hD.at fun o e => hk₁ D o hBD hDg e
    have hgen1 : h₁.IsGen ga g := let ⟨o, nm, qn, ho, r⟩ := hgen; ⟨o, nm, qn, hk₁ ga o (by rw [hBg]; exact Nat.lt_succ_self _) hgg ho, r⟩
    show wpAny _ _ (assign (.Name (Str.ofString "size") _) (mkEnv L) _) _ _ _
    refine wpAny_assign_Name (wpAny_storeName_local rfl F1.ns (fun h₂ hn₂ hs₂ => ?_) rfl)
    have F2 : Fr h₀ L h₂ (mkMap (some (.int (gval kind a j) t')) tot t D l) := Fr.to (F1.set hn₂ hs₂) fun y => by
      by_cases e : y = Str.ofString "size"
      · subst e; rfl
      · simp only [mkMap, if_neg e]
    have hD2 : h₂.PlainList D vacc.toArray := hD1.at fun o e => hs₂.extBut D o hDL e
    have hgen2 : h₂.IsGen ga g := let ⟨o, nm, qn, ho, r⟩ := hgen1; ⟨o, nm, qn, hs₂.extBut ga o hgL ho, r⟩
    have hlv : vacc.length = acc.length := hI.length
    have hbare2 : AllBare ((gs.setIfInBounds g .running).setIfInBounds g gs') := AllBare.set (AllBare.set hbare rfl) hb'
    rw [hf, collect_succ] at hcol
    refine marks_turn (s := { s with heap := h₂, toks := _, gens := _ }) F2 hD2 hDL hD0 (by omega) (fun hc h₃ tk₃ hD₃ F₃ hs₃ => ?_) (fun hc h₃ tk₃ hD₃ F₃ hk₃ => ?_)
    · refine fin h₃ tk₃ _ _ _ _ vacc F₃ hD₃ ?_ hbare2
      rw [if_pos hc, ite_self, List.append_nil] at hcol
      exact hcol ▸ hI
    · rw [if_neg (Nat.ne_of_lt hjl), if_neg hc] at hcol
      have hv1 := hval j
      refine ⟨20 - (j + 1), by omega, h₃, tk₃, _, _, tot + gval kind a j, _, _, acc ++ [tot + gval kind a j], j + 1, gs', rfl, rfl, by omega, by omega, by omega, ?_, by simp [hlen], F₃, hD₃, ?_, ?_, ?_, hbare2, ?_⟩
      · rw [show 20 - (j + 1) = f from by omega]; simpa using hcol
      · exact IntsAre.append hI (IntsAre.cons _ _ .nil)
      · exact let ⟨o, nm, qn, ho, r⟩ := hgen2; ⟨o, nm, qn, hk₃ ga o hgL hgD ho, r⟩
      · have e1 := setGen_self (s := { s with gens := gs }) (x := .running) hgst
        exact setGen_self (x := gs') e1
      · intro s'' hb0 hpv _
        have hq := hkap (by omega) s'' hb0 fun b o hb e => hpv b o hb (hk₃ b o ?_ ?_ (hs₂.extBut b o ?_ e))
        · rw [hf] at hq
          rw [show 20 - (j + 1) = f from by omega]
          exact hq
        · rintro rfl; rcases hb with hb | hb
          · exact hLg hb
          · exact Nat.not_lt.mpr hb hBL
        · rintro rfl; rcases hb with hb | hb
          · exact hDg hb
          · exact Nat.not_lt.mpr hb hBD
        · intro hbe
          have hbe : b = L := hbe
          subst hbe
          rcases hb with hb | hb
          · exact hLg hb
          · exact Nat.not_lt.mpr hb hBL
  · obtain ⟨hn, h₁, tk₁, rfl, hk₁⟩ := hp
    have hjl : j = glen kind := by
      have : glen kind ≤ 20 := by unfold glen; split <;> (try split) <;> decide
      omega
    have F1 : Fr h₀ L h₁ (mkMap sz tot t D l) := ⟨F.ns.at' fun o e => hk₁ L o hBL hLg e, base hk₁, F.above⟩
    have F2 : Fr h₀ L h' (mkMap sz tot t D l) := ⟨F1.ns.at' fun o e => hk L o e, fun b o e => hk b o (F1.keep b o e), F1.above⟩
    refine wpAny_execs_nil (fin h' _ _ _ _ _ vacc F2 ((hD.at fun o e => hk₁ D o hBD hDg e).at fun o e => hk D o e) ?_ (AllBare.set (AllBare.set hbare rfl) rfl))
    rw [hf, collect_succ, if_pos hjl, List.append_nil] at hcol
    exact hcol ▸ hI
end
end Mine
end PartMk2
section PartMk3
open PySem PySem.W PyProof.Rows
open Sem (wp)
namespace Mine
section
variable {w : World} {mean : ExcName → Option Value} {mg mb : Str → Option Value} {dp un : Nat} {fr : Option (List Env)} {gd : Option (List Code)} {kind : Nat} {l : Addr} {vs : List Value} {a : Int} {s : Shared}

theorem marks_spec (X : (hd.heap_39 w.params).In s.heap) (T : Top hd.view_39 (looseW hd.view_39 []) mean mg mb s.heap) (hdp : dp + 10 < recursionLimit) (hl : s.heap.IsList l vs.toArray) (hi : IntsAre vs (shape kind a))
    (ha : 1 ≤ a) (ha2 : a ≤ 16) (hb : AllBare s.gens) :
    codeAny (model Challenge.rw_oh0129_01.row.prog w) ⟨none, dp, fr, gd, un⟩ (.call (.ref 28) ⟨[.ref l], []⟩) (fun r s' => ∃ b h' tk gs vs', r = .ok (.ret (.ref b)) ∧ s' = { s with heap := h', toks := tk, gens := gs } ∧
      (∀ b o, s.heap.get? b = some o → h'.get? b = some o) ∧ s.heap.get? b = none ∧ h'.PlainList b vs'.toArray ∧ IntsAre vs' (marksOf kind a) ∧ AllBare gs) s := by
  revert X
  k_fill
  intro X
  refine enter_def X T.nolimit (by show dp < _; omega) (by k_is) (by k_is) (binds := [(Str.ofString "sizes", .ref l)]) (BindsTo.of_eq rfl) (locs rfl) ?_ rfl rfl rfl (by decide)
  intro h₁ F
  have N : News s.heap s.heap.objs.size h₁ [] := .nil
  repeat' ((fail_if_success (with_reducible show wpAny _ _ (exec (Stmt.For _ _ _ _ _) _) _ _ _)); (first | (k_unfold; (try dsimp only)) | walk1 | (dsimp only; walk1)))
  rename Fr _ _ _ _ => F'
  rename News _ _ _ _ => N'
  rename_i D _ _ Dt _ _ _ _ hc
  obtain ⟨hD1, hD2, hD3⟩ := N' (D, W.listOf #[] 0) (.tail _ (.head _))
  have F1 : Fr s.heap s.heap.objs.size hc (mkMap none 0 (s.toks + 1) D l) := Fr.to F' fun y => by
    by_cases e1 : y = Str.ofString "marks"
    · subst e1; rfl
    · by_cases e2 : y = Str.ofString "total"
      · subst e2; rfl
      · by_cases e3 : y = Str.ofString "sizes"
        · subst e3; rfl
        · simp only [if_neg e1, if_neg e2]
          rw [mkMap, if_neg e2, if_neg e1, if_neg e3, ite_self]
          simp only [List.reverse_cons, List.reverse_nil, List.nil_append, List.lookup_cons, List.lookup_nil, beq_eq_false_iff_ne.mpr e3]
  refine wpAny_For ?_ (fun _ => rfl)
  k_steps
  refine gen_call (X.keeps F1.keep) (T.nolimit.keeps F1.keep) (by show dp + 1 < _; omega) ?_
  intro h₂ ga tk hns hk₂ hgen hlt
  have hLs : s.heap.objs.size < hc.objs.size := F1.ns.lt
  have hDs : D < hc.objs.size := Heap.lt_size hD1
  have F2 : Fr s.heap s.heap.objs.size h₂ (mkMap none 0 (s.toks + 1) D l) := ⟨F1.ns.keeps hk₂, fun b o e => hk₂ b o (F1.keep b o e), F1.above⟩
  refine wpAny_pyIter_gen hgen ?_
  have hga : ga < h₂.objs.size := let ⟨_, _, _, ho, _⟩ := hgen; Heap.lt_size ho
  refine marks_loop (s := s) (kind := kind) (a := a) (B := ga + 1) (Lg := hc.objs.size) rfl (by show dp + 1 < _; omega) T.nolimit (Nat.lt_succ_of_lt (Nat.lt_trans hLs hlt)) (Nat.ne_of_lt hLs) (Nat.lt_succ_of_lt (Nat.lt_trans hDs hlt)) (Nat.ne_of_lt hDs) rfl (Nat.ne_of_gt hlt)
    (Nat.ne_of_gt (Nat.lt_trans hLs hlt)) (Nat.ne_of_gt (Nat.lt_trans hDs hlt)) (Nat.le_of_lt hLs) hD2 hD3 ha ?_ F2 ⟨0, hk₂ _ _ hD1⟩ hgen (Array.getElem?_push_size ..) (AllBare.push hb rfl) ?_
  · intro h' tk' gs sz tot t vacc F₃ hD₃ hI₃ hb₃
    dsimp only
    show wpAny _ _ (execs [.Return (some (.Name (Str.ofString "marks") _)) _] (mkEnv s.heap.objs.size)) _ _ _
    refine wpAny_execs_cons (wpAny_Return_some ?_)
    refine ld (s := { s with heap := h', toks := tk', gens := gs }) F₃ (v := .ref D) rfl ?_
    exact ⟨D, h', tk', gs, vacc, rfl, rfl, F₃.keep, hD3, hD₃, hI₃, hb₃⟩
  · intro s'' hb0 hpv hsz
    refine ⟨rfl, ?_⟩
    refine gen_goes (m := fun x => [(Str.ofString "grouping", Value.ref l)].reverse.lookup x) X T hl hi ?_ hsz ha ha2 ⟨hns.at' fun o e => hpv _ o (.inl rfl) e, hb0, Nat.le_of_lt hLs⟩ rfl
    exact Nat.le_succ_of_le (Nat.le_of_lt (Nat.lt_trans hLs hlt))
end
end Mine
end PartMk3
section PartLd1
open PySem PySem.W PyProof.Rows
open Sem (wp)
namespace Mine
def stLd : Stmt := Challenge.rw_oh0129_01.row.prog.main.body.getD 5 (.Pass default)
abbrev ldCells (L : Addr) : List (Str × Addr) := [(Str.ofString "lit", L + 1)]
abbrev ldEnv (L : Addr) : Env := envX (Str.ofString "_law_laid") (scopeOfDef stLd) L 33 (.ref 32) (ldCells L)
def ldFor : Stmt := (bodyOfDef stLd).getD 1 (.Pass default)
def ldIf : Stmt := (forBody ldFor).getD 0 (.Pass default)
def ldFor2 : Stmt := (ifBody ldIf).getD 1 (.Pass default)

abbrev ldMap (nv mv : Option Value) (Da lw : Addr) (kv : Value) : Str → Option Value := fun y =>
  if y = Str.ofString "mark" then mv else if y = Str.ofString "n" then nv else if y = Str.ofString "laid" then some (.ref Da) else
  if y = Str.ofString "wished" then some (.ref lw) else if y = Str.ofString "kind" then some kv else none

def toggle (lit : List Bool) (m : Int) : List Bool := lit.set m.toNat (!(lit.getD m.toNat false))

theorem toggle_length (lit : List Bool) (m : Int) : (toggle lit m).length = lit.length := by simp [toggle]

section
variable {w : World} {A : Around} {h₀ : Heap} {L Da Dl lw : Addr} {kv : Value} {nv mv : Option Value} {lit : List Bool} {s : Shared} {E : Value → Shared → Prop}

theorem nm_lit {pos : Pos} {Q : Value → Shared → Prop} (hc : s.heap.IsCell (L + 1) (some (.ref Dl))) (h : Q (.ref Dl) s) :
    wpAny (model Challenge.rw_oh0129_01.row.prog w) A (eval (.Name (Str.ofString "lit") pos) (ldEnv L)) Q E s :=
  wpAny_Name (wpAny_loadName_cell rfl rfl rfl hc h)

theorem item_lit {x : Str} {k : Int} {t : Tok} {m : Str → Option Value} {p p' p'' : Pos} {Q : Value → Shared → Prop} (F : Fr h₀ L s.heap m) (hx : m x = some (.int k t)) (hxl : (ldEnv L).kindOf x = some .local) (hxd : (x == ("__debug__" : Str)) = false)
    (hc : s.heap.IsCell (L + 1) (some (.ref Dl))) (hl : s.heap.IsList Dl (lit.map Value.bool).toArray) (h0 : 0 ≤ k) (h1 : k.toNat < lit.length) (h2 : k < 2 ^ 63)
    (h : Q (.bool (lit.getD k.toNat false)) s) :
    wpAny (model Challenge.rw_oh0129_01.row.prog w) A (eval (.Subscript (.Name (Str.ofString "lit") p) (.Name x p') p'') (ldEnv L)) Q E s := by
  refine Subscript_ (nm_lit hc (nameX_L F hx ?_ rfl hxl hxd))
  refine tail_any hl.typeIs slot_list_getitem.lookup (wpAny_getItem_list hl h0 h2 (x := .bool (lit.getD k.toNat false)) ?_ h) (by with_unfolding_all rfl)
  simp [h1]

theorem map_set (lit : List Bool) (i : Nat) (b : Bool) : (lit.map Value.bool).toArray.setIfInBounds i (.bool b) = ((lit.set i b).map Value.bool).toArray := by
  simp [List.map_set]

theorem toggle_turn {k : Int} {t : Tok} {Q : Flow → Shared → Prop} (F : Fr h₀ L s.heap (ldMap nv (some (.int k t)) Da lw kv)) (hc : s.heap.IsCell (L + 1) (some (.ref Dl))) (hl : s.heap.IsList Dl (lit.map Value.bool).toArray)
    (h0 : 0 ≤ k) (h1 : k.toNat < lit.length) (h2 : k < 2 ^ 63)
    (h : ∀ h', h'.IsList Dl ((toggle lit k).map Value.bool).toArray → Heap.SameBut Dl s.heap h' → Q .next { s with heap := h' }) :
    wpAny (model Challenge.rw_oh0129_01.row.prog w) A (execs (forBody ldFor2) (ldEnv L)) Q E s := by
  show wpAny _ _ (execs [.Assign [.Subscript (.Name (Str.ofString "lit") _) (.Name (Str.ofString "mark") _) _] (.UnaryOp .Not (.Subscript (.Name (Str.ofString "lit") _) (.Name (Str.ofString "mark") _) _) _) _] (ldEnv L)) _ _ _
  refine wpAny_execs_cons (wpAny_Assign_Subscript ?_ rfl)
  refine wpAny_UnaryOp (item_lit F (x := Str.ofString "mark") rfl rfl rfl hc hl h0 h1 h2 (not_of (wpAny_truthy_bool ?_)))
  refine nm_lit hc (nameX_L F (x := Str.ofString "mark") (v := .int k t) rfl ?_ rfl rfl rfl)
  refine wpAny_setItem_list hl h0 h2 (by simp; omega) fun h' hl' hs' => ?_
  rw [map_set] at hl'
  exact wpAny_execs_nil (h h' hl' hs')

theorem toggle_loop {b I2 : Addr} {vs : List Value} {ms : List Int} {R : Result → Shared → Prop} (hh : A.handled = none) (hi : IntsAre vs ms) (hm : ∀ m ∈ ms, 0 ≤ m ∧ m ≤ 16) (hlit : lit.length = 17)
    (hIL : I2 ≠ L) (hID : I2 ≠ Dl) (hbL : b ≠ L) (hbD : b ≠ Dl) (hbI : b ≠ I2) (hcD : L + 1 ≠ Dl) (hcI : L + 1 ≠ I2) (hDL : Dl ≠ L) (hD0 : h₀.get? Dl = none) (hI0 : h₀.get? I2 = none)
    (F : Fr h₀ L s.heap (ldMap nv mv Da lw kv)) (hc : s.heap.IsCell (L + 1) (some (.ref Dl))) (hl : s.heap.IsList Dl (lit.map Value.bool).toArray) (hb : s.heap.IsList b vs.toArray) (hit : s.heap.IsListIter I2 b 0)
    (fin : ∀ h' tk mv', Fr h₀ L h' (ldMap nv mv' Da lw kv) → h'.IsList Dl ((ms.foldl toggle lit).map Value.bool).toArray → (∀ b o, b ≠ L → b ≠ Dl → b ≠ I2 → s.heap.get? b = some o → h'.get? b = some o) →
      R (.ok .next) { s with heap := h', toks := tk }) :
    codeAny (model Challenge.rw_oh0129_01.row.prog w) A (.forLoop (forTarget ldFor2) (.ref I2) (forBody ldFor2) [] (ldEnv L)) R s := by
  refine codeAny_forLoop (I := fun k s' => ∃ h tk mv lit' j, s' = { s with heap := h, toks := tk } ∧ k = ms.length + 1 - j ∧ j ≤ ms.length ∧ lit'.length = 17 ∧ (ms.drop j).foldl toggle lit' = ms.foldl toggle lit ∧
      Fr h₀ L h (ldMap nv mv Da lw kv) ∧ h.IsCell (L + 1) (some (.ref Dl)) ∧ h.IsList Dl (lit'.map Value.bool).toArray ∧ h.IsList b vs.toArray ∧ h.IsListIter I2 b j ∧ (∀ b o, b ≠ L → b ≠ Dl → b ≠ I2 → s.heap.get? b = some o → h.get? b = some o)) ?_ (ms.length + 1)
    ⟨s.heap, s.toks, mv, lit, 0, rfl, rfl, Nat.zero_le _, hlit, rfl, F, hc, hl, hb, hit, fun _ _ _ _ _ e => e⟩ (fun _ => rfl)
  rintro k s' ⟨h, tk, mv, lit', j, rfl, rfl, hj, hlit', hfold, F, hc, hl, hb, hit, hk⟩
  have hlen : vs.length = ms.length := hi.length
  by_cases hjl : j < ms.length
  · have hmj : ms[j]? = some ms[j] := by simp [hjl]
    obtain ⟨t, hv⟩ := hi.get j ms[j] hmj
    refine wpAny_pyNext_list_item hit hb (by simpa using hv) fun h₁ hit₁ hs₁ => ?_
    have F1 : Fr h₀ L h₁ (ldMap nv mv Da lw kv) := ⟨F.ns.sameBut hs₁ (Ne.symm hIL), fun b o e => hs₁.extBut b o (fun q => by rw [q, hI0] at e; cases e) (F.keep b o e), F.above⟩
    show wpAny _ _ (assign (.Name (Str.ofString "mark") _) (ldEnv L) (.int ms[j] t)) _ _ _
    refine wpAny_assign_Name (wpAny_storeName_local rfl F1.ns (fun h₂ hn₂ hs₂ => ?_) rfl)
    have F2 : Fr h₀ L h₂ (ldMap nv (some (.int ms[j] t)) Da lw kv) := Fr.to (F1.set hn₂ hs₂) fun y => by
      by_cases e : y = Str.ofString "mark"
      · subst e; rfl
      · simp only [ldMap, if_neg e]
    have hcell2 : h₂.IsCell (L + 1) (some (.ref Dl)) := let ⟨o, ho, r⟩ := hc; ⟨o, hs₂.extBut _ o (Nat.succ_ne_self L) (hs₁.extBut _ o hcI ho), r⟩
    have hl2 : h₂.IsList Dl (lit'.map Value.bool).toArray := (hl.extBut hs₁.extBut (Ne.symm hID)).extBut hs₂.extBut hDL
    have hb2 : h₂.IsList b vs.toArray := (hb.extBut hs₁.extBut hbI).extBut hs₂.extBut hbL
    have hit2 : h₂.IsListIter I2 b (j + 1) := hit₁.extBut hs₂.extBut hIL
    have hmm := hm ms[j] (List.getElem_mem hjl)
    refine toggle_turn (s := { s with heap := h₂, toks := _ }) F2 hcell2 hl2 hmm.1 (by omega) (by omega) fun h₃ hl₃ hs₃ => ?_
    refine ⟨ms.length + 1 - (j + 1), by omega, h₃, _, some (.int ms[j] t), toggle lit' ms[j], j + 1, rfl, rfl, hjl, by rw [toggle_length, hlit'], ?_, ?_, ?_, hl₃, hb2.extBut hs₃.extBut hbD, hit2.extBut hs₃.extBut hID, ?_⟩
    · rw [← hfold, List.drop_eq_getElem_cons hjl, List.foldl_cons]
    · exact ⟨F2.ns.sameBut hs₃ (Ne.symm hDL), fun b o e => hs₃.extBut b o (fun q => by rw [q, hD0] at e; cases e) (F2.keep b o e), F2.above⟩
    · exact let ⟨o, ho, r⟩ := hcell2; ⟨o, hs₃.extBut _ o hcD ho, r⟩
    · intro b' o n1 n2 n3 e
      exact hs₃.extBut b' o n2 (hs₂.extBut b' o n1 (hs₁.extBut b' o n3 (hk b' o n1 n2 n3 e)))
  · have hje : j = ms.length := by omega
    refine wpAny_pyNext_list_end hh hit hb (by simp; omega) fun h₁ he₁ => ?_
    refine wpAny_execs_nil (fin h₁ tk mv ?_ ?_ ?_)
    · exact ⟨F.ns.extBut he₁ (Ne.symm hIL), fun b o e => he₁ b o (fun q => by rw [q, hI0] at e; cases e) (F.keep b o e), F.above⟩
    · rw [← hfold, hje, List.drop_length]; exact hl.extBut he₁ (Ne.symm hID)
    · intro b' o n1 n2 n3 e
      exact he₁ b' o n3 (hk b' o n1 n2 n3 e)
end
end Mine
end PartLd1
section PartLd2
open PySem PySem.W PyProof.Rows PySem.SeqAt
open Sem (wp)
namespace Mine

def hitsInt (n : Int) : Value → Bool
  | .int a _ => a == n
  | _ => false
theorem any_hits {vs : List Value} {ns : List Int} (h : IntsAre vs ns) (n : Int) : vs.toArray.any (hitsInt n) = ns.contains n := by
  induction h with
  | nil => simp
  | cons a t _ ih =>
    simp only [List.any_toArray] at ih ⊢
    rw [List.any_cons, ih, List.contains_cons]
    show (a == n || _) = (n == a || _)
    rw [Bool.beq_comm]
theorem ints_mem {vs : List Value} {ns : List Int} (h : IntsAre vs ns) : ∀ y, y ∈ vs → ∃ a t, y = .int a t := by
  induction h with
  | nil => intro y hy; cases hy
  | cons a t _ ih =>
    intro y hy
    rcases List.mem_cons.mp hy with rfl | hy
    · exact ⟨_, _, rfl⟩
    · exact ih y hy

section
variable {w : World} {mean : ExcName → Option Value} {mg mb : Str → Option Value} {dp un : Nat} {fr : Option (List Env)} {gd : Option (List Code)} {A : Around} {h₀ : Heap} {L Da Dl lw I : Addr} {kv : Value} {nv mv : Option Value} {lit : List Bool} {s : Shared} {E : Value → Shared → Prop} {vs vl : List Value} {ns laid : List Int}

theorem in_ints {n : Int} {t : Tok} {Q : Value → Shared → Prop} (hl : s.heap.IsList lw vs.toArray) (hi : IntsAre vs ns) (h : Q (.bool (ns.contains n)) s) :
    wpAny (model Challenge.rw_oh0129_01.row.prog w) A (compareOp .In (.int n t) (.ref lw)) Q E s := by
  refine in_listAt (hitsInt n) hl (fun y hy => ?_) (by rw [any_hits hi]; exact h)
  obtain ⟨a, u, rfl⟩ := ints_mem hi y (by simpa using hy)
  exact EqAt.int_int a u n t

theorem laid_test {n : Int} {t : Tok} {Q : Bool → Shared → Prop} (F : Fr h₀ L s.heap (ldMap (some (.int n t)) mv Da lw kv)) (hc : s.heap.IsCell (L + 1) (some (.ref Dl))) (hl : s.heap.IsList Dl (lit.map Value.bool).toArray)
    (hw : h₀.IsList lw vs.toArray) (hi : IntsAre vs ns) (h0 : 0 ≤ n) (h1 : n.toNat < lit.length) (h2 : n < 2 ^ 63)
    (h : Q (lit.getD n.toNat false != ns.contains n) s) :
    wpAny (model Challenge.rw_oh0129_01.row.prog w) A (isTrue (ifTest ldIf) (ldEnv L) (eval (ifTest ldIf) (ldEnv L))) Q E s := by
  show wpAny _ _ (isTrue (.Compare (.Subscript (.Name (Str.ofString "lit") _) (.Name (Str.ofString "n") _) _) [.NotEq] [.Compare (.Name (Str.ofString "n") _) [.In] [.Name (Str.ofString "wished") _] _] _) _ _) _ _ _
  refine wpAny_isTrue_Compare1 ?_
  refine item_lit F (x := Str.ofString "n") rfl rfl rfl hc hl h0 h1 h2 ?_
  refine wpAny_Compare1 ?_
  refine nameX_L F (x := Str.ofString "n") (v := .int n t) rfl ?_ rfl rfl rfl
  refine nameX_L F (x := Str.ofString "wished") (v := .ref lw) rfl ?_ rfl rfl rfl
  refine in_ints (hw.at fun o e => F.keep lw o e) hi ?_
  walk1
  walk1
  exact h

theorem laid_append {n : Int} {t : Tok} {k : Nat} {Q : Flow → Shared → Prop} (F : Fr h₀ L s.heap (ldMap (some (.int n t)) mv Da lw kv)) (hD : s.heap.get? Da = some (W.listOf vl.toArray k)) (hDL : Da ≠ L) (hD0 : h₀.get? Da = none) (hsz : vl.length ≤ 100)
    (h : ∀ h' tk, h'.PlainList Da (vl ++ [Value.int n t]).toArray → Fr h₀ L h' (ldMap (some (.int n t)) mv Da lw kv) → Heap.SameBut Da s.heap h' → Q .next { s with heap := h', toks := tk }) :
    wpAny (model Challenge.rw_oh0129_01.row.prog w) A (exec ((ifBody ldIf).getD 0 (.Pass default)) (ldEnv L)) Q E s := by
  show wpAny _ _ (exec (.Expr (.Call (.Attribute (.Name (Str.ofString "laid") _) (Str.ofString "append") _) [.Name (Str.ofString "n") _] [] _) _) (ldEnv L)) _ _ _
  have N : News h₀ L s.heap [(Da, W.listOf vl.toArray k)] := fun p hp => by
      rw [List.mem_singleton.mp hp]; exact ⟨hD, hDL, hD0⟩
  refine wpAny_Expr ?_
  walk1
  refine nameX_L F (x := Str.ofString "laid") (v := .ref Da) rfl ?_ rfl rfl rfl
  walk1
  walk1
  walk1
  refine nameX_L (s := { s with toks := _ }) F (x := Str.ofString "n") (v := .int n t) rfl ?_ rfl rfl rfl
  walk1
  show wpAny _ _ (call (Value.builtin "list.append") [.ref Da, .int n t]) _ _ _
  refine wpAny_list_append_plain ⟨k, hD⟩ (fun h₃ hp₃ hs₃ => ?_) (by rw [List.size_toArray]; exact Nat.le_trans hsz (by decide))
  refine h _ _ (by simpa using hp₃) ?_ hs₃
  exact ⟨F.ns.sameBut hs₃ (Ne.symm hDL), fun b o e => hs₃.extBut b o (fun q => by rw [q, hD0] at e; cases e) (F.keep b o e), F.above⟩
end
end Mine
end PartLd2
section PartLd3
open PySem PySem.W PyProof.Rows PySem.SeqAt
open Sem (wp)
namespace Mine
section
variable {w : World} {mean : ExcName → Option Value} {mg mb : Str → Option Value} {dp un : Nat} {fr : Option (List Env)} {gd : Option (List Code)} {h₀ : Heap} {L Da Dl lw I : Addr} {tkd : Tok} {nv mv : Option Value} {lit : List Bool} {s : Shared} {E : Value → Shared → Prop} {vs vl : List Value} {ns laid : List Int} {oI oa oc od : Obj}


theorem collect_bound {val : Nat → Int} (hv : ∀ j, 1 ≤ val j) {len : Nat} : ∀ (f j : Nat) (tot : Int), 0 ≤ tot → ∀ m ∈ collect val len f j tot, 0 ≤ m ∧ m ≤ 16 := by
  intro f
  induction f with
  | zero => intro j tot _ m hm; cases hm
  | succ f ih =>
    intro j tot ht m hm
    rw [collect_succ] at hm
    split at hm
    · cases hm
    · split at hm
      · cases hm
      · have := hv j
        rcases List.mem_cons.mp hm with rfl | hm
        · omega
        · exact ih (j + 1) _ (by omega) m hm
theorem marksOf_bound {kind : Nat} {a : Int} (ha : 1 ≤ a) : ∀ m ∈ marksOf kind a, 0 ≤ m ∧ m ≤ 16 :=
  collect_bound (fun j => by unfold gval; split <;> (try split) <;> omega) 20 0 0 (Int.le_refl _)

theorem rulers_tail {kind : Nat} {n : Int} {t : Tok} {lk : Addr} {Q : Flow → Shared → Prop} (X : (hd.heap_39 w.params).In h₀) (T : Top hd.view_39 (looseW hd.view_39 []) mean mg mb h₀) (hdp : dp + 20 < recursionLimit)
    (F : Fr h₀ L s.heap (ldMap (some (.int n t)) mv Da lw (.int kind tkd))) (N : News h₀ L s.heap [(I, oI), (Da, oa), (L + 1, oc), (Dl, od)]) (hn : 1 ≤ n) (hn2 : n ≤ 16)
    (hoc : oc.data = .cell (some (.ref Dl))) (hl : s.heap.IsList Dl (lit.map Value.bool).toArray) (hlit : lit.length = 17) (hbare : AllBare s.gens) (hD : I ≠ Dl ∧ Da ≠ Dl ∧ L + 1 ≠ Dl)
    (hlk : s.heap.IsList lk vs.toArray) (hi : IntsAre vs (shape kind n))
    (h : ∀ h' tk gs mv', Fr h₀ L h' (ldMap (some (.int n t)) mv' Da lw (.int kind tkd)) → h'.IsList Dl (((marksOf kind n).foldl toggle lit).map Value.bool).toArray → News h₀ L h' [(I, oI), (Da, oa), (L + 1, oc)] → AllBare gs →
      Q .next { s with heap := h', toks := tk, gens := gs }) :
    wpAny (model Challenge.rw_oh0129_01.row.prog w) ⟨none, dp, fr, gd, un⟩ (call (.ref 28) [.ref lk]) (fun x s₁ => wpAny (model Challenge.rw_oh0129_01.row.prog w) ⟨none, dp, fr, gd, un⟩ (pyIter x) (fun it s₂ =>
      codeAny (model Challenge.rw_oh0129_01.row.prog w) ⟨none, dp, fr, gd, un⟩ (Code.forLoop (forTarget ldFor2) it (forBody ldFor2) [] (ldEnv L)) (fun r s' => match r with
        | Except.ok f => Q f s'
        | Except.error e => cameBackBy (model Challenge.rw_oh0129_01.row.prog w) ⟨none, dp, fr, gd, un⟩ (ldEnv L) E e s') s₂) E s₁) E s := by
  refine wpAny_call (codeAny_mono (marks_spec (X.keeps F.keep) (T.keeps F.keep) (by omega) hlk hi hn hn2 hbare) ?_)
  rintro r s' ⟨b, h', tk, gs, vs', rfl, rfl, hk, hb0, hpl, hi', hbare'⟩
  dsimp only
  have F1 : Fr h₀ L h' (ldMap (some (.int n t)) mv Da lw (.int kind tkd)) := ⟨F.ns.keeps hk, fun b o e => hk b o (F.keep b o e), F.above⟩
  have N1 : News h₀ L h' [(I, oI), (Da, oa), (L + 1, oc), (Dl, od)] := fun p hp => ⟨hk _ _ (N p hp).1, (N p hp).2⟩
  have hl1 : h'.IsList Dl (lit.map Value.bool).toArray := hl.at fun o e => hk _ o e
  refine wpAny_pyIter_list (s := { s with heap := h', toks := tk, gens := gs }) hpl.isList ?_
  have hszd : h₀.objs.size ≤ h'.objs.size := Nat.le_of_lt (Nat.lt_of_le_of_lt F1.above F1.ns.lt)
  have new : ∀ a o, h'.get? a = some o → a ≠ h'.objs.size := fun a o e => Nat.ne_of_lt (Heap.lt_size e)
  have bne : ∀ a o, s.heap.get? a = some o → b ≠ a := fun a o e q => by rw [← q, hb0] at e; cases e
  obtain ⟨oL, _, _, hoL, _⟩ := F.ns
  have hDl := N (Dl, od) (by simp)
  have hcc := N (L + 1, oc) (by simp)
  obtain ⟨kb, hkb⟩ := hpl
  have h0new : h₀.get? h'.objs.size = none := by
    cases e : h₀.get? h'.objs.size with
    | none => rfl
    | some o => exact absurd (Heap.lt_size e) (Nat.not_lt.mpr hszd)
  refine toggle_loop (s := { s with heap := h'.push _, toks := tk, gens := gs }) (lit := lit) (b := b) rfl hi' (marksOf_bound hn) hlit (Ne.symm (new L oL (hk _ _ hoL))) (Ne.symm (new Dl od (hk _ _ hDl.1))) (bne L oL hoL) (bne Dl od hDl.1)
    (new b _ hkb) hD.2.2 (new _ oc (hk _ _ hcc.1)) hDl.2.1 hDl.2.2 h0new (F1.push _) ⟨oc, Heap.get?_push_of_some _ (hk _ _ hcc.1), hoc⟩ (hl1.push _) (Heap.IsList.push ⟨_, hkb, rfl, kb, rfl⟩ _) ⟨_, Heap.get?_push_size _ rfl, rfl, rfl⟩ ?_
  intro h'' tk'' mv' F2 hl2 hk2
  refine h h'' tk'' gs mv' F2 hl2 (fun p hp => ?_) hbare'
  have hp' : p ∈ [(I, oI), (Da, oa), (L + 1, oc), (Dl, od)] := by
    simp only [List.mem_cons, List.not_mem_nil, or_false] at hp ⊢
    rcases hp with h | h | h <;> simp [h]
  have q := N1 p hp'
  refine ⟨hk2 _ _ q.2.1 ?_ (new _ _ q.1) (Heap.get?_push_of_some _ q.1), q.2⟩
  simp only [List.mem_cons, List.not_mem_nil, or_false] at hp
  rcases hp with rfl | rfl | rfl
  · exact hD.1
  · exact hD.2.1
  · exact hD.2.2
end
end Mine
end PartLd3
section PartLd4
open PySem PySem.W PyProof.Rows PySem.SeqAt
open Sem (wp)
namespace Mine
theorem News.drop4 {h₀ h : Heap} {L : Addr} {a b c d : Addr × Obj} {l : List (Addr × Obj)} (N : News h₀ L h (a :: b :: c :: d :: l)) : News h₀ L h l := fun p hp => N p (.tail _ (.tail _ (.tail _ (.tail _ hp))))
section
variable {w : World} {mean : ExcName → Option Value} {mg mb : Str → Option Value} {dp un : Nat} {fr : Option (List Env)} {gd : Option (List Code)} {h₀ : Heap} {L Da Dl lw I : Addr} {tkd : Tok} {nv mv : Option Value} {lit : List Bool} {s : Shared} {E : Value → Shared → Prop} {vs vl : List Value} {ns laid : List Int} {oI oa oc od : Obj}

theorem rulers {kind : Nat} (hkind : kind < 3) {n : Int} {t : Tok} {Q : Flow → Shared → Prop} (X : (hd.heap_39 w.params).In h₀) (T : Top hd.view_39 (looseW hd.view_39 []) mean mg mb h₀) (hdp : dp + 20 < recursionLimit)
    (F : Fr h₀ L s.heap (ldMap (some (.int n t)) mv Da lw (.int kind tkd))) (N : News h₀ L s.heap [(I, oI), (Da, oa), (L + 1, oc), (Dl, od)]) (hn : 1 ≤ n) (hn2 : n ≤ 16)
    (hoc : oc.data = .cell (some (.ref Dl))) (hod : od.cls = .type "list" ∧ ∃ k, od.data = .seq (lit.map Value.bool).toArray k) (hlit : lit.length = 17) (hbare : AllBare s.gens) (hD : I ≠ Dl ∧ Da ≠ Dl ∧ L + 1 ≠ Dl)
    (h : ∀ h' tk gs mv', Fr h₀ L h' (ldMap (some (.int n t)) mv' Da lw (.int kind tkd)) → h'.IsList Dl (((marksOf kind n).foldl toggle lit).map Value.bool).toArray → News h₀ L h' [(I, oI), (Da, oa), (L + 1, oc)] → AllBare gs →
      Q .next { s with heap := h', toks := tk, gens := gs }) :
    wpAny (model Challenge.rw_oh0129_01.row.prog w) ⟨none, dp, fr, gd, un⟩ (exec ldFor2 (ldEnv L)) Q E s := by
  revert X
  k_fill
  intro X
  show wpAny _ _ (exec (.For (forTarget ldFor2) (.Call (.Name (Str.ofString "_law_marks") _) [.Subscript (.List [.List [_, _, _] _, .List [_, _, _] _, .List [_, _, _, _] _] _) (.Name (Str.ofString "kind") _) _] [] _) (forBody ldFor2) [] _) (ldEnv L)) _ _ _
  refine wpAny_For ?_ (fun _ => rfl)
  have hk3 : kind = 0 ∨ kind = 1 ∨ kind = 2 := by omega
  rcases hk3 with rfl | rfl | rfl
  · replace F : Fr h₀ L s.heap (ldMap (some (.int n t)) mv Da lw (.int 0 tkd)) := F
    k_steps
    rename Fr _ _ _ _ => F'
    rename News _ _ _ _ => N'
    have N4 := News.drop4 N'
    refine rulers_tail (kind := 0) X T hdp F' N4 hn hn2 hoc ⟨od, (N4 (Dl, od) (by simp)).1, hod.1, hod.2⟩ hlit hbare hD ⟨_, (N' _ (.tail _ (.tail _ (.tail _ (.head _))))).1, rfl, _, rfl⟩ (.cons _ _ (.cons _ _ (.cons _ _ .nil))) h
  · replace F : Fr h₀ L s.heap (ldMap (some (.int n t)) mv Da lw (.int 1 tkd)) := F
    k_steps
    rename Fr _ _ _ _ => F'
    rename News _ _ _ _ => N'
    have N4 := News.drop4 N'
    refine rulers_tail (kind := 1) X T hdp F' N4 hn hn2 hoc ⟨od, (N4 (Dl, od) (by simp)).1, hod.1, hod.2⟩ hlit hbare hD ⟨_, (N' _ (.tail _ (.tail _ (.head _)))).1, rfl, _, rfl⟩ (.cons _ _ (.cons _ _ (.cons _ _ .nil))) h
  · replace F : Fr h₀ L s.heap (ldMap (some (.int n t)) mv Da lw (.int 2 tkd)) := F
    k_steps
    rename Fr _ _ _ _ => F'
    rename News _ _ _ _ => N'
    have N4 := News.drop4 N'
    refine rulers_tail (kind := 2) X T hdp F' N4 hn hn2 hoc ⟨od, (N4 (Dl, od) (by simp)).1, hod.1, hod.2⟩ hlit hbare hD ⟨_, (N' _ (.tail _ (.head _))).1, rfl, _, rfl⟩ (.cons _ _ (.cons _ _ (.cons _ _ (.cons _ _ .nil)))) h
end
end Mine
end PartLd4
section PartLd5
open PySem PySem.W PyProof.Rows PySem.SeqAt
open Sem (wp)
namespace Mine

def stepL (kind : Nat) (ns : List Int) (n : Int) (st : List Bool × List Int) : List Bool × List Int :=
  if (st.1.getD n.toNat false != ns.contains n) = true then ((marksOf kind n).foldl toggle st.1, st.2 ++ [n]) else st
def stateL (kind : Nat) (ns : List Int) : Nat → List Bool × List Int
  | 0 => (List.replicate 17 false, [])
  | i + 1 => stepL kind ns (1 + (i : Int)) (stateL kind ns i)

theorem foldl_toggle_length (ms : List Int) : ∀ lit : List Bool, (ms.foldl toggle lit).length = lit.length := by
  induction ms with
  | nil => intro _; rfl
  | cons m r ih => intro lit; rw [List.foldl_cons, ih, toggle_length]
theorem stateL_len (kind : Nat) (ns : List Int) : ∀ i, (stateL kind ns i).1.length = 17 ∧ (stateL kind ns i).2.length ≤ i := by
  intro i
  induction i with
  | zero => exact ⟨by simp [stateL], by simp [stateL]⟩
  | succ i ih =>
    rw [stateL, stepL]
    split
    · exact ⟨by rw [foldl_toggle_length]; exact ih.1, by simp; exact ih.2⟩
    · exact ⟨ih.1, Nat.le_succ_of_le ih.2⟩

section
variable {w : World} {mean : ExcName → Option Value} {mg mb : Str → Option Value} {dp un : Nat} {fr : Option (List Env)} {gd : Option (List Code)} {h₀ : Heap} {L Da Dl lw I : Addr} {tkd : Tok} {nv mv : Option Value} {s : Shared} {E : Value → Shared → Prop} {vs vl : List Value} {ns : List Int} {oI : Obj} {st : List Bool × List Int} {kind : Nat}

/-- what a turn of the outer loop finds and leaves -/
structure LdAt (h₀ : Heap) (L Da Dl lw : Addr) (kv : Value) (nv : Option Value) (st : List Bool × List Int) (h : Heap) : Prop where
  fr : ∃ mv, Fr h₀ L h (ldMap nv mv Da lw kv)
  cell : h.IsCell (L + 1) (some (.ref Dl))
  lit : h.IsList Dl (st.1.map Value.bool).toArray
  laid : ∃ vl, h.PlainList Da vl.toArray ∧ IntsAre vl st.2

structure Apart (h₀ : Heap) (L Da Dl I : Addr) : Prop where
  a : Da ≠ L
  b : Dl ≠ L
  c : I ≠ L
  d : Da ≠ Dl
  e : Da ≠ L + 1
  f : Dl ≠ L + 1
  g : I ≠ Da
  h : I ≠ Dl
  i : I ≠ L + 1
  j : h₀.get? Da = none
  k : h₀.get? Dl = none
  l : h₀.get? I = none
  m : h₀.get? (L + 1) = none

theorem laid_turn (hkind : kind < 3) {n : Int} {t : Tok} {Q : Flow → Shared → Prop} (X : (hd.heap_39 w.params).In h₀) (T : Top hd.view_39 (looseW hd.view_39 []) mean mg mb h₀) (hdp : dp + 20 < recursionLimit)
    (P : Apart h₀ L Da Dl I) (S : LdAt h₀ L Da Dl lw (.int kind tkd) (some (.int n t)) st s.heap) (hI : s.heap.get? I = some oI) (hw : h₀.IsList lw vs.toArray) (hi : IntsAre vs ns) (hn : 1 ≤ n) (hn2 : n ≤ 16) (hlen : st.1.length = 17) (hlen2 : st.2.length ≤ 16) (hbare : AllBare s.gens)
    (h : ∀ h' tk gs, LdAt h₀ L Da Dl lw (.int kind tkd) (some (.int n t)) (stepL kind ns n st) h' → h'.get? I = some oI → AllBare gs → Q .next { s with heap := h', toks := tk, gens := gs }) :
    wpAny (model Challenge.rw_oh0129_01.row.prog w) ⟨none, dp, fr, gd, un⟩ (execs (forBody ldFor) (ldEnv L)) Q E s := by
  obtain ⟨⟨mv, F⟩, hc, hl, vl, ⟨k, hD⟩, hvl⟩ := S
  show wpAny _ _ (execs [.If (ifTest ldIf) (ifBody ldIf) [] _] (ldEnv L)) _ _ _
  refine wpAny_execs_cons (wpAny_If ?_)
  refine laid_test F hc hl hw hi (by omega) (by omega) (by omega) ?_
  by_cases hb : (st.1.getD n.toNat false != ns.contains n) = true
  · have hstep : stepL kind ns n st = ((marksOf kind n).foldl toggle st.1, st.2 ++ [n]) := by unfold stepL; rw [if_pos hb]
    rw [hstep] at h
    rw [if_pos hb]
    show wpAny _ _ (execs [(ifBody ldIf).getD 0 (.Pass default), ldFor2] (ldEnv L)) _ _ _
    refine wpAny_execs_cons ?_
    have hvlen := hvl.length
    refine laid_append F hD P.a P.j (by omega) fun h₁ tk₁ hD₁ F₁ hs₁ => ?_
    dsimp only
    obtain ⟨oc, hoc, hocd⟩ := hc
    obtain ⟨od, hod, hodc, hodd⟩ := hl
    obtain ⟨k₁, hD₁⟩ := hD₁
    refine wpAny_execs_cons ?_
    refine rulers (s := { s with heap := h₁, toks := tk₁ }) (oI := oI) (oa := W.listOf (vl ++ [Value.int n t]).toArray k₁) (oc := oc) (od := od) hkind X T hdp F₁ ?_ hn hn2 hocd ⟨hodc, hodd⟩ hlen hbare ⟨P.h, P.d, Ne.symm P.f⟩ ?_
    · intro p hp
      simp only [List.mem_cons, List.not_mem_nil, or_false] at hp
      rcases hp with rfl | rfl | rfl | rfl
      · exact ⟨hs₁.extBut _ _ P.g hI, P.c, P.l⟩
      · exact ⟨hD₁, P.a, P.j⟩
      · exact ⟨hs₁.extBut _ _ (Ne.symm P.e) hoc, Nat.succ_ne_self L, P.m⟩
      · exact ⟨hs₁.extBut _ _ (Ne.symm P.d) hod, P.b, P.k⟩
    · intro h₂ tk₂ gs mv' F₂ hl₂ N₂ hb₂
      dsimp only
      refine wpAny_execs_nil ?_
      refine wpAny_execs_nil ?_
      exact h h₂ tk₂ gs ⟨⟨mv', F₂⟩, ⟨oc, (N₂ (L + 1, oc) (by simp)).1, hocd⟩, hl₂, vl ++ [Value.int n t], ⟨k₁, (N₂ (Da, W.listOf (vl ++ [Value.int n t]).toArray k₁) (by simp)).1⟩, IntsAre.append hvl (.cons _ _ .nil)⟩ (N₂ (I, oI) (by simp)).1 hb₂
  · have hstep : stepL kind ns n st = st := by unfold stepL; rw [if_neg hb]
    rw [hstep] at h
    rw [if_neg hb]
    refine wpAny_execs_nil ?_
    dsimp only
    refine wpAny_execs_nil ?_
    exact h s.heap s.toks s.gens ⟨⟨mv, F⟩, hc, hl, vl, ⟨k, hD⟩, hvl⟩ hI hbare

theorem laid_loop (hkind : kind < 3) {R : Result → Shared → Prop} (X : (hd.heap_39 w.params).In h₀) (T : Top hd.view_39 (looseW hd.view_39 []) mean mg mb h₀) (hdp : dp + 20 < recursionLimit)
    (P : Apart h₀ L Da Dl I) (S : LdAt h₀ L Da Dl lw (.int kind tkd) nv (stateL kind ns 0) s.heap) (hI : IsRangeIter s.heap I 1 16 1) (hw : h₀.IsList lw vs.toArray) (hi : IntsAre vs ns) (hbare : AllBare s.gens)
    (fin : ∀ h' tk gs nv', LdAt h₀ L Da Dl lw (.int kind tkd) nv' (stateL kind ns 16) h' → AllBare gs → R (.ok .next) { s with heap := h', toks := tk, gens := gs }) :
    codeAny (model Challenge.rw_oh0129_01.row.prog w) ⟨none, dp, fr, gd, un⟩ (.forLoop (forTarget ldFor) (.ref I) (forBody ldFor) [] (ldEnv L)) R s := by
  refine codeAny_forLoop (I := fun k s' => ∃ h tk gs nv i, s' = { s with heap := h, toks := tk, gens := gs } ∧ k = 17 - i ∧ i ≤ 16 ∧ LdAt h₀ L Da Dl lw (.int kind tkd) nv (stateL kind ns i) h ∧ IsRangeIter h I (1 + (i : Nat)) (16 - (i : Nat)) 1 ∧ AllBare gs) ?_ 17
    ⟨s.heap, s.toks, s.gens, nv, 0, rfl, rfl, by omega, S, by simpa using hI, hbare⟩ (fun _ => rfl)
  rintro k s' ⟨h, tk, gs, nv, i, rfl, rfl, hi16, S, hI, hbare⟩
  by_cases hlt : i < 16
  · refine wpAny_pyNext_range_item hI (by omega) fun h₁ hI₁ hs₁ => ?_
    obtain ⟨⟨mv, F⟩, hc, hl, vl, hD, hvl⟩ := S
    have F1 : Fr h₀ L h₁ (ldMap nv mv Da lw (.int kind tkd)) := ⟨F.ns.sameBut hs₁ (Ne.symm P.c), fun b o e => hs₁.extBut b o (fun q => by rw [q, P.l] at e; cases e) (F.keep b o e), F.above⟩
    show wpAny _ _ (assign (.Name (Str.ofString "n") _) (ldEnv L) (.int (1 + (i : Nat)) tk)) _ _ _
    refine wpAny_assign_Name (wpAny_storeName_local rfl F1.ns (fun h₂ hn₂ hs₂ => ?_) rfl)
    have F2 : Fr h₀ L h₂ (ldMap (some (.int (1 + (i : Nat)) tk)) mv Da lw (.int kind tkd)) := Fr.to (F1.set hn₂ hs₂) fun y => by
      by_cases e : y = Str.ofString "n"
      · subst e; rfl
      · simp only [ldMap, if_neg e]
    have hcell : h₂.IsCell (L + 1) (some (.ref Dl)) := let ⟨o, ho, r⟩ := hc; ⟨o, hs₂.extBut _ o (Nat.succ_ne_self L) (hs₁.extBut _ o (Ne.symm P.i) ho), r⟩
    have hl2 := (hl.extBut hs₁.extBut (Ne.symm P.h)).extBut hs₂.extBut P.b
    have hD2 : h₂.PlainList Da vl.toArray := (hD.at fun o e => hs₁.extBut _ o (Ne.symm P.g) e).at fun o e => hs₂.extBut _ o P.a e
    have hI2 : IsRangeIter h₂ I (1 + (i : Nat) + 1) (16 - (i : Nat) - 1) 1 := hs₂.extBut _ _ P.c hI₁
    have hL := stateL_len kind ns i
    refine laid_turn (s := { s with heap := h₂, toks := _, gens := gs }) hkind X T hdp P ⟨⟨mv, F2⟩, hcell, hl2, vl, hD2, hvl⟩ hI2 hw hi (by omega) (by omega) hL.1 (by omega) hbare fun h₃ tk₃ gs₃ S₃ hI₃ hb₃ => ?_
    refine ⟨17 - (i + 1), by omega, h₃, tk₃, gs₃, _, i + 1, rfl, rfl, hlt, S₃, ?_, hb₃⟩
    have e1 : (1 : Int) + ((i + 1 : Nat) : Int) = 1 + (i : Nat) + 1 := by omega
    have e2 : (16 : Int) - ((i + 1 : Nat) : Int) = 16 - (i : Nat) - 1 := by omega
    rw [e1, e2]; exact hI₃
  · have hie : i = 16 := by omega
    refine wpAny_pyNext_range_end rfl hI (by omega) fun h₁ he₁ => ?_
    refine wpAny_execs_nil (fin h₁ tk gs nv ?_ hbare)
    subst hie
    obtain ⟨⟨mv, F⟩, hc, hl, vl, hD, hvl⟩ := S
    refine ⟨⟨mv, F.ns.extBut he₁ (Ne.symm P.c), fun b o e => he₁ b o (fun q => by rw [q, P.l] at e; cases e) (F.keep b o e), F.above⟩, ?_, hl.extBut he₁ (Ne.symm P.h), vl, hD.at fun o e => he₁ _ o (Ne.symm P.g) e, hvl⟩
    exact let ⟨o, ho, r⟩ := hc; ⟨o, he₁ _ o (Ne.symm P.i) ho, r⟩
end
end Mine
end PartLd5
section PartLd6
open PySem PySem.W PyProof.Rows PySem.SeqAt
open Sem (wp)
namespace Mine
section
variable {w : World} {mean : ExcName → Option Value} {mg mb : Str → Option Value} {s : Shared}

theorem range17 {A : Around} {h₀ : Heap} {L f : Addr} {cn : Str} {cs : Scope} {ccd : Value} {cl : List (Str × Addr)} {m : Str → Option Value} {p1 p2 p3 p4 : Pos} {k1 k2 : Nat} {Q : Value → Shared → Prop} {E : Value → Shared → Prop}
    (X : (hd.heap_39 w.params).In h₀) (T : Top hd.view_39 (looseW hd.view_39 []) mean mg mb h₀) (F : Fr h₀ L s.heap m) (hk : cs.kind = .function) (hx : (envX cn cs L f ccd cl).kindOf (Str.ofString "range") = some .globalImplicit)
    (h : ∀ h' I tk, IsRangeIter h' I 1 16 1 → (∀ b o, s.heap.get? b = some o → h'.get? b = some o) → s.heap.get? I = none → I < h'.objs.size → Q (.ref I) { s with heap := h', toks := tk }) :
    wpAny (model Challenge.rw_oh0129_01.row.prog w) A (eval (.Call (.Name (Str.ofString "range") p1) [.Constant (.int 1) k1 p2, .Constant (.int 17) k2 p3] [] p4) (envX cn cs L f ccd cl)) (fun x s₁ => wpAny (model Challenge.rw_oh0129_01.row.prog w) A (pyIter x) Q E s₁) E s := by
  revert X
  k_fill
  intro X
  have N : News h₀ L s.heap [] := .nil
  walk1
  refine nameX_B F X (topRead_of T) (by k_is) (by boot_by_name) (by decide) ?_ hk hx
  walk1
  walk1
  walk1
  walk1
  walk1
  walk1
  walk1
  rename IsRange _ _ _ _ _ _ _ _ => hR
  rename ∀ b o, _ → _ => hkp
  refine wpAny_pyIter_range hR (by decide) ?_
  refine h _ _ _ (Heap.get?_push_size _ rfl) (fun b o e => Heap.get?_push_of_some _ (hkp b o e)) ?_ (by rw [Heap.size_push]; exact Nat.lt_succ_self _)
  have hlt := Heap.lt_size hR
  dsimp only at hlt ⊢
  cases e : s.heap.get? _ with
  | none => rfl
  | some o => exact absurd (Heap.lt_size e) (Nat.not_lt.mpr (Nat.le_of_lt hlt))
end
end Mine
end PartLd6
section PartCmp
open PySem PySem.W PyProof.Rows PySem.SeqAt
open Sem (wp)
namespace Mine

def pv (p : Int → Bool) : Value → Bool
  | .int k _ => p k
  | _ => false

theorem ints_of_at {nums : List Int} : ∀ {vs : List Value}, vs.length = nums.length → (∀ (j : Nat) v, vs[j]? = some v → ∃ k t, nums[j]? = some k ∧ v = .int k t) → IntsAre vs nums := by
  induction nums with
  | nil => intro vs hl _; rw [List.length_eq_zero_iff.mp hl]; exact .nil
  | cons a r ih =>
    intro vs hl h
    cases vs with
    | nil => simp at hl
    | cons v vs =>
      obtain ⟨k, t, hk, rfl⟩ := h 0 v rfl
      have hk' : a = k := by simpa using hk
      subst hk'
      exact .cons _ _ (ih (by simpa using hl) fun j v hv => h (j + 1) v (by simpa using hv))

theorem ints_filter {vs : List Value} {ns : List Int} (h : IntsAre vs ns) (p : Int → Bool) : IntsAre (vs.filter (pv p)) (ns.filter p) := by
  induction h with
  | nil => exact .nil
  | cons a t _ ih =>
    rw [List.filter_cons, List.filter_cons]
    show IntsAre (if p a = true then _ else _) (if p a = true then _ else _)
    split
    · exact .cons _ _ ih
    · exact ih

theorem paired_eq {l₁ l₂ : List Value} (h : Paired (fun v y => y = v) l₁ l₂) : l₂ = l₁ := by
  induction h with
  | nil => rfl
  | cons h _ ih => rw [h, ih]

section
variable {prog : Program} {w : World} {A : Around} {E : Value → Shared → Prop} {env : Env} {s : Shared} {c iter : Expr} {x : Str} {px pe pos : Pos} {scope : Scope} {cl : List (Str × Addr)} (p : Int → Bool)

/-- what a source of ints and a test over them have to show -/
structure Src (prog : Program) (w : World) (A : Around) (env : Env) (scope : Scope) (cl : List (Str × Addr)) (x : Str) (c : Expr) (p : Int → Bool) (I : Addr) (wr : List Addr) (nums : List Int) (s₂ : Shared) : Prop where
  walks : ∃ fp P St, Walks prog w A I fp wr nums.length P St ∧ St 0 s₂.heap ∧ (∀ b ∈ fp, b < s₂.heap.objs.size) ∧ ∀ i v, P i v → ∃ k t, nums[i]? = some k ∧ v = .int k t
  small : nums.length ≤ sizeLine
  test : ∀ C k t s₃ m₃ E', s₂.heap.objs.size ≤ C → k ∈ nums → s₃.heap.Ns C m₃ → m₃ x = some (.int k t) → (∀ b o, b ∉ wr → s₂.heap.get? b = some o → s₃.heap.get? b = some o) →
    wpAny (model prog w) A (isTrue c (compEnvC scope cl C env) (eval c (compEnvC scope cl C env))) (fun ok s₄ => ok = p k ∧ Keeps s₃ s₄) E' s₃

theorem src_quiet {I : Addr} {wr : List Addr} {nums : List Int} {s₂ : Shared} {P : Nat → Value → Prop} (hx : scope.names.lookup x = some .local) (hkind : scope.kind = .function) (hxd : (x == ("__debug__" : Str)) = false)
    (S : Src prog w A env scope cl x c p I wr nums s₂) (hP : ∀ i v, P i v → ∃ k t, nums[i]? = some k ∧ v = .int k t) :
    QuietOnC prog w A env scope cl x [c] (.Name x pe) wr P (pv p) (fun v y => y = v) s₂ where
  tests := fun C i v s₃ m₃ E' hC hv hn hm hk _ => by
    obtain ⟨k, t, hk', rfl⟩ := hP i v hv
    exact wpAny_tests_one (S.test C k t s₃ m₃ E' hC (List.mem_of_getElem? hk') hn hm hk)
  elt := fun C i v s₃ m₃ E' _ _ _ hn hm _ _ => by
    refine wpAny_Name (wpAny_loadName_local (env := compEnvC scope cl C env) ?_ (lookup_relabel_local hx) hn hm ?_) hxd
    · simp [compEnvC, relabel, hkind]
    · exact ⟨rfl, s₃.heap, s₃.toks, rfl, fun _ _ e => e⟩

theorem comp_eval {Q : Value → Shared → Prop} (hclos : closureFor scope env = pure cl) (hcell : ∀ y ∈ scope.names, y.2 ≠ .cell) (hkind : scope.kind = .function)
    (hnames : ∀ y ∈ scope.names, y.2 = .local → scope.names.lookup y.1 = some .local) (hx : scope.names.lookup x = some .local) (hxd : (x == ("__debug__" : Str)) = false)
    (h : wpAny (model prog w) A (eval iter env) (fun xv s₁ => wpAny (model prog w) A (pyIter xv) (fun it s₂ => ∃ I wr nums, it = .ref I ∧ Src prog w A env scope cl x c p I wr nums s₂ ∧
      (∀ D h' tk ys, s₂.heap.get? D = none → h'.PlainList D ys.toArray → IntsAre ys (nums.filter p) → (∀ b o, b ∉ wr → s₂.heap.get? b = some o → h'.get? b = some o) → Q (.ref D) { s₂ with heap := h', toks := tk })) E s₁) E s)
    (hs : ∀ x, foldedSetIterable iter env x = pure x) :
    wpAny (model prog w) A (eval (.ListComp (.Name x pe) [⟨.Name x px, iter, [c], 0⟩] scope pos) env) Q E s := by
  refine wpAny_ListComp_free (pv p) (fun v y => y = v) hclos hcell hkind hnames hx (wpAny_mono h (fun xv s₁ h₁ => wpAny_mono h₁ (fun it s₂ h₂ => ?_) fun _ _ e => e) fun _ _ e => e) hs
  obtain ⟨I, wr, nums, rfl, S, hQ⟩ := h₂
  obtain ⟨fp, P, St, W, hst, hfp, hP⟩ := S.walks
  refine ⟨I, fp, wr, nums.length, P, St, rfl, W, S.small, hst, hfp, src_quiet p hx hkind hxd S hP, fun D h' tk ys vs hD hl hpl hlen hPv hpair hk => ?_⟩
  have e := paired_eq hpair
  refine hQ D h' tk ys.toList hD (by simpa using hpl) ?_ hk
  rw [e]
  exact ints_filter (ints_of_at hlen fun j v hv => hP j v (hPv j v hv)) p

theorem comp_assign {y : Str} {py spos : Pos} {Q : Flow → Shared → Prop}
    (hsw : swapsWith (.ListComp (.Name x pe) [⟨.Name x px, iter, [c], 0⟩] scope pos) (some (.Name y py)) spos.line env = pure true)
    (hclos : closureFor scope env = pure cl) (hcell : ∀ z ∈ scope.names, z.2 ≠ .cell) (hkind : scope.kind = .function)
    (hnames : ∀ z ∈ scope.names, z.2 = .local → scope.names.lookup z.1 = some .local) (hx : scope.names.lookup x = some .local) (hxd : (x == ("__debug__" : Str)) = false)
    (hy : env.kindOf y = some .local) (hp : (env.scope.kind == .class || (env.scope.kind == .module && env.locals != env.globals)) = false)
    (h : wpAny (model prog w) A (eval iter env) (fun xv s₁ => wpAny (model prog w) A (pyIter xv) (fun it s₂ => ∃ I wr nums m, it = .ref I ∧ Src prog w A env scope cl x c p I wr nums s₂ ∧ env.locals ∉ wr ∧ s₂.heap.Ns env.locals m ∧
      (∀ D h' tk ys, s₂.heap.get? D = none → h'.PlainList D ys.toArray → IntsAre ys (nums.filter p) → h'.Ns env.locals (fun z => if z = y then some (.ref D) else m z) → (∀ b o, b ≠ env.locals → b ∉ wr → s₂.heap.get? b = some o → h'.get? b = some o) → Q .next { s₂ with heap := h', toks := tk })) E s₁) E s)
    (hs : ∀ x, foldedSetIterable iter env x = pure x) :
    wpAny (model prog w) A (exec (.Assign [.Name y py] (.ListComp (.Name x pe) [⟨.Name x px, iter, [c], 0⟩] scope pos) spos) env) Q E s := by
  refine wpAny_Assign_ListComp_free (pv p) (fun v y => y = v) hsw hclos hcell hkind hnames hx hy hp (wpAny_mono h (fun xv s₁ h₁ => wpAny_mono h₁ (fun it s₂ h₂ => ?_) fun _ _ e => e) fun _ _ e => e) hs
  obtain ⟨I, wr, nums, m, rfl, S, hLw, hn, hQ⟩ := h₂
  obtain ⟨fp, P, St, W, hst, hfp, hP⟩ := S.walks
  refine ⟨I, fp, wr, nums.length, P, St, m, rfl, W, S.small, hst, hfp, hLw, hn, src_quiet p hx hkind hxd S hP, fun D h' tk ys vs hD hl hpl hlen hPv hpair hns hk => ?_⟩
  have e := paired_eq hpair
  refine hQ D h' tk ys.toList hD (by simpa using hpl) ?_ hns hk
  rw [e]
  exact ints_filter (ints_of_at hlen fun j v hv => hP j v (hPv j v hv)) p

def nums17 : List Int := [1, 2, 3, 4, 5, 6, 7, 8, 9, 10, 11, 12, 13, 14, 15, 16]

theorem walks17 (hh : A.handled = none) (I : Addr) : ∃ fp P St, Walks prog w A I fp [I] nums17.length P St ∧ (∀ h : Heap, IsRangeIter h I 1 16 1 → St 0 h) ∧ (∀ b ∈ fp, b = I) ∧ ∀ i v, P i v → ∃ k t, nums17[i]? = some k ∧ v = .int k t := by
  have W := Walks.range (prog := prog) (w := w) hh I 1 1 16
  refine ⟨[I], fun i v => (∃ t, v = .int (1 + (i : Int) * 1) t) ∧ i < 16, _, ⟨W.sub, W.frame, fun i s Q E hi st hQ => W.item i s Q E hi st fun v h' tk hP hst hk => hQ v h' tk ⟨hP, hi⟩ hst hk, W.done, W.self⟩, fun h hI => by simpa using hI, fun b hb => List.mem_singleton.mp hb, ?_⟩
  rintro i v ⟨⟨t, rfl⟩, hi⟩
  refine ⟨1 + (i : Int) * 1, t, ?_, rfl⟩
  have : i = 0 ∨ i = 1 ∨ i = 2 ∨ i = 3 ∨ i = 4 ∨ i = 5 ∨ i = 6 ∨ i = 7 ∨ i = 8 ∨ i = 9 ∨ i = 10 ∨ i = 11 ∨ i = 12 ∨ i = 13 ∨ i = 14 ∨ i = 15 := by omega
  rcases this with rfl | rfl | rfl | rfl | rfl | rfl | rfl | rfl | rfl | rfl | rfl | rfl | rfl | rfl | rfl | rfl <;> rfl

theorem walksL (hh : A.handled = none) {I l : Addr} (hne : l ≠ I) {vs : List Value} {ns : List Int} (hi : IntsAre vs ns) :
    ∃ fp P St, Walks prog w A I fp [I] ns.length P St ∧ (∀ h : Heap, h.IsListIter I l 0 → h.IsList l vs.toArray → St 0 h) ∧ (∀ b ∈ fp, b = I ∨ b = l) ∧ ∀ i v, P i v → ∃ k t, ns[i]? = some k ∧ v = .int k t := by
  have W := Walks.list (prog := prog) (w := w) hh I l hne vs.toArray
  have hlen : vs.toArray.size = ns.length := by simp [hi.length]
  rw [hlen] at W
  refine ⟨_, _, _, W, fun h a b => ⟨a, b⟩, fun b hb => by simpa using hb, fun i v hv => ?_⟩
  have hv' : vs[i]? = some v := by simpa using hv
  have hlt : i < ns.length := by
    have := (List.getElem?_eq_some_iff.mp hv').1
    have := hi.length
    omega
  obtain ⟨t, ht⟩ := hi.get i ns[i] (by simp [hlt])
  rw [ht] at hv'
  cases hv'
  exact ⟨_, t, by simp [hlt], rfl⟩
end
end Mine
end PartCmp
section PartLd7
open PySem PySem.W PyProof.Rows PySem.SeqAt
open Sem (wp)
namespace Mine
section
variable {w : World} {mean : ExcName → Option Value} {mg mb : Str → Option Value} {dp un : Nat} {fr : Option (List Env)} {gd : Option (List Code)} {kind : Nat} {lw : Addr} {vs : List Value} {ns : List Int} {s : Shared} {tkd : Tok}

abbrev tupOf (a b : Value) : Obj := { cls := .type "tuple", data := .seq #[a, b] }

theorem laid_end {A : Around} {h₀ : Heap} {L Da Dl : Addr} {kv : Value} {nv : Option Value} {st : List Bool × List Int} {Q : Flow → Shared → Prop} {E : Value → Shared → Prop} (hh : A.handled = none)
    (X : (hd.heap_39 w.params).In h₀) (T : Top hd.view_39 (looseW hd.view_39 []) mean mg mb h₀) (hlen : st.1.length = 17)
    (S : LdAt h₀ L Da Dl lw kv nv st s.heap)
    (h : ∀ h' tk bt b1 b2 vs1 vs2, (∀ b o, h₀.get? b = some o → h'.get? b = some o) → h'.get? bt = some (tupOf (.ref b1) (.ref b2)) → h'.PlainList b1 vs1.toArray → IntsAre vs1 (nums17.filter fun k => st.1.getD k.toNat false) → h'.PlainList b2 vs2.toArray → IntsAre vs2 st.2 →
      Q (.ret (.ref bt)) { s with heap := h', toks := tk }) :
    wpAny (model Challenge.rw_oh0129_01.row.prog w) A (execs ((bodyOfDef stLd).drop 2) (ldEnv L)) Q E s := by
  obtain ⟨⟨mv, F⟩, hc, hl, vl, hD, hvl⟩ := S
  show wpAny _ _ (execs [.Return (some (.Tuple [.ListComp (.Name (Str.ofString "n") _) [⟨.Name (Str.ofString "n") _, .Call (.Name (Str.ofString "range") _) [.Constant (.int 1) _ _, .Constant (.int 17) _ _] [] _, [.Subscript (.Name (Str.ofString "lit") _) (.Name (Str.ofString "n") _) _], 0⟩] _ _, .Name (Str.ofString "laid") _] _ _)) _] (ldEnv L)) _ _ _
  refine wpAny_execs_cons (wpAny_Return_some (Tuple_ ?_))
  walk1
  refine comp_eval (cl := ldCells L) (fun k => st.1.getD k.toNat false) rfl (by decide) rfl (by decide) rfl rfl ?_ (fun _ => rfl)
  refine range17 X T F rfl rfl ?_
  intro h₁ I tk₁ hI hk₁ hI0 hIlt
  have hb : ∀ b o, s.heap.get? b = some o → b ∉ [I] := fun b o e q => by rw [List.mem_singleton.mp q, hI0] at e; cases e
  refine ⟨I, [I], nums17, rfl, ⟨?_, by decide, ?_⟩, ?_⟩
  · obtain ⟨fp, P, St, W, hst, hfp, hP⟩ := walks17 (prog := Challenge.rw_oh0129_01.row.prog) (w := w) hh I
    exact ⟨fp, P, St, W, hst _ hI, fun b hb => by rw [hfp b hb]; exact hIlt, hP⟩
  · intro C k t s₃ m₃ E' hC hk hn hm hk₃
    have hkk : 1 ≤ k ∧ k ≤ 16 := by
      simp only [nums17, List.mem_cons, List.not_mem_nil, or_false] at hk
      omega
    have up : ∀ b o, s.heap.get? b = some o → s₃.heap.get? b = some o := fun b o e => hk₃ b o (hb b o e) (hk₁ b o e)
    have hl₃ : s₃.heap.IsList Dl (st.1.map Value.bool).toArray := hl.at fun o e => up _ o e
    refine isTrue_plain ?_
    refine Subscript_ ?_
    refine wpAny_Name (wpAny_loadName_cell rfl rfl rfl (let ⟨o, ho, r⟩ := hc; ⟨o, up _ o ho, r⟩) ?_)
    refine wpAny_Name (wpAny_loadName_local rfl rfl hn hm ?_)
    refine tail_any hl₃.typeIs slot_list_getitem.lookup (wpAny_getItem_list hl₃ (by omega) (by omega) (x := .bool (st.1.getD k.toNat false)) ?_ ?_) (by with_unfolding_all rfl)
    · have : k.toNat < st.1.length := by omega
      simp [this]
    · refine wpAny_truthy_bool ?_
      exact ⟨rfl, s₃.heap, s₃.toks, rfl, fun _ _ e => e⟩
  · intro D h₂ tk₂ ys hD0 hDp hys hk₂
    have up : ∀ b o, s.heap.get? b = some o → h₂.get? b = some o := fun b o e => hk₂ b o (hb b o e) (hk₁ b o e)
    have F₂ : Fr h₀ L h₂ (ldMap nv mv Da lw kv) := ⟨F.ns.keeps up, fun b o e => up b o (F.keep b o e), F.above⟩
    walk1
    refine nameX_L (s := { s with heap := h₂, toks := tk₂ }) F₂ (x := Str.ofString "laid") (v := .ref Da) rfl ?_ rfl rfl rfl
    walk1
    refine wpAny_newObj_type ?_ (by size_fits)
    refine h _ _ _ D Da ys vl (fun b o e => Heap.get?_push_of_some _ (F₂.keep b o e)) (Heap.get?_push_size _ rfl) (hDp.at fun o e => Heap.get?_push_of_some _ e) hys ((hD.at fun o e => up _ o e).at fun o e => Heap.get?_push_of_some _ e) hvl
end
end Mine
end PartLd7
section PartLd8
open PySem PySem.W PyProof.Rows PySem.SeqAt
open Sem (wp)
namespace Mine
section
variable {w : World} {mean : ExcName → Option Value} {mg mb : Str → Option Value} {dp un : Nat} {fr : Option (List Env)} {gd : Option (List Code)} {kind : Nat} {lw : Addr} {vs : List Value} {ns : List Int} {s : Shared} {tkd : Tok}

theorem laid_spec (hkind : kind < 3) (X : (hd.heap_39 w.params).In s.heap) (T : Top hd.view_39 (looseW hd.view_39 []) mean mg mb s.heap) (hdp : dp + 30 < recursionLimit) (hl : s.heap.IsList lw vs.toArray) (hi : IntsAre vs ns) (hb : AllBare s.gens) :
    codeAny (model Challenge.rw_oh0129_01.row.prog w) ⟨none, dp, fr, gd, un⟩ (.call (.ref 33) ⟨[.ref lw, .int kind tkd], []⟩) (fun r s' => ∃ bt b1 b2 h' tk gs vs1 vs2, r = .ok (.ret (.ref bt)) ∧ s' = { s with heap := h', toks := tk, gens := gs } ∧
      (∀ b o, s.heap.get? b = some o → h'.get? b = some o) ∧ h'.get? bt = some (tupOf (.ref b1) (.ref b2)) ∧ h'.PlainList b1 vs1.toArray ∧ IntsAre vs1 (nums17.filter fun k => (stateL kind ns 16).1.getD k.toNat false) ∧
      h'.PlainList b2 vs2.toArray ∧ IntsAre vs2 (stateL kind ns 16).2 ∧ AllBare gs) s := by
  revert X
  k_fill
  intro X
  refine enter_defC X T.nolimit (by show dp < _; omega) (by k_is) (by k_is) (binds := [(Str.ofString "wished", .ref lw), (Str.ofString "kind", .int kind tkd)]) (BindsTo.of_eq rfl) rfl ?_ rfl rfl rfl
  intro L h₁ tk hL F hC hPw hab
  have hc0 : h₁.IsCell (L + 1) none := hC (Str.ofString "lit") (L + 1) rfl
  obtain ⟨oc, hoc, hdc⟩ := hc0
  have N : News s.heap L h₁ [(L + 1, oc)] := fun p hp => by
    rw [List.mem_singleton.mp hp]
    refine ⟨hoc, Nat.succ_ne_self L, ?_⟩
    cases e : s.heap.get? (L + 1) with
    | none => rfl
    | some o => exact absurd (Heap.lt_size e) (by rw [← hL]; exact Nat.not_lt.mpr (Nat.le_succ L))
  clear hC hPw hab
  show wpAny _ _ (execs [_, _, _] (ldEnv L)) _ _ _
  repeat' ((fail_if_success (with_reducible show wpAny _ _ (exec (Stmt.For _ _ _ _ _) _) _ _ _)); (first | (k_unfold; (try dsimp only)) | walk1 | (dsimp only; walk1)))
  rename Fr _ _ _ _ => F'
  rename News _ _ _ _ => N'
  rename_i l0 _ _ Dl _ l1b Da _ l1c Dt _ l1d _ _ oc' hoc' hc
  have F1 : Fr s.heap L hc (ldMap none none Da lw (.int kind tkd)) := Fr.to F' fun y => by
    by_cases e1 : y = Str.ofString "laid"
    · subst e1; rfl
    · rw [if_neg e1]
      have e0 : ∀ y, bindL (ldEnv L).kindOf [(Str.ofString "wished", .ref lw), (Str.ofString "kind", .int kind tkd)] (fun _ => none) y = if y = Str.ofString "kind" then some (.int kind tkd) else if y = Str.ofString "wished" then some (.ref lw) else none := fun _ => rfl
      refine (e0 y).trans ?_
      by_cases e2 : y = Str.ofString "kind"
      · subst e2; rfl
      · by_cases e3 : y = Str.ofString "wished"
        · subst e3; rfl
        · simp only [ldMap, if_neg e1, if_neg e2, if_neg e3, ite_self]
  have hDa := N' (Da, W.listOf #[] 0) (.tail _ (.head _))
  have hDl := N' (Dl, _) (.tail _ (.tail _ (.head _)))
  have hcc := N' (L + 1, oc') (.tail _ (.tail _ (.tail _ (.tail _ (.head _)))))
  dsimp only at hDa hDl hcc
  refine wpAny_For ?_ (fun _ => rfl)
  refine range17 X T F1 rfl rfl ?_
  intro h₂ I tk₂ hI hk₂ hI0 hIlt
  have Ine : ∀ a o, hc.get? a = some o → I ≠ a := fun a o e q => by
    have hI0' : hc.get? I = none := hI0
    rw [q, e] at hI0'; cases hI0'
  obtain ⟨oL, _, _, hoL, _⟩ := id F1.ns
  have P : Apart s.heap L Da Dl I := ⟨hDa.2.1, hDl.2.1, Ine _ _ hoL, Nat.ne_of_gt l1c.1, Nat.ne_of_gt l1c.2.2, Nat.ne_of_gt l1b.2, Ine _ _ hDa.1, Ine _ _ hDl.1, Ine _ _ hcc.1, hDa.2.2, hDl.2.2, by
    cases e : s.heap.get? I with
    | none => rfl
    | some o => exact absurd rfl (Ine I o (F1.keep _ _ e)), hcc.2.2⟩
  refine laid_loop (s := { s with heap := h₂, toks := tk₂ }) (kind := kind) (ns := ns) (nv := none) hkind X T (by show dp + 1 + 20 < _; omega) P ⟨⟨none, F1.ns.keeps hk₂, fun b o e => hk₂ b o (F1.keep b o e), F1.above⟩, ⟨oc', hk₂ _ _ hcc.1, hoc'⟩, ⟨_, hk₂ _ _ hDl.1, rfl, _, rfl⟩, [], ⟨0, hk₂ _ _ hDa.1⟩, .nil⟩ hI hl hi hb ?_
  intro h₃ tk₃ gs nv' S₃ hb₃
  show wpAny _ _ (execs ((bodyOfDef stLd).drop 2) (ldEnv L)) _ _ _
  refine laid_end (s := { s with heap := h₃, toks := tk₃, gens := gs }) rfl X T (stateL_len kind ns 16).1 S₃ ?_
  intro h₄ tk₄ bt b1 b2 vs1 vs2 hk₄ ht h1 hi1 h2 hi2
  exact ⟨bt, b1, b2, h₄, tk₄, gs, vs1, vs2, rfl, rfl, hk₄, ht, h1, hi1, h2, hi2, hb₃⟩
end
end Mine
end PartLd8
section PartCt1
open PySem PySem.W PyProof.Rows PySem.SeqAt
open Sem (wp)
namespace Mine
def stCt : Stmt := Challenge.rw_oh0129_01.row.prog.main.body.getD 6 (.Pass default)
abbrev ctCells (L : Addr) : List (Str × Addr) := [(Str.ofString "times", L + 1)]
abbrev ctEnv (L : Addr) : Env := envX (Str.ofString "_law_counts") (scopeOfDef stCt) L 38 (.ref 37) (ctCells L)
def sqB (times d : Int) : Bool := Int.fmod times (d * d) == 0
def countsB (kind : Nat) (times : Int) : Bool :=
  if kind = 2 then [1, 2, 4, 8, 16].contains times else ([2, 3, 4].filter (sqB times) == []) && (kind == 0 || Int.fmod times 2 == 1)
theorem walksT {prog : Program} {w : World} {A : Around} (hh : A.handled = none) {I l : Addr} (hne : l ≠ I) {vs : List Value} {ns : List Int} (hi : IntsAre vs ns) :
    ∃ fp P St, Walks prog w A I fp [I] ns.length P St ∧ (∀ h : Heap, h.IsTupleIter I l 0 → h.IsTuple l vs.toArray → St 0 h) ∧ (∀ b ∈ fp, b = I ∨ b = l) ∧ ∀ i v, P i v → ∃ k t, ns[i]? = some k ∧ v = .int k t := by
  have W := Walks.tuple (prog := prog) (w := w) hh I l hne vs.toArray
  have hlen : vs.toArray.size = ns.length := by simp [hi.length]
  rw [hlen] at W
  refine ⟨_, _, _, W, fun h a b => ⟨a, b⟩, fun b hb => by simpa using hb, fun i v hv => ?_⟩
  have hv' : vs[i]? = some v := by simpa using hv
  have hlt : i < ns.length := by
    have := (List.getElem?_eq_some_iff.mp hv').1
    have := hi.length
    omega
  obtain ⟨t, ht⟩ := hi.get i ns[i] (by simp [hlt])
  rw [ht] at hv'
  cases hv'
  exact ⟨_, t, by simp [hlt], rfl⟩
theorem eq_empty {prog : Program} {w : World} {A : Around} {s : Shared} {E : Value → Shared → Prop} {Q : Value → Shared → Prop} {a b : Addr} {ys : List Value} {ns : List Int} (hu : A.units < cLine) (ha : s.heap.IsList a ys.toArray) (hb : s.heap.IsList b #[]) (hi : IntsAre ys ns)
    (h : Q (.bool (ns == [])) s) : wpAny (model prog w) A (compareOp .Eq (.ref a) (.ref b)) Q E s := by
  cases hi with
  | nil => exact eq_listAt (e := fun _ => true) ha hb rfl hu (fun j h1 _ => absurd h1 (Nat.not_lt_zero j)) h
  | cons x t hr => exact eq_list_lengthsAt ha hb (by simp) hu h
section
variable {w : World} {mean : ExcName → Option Value} {mg mb : Str → Option Value} {dp un : Nat} {fr : Option (List Env)} {gd : Option (List Code)} {kind : Nat} {s : Shared} {t1 t2 : Tok} {times : Int}

theorem counts_spec (X : (hd.heap_39 w.params).In s.heap) (T : Top hd.view_39 (looseW hd.view_39 []) mean mg mb s.heap) (hdp : dp + 30 < recursionLimit) (hu : un + 100 < cLine) :
    codeAny (model Challenge.rw_oh0129_01.row.prog w) ⟨none, dp, fr, gd, un⟩ (.call (.ref 38) ⟨[.int times t1, .int kind t2], []⟩) (fun r s' => r = .ok (.ret (.bool (countsB kind times))) ∧ Keeps s s') s := by
  revert X
  k_fill
  intro X
  refine enter_defC X T.nolimit (by show dp < _; omega) (by k_is) (by k_is) (binds := [(Str.ofString "times", .int times t1), (Str.ofString "kind", .int kind t2)]) (BindsTo.of_eq rfl) rfl ?_ rfl rfl rfl
  intro L h₁ tk hL F hC hPw hab
  have hc0 : h₁.IsCell (L + 1) (some (.int times t1)) := hC (Str.ofString "times") (L + 1) rfl
  obtain ⟨oc, hoc, hdc⟩ := id hc0
  have N : News s.heap L h₁ [(L + 1, oc)] := fun p hp => by
    rw [List.mem_singleton.mp hp]
    refine ⟨hoc, Nat.succ_ne_self L, ?_⟩
    cases e : s.heap.get? (L + 1) with
    | none => rfl
    | some o => exact absurd (Heap.lt_size e) (by rw [← hL]; exact Nat.not_lt.mpr (Nat.le_succ L))
  clear hC hPw hab
  show wpAny _ _ (execs [.If _ _ _ _, .Return _ _] (ctEnv L)) _ _ _
  refine wpAny_execs_cons (wpAny_If ?_)
  walk1
  walk1
  walk1
  walk1
  walk1
  by_cases hk : kind = 2
  · rw [if_pos (by subst hk; rfl)]
    walk1
    walk1
    walk1
    walk1
    walk1
    repeat' ((fail_if_success (with_reducible show wpAny _ _ (compareOp _ _ _) _ _ _)); walk1)
    rename News _ _ _ _ => N'
    rename Fr _ _ _ _ => F'
    refine in_tupleAt (hitsInt times) ⟨_, (N' _ (.head _)).1, rfl, _, rfl⟩ (fun y hy => ?_) ?_
    · simp only [List.mem_toArray, List.mem_cons, List.not_mem_nil, or_false] at hy
      rcases hy with rfl | rfl | rfl | rfl | rfl <;> exact EqAt.int_int _ _ _ _
    · refine ⟨?_, _, _, rfl, F'.keep⟩
      rw [any_hits (.cons _ _ (.cons _ _ (.cons _ _ (.cons _ _ (.cons _ _ .nil)))))]
      unfold countsB
      rw [if_pos hk]
  · rw [if_neg (by simp; omega)]
    refine wpAny_execs_nil ?_
    dsimp only
    walk1
    walk1
    walk1
    walk1
    walk1
    refine comp_eval (cl := ctCells L) (sqB times) rfl (by decide) rfl (by decide) rfl rfl ?_ (fun _ => rfl)
    repeat' ((fail_if_success (with_reducible show wpAny _ _ (pyIter _) _ _ _)); walk1)
    rename News _ _ _ _ => N'
    rename Fr _ _ _ _ => F'
    rename_i Dt ht _
    have hT := (N' (Dt, _) (.head _)).1
    have hcc := N' (L + 1, oc) (.tail _ (.head _))
    dsimp only at hT hcc
    have hlt := Heap.lt_size hT
    have hnew : ∀ b o, ht.get? b = some o → b ∉ [ht.objs.size] := fun b o e q => Nat.lt_irrefl _ (List.mem_singleton.mp q ▸ Heap.lt_size e)
    refine wpAny_pyIter_tuple ⟨_, hT, rfl, _, rfl⟩ ?_
    refine ⟨ht.objs.size, [ht.objs.size], [2, 3, 4], rfl, ⟨?_, by decide, ?_⟩, ?_⟩
    · obtain ⟨fp, P, St, W, hst, hfp, hP⟩ := walksT (prog := Challenge.rw_oh0129_01.row.prog) (w := w) (A := { depth := dp, frames := fr, guards := gd, units := un : Around }.deeper (ctEnv L)) (I := ht.objs.size) (l := Dt) rfl (Nat.ne_of_lt hlt) (.cons 2 _ (.cons 3 _ (.cons 4 _ .nil)))
      refine ⟨fp, P, St, W, hst _ ⟨_, Heap.get?_push_size _ rfl, rfl, rfl⟩ ⟨_, Heap.get?_push_of_some _ hT, rfl, _, rfl⟩, fun b hb => ?_, hP⟩
      show b < (ht.push _).objs.size
      rw [Heap.size_push]
      rcases hfp b hb with rfl | rfl
      · exact Nat.lt_succ_self _
      · exact Nat.lt_succ_of_lt hlt
    · intro C k t s₃ m₃ E' hC hk' hn hm hk₃
      have hcell : s₃.heap.IsCell (L + 1) (some (.int times t1)) := ⟨oc, hk₃ _ _ (hnew _ _ hcc.1) (Heap.get?_push_of_some _ hcc.1), hdc⟩
      simp only [List.mem_cons, List.not_mem_nil, or_false] at hk'
      refine wpAny_isTrue_Compare1 ?_
      refine wpAny_BinOp ?_
      refine wpAny_Name (wpAny_loadName_cell rfl rfl rfl hcell ?_)
      refine wpAny_BinOp ?_
      refine wpAny_Name (wpAny_loadName_local rfl rfl hn hm ?_)
      refine wpAny_Name (wpAny_loadName_local rfl rfl hn hm ?_)
      rcases hk' with rfl | rfl | rfl
      · walk1
        walk1
        walk1
        walk1
        walk1
        exact ⟨rfl, s₃.heap, _, rfl, fun _ _ e => e⟩
      · walk1
        walk1
        walk1
        walk1
        walk1
        exact ⟨rfl, s₃.heap, _, rfl, fun _ _ e => e⟩
      · walk1
        walk1
        walk1
        walk1
        walk1
        exact ⟨rfl, s₃.heap, _, rfl, fun _ _ e => e⟩
    · intro D h₂ tk₂ ys hD0 hDp hys hk₂
      have up : ∀ b o, ht.get? b = some o → h₂.get? b = some o := fun b o e => hk₂ b o (hnew b o e) (Heap.get?_push_of_some _ e)
      have F₂ := Fr.mk (F'.ns.keeps up) (fun b o e => up b o (F'.keep b o e)) F'.above
      obtain ⟨kD, hDk⟩ := hDp
      have hDt : ht.get? D = none := by
        cases e : ht.get? D with
        | none => rfl
        | some o => have q : (ht.push _).get? D = none := hD0; rw [Heap.get?_push_of_some _ e] at q; cases q
      obtain ⟨oL, _, _, hoL, _⟩ := id F'.ns
      have N₂ : News s.heap L h₂ [(D, W.listOf ys.toArray kD), (L + 1, oc)] := fun p hp => by
        simp only [List.mem_cons, List.not_mem_nil, or_false] at hp
        rcases hp with rfl | rfl
        · refine ⟨hDk, fun q => ?_, ?_⟩
          · have q : D = L := q
            rw [q, hoL] at hDt; cases hDt
          · cases e : s.heap.get? D with
            | none => rfl
            | some o => rw [F'.keep _ _ e] at hDt; cases hDt
        · exact ⟨up _ _ hcc.1, hcc.2⟩
      clear F' N'
      walk1
      walk1
      walk1
      rename News _ _ _ _ => N₃
      refine eq_empty (by show un + 3 < cLine; omega) ⟨_, (N₃ _ (.tail _ (.head _))).1, rfl, _, rfl⟩ ⟨_, (N₃ _ (.head _)).1, rfl, _, rfl⟩ hys ?_
      walk1
      by_cases hf : ([2, 3, 4].filter (sqB times) == []) = true
      · rw [if_pos hf]
        walk1
        walk1
        walk1
        walk1
        walk1
        walk1
        walk1
        have hz : (((kind : Nat) : Int) == 0) = (kind == 0) := by
          cases kind with
          | zero => rfl
          | succ n => exact (beq_eq_false_iff_ne.mpr (by omega)).trans (beq_eq_false_iff_ne.mpr (by omega)).symm
        by_cases h0 : (((kind : Nat) : Int) == 0) = true
        · rw [if_pos h0]
          rename Fr _ _ _ _ => F₃
          refine ⟨?_, _, _, rfl, F₃.keep⟩
          unfold countsB
          rw [if_neg hk, hf, ← hz, h0]
          rfl
        · rw [if_neg h0]
          walk1
          walk1
          walk1
          walk1
          walk1
          walk1
          walk1
          walk1
          rename Fr _ _ _ _ => F₃
          refine ⟨?_, _, _, rfl, F₃.keep⟩
          unfold countsB
          rw [if_neg hk, hf, ← hz, Bool.eq_false_iff.mpr h0]
          rfl
      · rw [if_neg hf]
        rename Fr _ _ _ _ => F₃
        refine ⟨?_, _, _, rfl, F₃.keep⟩
        unfold countsB
        rw [if_neg hk, Bool.eq_false_iff.mpr hf]
        rfl
end
end Mine
end PartCt1
section PartDu1
open PySem PySem.W PyProof.Rows PySem.SeqAt PySem.Calls
open Sem (wp)
namespace Mine
def stDu : Stmt := Challenge.rw_oh0129_01.row.prog.main.body.getD 7 (.Pass default)
abbrev duCells (L : Addr) : List (Str × Addr) := [(Str.ofString "n", L + 1 + 1), (Str.ofString "kind", L + 1)]
abbrev duEnv (L : Addr) : Env := envX (Str.ofString "_law_due") (scopeOfDef stDu) L 43 (.ref 42) (duCells L)
def duFor : Stmt := (bodyOfDef stDu).getD 1 (.Pass default)
def duAsg : Stmt := (forBody duFor).getD 0 (.Pass default)
def duIf : Stmt := (forBody duFor).getD 1 (.Pass default)
def asgValue : Stmt → Expr
  | .Assign _ v _ => v
  | _ => .Constant .none 0 default
def compTest : Expr → Expr
  | .ListComp _ (⟨_, _, [c], _⟩ :: _) _ _ => c
  | _ => .Constant .none 0 default
def compScope : Expr → Scope
  | .ListComp _ _ sc _ => sc
  | _ => default
def dueP (kind : Nat) (n e : Int) : Bool := Int.fmod n e == 0 && countsB kind (Int.fdiv n e)

section
variable {w : World} {mean : ExcName → Option Value} {mg mb : Str → Option Value} {dp un : Nat} {fr : Option (List Env)} {gd : Option (List Code)} {kind : Nat} {s : Shared} {tn tk te : Tok} {n e : Int} {L C : Addr} {m₃ : Str → Option Value} {E : Value → Shared → Prop} {h₀ : Heap} {m : Str → Option Value}

theorem due_test (X : (hd.heap_39 w.params).In h₀) (T : Top hd.view_39 (looseW hd.view_39 []) mean mg mb h₀) (hdp : dp + 30 < recursionLimit) (hu : un + 100 < cLine) (F : Fr h₀ L s.heap m)
    (hn : s.heap.Ns C m₃) (hm : m₃ (Str.ofString "e") = some (.int e te)) (hcn : s.heap.IsCell (L + 1 + 1) (some (.int n tn))) (hck : s.heap.IsCell (L + 1) (some (.int kind tk))) (he : 1 ≤ e) (he2 : e ≤ 16) :
    wpAny (model Challenge.rw_oh0129_01.row.prog w) ⟨none, dp, fr, gd, un⟩ (isTrue (compTest (asgValue duAsg)) (compEnvC (compScope (asgValue duAsg)) (duCells L) C (duEnv L)) (eval (compTest (asgValue duAsg)) (compEnvC (compScope (asgValue duAsg)) (duCells L) C (duEnv L))))
      (fun ok s₄ => ok = dueP kind n e ∧ Keeps s s₄) E s := by
  revert X
  k_fill
  intro X
  have N : News h₀ L s.heap [] := .nil
  show wpAny _ _ (isTrue (.BoolOp .And [.Compare (.BinOp (.Name (Str.ofString "n") _) .Mod (.Name (Str.ofString "e") _) _) [.Eq] [.Constant (.int 0) _ _] _, .Call (.Name (Str.ofString "_law_counts") _) [.BinOp (.Name (Str.ofString "n") _) .FloorDiv (.Name (Str.ofString "e") _) _, .Name (Str.ofString "kind") _] [] _] _) _ _) _ _ _
  walk1
  refine wpAny_isTrue_Compare1 ?_
  refine wpAny_BinOp ?_
  refine wpAny_Name (wpAny_loadName_cell rfl rfl rfl hcn ?_)
  refine wpAny_Name (wpAny_loadName_local rfl rfl hn hm ?_)
  walk1
  walk1
  walk1
  walk1
  by_cases hz : (Int.fmod n e == 0) = true
  · rw [if_pos hz]
    walk1
    refine isTrue_plain ?_
    refine Call_ ?_
    refine Name_function_global (x := Str.ofString "_law_counts") rfl rfl (loadGlobal_global (s := { s with toks := s.toks + 1 + 1 }) ((topRead_of T).g.keeps F.keep) (mg_of (n := Str.ofString "_law_counts") (v := .ref 38) X (topRead_of T).g (by k_is)) ?_)
    walk1
    walk1
    refine wpAny_BinOp ?_
    refine wpAny_Name (wpAny_loadName_cell rfl rfl rfl hcn ?_)
    refine wpAny_Name (wpAny_loadName_local rfl rfl hn hm ?_)
    refine floordiv_int (by omega) ?_ (Or.inl (PyProof.noPylong_small (by omega)))
    walk1
    refine wpAny_Name (wpAny_loadName_cell rfl rfl rfl hck ?_)
    walk1
    refine ⟨X.keeps F.keep, ?_⟩
    show wpAny _ _ (call (.ref 38) [.int (Int.fdiv n e) _, .int kind tk]) _ _ _
    refine wpAny_call (codeAny_mono (counts_spec (s := { s with toks := _ }) (X.keeps F.keep) (T.keeps F.keep) hdp hu) ?_)
    rintro r s' ⟨rfl, h', tk', rfl, hk'⟩
    dsimp only
    refine wpAny_truthy_bool ?_
    have hd : dueP kind n e = countsB kind (Int.fdiv n e) := by unfold dueP; rw [hz]; rfl
    by_cases hb : countsB kind (Int.fdiv n e) = true
    · rw [if_pos hb]
      walk1
      exact ⟨by rw [hd, hb], h', _, rfl, hk'⟩
    · rw [if_neg hb]
      exact ⟨by rw [hd, Bool.eq_false_iff.mpr hb], h', _, rfl, hk'⟩
  · rw [if_neg hz]
    refine ⟨?_, s.heap, _, rfl, fun _ _ e => e⟩
    unfold dueP
    rw [Bool.eq_false_iff.mpr hz]; rfl
end
end Mine
end PartDu1
section PartDu2
open PySem PySem.W PyProof.Rows PySem.SeqAt PySem.Calls
open Sem (wp)
namespace Mine

abbrev duMap (lv : Option Value) (Da lw : Addr) : Str → Option Value := fun y =>
  if y = Str.ofString "lamps" then lv else if y = Str.ofString "due" then some (.ref Da) else if y = Str.ofString "wished" then some (.ref lw) else none
def dueB (kind : Nat) (ns : List Int) (n : Int) : Bool := Int.fmod ((ns.filter (dueP kind n)).length : Nat) 2 == 1
def dueStep (kind : Nat) (ns : List Int) (n : Int) (l : List Int) : List Int := if dueB kind ns n = true then l ++ [n] else l
def dueL (kind : Nat) (ns : List Int) : Nat → List Int
  | 0 => []
  | i + 1 => dueStep kind ns (1 + (i : Int)) (dueL kind ns i)
theorem dueL_len (kind : Nat) (ns : List Int) : ∀ i, (dueL kind ns i).length ≤ i := by
  intro i
  induction i with
  | zero => simp [dueL]
  | succ i ih =>
    rw [dueL, dueStep]
    split
    · simp; exact ih
    · exact Nat.le_succ_of_le ih

section
variable {w : World} {mean : ExcName → Option Value} {mg mb : Str → Option Value} {dp un : Nat} {fr : Option (List Env)} {gd : Option (List Code)} {kind : Nat} {s : Shared} {tn tkd : Tok} {n : Int} {L Da lw I : Addr} {E : Value → Shared → Prop} {h₀ : Heap} {lv : Option Value} {vs vl : List Value} {ns duel : List Int}

structure DuAt (h₀ : Heap) (L Da lw : Addr) (kind : Nat) (tkd : Tok) (nv : Option Value) (l : List Int) (h : Heap) : Prop where
  fr : ∃ lv, Fr h₀ L h (duMap lv Da lw)
  cellK : h.IsCell (L + 1) (some (.int kind tkd))
  cellN : h.IsCell (L + 1 + 1) nv
  due : ∃ vl, h.PlainList Da vl.toArray ∧ IntsAre vl l

structure ApartD (h₀ : Heap) (L Da I : Addr) : Prop where
  a : Da ≠ L
  b : I ≠ L
  c : Da ≠ L + 1
  d : Da ≠ L + 1 + 1
  e : I ≠ L + 1
  f : I ≠ L + 1 + 1
  g : I ≠ Da
  h : h₀.get? Da = none
  i : h₀.get? I = none
  j : h₀.get? (L + 1 + 1) = none

theorem due_asg {Q : Flow → Shared → Prop} (X : (hd.heap_39 w.params).In h₀) (T : Top hd.view_39 (looseW hd.view_39 []) mean mg mb h₀) (hdp : dp + 30 < recursionLimit) (hu : un + 100 < cLine) (F : Fr h₀ L s.heap (duMap lv Da lw))
    (hcn : s.heap.IsCell (L + 1 + 1) (some (.int n tn))) (hck : s.heap.IsCell (L + 1) (some (.int kind tkd))) (hw : h₀.IsList lw vs.toArray) (hi : IntsAre vs ns) (hns : ∀ e ∈ ns, 1 ≤ e ∧ e ≤ 16) (hsm : ns.length ≤ 100)
    (h : ∀ D h' tk ys, h'.PlainList D ys.toArray → IntsAre ys (ns.filter (dueP kind n)) → Fr h₀ L h' (duMap (some (.ref D)) Da lw) → (∀ b o, b ≠ L → s.heap.get? b = some o → h'.get? b = some o) → Q .next { s with heap := h', toks := tk }) :
    wpAny (model Challenge.rw_oh0129_01.row.prog w) ⟨none, dp, fr, gd, un⟩ (exec duAsg (duEnv L)) Q E s := by
  show wpAny _ _ (exec (.Assign [.Name (Str.ofString "lamps") _] (.ListComp (.Name (Str.ofString "e") _) [⟨.Name (Str.ofString "e") _, .Name (Str.ofString "wished") _, [compTest (asgValue duAsg)], 0⟩] (compScope (asgValue duAsg)) _) _) (duEnv L)) _ _ _
  refine comp_assign (cl := duCells L) (dueP kind n) rfl rfl (by decide) rfl (by decide) rfl rfl rfl rfl ?_ (fun _ => rfl)
  refine nameX_L F (x := Str.ofString "wished") (v := .ref lw) rfl ?_ rfl rfl rfl
  have hws : s.heap.IsList lw vs.toArray := hw.at fun o e => F.keep lw o e
  refine wpAny_pyIter_list hws ?_
  have hnew : ∀ b o, s.heap.get? b = some o → b ∉ [s.heap.objs.size] := fun b o e q => Nat.lt_irrefl _ (List.mem_singleton.mp q ▸ Heap.lt_size e)
  obtain ⟨ow, how, _⟩ := id hws
  obtain ⟨oL, _, _, hoL, _⟩ := id F.ns
  refine ⟨s.heap.objs.size, [s.heap.objs.size], ns, _, rfl, ⟨?_, ?_, ?_⟩, hnew L oL hoL, (F.push _).ns, ?_⟩
  · obtain ⟨fp, P, St, W, hst, hfp, hP⟩ := walksL (prog := Challenge.rw_oh0129_01.row.prog) (w := w) (A := { depth := dp, frames := fr, guards := gd, units := un : Around }) (I := s.heap.objs.size) (l := lw) rfl (Nat.ne_of_lt (Heap.lt_size how)) hi
    refine ⟨fp, P, St, W, hst _ ⟨_, Heap.get?_push_size _ rfl, rfl, rfl⟩ (hws.push _), fun b hb => ?_, hP⟩
    show b < (s.heap.push _).objs.size
    rw [Heap.size_push]
    rcases hfp b hb with rfl | rfl
    · exact Nat.lt_succ_self _
    · exact Nat.lt_succ_of_lt (Heap.lt_size how)
  · exact Nat.le_trans hsm (by decide)
  · intro C k t s₃ m₃ E' hC hk hn hm hk₃
    have up : ∀ b o, s.heap.get? b = some o → s₃.heap.get? b = some o := fun b o e => hk₃ b o (hnew b o e) (Heap.get?_push_of_some _ e)
    have F₃ : Fr h₀ L s₃.heap (duMap lv Da lw) := ⟨F.ns.keeps up, fun b o e => up b o (F.keep b o e), F.above⟩
    exact due_test X T hdp hu F₃ hn hm (let ⟨o, ho, r⟩ := hcn; ⟨o, up _ o ho, r⟩) (let ⟨o, ho, r⟩ := hck; ⟨o, up _ o ho, r⟩) (hns k hk).1 (hns k hk).2
  · intro D h' tk ys hD0 hDp hys hns' hk'
    have up : ∀ b o, b ≠ L → s.heap.get? b = some o → h'.get? b = some o := fun b o hb e => hk' b o hb (hnew b o e) (Heap.get?_push_of_some _ e)
    refine h D h' tk ys hDp hys (Fr.to (m := fun z => if z = Str.ofString "lamps" then some (.ref D) else duMap lv Da lw z) ⟨hns', fun b o e => up b o (Nat.ne_of_lt (Nat.lt_of_lt_of_le (Heap.lt_size e) F.above)) (F.keep b o e), F.above⟩ fun y => ?_) up
    by_cases e : y = Str.ofString "lamps"
    · subst e; rfl
    · simp only [duMap, if_neg e]
end
end Mine
end PartDu2
section PartDu3
open PySem PySem.W PyProof.Rows PySem.SeqAt PySem.Calls
open Sem (wp)
namespace Mine
section
variable {w : World} {mean : ExcName → Option Value} {mg mb : Str → Option Value} {dp un : Nat} {fr : Option (List Env)} {gd : Option (List Code)} {kind : Nat} {s : Shared} {tn tkd : Tok} {n : Int} {L Da lw I : Addr} {E : Value → Shared → Prop} {h₀ : Heap} {lv : Option Value} {vs vl : List Value} {ns duel : List Int}

theorem due_cond {D : Addr} {ys : List Value} {ks : List Int} {Q : Bool → Shared → Prop} (X : (hd.heap_39 w.params).In h₀) (T : Top hd.view_39 (looseW hd.view_39 []) mean mg mb h₀) (F : Fr h₀ L s.heap (duMap (some (.ref D)) Da lw))
    (hD : s.heap.IsList D ys.toArray) (hi : IntsAre ys ks) (hsm : ks.length ≤ 100)
    (h : ∀ tk, Q (Int.fmod (ks.length : Nat) 2 == 1) { s with toks := tk }) :
    wpAny (model Challenge.rw_oh0129_01.row.prog w) ⟨none, dp, fr, gd, un⟩ (isTrue (ifTest duIf) (duEnv L) (eval (ifTest duIf) (duEnv L))) Q E s := by
  revert X
  k_fill
  intro X
  have N : News h₀ L s.heap [] := .nil
  show wpAny _ _ (isTrue (.Compare (.BinOp (.Call (.Name (Str.ofString "len") _) [.Name (Str.ofString "lamps") _] [] _) .Mod (.Constant (.int 2) _ _) _) [.Eq] [.Constant (.int 1) _ _] _) _ _) _ _ _
  refine wpAny_isTrue_Compare1 (wpAny_BinOp (Call_ ?_))
  refine nameX_B F X (topRead_of T) (by k_is) (by boot_by_name) (by decide) ?_ rfl rfl
  walk1
  walk1
  refine nameX_L F (x := Str.ofString "lamps") (v := .ref D) rfl ?_ rfl rfl rfl
  walk1
  show wpAny _ _ (call (.builtin "len") [.ref D]) _ _ _
  have hlen := hi.length
  refine call_len_list hD (by rw [List.size_toArray]; omega) ?_
  rw [show ys.toArray.size = ks.length from by rw [List.size_toArray]; exact hlen]
  walk1
  walk1
  walk1
  walk1
  walk1
  exact h _

theorem due_append {k : Nat} {Q : Flow → Shared → Prop} (F : Fr h₀ L s.heap (duMap lv Da lw)) (hcn : s.heap.IsCell (L + 1 + 1) (some (.int n tn))) (hD : s.heap.get? Da = some (W.listOf vl.toArray k)) (hDL : Da ≠ L) (hD0 : h₀.get? Da = none) (hsz : vl.length ≤ 100)
    (h : ∀ h' tk, h'.PlainList Da (vl ++ [Value.int n tn]).toArray → Fr h₀ L h' (duMap lv Da lw) → Heap.SameBut Da s.heap h' → Q .next { s with heap := h', toks := tk }) :
    wpAny (model Challenge.rw_oh0129_01.row.prog w) ⟨none, dp, fr, gd, un⟩ (execs (ifBody duIf) (duEnv L)) Q E s := by
  show wpAny _ _ (execs [.Expr (.Call (.Attribute (.Name (Str.ofString "due") _) (Str.ofString "append") _) [.Name (Str.ofString "n") _] [] _) _] (duEnv L)) _ _ _
  have N : News h₀ L s.heap [(Da, W.listOf vl.toArray k)] := fun p hp => by
      rw [List.mem_singleton.mp hp]; exact ⟨hD, hDL, hD0⟩
  refine wpAny_execs_cons (wpAny_Expr ?_)
  walk1
  refine nameX_L F (x := Str.ofString "due") (v := .ref Da) rfl ?_ rfl rfl rfl
  walk1
  walk1
  walk1
  refine wpAny_Name (wpAny_loadName_cell rfl rfl rfl hcn ?_)
  walk1
  show wpAny _ _ (call (Value.builtin "list.append") [.ref Da, .int n tn]) _ _ _
  refine wpAny_list_append_plain ⟨k, hD⟩ (fun h₃ hp₃ hs₃ => ?_) (by rw [List.size_toArray]; exact Nat.le_trans hsz (by decide))
  refine wpAny_execs_nil ?_
  refine h _ _ (by simpa using hp₃) ?_ hs₃
  exact ⟨F.ns.sameBut hs₃ (Ne.symm hDL), fun b o e => hs₃.extBut b o (fun q => by rw [q, hD0] at e; cases e) (F.keep b o e), F.above⟩

theorem due_turn {oI : Obj} {Q : Flow → Shared → Prop} (X : (hd.heap_39 w.params).In h₀) (T : Top hd.view_39 (looseW hd.view_39 []) mean mg mb h₀) (hdp : dp + 30 < recursionLimit) (hu : un + 100 < cLine)
    (P : ApartD h₀ L Da I) (S : DuAt h₀ L Da lw kind tkd (some (.int n tn)) duel s.heap) (hI : s.heap.get? I = some oI) (hw : h₀.IsList lw vs.toArray) (hi : IntsAre vs ns) (hns : ∀ e ∈ ns, 1 ≤ e ∧ e ≤ 16) (hsm : ns.length ≤ 100) (hlen : duel.length ≤ 16)
    (h : ∀ h' tk, DuAt h₀ L Da lw kind tkd (some (.int n tn)) (dueStep kind ns n duel) h' → h'.get? I = some oI → Q .next { s with heap := h', toks := tk }) :
    wpAny (model Challenge.rw_oh0129_01.row.prog w) ⟨none, dp, fr, gd, un⟩ (execs (forBody duFor) (duEnv L)) Q E s := by
  obtain ⟨⟨lv, F⟩, hck, hcn, vl, ⟨k, hD⟩, hvl⟩ := S
  show wpAny _ _ (execs [duAsg, .If (ifTest duIf) (ifBody duIf) [] _] (duEnv L)) _ _ _
  refine wpAny_execs_cons ?_
  refine due_asg X T hdp hu F hcn hck hw hi hns hsm fun D h₁ tk₁ ys hD₁ hys F₁ hk₁ => ?_
  dsimp only
  have hck₁ : h₁.IsCell (L + 1) (some (.int kind tkd)) := let ⟨o, ho, r⟩ := hck; ⟨o, hk₁ _ o (Nat.succ_ne_self L) ho, r⟩
  have hLL : L + 1 + 1 ≠ L := Nat.ne_of_gt (Nat.lt_succ_of_lt (Nat.lt_succ_self L))
  have hcn₁ : h₁.IsCell (L + 1 + 1) (some (.int n tn)) := let ⟨o, ho, r⟩ := hcn; ⟨o, hk₁ _ o hLL ho, r⟩
  have hDa₁ := hk₁ Da _ P.a hD
  have hI₁ := hk₁ I _ P.b hI
  refine wpAny_execs_cons (wpAny_If ?_)
  refine due_cond (s := { s with heap := h₁, toks := tk₁ }) X T F₁ hD₁.isList hys (Nat.le_trans (List.length_filter_le _ _) hsm) fun tk₂ => ?_
  have hvlen := hvl.length
  by_cases hb : dueB kind ns n = true
  · have hst : dueStep kind ns n duel = duel ++ [n] := by unfold dueStep; rw [if_pos hb]
    rw [hst] at h
    rw [if_pos (show (Int.fmod ((ns.filter (dueP kind n)).length : Nat) 2 == 1) = true from hb)]
    refine due_append (s := { s with heap := h₁, toks := tk₂ }) F₁ hcn₁ hDa₁ P.a P.h (by omega) fun h₂ tk₃ hD₂ F₂ hs₂ => ?_
    dsimp only
    refine wpAny_execs_nil (h h₂ tk₃ ⟨⟨_, F₂⟩, ?_, ?_, _, hD₂, IntsAre.append hvl (.cons _ _ .nil)⟩ (hs₂.extBut _ _ P.g hI₁))
    · exact let ⟨o, ho, r⟩ := hck₁; ⟨o, hs₂.extBut _ o (Ne.symm P.c) ho, r⟩
    · exact let ⟨o, ho, r⟩ := hcn₁; ⟨o, hs₂.extBut _ o (Ne.symm P.d) ho, r⟩
  · have hst : dueStep kind ns n duel = duel := by unfold dueStep; rw [if_neg hb]
    rw [hst] at h
    rw [if_neg (show ¬ (Int.fmod ((ns.filter (dueP kind n)).length : Nat) 2 == 1) = true from hb)]
    refine wpAny_execs_nil ?_
    dsimp only
    exact wpAny_execs_nil (h h₁ tk₂ ⟨⟨_, F₁⟩, hck₁, hcn₁, vl, ⟨k, hDa₁⟩, hvl⟩ hI₁)

theorem due_loop {R : Result → Shared → Prop} {nv : Option Value} (X : (hd.heap_39 w.params).In h₀) (T : Top hd.view_39 (looseW hd.view_39 []) mean mg mb h₀) (hdp : dp + 30 < recursionLimit) (hu : un + 100 < cLine)
    (P : ApartD h₀ L Da I) (S : DuAt h₀ L Da lw kind tkd nv (dueL kind ns 0) s.heap) (hI : IsRangeIter s.heap I 1 16 1) (hw : h₀.IsList lw vs.toArray) (hi : IntsAre vs ns) (hns : ∀ e ∈ ns, 1 ≤ e ∧ e ≤ 16) (hsm : ns.length ≤ 100)
    (fin : ∀ h' tk nv', DuAt h₀ L Da lw kind tkd nv' (dueL kind ns 16) h' → R (.ok .next) { s with heap := h', toks := tk }) :
    codeAny (model Challenge.rw_oh0129_01.row.prog w) ⟨none, dp, fr, gd, un⟩ (.forLoop (forTarget duFor) (.ref I) (forBody duFor) [] (duEnv L)) R s := by
  refine codeAny_forLoop (I := fun k s' => ∃ h tk nv i, s' = { s with heap := h, toks := tk } ∧ k = 17 - i ∧ i ≤ 16 ∧ DuAt h₀ L Da lw kind tkd nv (dueL kind ns i) h ∧ IsRangeIter h I (1 + (i : Nat)) (16 - (i : Nat)) 1) ?_ 17
    ⟨s.heap, s.toks, nv, 0, rfl, rfl, by omega, S, by simpa using hI⟩ (fun _ => rfl)
  rintro k s' ⟨h, tk, nv, i, rfl, rfl, hi16, S, hI⟩
  have hLL : L + 1 + 1 ≠ L := Nat.ne_of_gt (Nat.lt_succ_of_lt (Nat.lt_succ_self L))
  by_cases hlt : i < 16
  · refine wpAny_pyNext_range_item hI (by omega) fun h₁ hI₁ hs₁ => ?_
    obtain ⟨⟨lv, F⟩, hck, hcn, vl, hD, hvl⟩ := S
    have F1 : Fr h₀ L h₁ (duMap lv Da lw) := ⟨F.ns.sameBut hs₁ (Ne.symm P.b), fun b o e => hs₁.extBut b o (fun q => by rw [q, P.i] at e; cases e) (F.keep b o e), F.above⟩
    have hcn1 : h₁.IsCell (L + 1 + 1) nv := let ⟨o, ho, r⟩ := hcn; ⟨o, hs₁.extBut _ o (Ne.symm P.f) ho, r⟩
    show wpAny _ _ (assign (.Name (Str.ofString "n") _) (duEnv L) (.int (1 + (i : Nat)) tk)) _ _ _
    refine wpAny_assign_Name (wpAny_storeName_cell rfl rfl rfl hcn1 fun h₂ hcn₂ hs₂ => ?_)
    have F2 : Fr h₀ L h₂ (duMap lv Da lw) := ⟨F1.ns.sameBut hs₂ (Ne.symm hLL), fun b o e => hs₂.extBut b o (fun q => by rw [q, P.j] at e; cases e) (F1.keep b o e), F1.above⟩
    have hLL2 : L + 1 ≠ L + 1 + 1 := Nat.ne_of_lt (Nat.lt_succ_self (L + 1))
    have hck2 : h₂.IsCell (L + 1) (some (.int kind tkd)) := let ⟨o, ho, r⟩ := hck; ⟨o, hs₂.extBut _ o hLL2 (hs₁.extBut _ o (Ne.symm P.e) ho), r⟩
    have hD2 : h₂.PlainList Da vl.toArray := (hD.at fun o e => hs₁.extBut _ o (Ne.symm P.g) e).at fun o e => hs₂.extBut _ o P.d e
    have hI2 : IsRangeIter h₂ I (1 + (i : Nat) + 1) (16 - (i : Nat) - 1) 1 := hs₂.extBut _ _ P.f hI₁
    have hLn := dueL_len kind ns i
    refine due_turn (s := { s with heap := h₂, toks := _ }) X T hdp hu P ⟨⟨lv, F2⟩, hck2, hcn₂, vl, hD2, hvl⟩ hI2 hw hi hns hsm (by omega) fun h₃ tk₃ S₃ hI₃ => ?_
    refine ⟨17 - (i + 1), by omega, h₃, tk₃, _, i + 1, rfl, rfl, hlt, S₃, ?_⟩
    have e1 : (1 : Int) + ((i + 1 : Nat) : Int) = 1 + (i : Nat) + 1 := by omega
    have e2 : (16 : Int) - ((i + 1 : Nat) : Int) = 16 - (i : Nat) - 1 := by omega
    rw [e1, e2]; exact hI₃
  · have hie : i = 16 := by omega
    refine wpAny_pyNext_range_end rfl hI (by omega) fun h₁ he₁ => ?_
    subst hie
    refine wpAny_execs_nil (fin h₁ tk nv ?_)
    obtain ⟨⟨lv, F⟩, hck, hcn, vl, hD, hvl⟩ := S
    refine ⟨⟨lv, F.ns.extBut he₁ (Ne.symm P.b), fun b o e => he₁ b o (fun q => by rw [q, P.i] at e; cases e) (F.keep b o e), F.above⟩, ?_, ?_, vl, hD.at fun o e => he₁ _ o (Ne.symm P.g) e, hvl⟩
    · exact let ⟨o, ho, r⟩ := hck; ⟨o, he₁ _ o (Ne.symm P.e) ho, r⟩
    · exact let ⟨o, ho, r⟩ := hcn; ⟨o, he₁ _ o (Ne.symm P.f) ho, r⟩
end
end Mine
end PartDu3
section PartDu4
open PySem PySem.W PyProof.Rows PySem.SeqAt PySem.Calls
open Sem (wp)
namespace Mine
section
variable {w : World} {mean : ExcName → Option Value} {mg mb : Str → Option Value} {dp un : Nat} {fr : Option (List Env)} {gd : Option (List Code)} {kind : Nat} {lw : Addr} {vs : List Value} {ns : List Int} {s : Shared} {tkd : Tok}

theorem due_spec (X : (hd.heap_39 w.params).In s.heap) (T : Top hd.view_39 (looseW hd.view_39 []) mean mg mb s.heap) (hdp : dp + 40 < recursionLimit) (hu : un + 110 < cLine) (hl : s.heap.IsList lw vs.toArray) (hi : IntsAre vs ns) (hns : ∀ e ∈ ns, 1 ≤ e ∧ e ≤ 16) (hsm : ns.length ≤ 100) :
    codeAny (model Challenge.rw_oh0129_01.row.prog w) ⟨none, dp, fr, gd, un⟩ (.call (.ref 43) ⟨[.ref lw, .int kind tkd], []⟩) (fun r s' => ∃ b h' tk vs', r = .ok (.ret (.ref b)) ∧ s' = { s with heap := h', toks := tk } ∧
      (∀ b o, s.heap.get? b = some o → h'.get? b = some o) ∧ s.heap.get? b = none ∧ h'.PlainList b vs'.toArray ∧ IntsAre vs' (dueL kind ns 16)) s := by
  revert X
  k_fill
  intro X
  refine enter_defC X T.nolimit (by show dp < _; omega) (by k_is) (by k_is) (binds := [(Str.ofString "wished", .ref lw), (Str.ofString "kind", .int kind tkd)]) (BindsTo.of_eq rfl) rfl ?_ rfl rfl rfl
  intro L h₁ tk hL F hC hPw hab
  have hck : h₁.IsCell (L + 1) (some (.int kind tkd)) := hC (Str.ofString "kind") (L + 1) rfl
  have hcn : h₁.IsCell (L + 1 + 1) none := hC (Str.ofString "n") (L + 1 + 1) rfl
  have F0 : Fr s.heap L h₁ (fun y => if y = Str.ofString "wished" then some (.ref lw) else none) := F
  clear hC hPw hab F
  have fresh : ∀ a, L ≤ a → s.heap.get? a = none := fun a ha => by
    cases e : s.heap.get? a with
    | none => rfl
    | some o => exact absurd (Heap.lt_size e) (by rw [← hL]; exact Nat.not_lt.mpr ha)
  show wpAny _ _ (execs [.Assign [.Name (Str.ofString "due") _] (.List [] _) _, .For (forTarget duFor) (.Call (.Name (Str.ofString "range") _) [.Constant (.int 1) _ _, .Constant (.int 17) _ _] [] _) (forBody duFor) [] _, .Return (some (.Name (Str.ofString "due") _)) _] (duEnv L)) _ _ _
  refine wpAny_execs_cons (wpAny_Assign_Name (List_ ?_) rfl)
  walk1
  refine wpAny_newObj_type ?_ (by size_fits)
  have F1 := F0.push ({ cls := .type "list", data := .seq ([] : List Value).toArray } : Obj)
  refine wpAny_storeName_local rfl F1.ns (fun h₂ hn₂ hs₂ => ?_) rfl
  have hLh : L < h₁.objs.size := F0.ns.lt
  have hDne : h₁.objs.size ≠ L := Nat.ne_of_gt hLh
  have F2 : Fr s.heap L h₂ (duMap none h₁.objs.size lw) := Fr.to (F1.set hn₂ hs₂) fun y => by
    by_cases e1 : y = Str.ofString "due"
    · subst e1; rfl
    · rw [if_neg e1]
      by_cases e2 : y = Str.ofString "wished"
      · subst e2; rfl
      · simp only [duMap, if_neg e1, if_neg e2, ite_self]
  have hLL : L + 1 + 1 ≠ L := Nat.ne_of_gt (Nat.lt_succ_of_lt (Nat.lt_succ_self L))
  obtain ⟨ok, hok, hokd⟩ := hck
  obtain ⟨on, hon, hond⟩ := hcn
  have hok2 : h₂.get? (L + 1) = some ok := hs₂.extBut _ _ (Nat.succ_ne_self L) (Heap.get?_push_of_some _ hok)
  have hon2 : h₂.get? (L + 1 + 1) = some on := hs₂.extBut _ _ hLL (Heap.get?_push_of_some _ hon)
  have hDa2 : h₂.get? h₁.objs.size = some { cls := .type "list", data := .seq ([] : List Value).toArray } := hs₂.extBut _ _ hDne (Heap.get?_push_size _ rfl)
  dsimp only
  refine wpAny_execs_cons (wpAny_For ?_ (fun _ => rfl))
  refine range17 X T F2 rfl rfl ?_
  intro h₃ I tk₃ hI hk₃ hI0 hIlt
  have hI0' : h₂.get? I = none := hI0
  have Ine : ∀ a o, h₂.get? a = some o → I ≠ a := fun a o e q => by rw [q, e] at hI0'; cases hI0'
  obtain ⟨oL, _, _, hoL, _⟩ := id F2.ns
  have P : ApartD s.heap L h₁.objs.size I := ⟨hDne, Ine _ _ hoL, Nat.ne_of_gt (Heap.lt_size hok), Nat.ne_of_gt (Heap.lt_size hon), Ine _ _ hok2, Ine _ _ hon2, Ine _ _ hDa2, fresh _ (Nat.le_of_lt hLh), by
    cases e : s.heap.get? I with
    | none => rfl
    | some o => exact absurd rfl (Ine I o (F2.keep _ _ e)), fresh _ (Nat.le_succ_of_le (Nat.le_succ L))⟩
  refine due_loop (s := { s with heap := h₃, toks := tk₃ }) (kind := kind) (ns := ns) (nv := none) X T (by show dp + 1 + 30 < _; omega) (by show un + 3 + 100 < _; omega) P ⟨⟨none, F2.ns.keeps hk₃, fun b o e => hk₃ b o (F2.keep b o e), F2.above⟩, ⟨ok, hk₃ _ _ hok2, hokd⟩, ⟨on, hk₃ _ _ hon2, hond⟩, [], ⟨0, hk₃ _ _ hDa2⟩, .nil⟩ hI hl hi hns hsm ?_
  rintro h₄ tk₄ nv' ⟨⟨lv, F4⟩, _, _, vl, hD4, hvl⟩
  dsimp only
  refine wpAny_execs_cons (wpAny_Return_some ?_)
  refine nameX_L (s := { s with heap := h₄, toks := tk₄ }) F4 (x := Str.ofString "due") (v := .ref h₁.objs.size) rfl ?_ rfl rfl rfl
  exact ⟨_, h₄, tk₄, vl, rfl, rfl, F4.keep, fresh _ (Nat.le_of_lt hLh), hD4, hvl⟩
end
end Mine
end PartDu4
section PartMath1
open PySem PySem.W
namespace Mine

/-- the xor of f 1 .. f i -/
def X1 (f : Nat → Bool) : Nat → Bool
  | 0 => false
  | i + 1 => xor (X1 f i) (f (i + 1))
theorem X1_congr {f g : Nat → Bool} : ∀ {i : Nat}, (∀ n, 1 ≤ n → n ≤ i → f n = g n) → X1 f i = X1 g i := by
  intro i
  induction i with
  | zero => intro _; rfl
  | succ i ih =>
    intro h
    rw [X1, X1, ih fun n h1 h2 => h n h1 (Nat.le_succ_of_le h2), h (i + 1) (Nat.succ_le_succ (Nat.zero_le _)) (Nat.le_refl _)]
theorem X1_stop {f : Nat → Bool} {m : Nat} : ∀ {i : Nat}, m ≤ i → (∀ n, m < n → n ≤ i → f n = false) → X1 f i = X1 f m := by
  intro i
  induction i with
  | zero => intro h _; rw [Nat.le_zero.mp h]
  | succ i ih =>
    intro h hf
    by_cases e : m = i + 1
    · rw [e]
    · rw [X1, ih (by omega) fun n h1 h2 => hf n h1 (Nat.le_succ_of_le h2), hf (i + 1) (by omega) (Nat.le_refl _), Bool.xor_false]
theorem X1_xor (f g : Nat → Bool) : ∀ i, X1 (fun n => xor (f n) (g n)) i = xor (X1 f i) (X1 g i) := by
  intro i
  induction i with
  | zero => rfl
  | succ i ih =>
    rw [X1, X1, X1, ih]
    cases X1 f i <;> cases X1 g i <;> cases f (i + 1) <;> cases g (i + 1) <;> rfl
theorem X1_false : ∀ i, X1 (fun _ => false) i = false := by
  intro i
  induction i with
  | zero => rfl
  | succ i ih => rw [X1, ih]; rfl

/-- masks: a set of lamps as a number -/
def ev (W : Nat → Bool) (k : Nat) : Bool := X1 (fun i => k.testBit i && W i) 16
theorem ev_xor (W : Nat → Bool) (a b : Nat) : ev W (a ^^^ b) = xor (ev W a) (ev W b) := by
  unfold ev
  rw [← X1_xor]
  refine X1_congr fun n _ _ => ?_
  rw [Nat.testBit_xor]
  cases a.testBit n <;> cases b.testBit n <;> cases W n <;> rfl
theorem ev_zero (W : Nat → Bool) : ev W 0 = false := by
  unfold ev
  rw [show (fun i => Nat.testBit 0 i && W i) = fun _ => false from by funext i; simp, X1_false]
def Xm (f : Nat → Nat) : Nat → Nat
  | 0 => 0
  | i + 1 => Xm f i ^^^ f (i + 1)
theorem ev_Xm (W : Nat → Bool) (f : Nat → Nat) : ∀ i, ev W (Xm f i) = X1 (fun n => ev W (f n)) i := by
  intro i
  induction i with
  | zero => exact ev_zero W
  | succ i ih => rw [Xm, ev_xor, ih, X1]
theorem ev_single {W : Nat → Bool} {n : Nat} (h1 : 1 ≤ n) (h2 : n ≤ 16) : ev W (2 ^ n) = W n := by
  unfold ev
  have key : ∀ i, (Nat.testBit (2 ^ n) i && W i) = (decide (n = i) && W i) := fun i => by rw [Nat.testBit_two_pow]
  rw [show (fun i => Nat.testBit (2 ^ n) i && W i) = fun i => decide (n = i) && W i from funext key]
  rw [X1_stop h2 (fun k h _ => by rw [decide_eq_false (by omega)]; rfl)]
  obtain ⟨k, rfl⟩ : ∃ k, n = k + 1 := ⟨n - 1, by omega⟩
  rw [X1, X1_congr (g := fun _ => false) (fun k' _ h => by rw [decide_eq_false (by omega)]; rfl), X1_false]
  simp

def Mk (kind n m : Nat) : Bool := (marksOf kind (n : Int)).contains (m : Int)
def Dm (kind n : Nat) : Nat := Xm (fun e => if dueP kind n e then 2 ^ e else 0) 16

/-- the finite facts -/
def okMarks (kind n : Nat) : Bool := decide ((marksOf kind (n : Int)).Nodup) && Mk kind n n && (List.range 17).all (fun m => m == 0 || !(m < n) || !Mk kind n m)
def okDue (kind n : Nat) : Bool := (Xm (fun m => if Mk kind m n then Dm kind m else 0) (n - 1) ^^^ 2 ^ n) == Dm kind n
def okBits (kind n : Nat) : Bool := (List.range 17).all (fun e => e == 0 || (Dm kind n).testBit e == dueP kind n e)
theorem all_ok : ((List.range 3).all fun kind => (List.range 17).all fun n => n == 0 || (okMarks kind n && okDue kind n && okBits kind n)) = true := by decide +kernel
end Mine
end PartMath1
section PartMath2
open PySem PySem.W
namespace Mine

theorem ok_at {kind n : Nat} (hk : kind < 3) (h1 : 1 ≤ n) (h2 : n ≤ 16) : okMarks kind n = true ∧ okDue kind n = true ∧ okBits kind n = true := by
  have h := List.all_eq_true.mp (List.all_eq_true.mp all_ok kind (List.mem_range.mpr hk)) n (List.mem_range.mpr (by omega))
  have hn : (n == 0) = false := beq_eq_false_iff_ne.mpr (by omega)
  rw [hn, Bool.false_or, Bool.and_eq_true, Bool.and_eq_true] at h
  exact ⟨h.1.1, h.1.2, h.2⟩
theorem marks_nodup {kind n : Nat} (hk : kind < 3) (h1 : 1 ≤ n) (h2 : n ≤ 16) : (marksOf kind (n : Int)).Nodup := by
  have h := (ok_at hk h1 h2).1
  unfold okMarks at h
  rw [Bool.and_eq_true, Bool.and_eq_true] at h
  exact of_decide_eq_true h.1.1
theorem Mk_self {kind n : Nat} (hk : kind < 3) (h1 : 1 ≤ n) (h2 : n ≤ 16) : Mk kind n n = true := by
  have h := (ok_at hk h1 h2).1
  unfold okMarks at h
  rw [Bool.and_eq_true, Bool.and_eq_true] at h
  exact h.1.2
theorem Mk_below {kind n m : Nat} (hk : kind < 3) (h1 : 1 ≤ n) (h2 : n ≤ 16) (hm : 1 ≤ m) (hmn : m < n) : Mk kind n m = false := by
  have h := (ok_at hk h1 h2).1
  unfold okMarks at h
  rw [Bool.and_eq_true, Bool.and_eq_true] at h
  have h' := List.all_eq_true.mp h.2 m (List.mem_range.mpr (by omega))
  have e1 : (m == 0) = false := beq_eq_false_iff_ne.mpr (by omega)
  rw [e1, Bool.false_or, decide_eq_true hmn] at h'
  simpa using h'
theorem due_mask {kind n : Nat} (hk : kind < 3) (h1 : 1 ≤ n) (h2 : n ≤ 16) : Xm (fun m => if Mk kind m n then Dm kind m else 0) (n - 1) ^^^ 2 ^ n = Dm kind n := by
  have h := (ok_at hk h1 h2).2.1
  unfold okDue at h
  exact eq_of_beq h
theorem due_bit {kind n e : Nat} (hk : kind < 3) (h1 : 1 ≤ n) (h2 : n ≤ 16) (he : 1 ≤ e) (he2 : e ≤ 16) : (Dm kind n).testBit e = dueP kind n e := by
  have h := (ok_at hk h1 h2).2.2
  unfold okBits at h
  have h' := List.all_eq_true.mp h e (List.mem_range.mpr (by omega))
  have e1 : (e == 0) = false := beq_eq_false_iff_ne.mpr (by omega)
  rw [e1, Bool.false_or] at h'
  exact eq_of_beq h'

theorem toggle_get (lit : List Bool) (k : Int) (m : Nat) (hk : k.toNat < lit.length) : (toggle lit k).getD m false = xor (lit.getD m false) (decide (k.toNat = m)) := by
  unfold toggle
  by_cases h : k.toNat = m
  · subst h
    rw [List.getD_eq_getElem?_getD, List.getElem?_set_self hk]
    simp
  · rw [List.getD_eq_getElem?_getD, List.getElem?_set_ne h, decide_eq_false h, ← List.getD_eq_getElem?_getD, Bool.xor_false]
theorem foldl_toggle_get (m : Nat) : ∀ (ms : List Int) (lit : List Bool), ms.Nodup → (∀ k ∈ ms, 0 ≤ k ∧ k ≤ 16) → lit.length = 17 → (ms.foldl toggle lit).getD m false = xor (lit.getD m false) (ms.contains (m : Int)) := by
  intro ms
  induction ms with
  | nil => intro lit _ _ _; simp
  | cons k r ih =>
    intro lit hnd hb hl
    have hk := hb k List.mem_cons_self
    rw [List.foldl_cons, ih (toggle lit k) (List.nodup_cons.mp hnd).2 (fun x hx => hb x (List.mem_cons_of_mem _ hx)) (by rw [toggle_length, hl]), toggle_get _ _ _ (by omega), List.contains_cons]
    by_cases h : k.toNat = m
    · have hkm : (m : Int) = k := by omega
      have hnc : r.contains (m : Int) = false := by
        rw [hkm]
        exact Bool.eq_false_iff.mpr fun hc => (List.nodup_cons.mp hnd).1 (by simpa using hc)
      rw [decide_eq_true h, hnc, hkm]
      simp
    · have hkm : ((m : Int) == k) = false := beq_eq_false_iff_ne.mpr (by omega)
      rw [decide_eq_false h, hkm]
      simp

section
variable {kind : Nat} (hk : kind < 3) (q : Int → Bool)

abbrev wsh (q : Int → Bool) : List Int := nums17.filter q
abbrev litB (kind : Nat) (q : Int → Bool) (i m : Nat) : Bool := (stateL kind (wsh q) i).1.getD m false
def Wq (q : Int → Bool) (n : Nat) : Bool := (wsh q).contains (n : Int)
def tq (kind : Nat) (q : Int → Bool) (n : Nat) : Bool := litB kind q (n - 1) n != Wq q n

theorem mem17 {n : Nat} (h1 : 1 ≤ n) (h2 : n ≤ 16) : (n : Int) ∈ nums17 := by
  have : n = 1 ∨ n = 2 ∨ n = 3 ∨ n = 4 ∨ n = 5 ∨ n = 6 ∨ n = 7 ∨ n = 8 ∨ n = 9 ∨ n = 10 ∨ n = 11 ∨ n = 12 ∨ n = 13 ∨ n = 14 ∨ n = 15 ∨ n = 16 := by omega
  rcases this with rfl | rfl | rfl | rfl | rfl | rfl | rfl | rfl | rfl | rfl | rfl | rfl | rfl | rfl | rfl | rfl <;> decide
theorem Wq_eq {n : Nat} (h1 : 1 ≤ n) (h2 : n ≤ 16) : Wq q n = q n := by
  unfold Wq
  cases h : q n with
  | true => rw [List.contains_iff_mem, List.mem_filter]; exact ⟨mem17 h1 h2, h⟩
  | false =>
    refine Bool.eq_false_iff.mpr fun hc => ?_
    rw [List.contains_iff_mem, List.mem_filter, h] at hc
    cases hc.2

include hk in
theorem lit_succ {i m : Nat} (hi : i < 16) : litB kind q (i + 1) m = xor (litB kind q i m) (tq kind q (i + 1) && Mk kind (i + 1) m) := by
  have hL := (stateL_len kind (wsh q) i).1
  have e1 : (1 : Int) + (i : Int) = ((i + 1 : Nat) : Int) := by omega
  have et : ((1 : Int) + (i : Int)).toNat = i + 1 := by omega
  show (stepL kind (wsh q) (1 + (i : Int)) (stateL kind (wsh q) i)).1.getD m false = _
  unfold stepL
  have ht : tq kind q (i + 1) = ((stateL kind (wsh q) i).1.getD ((1 : Int) + (i : Int)).toNat false != (wsh q).contains ((1 : Int) + (i : Int))) := by
    rw [et, e1]; rfl
  rw [← ht]
  by_cases h : tq kind q (i + 1) = true
  · rw [if_pos h, h, Bool.true_and]
    have hnd := marks_nodup (kind := kind) (n := i + 1) hk (by omega) (by omega)
    have := foldl_toggle_get m (marksOf kind ((i + 1 : Nat) : Int)) (stateL kind (wsh q) i).1 hnd (marksOf_bound (by omega)) hL
    rw [e1]; exact this
  · rw [if_neg h, Bool.eq_false_iff.mpr h, Bool.false_and, Bool.xor_false]

include hk in
theorem lit_X {m : Nat} (hm : m ≤ 16) : ∀ {i : Nat}, i ≤ 16 → litB kind q i m = X1 (fun n => tq kind q n && Mk kind n m) i := by
  intro i
  induction i with
  | zero =>
    intro _
    show (List.replicate 17 false).getD m false = false
    rw [List.getD_eq_getElem?_getD, List.getElem?_replicate]
    split <;> rfl
  | succ i ih => intro h; rw [lit_succ hk q (by omega), ih (by omega), X1]

include hk in
theorem t_ev : ∀ n, 1 ≤ n → n ≤ 16 → tq kind q n = ev (Wq q) (Dm kind n) := by
  intro n
  induction n using Nat.strongRecOn with
  | ind n ih =>
    intro h1 h2
    rw [← due_mask hk h1 h2, ev_xor, ev_single h1 h2, ev_Xm]
    unfold tq
    rw [lit_X hk q h2 (by omega)]
    have hX : X1 (fun m => tq kind q m && Mk kind m n) (n - 1) = X1 (fun m => ev (Wq q) (if Mk kind m n = true then Dm kind m else 0)) (n - 1) := by
      refine X1_congr fun m hm1 hm2 => ?_
      rw [ih m (by omega) hm1 (by omega)]
      by_cases hM : Mk kind m n = true
      · rw [if_pos hM, hM, Bool.and_true]
      · rw [if_neg hM, Bool.eq_false_iff.mpr hM, Bool.and_false, ev_zero]
    refine (congrArg (fun a => a != Wq q n) hX).trans ?_
    generalize X1 (fun m => ev (Wq q) (if Mk kind m n = true then Dm kind m else 0)) (n - 1) = a
    generalize Wq q n = b
    revert a b
    decide

theorem parity_foldl (f : Int → Bool) : ∀ (l : List Int) (c : Nat), (((c + (l.filter f).length : Nat) % 2 == 1) : Bool) = l.foldl (fun a e => xor a (f e)) (c % 2 == 1) := by
  intro l
  induction l with
  | nil => intro c; rfl
  | cons e r ih =>
    intro c
    rw [List.filter_cons, List.foldl_cons]
    cases h : f e with
    | true =>
      have e1 : ((c + 1) % 2 == 1) = xor (c % 2 == 1) true := by
        rcases Nat.mod_two_eq_zero_or_one c with h | h
        · have : (c + 1) % 2 = 1 := by omega
          rw [h, this]; rfl
        · have : (c + 1) % 2 = 0 := by omega
          rw [h, this]; rfl
      rw [← e1, ← ih (c + 1)]
      simp only [if_true, List.length_cons]
      rw [show c + ((r.filter f).length + 1) = c + 1 + (r.filter f).length from by omega]
    | false => rw [Bool.xor_false, ← ih c]; simp

theorem fmod_parity (n : Nat) : (Int.fmod ((n : Nat) : Int) 2 == 1) = (n % 2 == 1) := by
  have h : Int.fmod ((n : Nat) : Int) 2 = ((n % 2 : Nat) : Int) := by rw [Int.fmod_eq_emod_of_nonneg _ (by decide)]; omega
  rw [h]
  rcases Nat.mod_two_eq_zero_or_one n with e | e <;> rw [e] <;> rfl

include hk in
theorem due_ev {n : Nat} (h1 : 1 ≤ n) (h2 : n ≤ 16) : dueB kind (wsh q) n = ev (Wq q) (Dm kind n) := by
  unfold dueB
  rw [fmod_parity, List.filter_filter]
  have h := parity_foldl (fun e => dueP kind n e && q e) nums17 0
  rw [Nat.zero_add] at h
  rw [h]
  unfold ev
  rw [X1_congr (g := fun i => dueP kind n (i : Int) && q (i : Int)) (fun i hi1 hi2 => by rw [due_bit hk h1 h2 hi1 hi2, Wq_eq q hi1 hi2])]
  rfl

include hk in
theorem t_due {n : Nat} (h1 : 1 ≤ n) (h2 : n ≤ 16) : tq kind q n = dueB kind (wsh q) n := by rw [t_ev hk q n h1 h2, due_ev hk q h1 h2]

include hk in
theorem laid_due : ∀ i, i ≤ 16 → (stateL kind (wsh q) i).2 = dueL kind (wsh q) i := by
  intro i
  induction i with
  | zero => intro _; rfl
  | succ i ih =>
    intro h
    rw [stateL, dueL, stepL, dueStep, ← ih (by omega)]
    have e1 : (1 : Int) + (i : Int) = ((i + 1 : Nat) : Int) := by omega
    have et : ((1 : Int) + (i : Int)).toNat = i + 1 := by omega
    have ht : tq kind q (i + 1) = ((stateL kind (wsh q) i).1.getD ((1 : Int) + (i : Int)).toNat false != (wsh q).contains ((1 : Int) + (i : Int))) := by
      rw [et, e1]; rfl
    rw [← ht, t_due hk q (by omega) (by omega), e1]
    by_cases hb : dueB kind (wsh q) ((i + 1 : Nat) : Int) = true
    · rw [if_pos hb, if_pos hb]
    · rw [if_neg hb, if_neg hb]

include hk in
theorem lit_end {m : Nat} (h1 : 1 ≤ m) (h2 : m ≤ 16) : litB kind q 16 m = Wq q m := by
  rw [lit_X hk q h2 (Nat.le_refl _), X1_stop h2 (fun n hn hn2 => by rw [Mk_below hk (by omega) hn2 h1 hn, Bool.and_false])]
  obtain ⟨k, rfl⟩ : ∃ k, m = k + 1 := ⟨m - 1, by omega⟩
  rw [X1, Mk_self hk h1 h2, Bool.and_true, ← lit_X hk q h2 (by omega)]
  show xor (litB kind q k (k + 1)) (litB kind q k (k + 1) != Wq q (k + 1)) = _
  cases litB kind q k (k + 1) <;> cases Wq q (k + 1) <;> rfl

include hk in
theorem lit_wished : (nums17.filter fun k => (stateL kind (wsh q) 16).1.getD k.toNat false) = wsh q := by
  refine List.filter_congr fun k hkm => ?_
  have hkk : 1 ≤ k ∧ k ≤ 16 := by
    simp only [nums17, List.mem_cons, List.not_mem_nil, or_false] at hkm
    omega
  obtain ⟨m, rfl⟩ : ∃ m : Nat, k = m := ⟨k.toNat, by omega⟩
  have := lit_end hk q (m := m) (by omega) (by omega)
  rw [Wq_eq q (by omega) (by omega)] at this
  exact this
end
end Mine
end PartMath2
section PartLw1
open PySem PySem.W PyProof.Rows PySem.SeqAt PySem.Calls
open Sem (wp)
namespace Mine
def stLw : Stmt := Challenge.rw_oh0129_01.row.prog.main.body.getD 8 (.Pass default)
abbrev lwCells (L : Addr) : List (Str × Addr) := [(Str.ofString "kind", L + 1 + 1), (Str.ofString "numbers", L + 1)]
abbrev lwEnv (L : Addr) : Env := envX (Str.ofString "law") (scopeOfDef stLw) L 48 (.ref 47) (lwCells L)
def lwFor : Stmt := (bodyOfDef stLw).getD 2 (.Pass default)
def lwAsg : Stmt := (forBody lwFor).getD 0 (.Pass default)
def lwIf : Stmt := (forBody lwFor).getD 1 (.Pass default)
abbrev lwCl (L : Addr) : List (Str × Addr) := [(Str.ofString "numbers", L + 1), (Str.ofString "kind", L + 1 + 1)]
abbrev lwMap (wv dv : Option Value) (l : Addr) : Str → Option Value := fun y =>
  if y = Str.ofString "wished" then wv else if y = Str.ofString "drawn" then dv else if y = Str.ofString "script" then some (.ref l) else none
def bitP (x e : Int) : Bool := Int.fmod (Int.fdiv x (2 ^ (e - 1).toNat)) 2 == 1

theorem pow_ok {k : Nat} (h : k ≤ 15) : ((2 : Int) ^ k ≠ 0) ∧ ((2 : Int) ^ k).natAbs < 1073741824 := by
  have : k = 0 ∨ k = 1 ∨ k = 2 ∨ k = 3 ∨ k = 4 ∨ k = 5 ∨ k = 6 ∨ k = 7 ∨ k = 8 ∨ k = 9 ∨ k = 10 ∨ k = 11 ∨ k = 12 ∨ k = 13 ∨ k = 14 ∨ k = 15 := by omega
  rcases this with rfl | rfl | rfl | rfl | rfl | rfl | rfl | rfl | rfl | rfl | rfl | rfl | rfl | rfl | rfl | rfl <;> decide

section
variable {w : World} {mean : ExcName → Option Value} {mg mb : Str → Option Value} {dp un : Nat} {fr : Option (List Env)} {gd : Option (List Code)} {kind : Nat} {s : Shared} {tk te : Tok} {e x : Int} {L C D l : Addr} {m₃ : Str → Option Value} {E : Value → Shared → Prop} {h₀ : Heap} {wv dv : Option Value} {ws : List Value} {ks : List Int}

theorem wish_test (hn : s.heap.Ns C m₃) (hm : m₃ (Str.ofString "e") = some (.int e te)) (hcn : s.heap.IsCell (L + 1) (some (.ref D))) (hck : s.heap.IsCell (L + 1 + 1) (some (.int kind tk))) (hD : s.heap.IsList D ws.toArray) (hi : IntsAre ws ks) (hk : ks[kind]? = some x) (hkl : kind < 3) (he : 1 ≤ e) (he2 : e ≤ 16) :
    wpAny (model Challenge.rw_oh0129_01.row.prog w) ⟨none, dp, fr, gd, un⟩ (isTrue (compTest (asgValue lwAsg)) (compEnvC (compScope (asgValue lwAsg)) (lwCl L) C (lwEnv L)) (eval (compTest (asgValue lwAsg)) (compEnvC (compScope (asgValue lwAsg)) (lwCl L) C (lwEnv L))))
      (fun ok s₄ => ok = bitP x e ∧ Keeps s s₄) E s := by
  show wpAny _ _ (isTrue (.Compare (.BinOp (.BinOp (.Subscript (.Name (Str.ofString "numbers") _) (.Name (Str.ofString "kind") _) _) .FloorDiv (.BinOp (.Constant (.int 2) _ _) .Pow (.BinOp (.Name (Str.ofString "e") _) .Sub (.Constant (.int 1) _ _) _) _) _) .Mod (.Constant (.int 2) _ _) _) [.Eq] [.Constant (.int 1) _ _] _) _ _) _ _ _
  obtain ⟨tx, hx⟩ := hi.get kind x hk
  refine wpAny_isTrue_Compare1 (wpAny_BinOp (wpAny_BinOp (Subscript_ ?_)))
  refine wpAny_Name (wpAny_loadName_cell rfl rfl rfl hcn ?_)
  refine wpAny_Name (wpAny_loadName_cell rfl rfl rfl hck ?_)
  refine tail_any hD.typeIs slot_list_getitem.lookup (wpAny_getItem_list hD (by omega) (by omega) (x := .int x tx) ?_ ?_) (by with_unfolding_all rfl)
  · simpa using hx
  refine wpAny_BinOp (wpAny_Constant_int (wpAny_BinOp ?_))
  refine wpAny_Name (wpAny_loadName_local rfl rfl hn hm ?_)
  refine wpAny_Constant_int ?_
  walk1
  refine pow_int_small (by omega) (by omega) (by decide) ?_
  have hp := pow_ok (k := (e - 1).toNat) (by omega)
  refine floordiv_int hp.1 ?_ (Or.inl (PyProof.noPylong_small hp.2))
  refine wpAny_Constant_int ?_
  refine mod_int' (by decide) ?_
  refine wpAny_Constant_int ?_
  walk1
  walk1
  exact ⟨rfl, s.heap, _, rfl, fun _ _ e => e⟩
end
end Mine
end PartLw1
section PartLw2
open PySem PySem.W PyProof.Rows PySem.SeqAt PySem.Calls
open Sem (wp)
namespace Mine
section
variable {w : World} {mean : ExcName → Option Value} {mg mb : Str → Option Value} {dp un : Nat} {fr : Option (List Env)} {gd : Option (List Code)} {kind : Nat} {s : Shared} {tk : Tok} {x : Int} {L D l : Addr} {E : Value → Shared → Prop} {h₀ : Heap} {wv dv : Option Value} {ws : List Value} {ks : List Int}

theorem wish_asg {Q : Flow → Shared → Prop} (X : (hd.heap_39 w.params).In h₀) (T : Top hd.view_39 (looseW hd.view_39 []) mean mg mb h₀) (F : Fr h₀ L s.heap (lwMap wv dv l))
    (hcn : s.heap.IsCell (L + 1) (some (.ref D))) (hck : s.heap.IsCell (L + 1 + 1) (some (.int kind tk))) (hD : s.heap.IsList D ws.toArray) (hi : IntsAre ws ks) (hk : ks[kind]? = some x) (hkl : kind < 3)
    (h : ∀ B h' tk ys, s.heap.get? B = none → h'.PlainList B ys.toArray → IntsAre ys (nums17.filter (bitP x)) → Fr h₀ L h' (lwMap (some (.ref B)) dv l) → (∀ b o, b ≠ L → s.heap.get? b = some o → h'.get? b = some o) → Q .next { s with heap := h', toks := tk }) :
    wpAny (model Challenge.rw_oh0129_01.row.prog w) ⟨none, dp, fr, gd, un⟩ (exec lwAsg (lwEnv L)) Q E s := by
  show wpAny _ _ (exec (.Assign [.Name (Str.ofString "wished") _] (.ListComp (.Name (Str.ofString "e") _) [⟨.Name (Str.ofString "e") _, .Call (.Name (Str.ofString "range") _) [.Constant (.int 1) _ _, .Constant (.int 17) _ _] [] _, [compTest (asgValue lwAsg)], 0⟩] (compScope (asgValue lwAsg)) _) _) (lwEnv L)) _ _ _
  refine comp_assign (cl := lwCl L) (bitP x) rfl rfl (by decide) rfl (by decide) rfl rfl rfl rfl ?_ (fun _ => rfl)
  refine range17 X T F rfl rfl ?_
  intro h₁ I tk₁ hI hk₁ hI0 hIlt
  have hnew : ∀ b o, s.heap.get? b = some o → b ∉ [I] := fun b o e q => by rw [List.mem_singleton.mp q, hI0] at e; cases e
  obtain ⟨oL, _, _, hoL, _⟩ := id F.ns
  refine ⟨I, [I], nums17, lwMap wv dv l, rfl, ⟨?_, by decide, ?_⟩, hnew L oL hoL, F.ns.keeps hk₁, ?_⟩
  · obtain ⟨fp, P, St, W, hst, hfp, hP⟩ := walks17 (prog := Challenge.rw_oh0129_01.row.prog) (w := w) (A := { depth := dp, frames := fr, guards := gd, units := un : Around }) rfl I
    exact ⟨fp, P, St, W, hst _ hI, fun b hb => by rw [hfp b hb]; exact hIlt, hP⟩
  · intro C k t s₃ m₃ E' hC hkm hn hm hk₃
    have up : ∀ b o, s.heap.get? b = some o → s₃.heap.get? b = some o := fun b o e => hk₃ b o (hnew b o e) (hk₁ b o e)
    have hkk : 1 ≤ k ∧ k ≤ 16 := by
      simp only [nums17, List.mem_cons, List.not_mem_nil, or_false] at hkm
      omega
    exact wish_test hn hm (let ⟨o, ho, r⟩ := hcn; ⟨o, up _ o ho, r⟩) (let ⟨o, ho, r⟩ := hck; ⟨o, up _ o ho, r⟩) (hD.at fun o e => up _ o e) hi hk hkl hkk.1 hkk.2
  · intro B h' tk' ys hB0 hBp hys hns' hk'
    have up : ∀ b o, b ≠ L → s.heap.get? b = some o → h'.get? b = some o := fun b o hb e => hk' b o hb (hnew b o e) (hk₁ b o e)
    refine h B h' tk' ys ?_ hBp hys (Fr.to (m := fun z => if z = Str.ofString "wished" then some (.ref B) else lwMap wv dv l z) ⟨hns', fun b o e => up b o (Nat.ne_of_lt (Nat.lt_of_lt_of_le (Heap.lt_size e) F.above)) (F.keep b o e), F.above⟩ fun y => ?_) up
    · cases e : s.heap.get? B with
      | none => rfl
      | some o => have q : h₁.get? B = none := hB0; rw [hk₁ _ _ e] at q; cases q
    · by_cases e : y = Str.ofString "wished"
      · subst e; rfl
      · simp only [lwMap, if_neg e]

theorem ints_eqAt {A : Around} {a b : Addr} {us vs : List Value} {ns : List Int} (hu : A.units < cLine) (ha : s.heap.IsList a us.toArray) (hb : s.heap.IsList b vs.toArray) (h1 : IntsAre us ns) (h2 : IntsAre vs ns) : EqAt A s (.ref a) (.ref b) true := by
  by_cases hab : a = b
  · subst hab; exact EqAt.same _
  · refine EqAt.of_refs hab ?_
    have hl1 := h1.length
    have hl2 := h2.length
    have h := RcAt.lists (s := s) (A := A) (e := fun _ => true) ha hb (by simp; omega) hu (fun j j1 j2 => ?_)
    · rw [show (List.range us.toArray.size).all (fun _ => true) = true from by simp] at h
      exact h
    · simp only [List.size_toArray] at j1 j2
      obtain ⟨t1, e1⟩ := h1.get j ns[j] (by simp [show j < ns.length from by omega])
      obtain ⟨t2, e2⟩ := h2.get j ns[j] (by simp [show j < ns.length from by omega])
      have f1 : us[j] = .int ns[j] t1 := by rw [List.getElem?_eq_getElem j1] at e1; exact Option.some.inj e1
      have f2 : vs[j] = .int ns[j] t2 := by rw [List.getElem?_eq_getElem j2] at e2; exact Option.some.inj e2
      simp only [List.getElem_toArray]
      rw [f1, f2]
      have := EqAt.int_int (A := A.in1) (s := s) ns[j] t1 ns[j] t2
      rwa [beq_self_eq_true] at this

theorem tup_ne {A : Around} {a b a1 a2 b1 b2 : Addr} {u1 u2 v1 v2 : List Value} {n1 n2 : List Int} {Q : Value → Shared → Prop} (hu : A.units + 1 < cLine) (ha : s.heap.get? a = some (tupOf (.ref a1) (.ref a2))) (hb : s.heap.get? b = some (tupOf (.ref b1) (.ref b2)))
    (h1 : s.heap.IsList a1 u1.toArray) (h2 : s.heap.IsList a2 u2.toArray) (h3 : s.heap.IsList b1 v1.toArray) (h4 : s.heap.IsList b2 v2.toArray) (i1 : IntsAre u1 n1) (i2 : IntsAre u2 n2) (i3 : IntsAre v1 n1) (i4 : IntsAre v2 n2)
    (h : Q (.bool false) s) : wpAny (model Challenge.rw_oh0129_01.row.prog w) A (compareOp .NotEq (.ref a) (.ref b)) Q E s := by
  refine cmp_ofNotEq ?_
  refine RcNeAt.tuples (e := fun _ => true) ⟨_, ha, rfl, _, rfl⟩ ⟨_, hb, rfl, _, rfl⟩ (by omega) (fun j j1 j2 => ?_) _ _ _ _ h
  have hj : j = 0 ∨ j = 1 := by
    have : j < 2 := j1
    omega
  rcases hj with rfl | rfl
  · exact ints_eqAt (A := A.in1) hu h1 h3 i1 i3
  · exact ints_eqAt (A := A.in1) hu h2 h4 i2 i4
end
end Mine
end PartLw2
section PartLw3
open PySem PySem.W PyProof.Rows PySem.SeqAt PySem.Calls
open Sem (wp)
namespace Mine
section
variable {w : World} {mean : ExcName → Option Value} {mg mb : Str → Option Value} {dp un : Nat} {fr : Option (List Env)} {gd : Option (List Code)} {kind : Nat} {s : Shared} {tk : Tok} {L D l B : Addr} {E : Value → Shared → Prop} {h₀ : Heap} {wv dv : Option Value} {ys : List Value} {q : Int → Bool}

theorem lw_cond {Q : Bool → Shared → Prop} (X : (hd.heap_39 w.params).In h₀) (T : Top hd.view_39 (looseW hd.view_39 []) mean mg mb h₀) (hdp : dp + 50 < recursionLimit) (hu : un + 120 < cLine) (F : Fr h₀ L s.heap (lwMap (some (.ref B)) dv l))
    (hck : s.heap.IsCell (L + 1 + 1) (some (.int kind tk))) (hB : s.heap.PlainList B ys.toArray) (hi : IntsAre ys (wsh q)) (hkl : kind < 3) (hbare : AllBare s.gens)
    (h : ∀ h' tk gs, (∀ b o, s.heap.get? b = some o → h'.get? b = some o) → AllBare gs → Q false { s with heap := h', toks := tk, gens := gs }) :
    wpAny (model Challenge.rw_oh0129_01.row.prog w) ⟨none, dp, fr, gd, un⟩ (isTrue (ifTest lwIf) (lwEnv L) (eval (ifTest lwIf) (lwEnv L))) Q E s := by
  revert X
  k_fill
  intro X
  show wpAny _ _ (isTrue (.Compare (.Call (.Name (Str.ofString "_law_laid") _) [.Name (Str.ofString "wished") _, .Name (Str.ofString "kind") _] [] _) [.NotEq] [.Tuple [.Name (Str.ofString "wished") _, .Call (.Name (Str.ofString "_law_due") _) [.Name (Str.ofString "wished") _, .Name (Str.ofString "kind") _] [] _] _ _] _) _ _) _ _ _
  have hns : ∀ e ∈ wsh q, 1 ≤ e ∧ e ≤ 16 := fun e he => by
    have := (List.mem_filter.mp he).1
    simp only [nums17, List.mem_cons, List.not_mem_nil, or_false] at this
    omega
  have hsm : (wsh q).length ≤ 100 := Nat.le_trans (List.length_filter_le _ _) (by decide)
  have N : News h₀ L s.heap [] := .nil
  refine wpAny_isTrue_Compare1 (Call_ ?_)
  refine nameX_K F X (topRead_of T) (by k_is) ?_ rfl rfl
  walk1
  walk1
  refine nameX_L F (x := Str.ofString "wished") (v := .ref B) rfl ?_ rfl rfl rfl
  walk1
  refine wpAny_Name (wpAny_loadName_cell rfl rfl rfl hck ?_)
  walk1
  refine ⟨X.keeps F.keep, ?_⟩
  show wpAny _ _ (call (.ref 33) [.ref B, .int kind tk]) _ _ _
  refine wpAny_call (codeAny_mono (laid_spec hkl (X.keeps F.keep) (T.keeps F.keep) (by omega) hB.isList hi hbare) ?_)
  rintro r s' ⟨bt, b1, b2, h₁, tk₁, gs, vs1, vs2, rfl, rfl, hk₁, ht, h1, hi1, h2, hi2, hb₁⟩
  rw [lit_wished hkl q] at hi1
  rw [laid_due hkl q 16 (Nat.le_refl _)] at hi2
  dsimp only
  have F₁ : Fr h₀ L h₁ (lwMap (some (.ref B)) dv l) := ⟨F.ns.keeps hk₁, fun b o e => hk₁ b o (F.keep b o e), F.above⟩
  have hck₁ : h₁.IsCell (L + 1 + 1) (some (.int kind tk)) := let ⟨o, ho, r⟩ := hck; ⟨o, hk₁ _ o ho, r⟩
  have hB₁ : h₁.PlainList B ys.toArray := hB.at fun o e => hk₁ _ o e
  have N₁ : News h₀ L h₁ [] := .nil
  refine Tuple_ ?_
  walk1
  refine nameX_L (s := { s with heap := h₁, toks := tk₁, gens := gs }) F₁ (x := Str.ofString "wished") (v := .ref B) rfl ?_ rfl rfl rfl
  walk1
  refine Call_ ?_
  refine nameX_K (s := { s with heap := h₁, toks := tk₁, gens := gs }) F₁ X (topRead_of T) (by k_is) ?_ rfl rfl
  walk1
  walk1
  refine nameX_L (s := { s with heap := h₁, toks := tk₁, gens := gs }) F₁ (x := Str.ofString "wished") (v := .ref B) rfl ?_ rfl rfl rfl
  walk1
  refine wpAny_Name (wpAny_loadName_cell rfl rfl rfl hck₁ ?_)
  walk1
  refine ⟨X.keeps F₁.keep, ?_⟩
  show wpAny _ _ (call (.ref 43) [.ref B, .int kind tk]) _ _ _
  refine wpAny_call (codeAny_mono (due_spec (s := { s with heap := h₁, toks := _, gens := gs }) (X.keeps F₁.keep) (T.keeps F₁.keep) (by omega) (by omega) hB₁.isList hi hns hsm) ?_)
  rintro r s' ⟨bd, h₂, tk₂, vsd, rfl, rfl, hk₂, hbd0, hbd, hid⟩
  dsimp only
  walk1
  refine wpAny_newObj_type ?_ (by size_fits)
  refine tup_ne (s := { s with heap := h₂.push _, toks := _, gens := gs }) (a := bt) (a1 := b1) (a2 := b2) (b1 := B) (b2 := bd) (by show un + 1 < cLine; omega) (Heap.get?_push_of_some _ (hk₂ _ _ ht)) (Heap.get?_push_size _ rfl) ((h1.at fun o e => hk₂ _ o e).isList.push _) ((h2.at fun o e => hk₂ _ o e).isList.push _) ((hB₁.at fun o e => hk₂ _ o e).isList.push _) (hbd.isList.push _) hi1 hi2 hi hid ?_
  refine wpAny_truthy_bool ?_
  exact h _ _ gs (fun b o e => Heap.get?_push_of_some _ (hk₂ _ _ (hk₁ _ _ e))) hb₁
end
end Mine
end PartLw3
section PartLw4
open PySem PySem.W PyProof.Rows PySem.SeqAt PySem.Calls
open Sem (wp)
namespace Mine
section
variable {w : World} {mean : ExcName → Option Value} {mg mb : Str → Option Value} {dp un : Nat} {fr : Option (List Env)} {gd : Option (List Code)} {kind : Nat} {s : Shared} {tk : Tok} {L D l I : Addr} {E : Value → Shared → Prop} {h₀ : Heap} {dv : Option Value} {ws : List Value} {ks : List Int}

theorem range3 {A : Around} {f : Addr} {cn : Str} {cs : Scope} {ccd : Value} {cl : List (Str × Addr)} {m : Str → Option Value} {p1 p2 p4 : Pos} {k1 : Nat} {Q : Value → Shared → Prop}
    (X : (hd.heap_39 w.params).In h₀) (T : Top hd.view_39 (looseW hd.view_39 []) mean mg mb h₀) (F : Fr h₀ L s.heap m) (hk : cs.kind = .function) (hx : (envX cn cs L f ccd cl).kindOf (Str.ofString "range") = some .globalImplicit)
    (h : ∀ h' I tk, IsRangeIter h' I 0 3 1 → (∀ b o, s.heap.get? b = some o → h'.get? b = some o) → s.heap.get? I = none → Q (.ref I) { s with heap := h', toks := tk }) :
    wpAny (model Challenge.rw_oh0129_01.row.prog w) A (eval (.Call (.Name (Str.ofString "range") p1) [.Constant (.int 3) k1 p2] [] p4) (envX cn cs L f ccd cl)) (fun x s₁ => wpAny (model Challenge.rw_oh0129_01.row.prog w) A (pyIter x) Q E s₁) E s := by
  revert X
  k_fill
  intro X
  have N : News h₀ L s.heap [] := .nil
  walk1
  refine nameX_B F X (topRead_of T) (by k_is) (by boot_by_name) (by decide) ?_ hk hx
  walk1
  walk1
  walk1
  walk1
  walk1
  rename IsRange _ _ _ _ _ _ _ _ => hR
  rename ∀ b o, _ → _ => hkp
  refine wpAny_pyIter_range hR (by decide) ?_
  refine h _ _ _ (Heap.get?_push_size _ rfl) (fun b o e => Heap.get?_push_of_some _ (hkp b o e)) ?_
  have hlt := Heap.lt_size hR
  dsimp only at hlt ⊢
  cases e : s.heap.get? _ with
  | none => rfl
  | some o => exact absurd (Heap.lt_size e) (Nat.not_lt.mpr (Nat.le_of_lt hlt))

structure LwAt (h₀ : Heap) (L D l I : Addr) (ws : List Value) (kv : Option Value) (h : Heap) : Prop where
  fr : ∃ wv dv, Fr h₀ L h (lwMap wv dv l)
  nums : h.IsCell (L + 1) (some (.ref D))
  kind : h.IsCell (L + 1 + 1) kv
  list : h.IsList D ws.toArray

theorem lw_turn {oI : Obj} {Q : Flow → Shared → Prop} (X : (hd.heap_39 w.params).In h₀) (T : Top hd.view_39 (looseW hd.view_39 []) mean mg mb h₀) (hdp : dp + 50 < recursionLimit) (hu : un + 120 < cLine)
    (S : LwAt h₀ L D l I ws (some (.int kind tk)) s.heap) (hI : s.heap.get? I = some oI) (hIL : I ≠ L) (hDL : D ≠ L) (hi : IntsAre ws ks) (hks : ks.length = 3) (hkl : kind < 3) (hbare : AllBare s.gens)
    (h : ∀ h' tk' gs, LwAt h₀ L D l I ws (some (.int kind tk)) h' → h'.get? I = some oI → AllBare gs → Q .next { s with heap := h', toks := tk', gens := gs }) :
    wpAny (model Challenge.rw_oh0129_01.row.prog w) ⟨none, dp, fr, gd, un⟩ (execs (forBody lwFor) (lwEnv L)) Q E s := by
  obtain ⟨⟨wv, dv, F⟩, hcn, hck, hD⟩ := S
  obtain ⟨x, hx⟩ : ∃ x, ks[kind]? = some x := ⟨ks[kind]'(by omega), by simp⟩
  show wpAny _ _ (execs [lwAsg, .If (ifTest lwIf) (ifBody lwIf) [] _] (lwEnv L)) _ _ _
  refine wpAny_execs_cons ?_
  refine wish_asg X T F hcn hck hD hi hx hkl fun B h₁ tk₁ ys hB0 hB hys F₁ hk₁ => ?_
  dsimp only
  have hLL : L + 1 + 1 ≠ L := Nat.ne_of_gt (Nat.lt_succ_of_lt (Nat.lt_succ_self L))
  have hck₁ : h₁.IsCell (L + 1 + 1) (some (.int kind tk)) := let ⟨o, ho, r⟩ := hck; ⟨o, hk₁ _ o hLL ho, r⟩
  have hcn₁ : h₁.IsCell (L + 1) (some (.ref D)) := let ⟨o, ho, r⟩ := hcn; ⟨o, hk₁ _ o (Nat.succ_ne_self L) ho, r⟩
  refine wpAny_execs_cons (wpAny_If ?_)
  refine lw_cond (s := { s with heap := h₁, toks := tk₁ }) X T hdp hu F₁ hck₁ hB hys hkl hbare fun h₂ tk₂ gs hk₂ hb₂ => ?_
  rw [if_neg Bool.false_ne_true]
  refine wpAny_execs_nil ?_
  dsimp only
  refine wpAny_execs_nil (h h₂ tk₂ gs ⟨⟨_, _, F₁.ns.keeps hk₂, fun b o e => hk₂ b o (F₁.keep b o e), F₁.above⟩, ?_, ?_, ?_⟩ (hk₂ _ _ (hk₁ _ _ hIL hI)) hb₂)
  · exact let ⟨o, ho, r⟩ := hcn₁; ⟨o, hk₂ _ o ho, r⟩
  · exact let ⟨o, ho, r⟩ := hck₁; ⟨o, hk₂ _ o ho, r⟩
  · exact hD.at fun o e => hk₂ _ o (hk₁ _ o hDL e)

theorem lw_loop {R : Result → Shared → Prop} {kv : Option Value} (X : (hd.heap_39 w.params).In h₀) (T : Top hd.view_39 (looseW hd.view_39 []) mean mg mb h₀) (hdp : dp + 50 < recursionLimit) (hu : un + 120 < cLine)
    (S : LwAt h₀ L D l I ws kv s.heap) (hI : IsRangeIter s.heap I 0 3 1) (hIL : I ≠ L) (hDL : D ≠ L) (hI1 : I ≠ L + 1) (hI2 : I ≠ L + 1 + 1) (hID : I ≠ D) (hD2 : D ≠ L + 1 + 1) (hI0 : h₀.get? I = none) (hc0 : h₀.get? (L + 1 + 1) = none) (hi : IntsAre ws ks) (hks : ks.length = 3) (hbare : AllBare s.gens)
    (fin : ∀ h' tk gs kv', LwAt h₀ L D l I ws kv' h' → AllBare gs → R (.ok .next) { s with heap := h', toks := tk, gens := gs }) :
    codeAny (model Challenge.rw_oh0129_01.row.prog w) ⟨none, dp, fr, gd, un⟩ (.forLoop (forTarget lwFor) (.ref I) (forBody lwFor) [] (lwEnv L)) R s := by
  refine codeAny_forLoop (I := fun k s' => ∃ h tk gs kv i, s' = { s with heap := h, toks := tk, gens := gs } ∧ k = 4 - i ∧ i ≤ 3 ∧ LwAt h₀ L D l I ws kv h ∧ IsRangeIter h I (i : Nat) (3 - (i : Nat)) 1 ∧ AllBare gs) ?_ 4
    ⟨s.heap, s.toks, s.gens, kv, 0, rfl, rfl, by omega, S, by simpa using hI, hbare⟩ (fun _ => rfl)
  rintro k s' ⟨h, tk, gs, kv, i, rfl, rfl, hi3, S, hI, hbare⟩
  have hLL : L + 1 + 1 ≠ L := Nat.ne_of_gt (Nat.lt_succ_of_lt (Nat.lt_succ_self L))
  have hLL2 : L + 1 ≠ L + 1 + 1 := Nat.ne_of_lt (Nat.lt_succ_self (L + 1))
  by_cases hlt : i < 3
  · refine wpAny_pyNext_range_item hI (by omega) fun h₁ hI₁ hs₁ => ?_
    obtain ⟨⟨wv, dv, F⟩, hcn, hck, hD⟩ := S
    have F1 : Fr h₀ L h₁ (lwMap wv dv l) := ⟨F.ns.sameBut hs₁ (Ne.symm hIL), fun b o e => hs₁.extBut b o (fun q => by rw [q, hI0] at e; cases e) (F.keep b o e), F.above⟩
    have hck1 : h₁.IsCell (L + 1 + 1) kv := let ⟨o, ho, r⟩ := hck; ⟨o, hs₁.extBut _ o (Ne.symm hI2) ho, r⟩
    show wpAny _ _ (assign (.Name (Str.ofString "kind") _) (lwEnv L) (.int (i : Nat) tk)) _ _ _
    refine wpAny_assign_Name (wpAny_storeName_cell rfl rfl rfl hck1 fun h₂ hck₂ hs₂ => ?_)
    have F2 : Fr h₀ L h₂ (lwMap wv dv l) := ⟨F1.ns.sameBut hs₂ (Ne.symm hLL), fun b o e => hs₂.extBut b o (fun q => by rw [q, hc0] at e; cases e) (F1.keep b o e), F1.above⟩
    have hcn2 : h₂.IsCell (L + 1) (some (.ref D)) := let ⟨o, ho, r⟩ := hcn; ⟨o, hs₂.extBut _ o hLL2 (hs₁.extBut _ o (Ne.symm hI1) ho), r⟩
    have hDl : h₂.IsList D ws.toArray := (hD.extBut hs₁.extBut (Ne.symm hID)).extBut hs₂.extBut hD2
    have hI2' : IsRangeIter h₂ I ((i : Nat) + 1) (3 - (i : Nat) - 1) 1 := hs₂.extBut _ _ hI2 hI₁
    refine lw_turn (s := { s with heap := h₂, toks := _, gens := gs }) (ws := ws) (I := I) X T hdp hu ⟨⟨wv, dv, F2⟩, hcn2, hck₂, hDl⟩ hI2' hIL hDL hi hks hlt hbare fun h₃ tk₃ gs₃ S₃ hI₃ hb₃ => ?_
    refine ⟨4 - (i + 1), by omega, h₃, tk₃, gs₃, _, i + 1, rfl, rfl, hlt, S₃, ?_, hb₃⟩
    have e1 : ((i + 1 : Nat) : Int) = (i : Nat) + 1 := by omega
    have e2 : (3 : Int) - ((i + 1 : Nat) : Int) = 3 - (i : Nat) - 1 := by omega
    rw [e2, e1]; exact hI₃
  · refine wpAny_pyNext_range_end rfl hI (by omega) fun h₁ he₁ => ?_
    refine wpAny_execs_nil (fin h₁ tk gs kv ?_ hbare)
    obtain ⟨⟨wv, dv, F⟩, hcn, hck, hD⟩ := S
    refine ⟨⟨wv, dv, F.ns.extBut he₁ (Ne.symm hIL), fun b o e => he₁ b o (fun q => by rw [q, hI0] at e; cases e) (F.keep b o e), F.above⟩, ?_, ?_, hD.extBut he₁ (Ne.symm hID)⟩
    · exact let ⟨o, ho, r⟩ := hcn; ⟨o, he₁ _ o (Ne.symm hI1) ho, r⟩
    · exact let ⟨o, ho, r⟩ := hck; ⟨o, he₁ _ o (Ne.symm hI2) ho, r⟩
end
end Mine
end PartLw4
section PartLw5
open PySem PySem.W PyProof.Rows PySem.SeqAt PySem.Calls
open Sem (wp)
namespace Mine
section
variable {w : World} {mean : ExcName → Option Value} {mg mb : Str → Option Value} {dp un : Nat} {fr : Option (List Env)} {gd : Option (List Code)} {l : Addr} {vs : List Value} {ns : List Int} {s : Shared}

theorem law_spec (X : (hd.heap_39 w.params).In s.heap) (T : Top hd.view_39 (looseW hd.view_39 []) mean mg mb s.heap) (hdp : dp + 60 < recursionLimit) (hu : un + 130 < cLine) (hl : s.heap.IsList l vs.toArray) (hi : IntsAre vs ns) (hlen : ns.length ≤ 63) (hb : AllBare s.gens) :
    codeAny (model Challenge.rw_oh0129_01.row.prog w) ⟨none, dp, fr, gd, un⟩ (.call (.ref 48) ⟨[.ref l], []⟩) (fun r s' => ∃ h' tk gs, r = .ok (.ret (.bool true)) ∧ s' = { s with heap := h', toks := tk, gens := gs } ∧
      (∀ b o, s.heap.get? b = some o → h'.get? b = some o) ∧ AllBare gs) s := by
  revert X
  k_fill
  intro X
  refine enter_defC X T.nolimit (by show dp < _; omega) (by k_is) (by k_is) (binds := [(Str.ofString "script", .ref l)]) (BindsTo.of_eq rfl) rfl ?_ rfl rfl rfl
  intro L h₁ tk hL F hC hPw hab
  have hck : h₁.IsCell (L + 1 + 1) none := hC (Str.ofString "kind") (L + 1 + 1) rfl
  have hcn : h₁.IsCell (L + 1) none := hC (Str.ofString "numbers") (L + 1) rfl
  have F0 : Fr s.heap L h₁ (fun y => if y = Str.ofString "script" then some (.ref l) else none) := F
  clear hC hPw hab F
  have fresh : ∀ a, L ≤ a → s.heap.get? a = none := fun a ha => by
    cases e : s.heap.get? a with
    | none => rfl
    | some o => exact absurd (Heap.lt_size e) (by rw [← hL]; exact Nat.not_lt.mpr ha)
  obtain ⟨ok, hok, hokd⟩ := hck
  obtain ⟨on, hon, hond⟩ := hcn
  have N : News s.heap L h₁ [(L + 1 + 1, ok), (L + 1, on)] := fun p hp => by
    simp only [List.mem_cons, List.not_mem_nil, or_false] at hp
    rcases hp with rfl | rfl
    · exact ⟨hok, Nat.ne_of_gt (Nat.lt_succ_of_lt (Nat.lt_succ_self L)), fresh _ (Nat.le_succ_of_le (Nat.le_succ L))⟩
    · exact ⟨hon, Nat.succ_ne_self L, fresh _ (Nat.le_succ L)⟩
  show wpAny _ _ (execs [_, _, _, _] (lwEnv L)) _ _ _
  repeat' ((fail_if_success (with_reducible show wpAny _ _ (subscriptTail (PySem.Expr.List _ _) _ _ _) _ _ _)); (first | (k_unfold; (try dsimp only)) | walk1 | (dsimp only; walk1)))
  k_dflt (refine kba_turn (value' := PySem.Expr.Name (PySem.Str.ofString "_") ⟨0, 0, 0, 0⟩) (fun _ => rfl) ?_)
  k_dflt (refine' kmk_slice_ints ?slF ?slN ?sll ?slp ?slq ?sli ?slm ?slc ?_ ?sls ?slt ?slz; (case slF => k_asm); (case slN => k_asm); (case sll => kmk_list); (case slp => kmk_part); (case slq => kmk_part); (case sli => l_ints); (case slm => exact kmk_from (by l_ints) (by omega)); (case slc => kmk_len); (case sls => with_unfolding_all rfl); (case slt => kmk_pure); (case slz => kmk_size))
  intro D' ws' h' F' N' l1 hI' hC' hL'
  k_lt l1
  repeat' ((fail_if_success (with_reducible show wpAny _ _ (exec (Stmt.For _ _ _ _ _) _) _ _ _)); (first | (k_unfold; (try dsimp only)) | walk1 | (dsimp only; walk1)))
  rename Fr _ _ _ _ => F'
  rename News _ _ _ _ => N'
  rename Obj.data _ = Data.cell (some _) => hod
  rename IntsAre _ (_ ++ _) => hws
  rename_i D ws _ l1 hc o'
  have F1 : ∃ dv, Fr s.heap L hc (lwMap none dv l) := ⟨_, Fr.to F' (m' := lwMap none (some (.ref _)) l) fun y => by
    by_cases e1 : y = Str.ofString "drawn"
    · subst e1; rfl
    · rw [if_neg e1]
      by_cases e2 : y = Str.ofString "script"
      · subst e2; rfl
      · simp only [lwMap, if_neg e1, if_neg e2, ite_self]⟩
  obtain ⟨dv, F1⟩ := F1
  have hDD := N' (D, W.listOf ws.toArray 0) (.head _)
  have hkk := N' (L + 1 + 1, ok) (.tail _ (.tail _ (.tail _ (.tail _ (.tail _ (.head _))))))
  have hnn := N' (L + 1, o') (.tail _ (.tail _ (.tail _ (.tail _ (.tail _ (.tail _ (.head _)))))))
  dsimp only at hDD hkk hnn
  have hks : (List.map (fun k' : Int => Int.fmod k' 65536) (List.take 3 ns) ++ List.drop (((List.map (fun k' : Int => Int.fmod k' 65536) (List.take 3 ns)).length : Nat) : Int).toNat [1, 9, 3]).length = 3 := by
    simp only [List.length_append, List.length_map, List.length_take, List.length_drop, List.length_cons, List.length_nil, Int.toNat_natCast]
    omega
  refine wpAny_For ?_ (fun _ => rfl)
  refine range3 X T F1 rfl rfl ?_
  intro h₂ I tk₂ hI hk₂ hI0
  have hI0' : hc.get? I = none := hI0
  have Ine : ∀ a o, hc.get? a = some o → I ≠ a := fun a o e q => by rw [q, e] at hI0'; cases hI0'
  obtain ⟨oL, _, _, hoL, _⟩ := id F1.ns
  refine lw_loop (s := { s with heap := h₂, toks := tk₂ }) (kv := none) X T (by show dp + 1 + 50 < _; omega) (by show un + 3 + 120 < _; omega) ⟨⟨none, dv, F1.ns.keeps hk₂, fun b o e => hk₂ b o (F1.keep b o e), F1.above⟩, ⟨o', hk₂ _ _ hnn.1, hod⟩, ⟨ok, hk₂ _ _ hkk.1, hokd⟩, ⟨_, hk₂ _ _ hDD.1, rfl, _, rfl⟩⟩ hI
    (Ine _ _ hoL) hDD.2.1 (Ine _ _ hnn.1) (Ine _ _ hkk.1) (Ine _ _ hDD.1) (Nat.ne_of_gt l1.2.2.2.2.1) ?_ hkk.2.2 hws hks hb ?_
  · cases e : s.heap.get? I with
    | none => rfl
    | some o => exact absurd rfl (Ine I o (F1.keep _ _ e))
  · rintro h₃ tk₃ gs kv' ⟨⟨wv, dv', F3⟩, _, _, _⟩ hb₃
    dsimp only
    walk1
    walk1
    walk1
    exact ⟨h₃, _, gs, rfl, rfl, F3.keep, hb₃⟩
end
end Mine
end PartLw5
section PartFin1
open PySem PySem.W PyProof.Rows PySem.SeqAt PySem.Calls
open Sem (wp)
theorem PySem.Challenge.cw_oh0129_01_holds : PySem.Challenge.rw_oh0129_01.Holds := by
  refine Mine.hd ?_
  k_fill
  intro w s₀ s₁ mg mb G Y fa o pm cd doc dV kV ho hd hcd hD hmg hg args vals as hpre hlay hrd hwl hlo
  have KX := kIn_of Y
  refine Ground.open G ?_
  intro T B D TE TW
  clear Y G B D TE TW
  wrow_args hpre hlay hrd hwl hlo
  have hlaw : mg (Str.ofString "law") = some (.ref 48) := mg_of KX T.g (by k_is)
  have hmg' : mg (Str.ofString "law") = some (.ref fa) := hmg
  rw [hlaw] at hmg'
  cases hmg'
  clear ho hd hcd hD hmg
  rename Heap.IsList _ _ _ => hL
  rename IntsAre _ _ => hI
  rename ¬ (((63 : Nat) : Int) < _) => hlen
  show wpAny _ ⟨none, 1 + claimMargin, some [], some [], 4⟩ (call (.ref 48) [.ref _]) _ _ _
  refine wpAny_call (codeAny_mono (Mine.law_spec KX T (by decide) (by decide) hL hI (by omega) (hg ▸ AllBare.empty)) ?_)
  rintro r s' ⟨h', tk, gs, rfl, rfl, hk, hb⟩
  refine ⟨.inl ⟨.bool true, .bool true, [], rfl, fun _ => rfl, .bool _, ?_, fun _ => ⟨.nil, fun _ ha => nomatch ha⟩⟩, .of_keep hk, rfl, hb⟩
  exact postW_of (r := PySem.Challenge.rw_oh0129_01.row.toRowW) (by decide) (w_eq_bool (w_res rfl) w_lit) rfl
end PartFin1
