import PyProof.Rows.All
import Wide.All
import OpenK.AllK
import Wide.FinOn
import PySem.Challenge.RW_rs0122_01
set_option Elab.async false
set_option linter.unusedVariables false
set_option linter.unusedSimpArgs false
section
namespace Mine
open PySem PySem.W PyProof.Rows

noncomputable def topRunT (tb : String → Option Builtin) (p : Program) (w : World) (n₀ : Nat) (ann : Option Value) : Nat → SharedT → Thread → Option SharedT
  | 0, _, _ => none
  | n + 1, s, t => match through t with
    | true => some s
    | false => match stepOk n₀ ann t with
      | false => none
      | true => match stepT (denote tb) p w s t with
        | some (s', t') => topRunT tb p w n₀ ann n s' t'
        | none => none
theorem topRun_of {tb : String → Option Builtin} {p : Program} {w : World} {n₀ : Nat} {ann : Option Value} : ∀ {n : Nat} {s s' : SharedT} {t : Thread}, topRunT tb p w n₀ ann n s t = some s' → topRun tb p w n₀ ann n s.abs t = some s'.abs
  | 0, _, _, _, h => by cases h
  | n + 1, s, s', t, h => by
    unfold topRunT at h
    unfold topRun
    cases he : through t with
    | true => rw [he] at h; cases h; rfl
    | false =>
      rw [he] at h
      cases hk : stepOk n₀ ann t with
      | false => rw [hk] at h; cases h
      | true =>
        rw [hk] at h
        cases hs : stepT (denote tb) p w s t with
        | none => rw [hs] at h; cases h
        | some r => obtain ⟨s₂, t₂⟩ := r; rw [hs] at h; dsimp only; rw [stepT_spec hs]; exact topRun_of h
noncomputable def bt (l : List Obj) : Nat → Nat → Nat → BT
  | 0, _, _ => .nil
  | f + 1, a, b => match l[b]? with
    | some o => .node o (bt l f (2 * a) (a + b)) (bt l f (2 * a) (2 * a + b))
    | none => .nil
noncomputable def bootT (P : Params) : BT := bt (boot_heap P).objs.toList 5 1 0
theorem boot_abs (P : Params) : absHeap (bootT P) 11 (boot_heap P).life = boot_heap P := by kernel_rfl

/-- the looks at the state behind the top -/
noncomputable def chkNB (h : Heap) : Bool := match h.get? cStatics with
  | some ⟨_, _, .dict es _, _⟩ => (nsFind es sharingNotToldKey).isNone
  | _ => false
noncomputable def chkFn (h : Heap) (x : Str) (c : Addr) : Bool := match h.get? mainGlobals with
  | some ⟨_, _, .dict es _, _⟩ => (match nsFind es x with
    | some (.ref a) => (match h.get? a with
      | some ⟨_, _, .func fd, _⟩ => (match fd.code with | .ref c' => c' == c | _ => false)
      | _ => false)
    | _ => false)
  | _ => false
noncomputable def chkCode (h : Heap) (c P : Addr) : Bool := match h.get? c with
  | some ⟨.type "code", _, .fields vs, _⟩ => (match (vs[11]? : Option Value) with | some (.ref P') => P' == P | _ => false) &&
      (match vs.getD 18 .none with | .str _ _ => true | _ => false) && (match vs.getD 7 .none with | .int _ _ => true | _ => false) &&
      (match vs.getD 9 .none with | .bool _ => true | _ => false) && (match vs.getD 10 .none with | .int _ _ => true | _ => false) && c != P
  | _ => false
noncomputable def chkTab (h : Heap) (P : Addr) : Bool := match h.get? P with
  | some ⟨.none, none, .fields vs, sl⟩ => vs.isEmpty && sl.isEmpty
  | _ => false
noncomputable def chkAll (h : Heap) : Bool := chkNB h && (chkFn h "_int2digits" 34 && (chkFn h "_digits2int" 41 && (chkCode h 34 30 && (chkCode h 41 37 && (chkTab h 30 && chkTab h 37)))))

theorem chkCode_of {h : Heap} {c P : Addr} (e : chkCode h c P = true) : CodeHd h c P := by
  unfold chkCode at e
  split at e
  · rename_i vs _ hk
    simp only [Bool.and_eq_true] at e
    obtain ⟨⟨⟨⟨⟨e1, e2⟩, e3⟩, e4⟩, e5⟩, e6⟩ := e
    have hne : c ≠ P := fun q => by rw [q] at e6; simp at e6
    split at e1
    · rename_i P' h11
      have hP : P' = P := beq_iff_eq.mp e1
      subst hP
      split at e2
      · rename_i f tf h18
        split at e3
        · rename_i fl tg h7
          split at e4
          · rename_i b h9
            split at e5
            · rename_i n tt h10
              exact ⟨_, vs, f, tf, fl, tg, b, n, tt, hk, rfl, rfl, h11, by rw [Array.getD_eq_getD_getElem?, h11]; rfl, h18, h7, h9, h10, hne⟩
            · cases e5
          · cases e4
        · cases e3
      · cases e2
    · cases e1
  · cases e
noncomputable def FnAt (h : Heap) (x : Str) (c : Addr) : Prop := ∃ om es ep a o fd, h.get? mainGlobals = some om ∧ om.data = .dict es ep ∧ nsFind es x = some (.ref a) ∧ h.get? a = some o ∧ o.data = .func fd ∧ fd.code = .ref c
theorem chkFn_of {h : Heap} {x : Str} {c : Addr} (e : chkFn h x c = true) : FnAt h x c := by
  unfold chkFn at e
  split at e
  · rename_i es ep _ hm
    split at e
    · rename_i a ha
      split at e
      · rename_i fd _ ho
        split at e
        · rename_i c' hc
          have := eq_of_beq e
          subst this
          exact ⟨_, es, ep, a, _, fd, hm, rfl, ha, ho, rfl, hc⟩
        · cases e
      · cases e
    · cases e
  · cases e
theorem chkTab_of {h : Heap} {P : Addr} (e : chkTab h P = true) : h.get? P = some (tabObj #[]) := by
  unfold chkTab at e
  split at e
  · rename_i vs sl hk
    rw [Bool.and_eq_true] at e
    rw [hk, Array.isEmpty_iff.mp e.1, Array.isEmpty_iff.mp e.2]
  · cases e
noncomputable def NbAt (h : Heap) : Prop := ∃ o es ep, h.get? cStatics = some o ∧ o.data = .dict es ep ∧ nsFind es sharingNotToldKey = none
theorem chkNB_of {h : Heap} (e : chkNB h = true) : NbAt h := by
  unfold chkNB at e
  split at e
  · rename_i es ep _ hk
    exact ⟨_, es, ep, hk, rfl, Option.isNone_iff_eq_none.mp e⟩
  · cases e
abbrev tabs2 : List (Addr × Addr) := [(41, 37), (34, 30)]
structure HeadOk (h : Heap) : Prop where
  nb : NbAt h
  f0 : FnAt h "_int2digits" 34
  f1 : FnAt h "_digits2int" 41
  tabs : TabsAt tabs2 h
theorem HeadOk.of {h : Heap} (e : chkAll h = true) : HeadOk h := by
  unfold chkAll at e
  simp only [Bool.and_eq_true] at e
  obtain ⟨e1, e2, e3, e4, e5, e6, e7⟩ := e
  refine ⟨chkNB_of e1, chkFn_of e2, chkFn_of e3, fun q hq => ?_⟩
  rcases List.mem_cons.mp hq with rfl | hq
  · exact ⟨chkCode_of e5, chkTab_of e7⟩
  · rcases List.mem_cons.mp hq with rfl | hq
    · exact ⟨chkCode_of e4, chkTab_of e6⟩
    · cases hq
theorem HeadOk.keeps {h h' : Heap} (x : HeadOk h) (k : ∀ b o, h.get? b = some o → h'.get? b = some o) : HeadOk h' where
  nb := let ⟨o, es, ep, a, r⟩ := x.nb; ⟨o, es, ep, k _ _ a, r⟩
  f0 := let ⟨om, es, ep, a, o, fd, h1, h2, h3, h4, r⟩ := x.f0; ⟨om, es, ep, a, o, fd, k _ _ h1, h2, h3, k _ _ h4, r⟩
  f1 := let ⟨om, es, ep, a, o, fd, h1, h2, h3, h4, r⟩ := x.f1; ⟨om, es, ep, a, o, fd, k _ _ h1, h2, h3, k _ _ h4, r⟩
  tabs := fun q hq => ⟨(x.tabs q hq).1.keeps k, k _ _ (x.tabs q hq).2⟩
noncomputable def myHook : Hook where
  α := Bool
  obs := fun s => chkAll s.heap
  val := fun _ => true
  says := fun _ h => HeadOk h
  of := fun _ _ e => HeadOk.of e
  keeps := fun _ _ _ x k => x.keeps k

theorem boot_size1 (P : Params) : ((boot_heap P).isNs mainGlobals && (#[] : Array GenState).size == 0) = true := by kernel_rfl
theorem boot_size2 (P : Params) : (boot_heap P).objs.size = 11 := by kernel_rfl
theorem boot_size3 (P : Params) : (boot_heap P).nsMap mainGlobals "__annotations__" = some (.ref 6) := by kernel_rfl
noncomputable def lookL (p q : Program) (r : RowW) (P : Params) (s : Shared) :=
  ((staticsOk (importedModules p.main.body) (boot_heap P) s.heap && namesBound p s.heap && gensDone s && laidKept (boot_heap P) s.heap), openSeen q [] (importedModules p.main.body) (fun s => xlAt q [] s && recOk r.records s) true s, myHook.obs s)
noncomputable def runG (p : Program) (w : World) (os : OsState) : Option SharedT :=
  topRunT treeTable p w 11 (some (.ref 6)) 600 ⟨bootT w.params, 11, (boot_heap w.params).life, #[], boot_drawn, boot_toks, os⟩ (topStub p)
noncomputable def seenG (p q : Program) (r : RowW) (w : World) (os : OsState) := (runG p w os).map fun s => lookL p q r w.params s.abs

theorem left_of {p q : Program} {r : RowW} (ho : opening p = plainProg p.main.scope.names) (hf : ∀ s, fenceModules? p s = some s)
    (h : ∀ w, (fun os => seenG p q r w os) = fun _ => some (true, openGood q [], myHook.val w)) : LeftO p q [] (fun s => xlAt q [] s && recOk r.records s) myHook.obs myHook.val 600 := fun w => by
  obtain ⟨⟨h', gs, d, k, os⟩, e, e'⟩ := Option.map_eq_some_iff.mp (boot_open (N := 600) ho rfl hf w)
  obtain ⟨rfl, rfl, rfl, rfl⟩ : h' = boot_heap w.params ∧ gs = #[] ∧ d = boot_drawn ∧ k = boot_toks := by simpa using e'
  obtain ⟨s, hs, hl⟩ := Option.map_eq_some_iff.mp (congrFun (h w) os)
  have l1 := congrArg Prod.fst hl
  have l2 := congrArg Prod.snd hl
  have t0 := topRun_of hs
  have r : topRun treeTable p w 11 (some (.ref 6)) 600 ⟨boot_heap w.params, #[], boot_drawn, boot_toks, os⟩ (topStub p) = some s.abs := by
    rw [← boot_abs w.params]; exact t0
  have t : topFrom treeTable p w 600 ⟨boot_heap w.params, #[], boot_drawn, boot_toks, os⟩ = some s.abs := by
    unfold topFrom
    dsimp only
    rw [boot_size1, boot_size2, boot_size3, r]
    show (match staticsOk (importedModules p.main.body) (boot_heap w.params) s.abs.heap && namesBound p s.abs.heap && gensDone s.abs && laidKept (boot_heap w.params) s.abs.heap with | true => _ | false => _) = _
    rw [show (staticsOk (importedModules p.main.body) (boot_heap w.params) s.abs.heap && namesBound p s.abs.heap && gensDone s.abs && laidKept (boot_heap w.params) s.abs.heap) = true from l1]
  unfold openEnds
  rw [e]
  show (topFrom treeTable p w 600 _).map _ = _
  rw [t]
  exact congrArg some l2

noncomputable def vw : Program := view PySem.Challenge.pw_rs0122_01 [1, 2, 3, 4, 5, 6, 7, 9, 10, 11, 13, 14, 15, 16, 17, 19, 20, 21]
set_option maxRecDepth 100000
set_option maxHeartbeats 8000000
theorem twins : (fun _ : (Program → Program → RowW → World → OsState → Option (Bool × _ × Bool)) => true) seenG = true := by k_qdec
theorem left : LeftO PySem.Challenge.pw_rs0122_01 vw [] (fun s => xlAt vw [] s && recOk (RowW.records PySem.Challenge.rw_rs0122_01.row.toRowW) s) myHook.obs myHook.val 600 :=
  left_of (by kernel_rfl) (fun s => by kernel_rfl) fun w => by
    rw [PySem.W.Fast.te1768667768224601007]
    kernel_rfl

/-- the program's parts -/
noncomputable def stAt (k : Nat) : Stmt := PySem.Challenge.pw_rs0122_01.main.body.getD k default
noncomputable def defParts : Stmt → Arguments × List Stmt × Scope × Pos
  | .FunctionDef _ a b _ _ _ s _ _ p => (a, b, s, p)
  | _ => (default, [], default, default)
noncomputable def defBody (s : Stmt) : List Stmt := (defParts s).2.1
noncomputable def defScope (s : Stmt) : Scope := (defParts s).2.2.1
noncomputable def defParams (s : Stmt) : Arguments := (defParts s).1
noncomputable def defPos (s : Stmt) : Pos := (defParts s).2.2.2
noncomputable def fb (k : Nat) : List Stmt := defBody (stAt k)
noncomputable def fs (k : Nat) : Scope := defScope (stAt k)
noncomputable def fa (k : Nat) : Arguments := defParams (stAt k)
noncomputable def rc (x : Str) (k : Nat) : DefRec := ⟨x, fa k, fb k, fs k, defPos (stAt k)⟩
theorem said : PySem.Challenge.rw_rs0122_01.wellSaid = true := by
  rw [PySem.W.Fast.te9446332074065402090]
  kernel_rfl
theorem hd (walk : WalkO vw [] (XL vw []) myHook.says PySem.Challenge.rw_rs0122_01.row.toRowW (rc "law" 21) [] fun f vs => PySem.call f vs) : PySem.Challenge.rw_rs0122_01.Holds :=
  holds_law said fun _ =>
    holds_open (q := vw) (loose := []) (N := 600) (d := rc "law" 21) (kwd := []) left myHook.of myHook.keeps (fun s e => xl_of s (Bool.and_eq_true_iff.mp e).1) XL.keeps (by kernel_rfl) (by kernel_rfl) (by kernel_rfl) (fun s e => recFacts_of (Bool.and_eq_true_iff.mp e).2) (by kernel_rfl) (by assumption) (by decide +kernel)
      ⟨rfl, rfl, rfl, rfl, rfl, by decide +kernel⟩ ⟨[.list []], by decide +kernel, by decide +kernel⟩ walk
end Mine
end
section
/-! A small evaluator for the part of Python that the law uses: plain values, no heap. -/
namespace Mine
open PySem

inductive V where
  | none
  | bool (b : Bool)
  | int (i : Int)
  | flt (u : UInt64)
  | lst (vs : List V)
  | tup (vs : List V)
  | rng (hi : Int)
deriving Inhabited

inductive Loc where
  | un
  | val (v : V)
  | own (vs : List V)
  | bor (vs : List V)
  | clo (k : Nat)
deriving Inhabited

inductive Bop where
  | add | sub | mul | fdiv | mod | pow | shl | shr | band | bxor | div
deriving DecidableEq
inductive Cop where
  | eq | ne | lt | le | gt | ge | isin
deriving DecidableEq
inductive Bi where
  | len | sum | abs | max | min | int | divmod | range | isbool
deriving DecidableEq

inductive Ex where
  | int (i : Int)
  | flt (u : UInt64)
  | bool (b : Bool)
  | var (x : Nat)
  | glo (g : Nat)
  | bin (o : Bop) (l r : Ex)
  | neg (e : Ex)
  | inv (e : Ex)
  | not (e : Ex)
  | and (a b : Ex)
  | or (a b : Ex)
  | cmp (o : Cop) (l r : Ex)
  | ite (t a b : Ex)
  | lst (es : List Ex)
  | tup (es : List Ex)
  | rep (es : List Ex) (k : Ex)
  | idx (e i : Ex)
  | slc (e : Ex) (lo hi : Option Ex)
  | comp (elt : Ex) (cond : Option Ex) (iter : Ex) (cap : List Nat)
  | bi (b : Bi) (args : List Ex)
  | call (f : Nat) (args : List Ex)
  | callc (x : Nat) (k : Nat) (args : List Ex) (src : List Nat)
  | bitlen (e : Ex)

inductive Sm where
  | asg (x : Nat) (e : Ex)
  | asgo (x : Nat) (e : Ex)
  | asgs (xs : List Nat) (es : List Ex)
  | asgso (xs : List Nat)
  | unp (xs : List Nat) (e : Ex)
  | aug (x : Nat) (o : Bop) (e : Ex)
  | augi (x : Nat) (i : Ex) (o : Bop) (e : Ex)
  | seti (x : Nat) (i e : Ex)
  | app (x : Nat) (e : Ex)
  | rev (x : Nat)
  | for_ (x : Nat) (it : Ex) (body : List Sm)
  | forr (x : Nat) (it : Ex) (body : List Sm)
  | while_ (t : Ex) (body : List Sm)
  | ite (t : Ex) (a b : List Sm)
  | ret (e : Ex)
  | retn
  | callc (x : Nat) (k : Nat) (args : List Ex) (src : List Nat)
  | defc (x : Nat) (k : Nat)
  | frz (x : Nat)
  | bad

abbrev St := List Loc
inductive Fl where
  | nx
  | ret (v : V)
deriving Inhabited

/-- a function: how many parameters, how many names in all (the parameters first; a closure's captured names last), its body -/
structure Fn where
  np : Nat
  nv : Nat
  body : List Sm

noncomputable def small (n : Int) : Bool := decide (n.natAbs < 2 ^ 60)

/-- == of two plain values that stand in lists or tuples (floats: they must be equal) -/
noncomputable def eqE : V → V → Option Bool
  | .int a, .int b => some (a == b)
  | .bool a, .bool b => some (a == b)
  | .flt a, .flt b => if Float64.cmp a b == some .eq then some true else Option.none
  | _, _ => Option.none
/-- == of two plain values -/
noncomputable def eq1 : V → V → Option Bool
  | .int a, .int b => some (a == b)
  | .bool a, .bool b => some (a == b)
  | .flt a, .flt b => some (Float64.cmp a b == some .eq)
  | _, _ => Option.none
noncomputable def eqs : List V → List V → Option Bool
  | [], [] => some true
  | a :: r, b :: t => match eqE a b, eqs r t with
    | some x, some y => some (x && y)
    | _, _ => Option.none
  | _, _ => Option.none
noncomputable def veq : V → V → Option Bool
  | .lst a, .lst b => if a.length == b.length then eqs a b else some false
  | .tup a, .tup b => if a.length == b.length then eqs a b else Option.none
  | a, b => eq1 a b

noncomputable def allInts : List V → Option (List Int)
  | [] => some []
  | .int i :: r => (allInts r).map (i :: ·)
  | _ => Option.none

noncomputable def maxF (a b : UInt64) : UInt64 := if Float64.cmp a b == some .lt then b else a
noncomputable def minF (a b : UInt64) : UInt64 := if Float64.cmp b a == some .lt then b else a

noncomputable def binII (a : Int) (b : Int) : Bop → Option V
  | .add => some (.int (a + b))
  | .sub => some (.int (a - b))
  | .mul => if small a && small b then some (.int (a * b)) else Option.none
  | .fdiv => if b == 0 then Option.none else some (.int (a.fdiv b))
  | .mod => if b == 0 then Option.none else some (.int (a.fmod b))
  | .pow => if decide (0 ≤ b) && decide (b ≤ 64) && small a then some (.int (a ^ b.toNat)) else Option.none
  | .shl => if decide (0 ≤ b) && decide (b ≤ 1000) && small a then some (.int (a * 2 ^ b.toNat)) else Option.none
  | .shr => if decide (0 ≤ b) then some (.int (a.fdiv (2 ^ b.toNat))) else Option.none
  | .band => some (.int (Builtin.bitAnd a b))
  | .bxor => some (.int (Builtin.bitXor a b))
  | .div => if b == 0 || !small a then Option.none else some (.flt (Float64.ofFrac (decide (a < 0) != decide (b < 0)) a.natAbs b.natAbs))
noncomputable def binFF (a : UInt64) (b : UInt64) : Bop → Option V
  | .add => some (.flt (Float64.add a b))
  | .sub => some (.flt (Float64.sub a b))
  | .mul => some (.flt (Float64.mul a b))
  | .div => if Float64.isZero b then Option.none else some (.flt (Float64.div a b))
  | .mod => if Float64.isZero b then Option.none else some (.flt (Float64.divmod a b).2)
  | _ => Option.none
noncomputable def binFI (a : UInt64) (b : Int) : Bop → Option V
  | .sub => if small b then some (.flt (Float64.sub a (Float64.ofInt b))) else Option.none
  | .mul => if small b then some (.flt (Float64.mul a (Float64.ofInt b))) else Option.none
  | .div => if b == 0 || !small b then Option.none else some (.flt (Float64.div a (Float64.ofInt b)))
  | _ => Option.none
noncomputable def binIF (a : Int) (b : UInt64) : Bop → Option V
  | .sub => if small a then some (.flt (Float64.sub (Float64.ofInt a) b)) else Option.none
  | .mul => if small a then some (.flt (Float64.mul (Float64.ofInt a) b)) else Option.none
  | _ => Option.none
noncomputable def binLL (a : List V) (b : List V) : Bop → Option V
  | .add => if a.length + b.length ≤ 1000 then some (.lst (a ++ b)) else Option.none
  | _ => Option.none
noncomputable def bin (o : Bop) (a b : V) : Option V :=
  match a, b with
  | .int a, .int b => binII a b o
  | .flt a, .flt b => binFF a b o
  | .flt a, .int b => binFI a b o
  | .int a, .flt b => binIF a b o
  | .lst a, .lst b => binLL a b o
  | _, _ => Option.none

noncomputable def cmpII (a b : Int) : Cop → Option Bool
  | .lt => some (decide (a < b))
  | .le => some (decide (a ≤ b))
  | .gt => some (decide (b < a))
  | .ge => some (decide (b ≤ a))
  | _ => Option.none
noncomputable def cmpFF (a b : UInt64) : Cop → Option Bool
  | .le => some (Float64.cmp a b == some Ordering.lt || Float64.cmp a b == some Ordering.eq)
  | _ => Option.none
noncomputable def cmpFI (a : UInt64) (b : Int) : Cop → Option Bool
  | .gt => some (Float64.cmpInt a b == some Ordering.gt)
  | _ => Option.none
noncomputable def cmpIL (a : Int) (vs : List V) : Cop → Option Bool
  | .isin => (allInts vs).map fun ns => ns.contains a
  | _ => Option.none
noncomputable def cmpR (o : Cop) : V → V → Option Bool
  | .int a, .int b => cmpII a b o
  | .flt a, .flt b => cmpFF a b o
  | .flt a, .int b => cmpFI a b o
  | .int a, .lst vs => cmpIL a vs o
  | _, _ => Option.none
noncomputable def cmp (o : Cop) (a b : V) : Option Bool :=
  match o with
  | .eq => veq a b
  | .ne => (veq a b).map (!·)
  | o => cmpR o a b

noncomputable def truth : V → Option Bool
  | .bool b => some b
  | .int i => some (i != 0)
  | .lst vs => if vs.length ≤ 100000 then some (!vs.isEmpty) else Option.none
  | _ => Option.none

noncomputable def idx (vs : List V) (i : Int) : Option V :=
  if i < 0 then (if -(vs.length : Int) ≤ i then vs[(i + vs.length).toNat]? else Option.none) else vs[i.toNat]?

/-- a slice's end in a list of n items -/
noncomputable def clampI (i : Int) (n : Nat) : Nat := if i < 0 then n - (-i).toNat else min i.toNat n
noncomputable def slc (vs : List V) (lo hi : Option Int) : List V :=
  let a := match lo with | some i => clampI i vs.length | Option.none => 0
  let b := match hi with | some i => clampI i vs.length | Option.none => vs.length
  (vs.drop a).take (b - a)

noncomputable def optInt : Option V → Option (Option Int)
  | Option.none => some Option.none
  | some (.int i) => if small i then some (some i) else Option.none
  | _ => Option.none

noncomputable def bLen : List V → Option V
  | [.lst vs] => if vs.length ≤ 100000 then some (.int vs.length) else Option.none
  | _ => Option.none
noncomputable def bSum : List V → Option V
  | [.lst vs] => (allInts vs).map fun ns => .int ns.sum
  | _ => Option.none
noncomputable def bAbs : List V → Option V
  | [.int a] => some (.int (if a < 0 then -a else a))
  | _ => Option.none
noncomputable def max2 : V → V → Option V
  | .int a, .int b => some (.int (if b > a then b else a))
  | _, _ => Option.none
noncomputable def fltOf : V → Option UInt64
  | .flt a => some a
  | _ => Option.none
noncomputable def bMax : List V → Option V
  | [a, b] => max2 a b
  | [a, b, c] => (fltOf a).bind fun a => (fltOf b).bind fun b => (fltOf c).map fun c => V.flt (maxF (maxF a b) c)
  | _ => Option.none
noncomputable def bMin : List V → Option V
  | [a, b] => (fltOf a).bind fun a => (fltOf b).map fun b => V.flt (minF a b)
  | [a, b, c] => (fltOf a).bind fun a => (fltOf b).bind fun b => (fltOf c).map fun c => V.flt (minF (minF a b) c)
  | _ => Option.none
noncomputable def bInt : List V → Option V
  | [.flt a] => (match Float64.decode a with | .fin sg m e => some (.int (Float64.truncOf sg m e)) | _ => Option.none)
  | _ => Option.none
noncomputable def bDm : List V → Option V
  | [.int a, .int b] => if b == 0 then Option.none else some (.tup [.int (a.fdiv b), .int (a.fmod b)])
  | _ => Option.none
noncomputable def bRng : List V → Option V
  | [.int a] => if small a then some (.rng a) else Option.none
  | _ => Option.none
noncomputable def bIsb : List V → Option V
  | [.bool _] => some (.bool true)
  | _ => Option.none
noncomputable def builtin (b : Bi) (args : List V) : Option V :=
  match b with
  | .len => bLen args
  | .sum => bSum args
  | .abs => bAbs args
  | .max => bMax args
  | .min => bMin args
  | .int => bInt args
  | .divmod => bDm args
  | .range => bRng args
  | .isbool => bIsb args

noncomputable def items : V → Option (List V)
  | .lst vs => some vs
  | .tup vs => some vs
  | .rng hi => if small hi then some ((List.range hi.toNat).map fun (i : Nat) => V.int i) else Option.none
  | _ => Option.none

noncomputable def getV (st : St) (x : Nat) : Option V :=
  match st[x]? with
  | some (.val v) => some v
  | _ => Option.none
noncomputable def getL (st : St) (x : Nat) : Option V :=
  match st[x]? with
  | some (.val v) => some v
  | some (.own vs) => some (.lst vs)
  | some (.bor vs) => some (.lst vs)
  | _ => Option.none
noncomputable def getO (st : St) (x : Nat) : Option (List V) :=
  match st[x]? with
  | some (.own vs) => some vs
  | _ => Option.none
/-- an own list, or one lent by the caller: its items; how to lay it back -/
noncomputable def getB (st : St) (x : Nat) : Option (List V × (List V → Loc)) :=
  match st[x]? with
  | some (.own vs) => some (vs, Loc.own)
  | some (.bor vs) => some (vs, Loc.bor)
  | _ => Option.none
noncomputable def isClo (st : St) (x k : Nat) : Bool :=
  match st[x]? with
  | some (.clo j) => j == k
  | _ => false

noncomputable def setAll : St → List Nat → List V → Option St
  | st, [], [] => some st
  | st, x :: xs, v :: vs => setAll (st.set x (.val v)) xs vs
  | _, _, _ => Option.none
noncomputable def setNils : St → List Nat → St
  | st, [] => st
  | st, x :: xs => setNils (st.set x (.own [])) xs

/-- a list of statements, the runner of one given -/
noncomputable def seq (f : St → Sm → Option (Fl × St)) : St → List Sm → Option (Fl × St)
  | st, [] => some (.nx, st)
  | st, s :: r => match f st s with
    | some (.nx, st') => seq f st' r
    | o => o
noncomputable def forLoop (f : St → Option (Fl × St)) (x : Nat) : St → List V → Option (Fl × St)
  | st, [] => some (.nx, st)
  | st, v :: r => match f (st.set x (.val v)) with
    | some (.nx, st') => forLoop f x st' r
    | o => o
noncomputable def whileLoop (t : St → Option Bool) (f : St → Option (Fl × St)) : Nat → St → Option (Fl × St)
  | 0, _ => Option.none
  | n + 1, st => match t st with
    | some false => some (.nx, st)
    | some true => (match f st with
      | some (.nx, st') => whileLoop t f n st'
      | o => o)
    | Option.none => Option.none
noncomputable def mapO (f : α → Option β) : List α → Option (List β)
  | [] => some []
  | a :: r => match f a with
    | some b => (match mapO f r with | some bs => some (b :: bs) | Option.none => Option.none)
    | Option.none => Option.none
/-- a comprehension's list: cond, elt upon the state of each item -/
noncomputable def compL (c : V → Option Bool) (f : V → Option V) : List V → Option (List V)
  | [] => some []
  | v :: r => match c v with
    | some false => compL c f r
    | some true => (match f v with
      | some y => (match compL c f r with | some ys => some (y :: ys) | Option.none => Option.none)
      | Option.none => Option.none)
    | Option.none => Option.none
noncomputable def caps (st : St) : List Nat → Option (List Loc)
  | [] => some []
  | x :: r => match st[x]? with
    | some l => (caps st r).map (l :: ·)
    | Option.none => Option.none
noncomputable def isVal : Loc → Bool
  | .val _ => true
  | _ => false
noncomputable def frozenLoc : Loc → Bool
  | .val _ => true
  | .clo _ => true
  | _ => false
noncomputable def isOwnL : Loc → Bool
  | .own _ => true
  | .bor _ => true
  | _ => false
/-- the first of the captured places holds a list that may be written, the others do not -/
noncomputable def lentOk : List Loc → Bool
  | l :: r => isOwnL l && r.all frozenLoc
  | [] => false
/-- a closure among the captured places is the called def's own -/
noncomputable def cloIs (k : Nat) : Loc → Bool
  | .clo j => j == k
  | _ => true
/-- a list lent to the callee is still lent behind it -/
noncomputable def headOk : List Loc → List Loc → Bool
  | _ :: _, .bor _ :: _ => true
  | l :: _, _ => !isOwnL l
  | [], _ => true
/-- lent to a callee -/
noncomputable def lend : Loc → Loc
  | .own vs => .bor vs
  | l => l
/-- what a callee left in a captured place, back in the caller's -/
noncomputable def back : Loc → Loc → Loc
  | .own _, .bor vs => .own vs
  | .bor _, .bor vs => .bor vs
  | l, _ => l
/-- the captured names' places behind a call, laid back into the caller's -/
noncomputable def putBack : St → List Nat → List Loc → St
  | st, x :: r, l :: ls => putBack (st.set x (back (st[x]?.getD .un) l)) r ls
  | st, _, _ => st

noncomputable def initSt (fn : Fn) (args : List V) (cap : List Loc) : St :=
  args.map Loc.val ++ List.replicate (fn.nv - fn.np - cap.length) Loc.un ++ cap

structure Prog where
  fns : List Fn
  glos : List Int
  clos : List Fn

noncomputable def isFresh : Ex → Bool
  | .lst _ => true
  | .rep _ _ => true
  | .slc _ _ _ => true
  | .comp _ _ _ _ => true
  | _ => false
noncomputable def isVar : Ex → Option Nat
  | .var x => some x
  | _ => Option.none

mutual
noncomputable def ev (p : Prog) : Nat → St → Ex → Option V
  | 0, _, _ => Option.none
  | n + 1, st, e =>
    match e with
    | .int i => some (.int i)
    | .flt u => some (.flt u)
    | .bool b => some (.bool b)
    | .var x => getV st x
    | .glo g => (p.glos[g]?).map V.int
    | .bin o l r => (evL p n st l).bind fun a => (evL p n st r).bind fun b => bin o a b
    | .neg e => (match ev p n st e with | some (.int i) => some (.int (-i)) | _ => Option.none)
    | .inv e => (match ev p n st e with | some (.int i) => some (.int (Builtin.bitNot i)) | _ => Option.none)
    | .not e => ((ev p n st e).bind truth).map fun b => .bool (!b)
    | .and a b => (match ev p n st a with
      | some (.bool true) => ev p n st b
      | some (.bool false) => some (.bool false)
      | _ => Option.none)
    | .or a b => (match ev p n st a with
      | some (.bool true) => some (.bool true)
      | some (.bool false) => ev p n st b
      | _ => Option.none)
    | .cmp o l r => (evL p n st l).bind fun a => (evL p n st r).bind fun b => (cmp o a b).map V.bool
    | .ite t a b => (evT p n st t).bind fun c => if c then ev p n st a else ev p n st b
    | .lst es => if es.length ≤ 1000 then (mapO (ev p n st) es).map V.lst else Option.none
    | .tup es => if es.length ≤ 1000 then (mapO (ev p n st) es).map V.tup else Option.none
    | .rep es k => (mapO (ev p n st) es).bind fun vs => (match ev p n st k with
      | some (.int i) => if small i && decide (es.length * i.toNat ≤ 1000) && decide (es.length ≤ 1000) then some (.lst (List.replicate i.toNat vs).flatten) else Option.none
      | _ => Option.none)
    | .idx e i => (evL p n st e).bind fun a => (match a, ev p n st i with
      | .lst vs, some (.int k) => if small k then idx vs k else Option.none
      | .tup vs, some (.int k) => if small k then idx vs k else Option.none
      | _, _ => Option.none)
    | .slc e lo hi => (evL p n st e).bind fun a => (match a, evO p n st lo, evO p n st hi with
      | .lst vs, some l, some h => if vs.length ≤ 1000 then some (.lst (slc vs l h)) else Option.none
      | _, _, _ => Option.none)
    | .comp elt cond iter cap => (evL p n st iter).bind fun a => (items a).bind fun vs => (caps st cap).bind fun cs =>
        if vs.length ≤ 1000 && cs.all isVal then (compL (fun v => (match cond with | some c => evT p n (Loc.val v :: cs) c | Option.none => some true)) (fun v => ev p n (Loc.val v :: cs) elt) vs).map V.lst else Option.none
    | .bi b args => (mapO (evL p n st) args).bind fun vs => builtin b vs
    | .call f args => (mapO (ev p n st) args).bind fun vs => callF p n f vs
    | .callc x k args src => if isClo st x k then (mapO (ev p n st) args).bind fun vs => (caps st src).bind fun cs => if cs.all frozenLoc then (callC p n k vs cs).map (·.1) else Option.none else Option.none
    | .bitlen e => (match ev p n st e with | some (.int i) => some (.int (Builtin.Int.intBits i)) | _ => Option.none)
/-- as ev; a name that owns its list is read too (the list is looked at, and not kept) -/
noncomputable def evL (p : Prog) : Nat → St → Ex → Option V
  | 0, _, _ => Option.none
  | n + 1, st, e => match isVar e with
    | some x => getL st x
    | Option.none => ev p n st e
noncomputable def evO (p : Prog) : Nat → St → Option Ex → Option (Option Int)
  | 0, _, _ => Option.none
  | n + 1, st, e => match e with
    | Option.none => some Option.none
    | some e => (match ev p n st e with | some (.int i) => if small i then some (some i) else Option.none | _ => Option.none)
/-- a test's truth -/
noncomputable def evT (p : Prog) : Nat → St → Ex → Option Bool
  | 0, _, _ => Option.none
  | n + 1, st, e =>
    match e with
    | .not e => (evT p n st e).map (!·)
    | .and a b => (evT p n st a).bind fun c => if c then evT p n st b else some false
    | .or a b => (evT p n st a).bind fun c => if c then some true else evT p n st b
    | .cmp o l r => (evL p n st l).bind fun a => (evL p n st r).bind fun b => cmp o a b
    | .ite _ _ _ => Option.none
    | e => (evL p n st e).bind truth
noncomputable def callF (p : Prog) : Nat → Nat → List V → Option V
  | 0, _, _ => Option.none
  | n + 1, f, vs => (p.fns[f]?).bind fun fn => if vs.length == fn.np && decide (fn.np ≤ fn.nv) then
      (match seq (ex p n) (initSt fn vs []) fn.body with
      | some (.ret v, _) => some v
      | some (.nx, _) => some .none
      | Option.none => Option.none) else Option.none
/-- a closure's call: the value, and the captured places behind it -/
noncomputable def callC (p : Prog) : Nat → Nat → List V → List Loc → Option (V × List Loc)
  | 0, _, _, _ => Option.none
  | n + 1, k, vs, cs => (p.clos[k]?).bind fun fn => if vs.length == fn.np && decide (fn.np + cs.length ≤ fn.nv) && cs.all (cloIs k) then
      (match seq (ex p n) (initSt fn vs (cs.map lend)) fn.body with
      | some (.ret v, st) => if headOk cs (st.drop (fn.nv - cs.length)) then some (v, st.drop (fn.nv - cs.length)) else Option.none
      | some (.nx, st) => if headOk cs (st.drop (fn.nv - cs.length)) then some (.none, st.drop (fn.nv - cs.length)) else Option.none
      | Option.none => Option.none) else Option.none
noncomputable def ex (p : Prog) : Nat → St → Sm → Option (Fl × St)
  | 0, _, _ => Option.none
  | n + 1, st, s =>
    match s with
    | .asg x e => (ev p n st e).map fun v => (.nx, st.set x (.val v))
    | .asgo x e => if isFresh e then (match ev p n st e with | some (.lst vs) => some (.nx, st.set x (.own vs)) | _ => Option.none) else Option.none
    | .asgs xs es => if es.length ≤ 1000 then (mapO (ev p n st) es).bind fun vs => (setAll st xs.reverse vs.reverse).map fun st' => (.nx, st') else Option.none
    | .asgso xs => if xs.length ≤ 1000 then some (.nx, setNils st xs.reverse) else Option.none
    | .unp xs e => (match ev p n st e with | some (.tup vs) => (setAll st xs vs).map fun st' => (.nx, st') | _ => Option.none)
    | .aug x o e => (getV st x).bind fun a => (ev p n st e).bind fun b => (match a, b with
      | .int _, .int _ => (bin o a b).map fun v => (.nx, st.set x (.val v))
      | _, _ => Option.none)
    | .augi x i o e => (getO st x).bind fun vs => (match ev p n st i, ev p n st e with
      | some (.int k), some (.int b) => if decide (0 ≤ k) && decide (k < vs.length) && small k then
          (match vs[k.toNat]? with
          | some (.int a) => (bin o (.int a) (.int b)).map fun v => (.nx, st.set x (.own (vs.set k.toNat v)))
          | _ => Option.none) else Option.none
      | _, _ => Option.none)
    | .seti x i e => (getB st x).bind fun b => (match ev p n st i, ev p n st e with
      | some (.int k), some v => if decide (0 ≤ k) && decide (k < b.1.length) && small k then some (.nx, st.set x (b.2 (b.1.set k.toNat v))) else Option.none
      | _, _ => Option.none)
    | .app x e => (getO st x).bind fun vs => (ev p n st e).bind fun v => if vs.length ≤ 100000 then some (.nx, st.set x (.own (vs ++ [v]))) else Option.none
    | .rev x => (getO st x).bind fun vs => if vs.length ≤ 100000 then some (.nx, st.set x (.own vs.reverse)) else Option.none
    | .for_ x it body => (ev p n st it).bind fun a => (items a).bind fun vs => forLoop (fun st => seq (ex p n) st body) x st vs
    | .forr x it body => (ev p n st it).bind fun a => (match a with
      | .lst vs => forLoop (fun st => seq (ex p n) st body) x st vs.reverse
      | _ => Option.none)
    | .while_ t body => whileLoop (fun st => evT p n st t) (fun st => seq (ex p n) st body) 100 st
    | .ite t a b => (evT p n st t).bind fun c => if c then seq (ex p n) st a else seq (ex p n) st b
    | .ret e => (ev p n st e).map fun v => (.ret v, st)
    | .retn => some (.ret .none, st)
    | .callc x k args src => if isClo st x k then (mapO (ev p n st) args).bind fun vs => (caps st src).bind fun cs => if lentOk cs then (callC p n k vs cs).bind fun r => (match r.1 with
      | .none => some (.nx, putBack st src r.2)
      | _ => Option.none) else Option.none else Option.none
    | .defc x k => some (.nx, st.set x (.clo k))
    | .frz x => (match st[x]? with
      | some (.own vs) => some (.nx, st.set x (.val (.lst vs)))
      | _ => Option.none)
    | .bad => Option.none
end
end Mine
end
section
namespace Mine
/-- _div2n1n: ['a', 'b', 'n', 'pad', 'half_n', 'mask', 'b1', 'b2', 'q1', 'r', 'q2'] -/
noncomputable def bdiv2n1n : List Sm := [.ite (.cmp .le (.bin .sub (.bitlen (.var 0)) (.var 2)) (.glo 0)) [.ret (.bi .divmod [(.var 0), (.var 1)])] [], .bad]
/-- _int2digits: ['a', 'n', 'a_digits', 'inner'] -/
noncomputable def bint2digits : List Sm := [.asgo 2 (.rep [(.int 0)] (.bin .fdiv (.bin .sub (.bin .add (.bitlen (.var 0)) (.var 1)) (.int 1)) (.var 1))), .defc 3 0, .ite (.var 0) [.callc 3 0 [(.var 0), (.int 0), (.bi .len [(.var 2)])] [2, 3, 1]] [], .frz 2, .ret (.var 2)]
/-- _int2digits.inner: ['x', 'L', 'R', 'mid', 'shift', 'upper', 'lower', 'a_digits', 'inner', 'n'] -/
noncomputable def biint2digits : List Sm := [.ite (.cmp .eq (.bin .add (.var 1) (.int 1)) (.var 2)) [.seti 7 (.var 1) (.var 0), .retn] [], .asg 3 (.bin .shr (.bin .add (.var 1) (.var 2)) (.int 1)), .asg 4 (.bin .mul (.bin .sub (.var 3) (.var 1)) (.var 9)), .asg 5 (.bin .shr (.var 0) (.var 4)), .asg 6 (.bin .bxor (.var 0) (.bin .shl (.var 5) (.var 4))), .callc 8 0 [(.var 6), (.var 1), (.var 3)] [7, 8, 9], .callc 8 0 [(.var 5), (.var 3), (.var 2)] [7, 8, 9]]
/-- _digits2int: ['digits', 'n', 'inner'] -/
noncomputable def bdigits2int : List Sm := [.defc 2 1, .ret (.ite (.var 0) (.callc 2 1 [(.int 0), (.bi .len [(.var 0)])] [0, 2, 1]) (.int 0))]
/-- _digits2int.inner: ['L', 'R', 'mid', 'shift', 'digits', 'inner', 'n'] -/
noncomputable def bidigits2int : List Sm := [.ite (.cmp .eq (.bin .add (.var 0) (.int 1)) (.var 1)) [.ret (.idx (.var 4) (.var 0))] [], .asg 2 (.bin .shr (.bin .add (.var 0) (.var 1)) (.int 1)), .asg 3 (.bin .mul (.bin .sub (.var 2) (.var 0)) (.var 6)), .ret (.bin .add (.bin .shl (.callc 5 1 [(.var 2), (.var 1)] [4, 5, 6]) (.var 3)) (.callc 5 1 [(.var 0), (.var 2)] [4, 5, 6]))]
/-- _divmod_pos: ['a', 'b', 'n', 'a_digits', 'r', 'q_digits', 'a_digit', 'q_digit', 'q'] -/
noncomputable def bdivmod_pos : List Sm := [.asg 2 (.bitlen (.var 1)), .asg 3 (.call 1 [(.var 0), (.var 2)]), .asg 4 (.int 0), .asgo 5 (.lst []), .forr 6 (.var 3) [.unp [7, 4] (.call 0 [(.bin .add (.bin .shl (.var 4) (.var 2)) (.var 6)), (.var 1), (.var 2)]), .app 5 (.var 7)], .rev 5, .frz 5, .asg 8 (.call 2 [(.var 5), (.var 2)]), .ret (.tup [(.var 8), (.var 4)])]
/-- int_divmod: ['a', 'b', 'q', 'r'] -/
noncomputable def bint_divmod : List Sm := [.ite (.cmp .eq (.var 1) (.int 0)) [.bad] [.ite (.cmp .lt (.var 1) (.int 0)) [.bad] [.ite (.cmp .lt (.var 0) (.int 0)) [.unp [2, 3] (.call 4 [(.inv (.var 0)), (.var 1)]), .ret (.tup [(.inv (.var 2)), (.bin .add (.var 1) (.inv (.var 3)))])] [.ret (.call 3 [(.var 0), (.var 1)])]]]]
/-- rgb_to_hls: ['r', 'g', 'b', 'maxc', 'minc', 'sumc', 'rangec', 'l', 's', 'rc', 'gc', 'bc', 'h'] -/
noncomputable def brgb_to_hls : List Sm := [.asg 3 (.bi .max [(.var 0), (.var 1), (.var 2)]), .asg 4 (.bi .min [(.var 0), (.var 1), (.var 2)]), .asg 5 (.bin .add (.var 3) (.var 4)), .asg 6 (.bin .sub (.var 3) (.var 4)), .asg 7 (.bin .div (.var 5) (.flt 4611686018427387904)), .ite (.cmp .eq (.var 4) (.var 3)) [.ret (.tup [(.flt 0), (.var 7), (.flt 0)])] [], .ite (.cmp .le (.var 7) (.flt 4602678819172646912)) [.asg 8 (.bin .div (.var 6) (.var 5))] [.asg 8 (.bin .div (.var 6) (.bin .sub (.bin .sub (.flt 4611686018427387904) (.var 3)) (.var 4)))], .asg 9 (.bin .div (.bin .sub (.var 3) (.var 0)) (.var 6)), .asg 10 (.bin .div (.bin .sub (.var 3) (.var 1)) (.var 6)), .asg 11 (.bin .div (.bin .sub (.var 3) (.var 2)) (.var 6)), .ite (.cmp .eq (.var 0) (.var 3)) [.asg 12 (.bin .sub (.var 11) (.var 10))] [.ite (.cmp .eq (.var 1) (.var 3)) [.asg 12 (.bin .sub (.bin .add (.flt 4611686018427387904) (.var 9)) (.var 11))] [.asg 12 (.bin .sub (.bin .add (.flt 4616189618054758400) (.var 10)) (.var 9))]], .asg 12 (.bin .mod (.bin .div (.var 12) (.flt 4618441417868443648)) (.flt 4607182418800017408)), .ret (.tup [(.var 12), (.var 7), (.var 8)])]
/-- rgb_to_hsv: ['r', 'g', 'b', 'maxc', 'minc', 'rangec', 'v', 's', 'rc', 'gc', 'bc', 'h'] -/
noncomputable def brgb_to_hsv : List Sm := [.asg 3 (.bi .max [(.var 0), (.var 1), (.var 2)]), .asg 4 (.bi .min [(.var 0), (.var 1), (.var 2)]), .asg 5 (.bin .sub (.var 3) (.var 4)), .asg 6 (.var 3), .ite (.cmp .eq (.var 4) (.var 3)) [.ret (.tup [(.flt 0), (.flt 0), (.var 6)])] [], .asg 7 (.bin .div (.var 5) (.var 3)), .asg 8 (.bin .div (.bin .sub (.var 3) (.var 0)) (.var 5)), .asg 9 (.bin .div (.bin .sub (.var 3) (.var 1)) (.var 5)), .asg 10 (.bin .div (.bin .sub (.var 3) (.var 2)) (.var 5)), .ite (.cmp .eq (.var 0) (.var 3)) [.asg 11 (.bin .sub (.var 10) (.var 9))] [.ite (.cmp .eq (.var 1) (.var 3)) [.asg 11 (.bin .sub (.bin .add (.flt 4611686018427387904) (.var 8)) (.var 10))] [.asg 11 (.bin .sub (.bin .add (.flt 4616189618054758400) (.var 9)) (.var 8))]], .asg 11 (.bin .mod (.bin .div (.var 11) (.flt 4618441417868443648)) (.flt 4607182418800017408)), .ret (.tup [(.var 11), (.var 7), (.var 6)])]
/-- hsv_to_rgb: ['h', 's', 'v', 'i', 'f', 'p', 'q', 't'] -/
noncomputable def bhsv_to_rgb : List Sm := [.ite (.cmp .eq (.var 1) (.flt 0)) [.ret (.tup [(.var 2), (.var 2), (.var 2)])] [], .asg 3 (.bi .int [(.bin .mul (.var 0) (.flt 4618441417868443648))]), .asg 4 (.bin .sub (.bin .mul (.var 0) (.flt 4618441417868443648)) (.var 3)), .asg 5 (.bin .mul (.var 2) (.bin .sub (.flt 4607182418800017408) (.var 1))), .asg 6 (.bin .mul (.var 2) (.bin .sub (.flt 4607182418800017408) (.bin .mul (.var 1) (.var 4)))), .asg 7 (.bin .mul (.var 2) (.bin .sub (.flt 4607182418800017408) (.bin .mul (.var 1) (.bin .sub (.flt 4607182418800017408) (.var 4))))), .asg 3 (.bin .mod (.var 3) (.int 6)), .ite (.cmp .eq (.var 3) (.int 0)) [.ret (.tup [(.var 2), (.var 7), (.var 5)])] [], .ite (.cmp .eq (.var 3) (.int 1)) [.ret (.tup [(.var 6), (.var 2), (.var 5)])] [], .ite (.cmp .eq (.var 3) (.int 2)) [.ret (.tup [(.var 5), (.var 2), (.var 7)])] [], .ite (.cmp .eq (.var 3) (.int 3)) [.ret (.tup [(.var 5), (.var 6), (.var 2)])] [], .ite (.cmp .eq (.var 3) (.int 4)) [.ret (.tup [(.var 7), (.var 5), (.var 2)])] [], .ite (.cmp .eq (.var 3) (.int 5)) [.ret (.tup [(.var 2), (.var 5), (.var 6)])] []]
/-- ISTERMINAL: ['x'] -/
noncomputable def bISTERMINAL : List Sm := [.ret (.cmp .lt (.var 0) (.glo 1))]
/-- ISNONTERMINAL: ['x'] -/
noncomputable def bISNONTERMINAL : List Sm := [.ret (.cmp .ge (.var 0) (.glo 1))]
/-- ISEOF: ['x'] -/
noncomputable def bISEOF : List Sm := [.ret (.cmp .eq (.var 0) (.glo 2))]
/-- _law_number: ['signs', 'run', 'figures'] -/
noncomputable def blaw_number : List Sm := [.asg 1 (.int 0), .while_ (.and (.cmp .lt (.var 1) (.bi .len [(.var 0)])) (.cmp .eq (.idx (.var 0) (.var 1)) (.idx (.var 0) (.int 0)))) [.aug 1 .add (.int 1)], .asgo 2 (.slc (.var 0) (some (.var 1)) none), .rev 2, .ret (.bin .mul (.call 2 [(.bin .add (.var 2) (.comp (.bin .mul (.var 1) (.var 0)) none (.slc (.var 0) none (some (.int 1))) [1])), (.int 1)]) (.bin .pow (.int 2) (.bin .sub (.int 4) (.bi .len [(.var 2)]))))]
/-- _law_signs: ['number', 'whole', 'rest', 'figures', 'signs'] -/
noncomputable def blaw_signs : List Sm := [.unp [1, 2] (.call 4 [(.var 0), (.int 16)]), .asg 3 (.call 1 [(.bin .add (.int 16) (.var 2)), (.int 1)]), .while_ (.cmp .eq (.idx (.var 3) (.int 0)) (.int 0)) [.asg 3 (.slc (.var 3) (some (.int 1)) none)], .asgo 4 (.comp (.bin .sub (.bin .mul (.int 2) (.var 0)) (.int 1)) none (.slc (.var 3) (some (.int 1)) (some (.neg (.int 1)))) []), .rev 4, .ite (.cmp .eq (.var 2) (.int 0)) [.ret (.bin .add (.rep [(.int 1)] (.var 1)) (.rep [(.neg (.int 1))] (.neg (.var 1))))] [], .ite (.cmp .gt (.var 0) (.int 0)) [.ret (.bin .add (.bin .add (.rep [(.int 1)] (.bin .add (.var 1) (.int 1))) (.lst [(.neg (.int 1))])) (.var 4))] [], .ret (.bin .add (.bin .add (.rep [(.neg (.int 1))] (.neg (.var 1))) (.lst [(.int 1)])) (.var 4))]
/-- law: ['script', 'heaps', 'k', 'kinds', 'heap', 'share', 'value', 'paint', 'told', 'light', 'full', 'first', 'second', 'stalks', 'numbers', 'greens', 'row', 'stalk', 'kind', 'signs', 'heights', 'across', 'worth', 'left', 'right', 'code', 'sizes', 'lefts', 'rights', 'j', 'cut', 'fallen', 'number', 'due', 'figures'] -/
noncomputable def blaw : List Sm := [.asgo 1 (.lst [(.int 2283), (.int 43), (.int 828), (.int 1760), (.int 267), (.int 1266), (.int 2053)]), .for_ 2 (.bi .range [(.bi .len [(.var 0)])]) [.augi 1 (.bin .mod (.var 2) (.int 7)) .add (.idx (.var 0) (.var 2))], .asgo 3 (.lst []), .frz 1, .for_ 4 (.var 1) [.asgs [5, 6] [(.bin .div (.bin .mod (.bin .fdiv (.var 4) (.int 128)) (.int 5)) (.int 4)), (.bin .div (.bin .add (.int 1) (.bin .mod (.bin .fdiv (.var 4) (.int 640)) (.int 4))) (.int 4))], .asg 7 (.call 7 [(.bin .div (.bin .mod (.var 4) (.int 128)) (.int 64)), (.var 5), (.var 6)]), .asg 8 (.call 6 [(.idx (.var 7) (.int 0)), (.idx (.var 7) (.int 1)), (.idx (.var 7) (.int 2))]), .ite (.cmp .ne (.var 8) (.tup [(.ite (.cmp .gt (.var 5) (.int 0)) (.bin .div (.bin .mod (.var 4) (.int 64)) (.int 64)) (.flt 0)), (.var 5), (.var 6)])) [.ret (.bool false)] [], .asg 9 (.bin .div (.bin .mul (.var 6) (.bin .sub (.int 2) (.var 5))) (.int 2)), .asg 10 (.ite (.cmp .gt (.var 5) (.int 0)) (.bin .div (.bin .mul (.var 5) (.var 6)) (.bi .min [(.bin .mul (.int 2) (.var 9)), (.bin .sub (.int 2) (.bin .mul (.int 2) (.var 9)))])) (.flt 0)), .ite (.cmp .ne (.call 5 [(.idx (.var 7) (.int 0)), (.idx (.var 7) (.int 1)), (.idx (.var 7) (.int 2))]) (.tup [(.idx (.var 8) (.int 0)), (.var 9), (.var 10)])) [.ret (.bool false)] [], .app 3 (.bin .sub (.bin .mod (.bi .int [(.bin .add (.bin .mul (.idx (.var 8) (.int 0)) (.int 3)) (.flt 4602678819172646912))]) (.int 3)) (.int 1))], .asg 11 (.bin .add (.int 1) (.bin .mod (.bi .sum [(.var 1)]) (.int 3))), .asg 12 (.bin .add (.int 1) (.bin .mod (.bin .fdiv (.bi .sum [(.var 1)]) (.int 3)) (.int 3))), .asgso [13, 14, 15], .for_ 16 (.lst [(.slc (.var 3) none (some (.var 11))), (.slc (.var 3) (some (.var 11)) (some (.bin .add (.var 11) (.var 12)))), (.slc (.var 3) (some (.bin .add (.var 11) (.var 12))) none)]) [.asgo 17 (.lst []), .for_ 18 (.var 16) [.app 17 (.bin .mul (.var 18) (.bi .abs [(.idx (.bin .add (.lst [(.int 1)]) (.var 17)) (.neg (.int 1)))]))], .asg 19 (.comp (.var 0) (some (.cmp .ne (.var 0) (.int 0))) (.var 17) []), .ite (.cmp .ne (.call 12 [(.call 11 [(.var 19)])]) (.var 19)) [.ret (.bool false)] [], .frz 17, .app 13 (.var 17), .asg 20 (.bi .range [(.bin .add (.bi .len [(.var 17)]) (.int 1))]), .app 14 (.comp (.call 11 [(.slc (.var 1) none (some (.var 0)))]) none (.var 20) [19]), .app 15 (.comp (.call 2 [(.call 1 [(.bi .max [(.int 0), (.bin .sub (.var 0) (.bi .len [(.var 1)]))]), (.int 1)]), (.int 2)]) none (.var 20) [19])], .asg 21 (.comp (.bin .add (.bi .len [(.var 0)]) (.int 1)) none (.var 13) []), .asg 22 (.lst [(.bin .mul (.idx (.var 21) (.int 1)) (.idx (.var 21) (.int 2))), (.idx (.var 21) (.int 2)), (.int 1)]), .asgso [23, 24], .for_ 25 (.bi .range [(.bin .mul (.idx (.var 21) (.int 0)) (.idx (.var 22) (.int 0)))]) [.asg 26 (.lst [(.bin .fdiv (.var 25) (.idx (.var 22) (.int 0))), (.bin .mod (.bin .fdiv (.var 25) (.idx (.var 22) (.int 1))) (.idx (.var 21) (.int 1))), (.bin .mod (.var 25) (.idx (.var 21) (.int 2)))]), .unp [27, 28] (.tup [(.bool false), (.bool false)]), .for_ 29 (.bi .range [(.int 3)]) [.for_ 30 (.bi .range [(.idx (.var 26) (.var 29))]) [.asg 31 (.bin .sub (.var 25) (.bin .mul (.bin .sub (.idx (.var 26) (.var 29)) (.var 30)) (.idx (.var 22) (.var 29)))), .ite (.and (.cmp .ge (.idx (.idx (.var 13) (.var 29)) (.var 30)) (.int 0)) (.not (.idx (.var 24) (.var 31)))) [.asg 27 (.bool true)] [], .ite (.and (.cmp .le (.idx (.idx (.var 13) (.var 29)) (.var 30)) (.int 0)) (.not (.idx (.var 23) (.var 31)))) [.asg 28 (.bool true)] []]], .app 23 (.var 27), .app 24 (.var 28), .asg 32 (.bin .add (.bin .add (.idx (.idx (.var 14) (.int 0)) (.idx (.var 26) (.int 0))) (.idx (.idx (.var 14) (.int 1)) (.idx (.var 26) (.int 1)))) (.idx (.idx (.var 14) (.int 2)) (.idx (.var 26) (.int 2)))), .asg 8 (.lst [(.call 8 [(.bin .add (.glo 1) (.var 32))]), (.call 10 [(.var 32)]), (.call 9 [(.bin .add (.glo 1) (.var 32))])]), .asg 33 (.lst [(.and (.var 28) (.not (.var 27))), (.cmp .eq (.var 27) (.var 28)), (.or (.var 27) (.not (.var 28)))]), .ite (.or (.cmp .ne (.var 8) (.var 33)) (.cmp .ne (.comp (.bi .isbool [(.var 0)]) none (.var 8) []) (.lst [(.bool true), (.bool true), (.bool true)]))) [.ret (.bool false)] [], .ite (.cmp .eq (.var 27) (.var 28)) [.asg 34 (.call 1 [(.bin .add (.bin .add (.idx (.idx (.var 15) (.int 0)) (.idx (.var 26) (.int 0))) (.idx (.idx (.var 15) (.int 1)) (.idx (.var 26) (.int 1)))) (.idx (.idx (.var 15) (.int 2)) (.idx (.var 26) (.int 2)))), (.int 2)]), .ite (.cmp .ne (.var 27) (.cmp .isin (.int 1) (.comp (.bin .mod (.var 0) (.int 2)) none (.var 34) []))) [.ret (.bool false)] []] []], .ret (.bool true)]
noncomputable def prog : Prog := ⟨[⟨3, 11, bdiv2n1n⟩, ⟨2, 4, bint2digits⟩, ⟨2, 3, bdigits2int⟩, ⟨2, 9, bdivmod_pos⟩, ⟨2, 4, bint_divmod⟩, ⟨3, 13, brgb_to_hls⟩, ⟨3, 12, brgb_to_hsv⟩, ⟨3, 8, bhsv_to_rgb⟩, ⟨1, 1, bISTERMINAL⟩, ⟨1, 1, bISNONTERMINAL⟩, ⟨1, 1, bISEOF⟩, ⟨1, 3, blaw_number⟩, ⟨1, 5, blaw_signs⟩, ⟨1, 35, blaw⟩], [4000, 256, 0], [⟨3, 10, biint2digits⟩, ⟨2, 7, bidigits2int⟩]⟩
end Mine
end
section
namespace Mine
open PySem PySem.W PyProof.Rows

/-- a place that a nested def's code object is noted at: its address, the def's line and column, its qualname -/
structure TabRec where
  P : Addr
  line : Int
  col : Int
  qual : Str

noncomputable def NT (tabs : List TabRec) (a : Addr) : Prop := ∀ q ∈ tabs, a ≠ q.P

noncomputable def TI (tabs : List TabRec) (h : Heap) : Prop := ∀ q ∈ tabs, h.get? q.P = some (tabObj #[]) ∨
  ∃ c', h.get? q.P = some (tabObj #[rawInt q.line, rawInt q.col, .ref c']) ∧ h.CodeRec (.ref c') q.qual ∧ NT tabs c'

-- a value of the evaluator, as the heap bears it; F: the addresses that it may lean on
mutual
noncomputable def VR (h : Heap) (F : Addr → Prop) : V → Value → Prop
  | .none, v => v = .none
  | .bool b, v => v = .bool b
  | .int i, v => ∃ t, v = .int i t
  | .flt u, v => ∃ t, v = .float u t ∧ t ≠ 0
  | .lst vs, v => ∃ a its, v = .ref a ∧ F a ∧ h.IsList a its ∧ VRs h F vs its.toList
  | .tup vs, v => ∃ a its, v = .ref a ∧ F a ∧ h.IsTuple a its ∧ VRs h F vs its.toList
  | .rng hi, v => ∃ a t u w, v = .ref a ∧ F a ∧ IsRange h a 0 hi 1 t u w
noncomputable def VRs (h : Heap) (F : Addr → Prop) : List V → List Value → Prop
  | [], l => l = []
  | v :: r, l => ∃ x t, l = x :: t ∧ VR h F v x ∧ VRs h F r t
end

section
variable {h h' : Heap} {F F' : Addr → Prop}
mutual
theorem VR.mono (hF : ∀ a, F a → F' a) (hk : ∀ a o, F a → h.get? a = some o → h'.get? a = some o) : ∀ {v : V} {x : Value}, VR h F v x → VR h' F' v x
  | .none, _, e => e
  | .bool _, _, e => e
  | .int _, _, e => e
  | .flt _, _, e => e
  | .lst vs, _, e => by
    unfold VR at e ⊢
    obtain ⟨a, its, e1, e2, ⟨o, e3, e4⟩, e5⟩ := e
    exact ⟨a, its, e1, hF a e2, ⟨o, hk a o e2 e3, e4⟩, VRs.mono hF hk e5⟩
  | .tup vs, _, e => by
    unfold VR at e ⊢
    obtain ⟨a, its, e1, e2, ⟨o, e3, e4⟩, e5⟩ := e
    exact ⟨a, its, e1, hF a e2, ⟨o, hk a o e2 e3, e4⟩, VRs.mono hF hk e5⟩
  | .rng _, _, e => by
    unfold VR at e ⊢
    obtain ⟨a, t, u, w, e1, e2, e3⟩ := e
    exact ⟨a, t, u, w, e1, hF a e2, hk a _ e2 e3⟩
theorem VRs.mono (hF : ∀ a, F a → F' a) (hk : ∀ a o, F a → h.get? a = some o → h'.get? a = some o) : ∀ {v : List V} {x : List Value}, VRs h F v x → VRs h' F' v x
  | [], _, e => e
  | v :: r, _, e => by
    unfold VRs at e ⊢
    obtain ⟨x, t, e1, e2, e3⟩ := e
    exact ⟨x, t, e1, VR.mono hF hk e2, VRs.mono hF hk e3⟩
end
theorem VRs.length : ∀ {vs : List V} {xs : List Value}, VRs h F vs xs → xs.length = vs.length
  | [], _, e => by unfold VRs at e; rw [e]; rfl
  | v :: r, _, e => by
    unfold VRs at e
    obtain ⟨x, t, e1, _, e3⟩ := e
    rw [e1, List.length_cons, VRs.length e3, List.length_cons]
theorem VRs.get : ∀ {vs : List V} {xs : List Value} {i : Nat} {v : V}, VRs h F vs xs → vs[i]? = some v → ∃ x, xs[i]? = some x ∧ VR h F v x
  | [], _, i, v, _, g => by simp at g
  | w :: r, _, 0, v, e, g => by
    unfold VRs at e
    obtain ⟨x, t, e1, e2, _⟩ := e
    simp at g; subst g
    exact ⟨x, by rw [e1]; rfl, e2⟩
  | w :: r, _, i + 1, v, e, g => by
    unfold VRs at e
    obtain ⟨x, t, e1, _, e3⟩ := e
    obtain ⟨y, e4, e5⟩ := VRs.get (i := i) e3 (by simpa using g)
    exact ⟨y, by rw [e1]; simpa using e4, e5⟩
theorem VRs.append : ∀ {vs ws : List V} {xs ys : List Value}, VRs h F vs xs → VRs h F ws ys → VRs h F (vs ++ ws) (xs ++ ys)
  | [], _, _, _, e, g => by unfold VRs at e; rw [e]; exact g
  | v :: r, _, _, _, e, g => by
    unfold VRs at e
    obtain ⟨x, t, e1, e2, e3⟩ := e
    rw [e1]
    show VRs h F (v :: (r ++ _)) (x :: (t ++ _))
    unfold VRs
    exact ⟨x, _, rfl, e2, VRs.append e3 g⟩
theorem VRs.cons {v : V} {r : List V} {x : Value} {t : List Value} (a : VR h F v x) (b : VRs h F r t) : VRs h F (v :: r) (x :: t) := by
  unfold VRs; exact ⟨x, t, rfl, a, b⟩
theorem VRs.nil : VRs h F [] [] := by unfold VRs; rfl
theorem VRs.drop : ∀ {vs : List V} {xs : List Value} (k : Nat), VRs h F vs xs → VRs h F (vs.drop k) (xs.drop k)
  | vs, xs, 0, e => by simpa using e
  | [], _, k + 1, e => by unfold VRs at e; rw [e]; exact VRs.nil
  | v :: r, _, k + 1, e => by
    unfold VRs at e
    obtain ⟨x, t, e1, _, e3⟩ := e
    rw [e1]; simpa using VRs.drop k e3
theorem VRs.take : ∀ {vs : List V} {xs : List Value} (k : Nat), VRs h F vs xs → VRs h F (vs.take k) (xs.take k)
  | vs, xs, 0, _ => by simpa using VRs.nil
  | [], _, k + 1, e => by unfold VRs at e; rw [e]; exact VRs.nil
  | v :: r, _, k + 1, e => by
    unfold VRs at e
    obtain ⟨x, t, e1, e2, e3⟩ := e
    rw [e1]; simpa using VRs.cons e2 (VRs.take k e3)
theorem VRs.reverse : ∀ {vs : List V} {xs : List Value}, VRs h F vs xs → VRs h F vs.reverse xs.reverse
  | [], _, e => by unfold VRs at e; rw [e]; exact VRs.nil
  | v :: r, _, e => by
    unfold VRs at e
    obtain ⟨x, t, e1, e2, e3⟩ := e
    rw [e1]; simpa using VRs.append (VRs.reverse e3) (VRs.cons e2 VRs.nil)
theorem VRs.set : ∀ {vs : List V} {xs : List Value} (k : Nat) {v : V} {x : Value}, VRs h F vs xs → VR h F v x → VRs h F (vs.set k v) (xs.set k x)
  | [], _, k, _, _, e, _ => by unfold VRs at e; rw [e]; simpa using VRs.nil
  | v :: r, _, 0, _, _, e, g => by
    unfold VRs at e
    obtain ⟨x, t, e1, e2, e3⟩ := e
    rw [e1]; simpa using VRs.cons g e3
  | v :: r, _, k + 1, _, _, e, g => by
    unfold VRs at e
    obtain ⟨x, t, e1, e2, e3⟩ := e
    rw [e1]; simpa using VRs.cons e2 (VRs.set k e3 g)
end

/-- what an evaluation does to the heap: it keeps all that is there, the tables of code objects aside -/
structure Ext (tabs : List TabRec) (s s' : Shared) : Prop where
  keep : ∀ b o, NT tabs b → s.heap.get? b = some o → s'.heap.get? b = some o
  ti : TI tabs s'.heap
  gens : s'.gens = s.gens
  os : s'.os = s.os
  tok : s.toks ≤ s'.toks

/-- with the addresses that values may lean on, before and behind -/
structure ExtF (tabs : List TabRec) (F : Addr → Prop) (s : Shared) (F' : Addr → Prop) (s' : Shared) : Prop extends Ext tabs s s' where
  mono : ∀ a, F a → F' a
  new : ∀ a, F' a → F a ∨ (s.heap.get? a = none ∧ NT tabs a ∧ ∃ o, s'.heap.get? a = some o)

section
variable {tabs : List TabRec} {F F' F'' : Addr → Prop} {s s' s'' : Shared}
theorem Ext.refl (h : TI tabs s.heap) : Ext tabs s s := ⟨fun _ _ _ e => e, h, rfl, rfl, Nat.le_refl _⟩
theorem Ext.trans (x : Ext tabs s s') (y : Ext tabs s' s'') : Ext tabs s s'' :=
  ⟨fun b o n e => y.keep b o n (x.keep b o n e), y.ti, y.gens.trans x.gens, y.os.trans x.os, Nat.le_trans x.tok y.tok⟩
theorem ExtF.refl (h : TI tabs s.heap) : ExtF tabs F s F s := ⟨Ext.refl h, fun _ e => e, fun _ e => .inl e⟩
theorem ExtF.trans (x : ExtF tabs F s F' s') (y : ExtF tabs F' s' F'' s'') : ExtF tabs F s F'' s'' where
  toExt := x.toExt.trans y.toExt
  mono := fun a e => y.mono a (x.mono a e)
  new := fun a e => by
    rcases y.new a e with e | ⟨e1, e2, e3⟩
    · rcases x.new a e with e | ⟨e1, e2, o, e3⟩
      · exact .inl e
      · exact .inr ⟨e1, e2, o, y.keep a o e2 e3⟩
    · refine .inr ⟨?_, e2, e3⟩
      cases q : s.heap.get? a with
      | none => rfl
      | some o => rw [x.keep a o e2 q] at e1; cases e1
theorem CodeRec_NT {h h' : Heap} {c' : Addr} {q : Str} (x : h.CodeRec (.ref c') q) (hn : NT tabs c') (hk : ∀ b o, NT tabs b → h.get? b = some o → h'.get? b = some o) : h'.CodeRec (.ref c') q := by
  obtain ⟨c, o, vs, t, e, g, r⟩ := x
  cases e
  exact ⟨_, o, vs, t, rfl, hk _ _ hn g, r⟩
/-- a table's facts hold where nothing is lost -/
theorem TI.keeps {h h' : Heap} (x : TI tabs h) (hk : ∀ b o, h.get? b = some o → h'.get? b = some o) : TI tabs h' := fun q hq =>
  (x q hq).imp (hk _ _) fun ⟨c', e1, e2, e3⟩ => ⟨c', hk _ _ e1, e2.keeps hk, e3⟩
/-- .. and where one object changed that is no record -/
theorem TI.but {h h' : Heap} {a : Addr} {o : Obj} (x : TI tabs h) (ha : h.get? a = some o) (hn : ∀ vs, o.data ≠ .fields vs) (hk : ∀ b o, b ≠ a → h.get? b = some o → h'.get? b = some o) : TI tabs h' := fun q hq => by
  have ne : ∀ ps, h.get? q.P = some (tabObj ps) → q.P ≠ a := fun ps e e' => by
    rw [e', ha] at e; cases e; exact hn _ rfl
  rcases x q hq with e | ⟨c', e1, e2, e3⟩
  · exact .inl (hk _ _ (ne _ e) e)
  · refine .inr ⟨c', hk _ _ (ne _ e1) e1, e2.keepsBut hk ha hn, e3⟩
theorem TI.notP {h : Heap} {a : Addr} {o : Obj} (x : TI tabs h) (ha : h.get? a = some o) (hn : ∀ vs, o.data ≠ .fields vs) : NT tabs a := fun q hq e => by
  subst e
  rcases x q hq with e | ⟨c', e1, _⟩
  · rw [e] at ha; cases ha; exact hn _ rfl
  · rw [e1] at ha; cases ha; exact hn _ rfl
/-- a new object's address is no table's -/
theorem TI.notNew {h : Heap} {a : Addr} (x : TI tabs h) (ha : h.get? a = none) : NT tabs a := fun q hq e => by
  subst e
  rcases x q hq with e | ⟨c', e1, _⟩
  · rw [e] at ha; cases ha
  · rw [e1] at ha; cases ha
theorem dead_size (h : Heap) : h.get? h.objs.size = none := by
  cases q : h.get? h.objs.size with
  | none => rfl
  | some o => exact absurd (Heap.lt_size q) (Nat.lt_irrefl _)
theorem Ext.ofKeep (ti : TI tabs s.heap) (hk : ∀ b o, s.heap.get? b = some o → s'.heap.get? b = some o) (tk : s.toks ≤ s'.toks) (g : s'.gens = s.gens := by rfl) (os : s'.os = s.os := by rfl) : Ext tabs s s' :=
  ⟨fun b o _ e => hk b o e, ti.keeps hk, g, os, tk⟩
theorem ExtF.ofKeep (ti : TI tabs s.heap) (hk : ∀ b o, s.heap.get? b = some o → s'.heap.get? b = some o) (tk : s.toks ≤ s'.toks) (g : s'.gens = s.gens := by rfl) (os : s'.os = s.os := by rfl) : ExtF tabs F s F s' :=
  ⟨.ofKeep ti hk tk g os, fun _ e => e, fun _ e => .inl e⟩
/-- one more address, new -/
theorem ExtF.grow {a : Addr} (x : ExtF tabs F s F' s') (h0 : s.heap.get? a = none) (hn : NT tabs a) (ho : ∃ o, s'.heap.get? a = some o) : ExtF tabs F s (fun b => F' b ∨ b = a) s' :=
  ⟨x.toExt, fun b e => .inl (x.mono b e), fun b e => by
    rcases e with e | rfl
    · exact x.new b e
    · exact .inr ⟨h0, hn, ho⟩⟩
theorem push_keep (h : Heap) (o : Obj) : ∀ b o', h.get? b = some o' → (h.push o).get? b = some o' := fun _ _ e => Heap.get?_push_of_some o e
end
/-- VR behind an evaluation -/
theorem VR.ext {tabs : List TabRec} {F F' : Addr → Prop} {s s' : Shared} (x : ExtF tabs F s F' s') (hF : ∀ a, F a → NT tabs a) {v : V} {y : Value} (e : VR s.heap F v y) : VR s'.heap F' v y :=
  VR.mono x.mono (fun a o fa g => x.keep a o (hF a fa) g) e
theorem VRs.ext {tabs : List TabRec} {F F' : Addr → Prop} {s s' : Shared} (x : ExtF tabs F s F' s') (hF : ∀ a, F a → NT tabs a) {v : List V} {y : List Value} (e : VRs s.heap F v y) : VRs s'.heap F' v y :=
  VRs.mono x.mono (fun a o fa g => x.keep a o (hF a fa) g) e
/-- looked at, not kept: any address that is no table's -/
theorem VR.any {tabs : List TabRec} {s s' : Shared} (x : Ext tabs s s') {v : V} {y : Value} (e : VR s.heap (NT tabs) v y) : VR s'.heap (NT tabs) v y :=
  VR.mono (fun _ e => e) (fun a o fa g => x.keep a o fa g) e
theorem VR.loose {tabs : List TabRec} {F : Addr → Prop} {h : Heap} (hF : ∀ a, F a → NT tabs a) {v : V} {y : Value} (e : VR h F v y) : VR h (NT tabs) v y :=
  VR.mono hF (fun _ _ _ g => g) e
theorem VRs.any {tabs : List TabRec} {s s' : Shared} (x : Ext tabs s s') {v : List V} {y : List Value} (e : VRs s.heap (NT tabs) v y) : VRs s'.heap (NT tabs) v y :=
  VRs.mono (fun _ e => e) (fun a o fa g => x.keep a o fa g) e
end Mine
end
section
namespace Mine
open PySem PySem.W PyProof.Rows

/-- as VR, but the outer list may be any: it is looked at, and not kept -/
noncomputable def VL (tabs : List TabRec) (h : Heap) (F : Addr → Prop) : V → Value → Prop
  | .lst vs, x => ∃ a its, x = .ref a ∧ NT tabs a ∧ h.IsList a its ∧ VRs h F vs its.toList
  | v, x => VR h F v x

section
variable {tabs : List TabRec} {h h' : Heap} {F F' : Addr → Prop} {s s' : Shared}
theorem VR.toL (hF : ∀ a, F a → NT tabs a) : ∀ {v : V} {x : Value}, VR h F v x → VL tabs h F v x
  | .none, _, e => e
  | .bool _, _, e => e
  | .int _, _, e => e
  | .flt _, _, e => e
  | .tup _, _, e => e
  | .rng _, _, e => e
  | .lst vs, _, e => by
    unfold VR at e
    obtain ⟨a, its, e1, e2, e3, e4⟩ := e
    exact ⟨a, its, e1, hF a e2, e3, e4⟩
theorem VL.ext (x : ExtF tabs F s F' s') (hF : ∀ a, F a → NT tabs a) : ∀ {v : V} {y : Value}, VL tabs s.heap F v y → VL tabs s'.heap F' v y
  | .none, _, e => e
  | .bool _, _, e => e
  | .int _, _, e => e
  | .flt _, _, e => e
  | .tup _, _, e => VR.ext x hF e
  | .rng _, _, e => VR.ext x hF e
  | .lst vs, _, e => by
    obtain ⟨a, its, e1, e2, ⟨o, e3, e4⟩, e5⟩ := e
    exact ⟨a, its, e1, e2, ⟨o, x.keep a o e2 e3, e4⟩, VRs.ext x hF e5⟩
end

noncomputable def opOf : Bop → Operator
  | .add => .Add | .sub => .Sub | .mul => .Mult | .fdiv => .FloorDiv | .mod => .Mod | .pow => .Pow
  | .shl => .LShift | .shr => .RShift | .band => .BitAnd | .bxor => .BitXor | .div => .Div

/-- what an evaluation of v comes to -/
noncomputable def Res (tabs : List TabRec) (F : Addr → Prop) (s : Shared) (v : V) (x : Value) (s' : Shared) : Prop := ∃ F', ExtF tabs F s F' s' ∧ VR s'.heap F' v x
abbrev noE : Value → Shared → Prop := fun _ _ => False

theorem small_bits {a : Int} (h : small a = true) : Builtin.Int.intBits a ≤ 64 := by
  have h1 : a.natAbs < 2 ^ 60 := of_decide_eq_true h
  unfold Builtin.Int.intBits
  split
  · omega
  · rename_i hz
    have hz' : a.natAbs ≠ 0 := Int.natAbs_ne_zero.mpr (by simpa using hz)
    have : a.natAbs.log2 < 60 := (Nat.log2_lt hz').mpr h1
    omega

section
variable {prog : Program} {w : World} {tabs : List TabRec} {A : Around} {F : Addr → Prop} {s : Shared}

theorem bin_sound {o : Bop} {a b v : V} {x y : Value} (hA : A.handled = none) (hP : PylongRoom (model prog w) A s) (htk : 1 ≤ s.toks) (ti : TI tabs s.heap) (hF : ∀ a, F a → NT tabs a)
    (ha : VL tabs s.heap F a x) (hb : VL tabs s.heap F b y) (hv : bin o a b = some v) :
    wpAny (model prog w) A (binaryOp (opOf o) x y) (Res tabs F s v) noE s := by
  have tok : ExtF tabs F s F { s with toks := s.toks + 1 } := .ofKeep ti (fun _ _ e => e) (Nat.le_succ _)
  have tz : s.toks ≠ 0 := by omega
  unfold bin at hv
  split at hv
  · cases o <;> simp only [binII] at hv
    · obtain ⟨t, rfl⟩ := ha; obtain ⟨u, rfl⟩ := hb; cases hv
      exact PyProof.Rows.add_int ⟨F, tok, _, rfl⟩
    · obtain ⟨t, rfl⟩ := ha; obtain ⟨u, rfl⟩ := hb; cases hv
      exact PyProof.Rows.sub_int ⟨F, tok, _, rfl⟩
    · split at hv
      · rename_i hc
        obtain ⟨t, rfl⟩ := ha; obtain ⟨u, rfl⟩ := hb; cases hv
        simp only [Bool.and_eq_true] at hc
        exact PyProof.Rows.mul_int ⟨F, tok, _, rfl⟩ (.of_left (small_bits hc.1))
      · cases hv
    · split at hv
      · cases hv
      · rename_i hc
        obtain ⟨t, rfl⟩ := ha; obtain ⟨u, rfl⟩ := hb; cases hv
        exact PyProof.Rows.floordiv_int (by simpa using hc) ⟨F, tok, _, rfl⟩ (.inr hP)
    · split at hv
      · cases hv
      · rename_i hc
        obtain ⟨t, rfl⟩ := ha; obtain ⟨u, rfl⟩ := hb; cases hv
        exact PyProof.Rows.mod_int (by simpa using hc) ⟨F, tok, _, rfl⟩
    · split at hv
      · rename_i hc
        obtain ⟨t, rfl⟩ := ha; obtain ⟨u, rfl⟩ := hb; cases hv
        simp only [Bool.and_eq_true, decide_eq_true_eq] at hc
        have := small_bits hc.2
        refine PyProof.Rows.pow_int hc.1.1 ?_ ⟨F, tok, _, rfl⟩
        have h1 := hc.1.1
        have h2 := hc.1.2
        calc _ ≤ (64 : Int) * 64 := Int.mul_le_mul (by omega) h2 h1 (by omega)
          _ ≤ _ := by decide
      · cases hv
    · split at hv
      · rename_i hc
        obtain ⟨t, rfl⟩ := ha; obtain ⟨u, rfl⟩ := hb; cases hv
        simp only [Bool.and_eq_true, decide_eq_true_eq] at hc
        have := small_bits hc.2
        exact PyProof.Rows.lshift_int hc.1.1 (by have := hc.1.2; omega) ⟨F, tok, _, rfl⟩
      · cases hv
    · split at hv
      · rename_i hc
        obtain ⟨t, rfl⟩ := ha; obtain ⟨u, rfl⟩ := hb; cases hv
        exact PyProof.Rows.rshift_int (by simpa using hc) ⟨F, tok, _, rfl⟩
      · cases hv
    · obtain ⟨t, rfl⟩ := ha; obtain ⟨u, rfl⟩ := hb; cases hv
      exact PyProof.Rows.and_int ⟨F, tok, _, rfl⟩
    · obtain ⟨t, rfl⟩ := ha; obtain ⟨u, rfl⟩ := hb; cases hv
      exact PyProof.Rows.xor_int ⟨F, tok, _, rfl⟩
    · split at hv
      · cases hv
      · rename_i hc
        obtain ⟨t, rfl⟩ := ha; obtain ⟨u, rfl⟩ := hb; cases hv
        simp only [Bool.or_eq_true, not_or, beq_iff_eq, Bool.not_eq_true', Bool.not_eq_false] at hc
        have h1 : _ < 2 ^ 60 := of_decide_eq_true hc.2
        exact PySem.Flt.div_ii_fits hA (Nat.lt_trans h1 (Nat.pow_lt_pow_right (by decide) (by decide))) (fun e => absurd e hc.1) fun _ _ => ⟨F, tok, _, rfl, tz⟩
  · unfold binFF at hv
    split at hv
    · obtain ⟨t, rfl, _⟩ := ha; obtain ⟨u, rfl, _⟩ := hb; cases hv
      exact PyProof.Rows.add_float ⟨F, tok, _, rfl, tz⟩
    · obtain ⟨t, rfl, _⟩ := ha; obtain ⟨u, rfl, _⟩ := hb; cases hv
      exact PyProof.Rows.sub_float ⟨F, tok, _, rfl, tz⟩
    · obtain ⟨t, rfl, _⟩ := ha; obtain ⟨u, rfl, _⟩ := hb; cases hv
      exact PyProof.Rows.mul_float ⟨F, tok, _, rfl, tz⟩
    · split at hv
      · cases hv
      · rename_i hc
        obtain ⟨t, rfl, _⟩ := ha; obtain ⟨u, rfl, _⟩ := hb; cases hv
        exact PyProof.Rows.truediv_float_or hA (fun e => absurd e hc) fun _ => ⟨F, tok, _, rfl, tz⟩
    · split at hv
      · cases hv
      · rename_i hc
        obtain ⟨t, rfl, _⟩ := ha; obtain ⟨u, rfl, _⟩ := hb; cases hv
        exact PySem.Flt.mod_ff hA (fun e => absurd e hc) fun _ => ⟨F, tok, _, rfl, tz⟩
    · cases hv
  · unfold binFI at hv
    split at hv
    · split at hv
      · rename_i hc
        obtain ⟨t, rfl, _⟩ := ha; obtain ⟨u, rfl⟩ := hb; cases hv
        have h1 : _ < 2 ^ 60 := of_decide_eq_true hc
        exact PyProof.Rows.sub_fi_fits (Nat.lt_trans h1 (Nat.pow_lt_pow_right (by decide) (by decide))) ⟨F, tok, _, rfl, tz⟩
      · cases hv
    · split at hv
      · rename_i hc
        obtain ⟨t, rfl, _⟩ := ha; obtain ⟨u, rfl⟩ := hb; cases hv
        have h1 : _ < 2 ^ 60 := of_decide_eq_true hc
        exact PyProof.Rows.mul_fi_fits (Nat.lt_trans h1 (Nat.pow_lt_pow_right (by decide) (by decide))) ⟨F, tok, _, rfl, tz⟩
      · cases hv
    · split at hv
      · cases hv
      · rename_i hc
        obtain ⟨t, rfl, _⟩ := ha; obtain ⟨u, rfl⟩ := hb; cases hv
        simp only [Bool.or_eq_true, not_or, beq_iff_eq, Bool.not_eq_true', Bool.not_eq_false] at hc
        have h1 : _ < 2 ^ 60 := of_decide_eq_true hc.2
        refine PySem.Flt.truediv_fi hA (fun e => ?_) (fun e => absurd e hc.1) fun _ _ => ⟨F, tok, _, rfl, tz⟩
        exfalso
        have e' := e
        unfold PySem.Flt.Over at e'
        have h2 : (2:Nat) ^ 60 ≤ 2 ^ 1024 - 2 ^ 970 := by decide +kernel
        exact absurd (Nat.lt_of_lt_of_le h1 (Nat.le_trans h2 e')) (Nat.lt_irrefl _)
    · cases hv
  · unfold binIF at hv
    split at hv
    · split at hv
      · rename_i hc
        obtain ⟨t, rfl⟩ := ha; obtain ⟨u, rfl, _⟩ := hb; cases hv
        have h1 : _ < 2 ^ 60 := of_decide_eq_true hc
        exact PyProof.Rows.sub_if_fits (Nat.lt_trans h1 (Nat.pow_lt_pow_right (by decide) (by decide))) ⟨F, tok, _, rfl, tz⟩
      · cases hv
    · split at hv
      · rename_i hc
        obtain ⟨t, rfl⟩ := ha; obtain ⟨u, rfl, _⟩ := hb; cases hv
        have h1 : _ < 2 ^ 60 := of_decide_eq_true hc
        exact PyProof.Rows.mul_if_fits (Nat.lt_trans h1 (Nat.pow_lt_pow_right (by decide) (by decide))) ⟨F, tok, _, rfl, tz⟩
      · cases hv
    · cases hv
  · unfold binLL at hv
    split at hv
    · split at hv
      · rename_i hc
        obtain ⟨i, its, rfl, h1, h2, h3⟩ := ha
        obtain ⟨j, itt, rfl, h4, h5, h6⟩ := hb
        cases hv
        have l1 := h3.length
        have l2 := h6.length
        simp only [Array.length_toList] at l1 l2
        obtain ⟨⟨cls, dd, data, sl⟩, ho, hc', n, hd⟩ := id h2
        obtain ⟨⟨cls2, dd2, data2, sl2⟩, ho2, hc2, n2, hd2⟩ := id h5
        simp only at hc' hd hc2 hd2
        subst hc' hd hc2 hd2
        refine concat_meets ⟨_, ho, rfl⟩ ⟨_, ho2, rfl⟩ noFill_list_add seq_list_add PySem.F.slot_list_add PySem.F.entry_list_add (PySem.F.args_list_add_2 _ _) (list_addW i j its itt n n2 dd dd2 sl sl2 (by rw [l1, l2]; exact Nat.le_trans hc (by decide))) ⟨ho, ho2, ?_⟩
        have x : ExtF tabs F s F { s with heap := s.heap.push { cls := .type "list", data := .seq (its ++ itt) } } := .ofKeep ti (push_keep _ _) (Nat.le_refl _)
        have y := x.grow (dead_size s.heap) (ti.notNew (dead_size _)) ⟨_, Heap.get?_push_size _ rfl⟩
        refine ⟨_, y, ?_⟩
        unfold VR
        exact ⟨_, its ++ itt, rfl, .inr rfl, ⟨_, Heap.get?_push_size _ rfl, rfl, _, rfl⟩, by rw [Array.toList_append]; exact VRs.append (VRs.ext y hF h3) (VRs.ext y hF h6)⟩
      · cases hv
    · cases hv
  · cases hv

noncomputable def copOf : Cop → CmpOp
  | .eq => .Eq | .ne => .NotEq | .lt => .Lt | .le => .LtE | .gt => .Gt | .ge => .GtE | .isin => .In

open PySem.SeqAt in
theorem eqE_at {a b : V} {x y : Value} {k : Bool} {A : Around} {s : Shared} {h : Heap} {F : Addr → Prop} (nb : NoneBooked s.heap) (ha : VR h F a x) (hb : VR h F b y) (hv : eqE a b = some k) : EqAt A s x y k := by
  unfold eqE at hv
  split at hv
  · obtain ⟨t, rfl⟩ := ha; obtain ⟨u, rfl⟩ := hb; cases hv
    exact EqAt.int_int _ _ _ _
  · cases ha; cases hb; cases hv
    exact EqAt.bool_bool _ _
  · obtain ⟨t, rfl, ht⟩ := ha; obtain ⟨u, rfl, hu⟩ := hb
    rename_i p q
    split at hv
    · rename_i hn
      cases hv
      intro prog w E Q hq
      have rest : wpAny (model prog w) A (do truthOfDropped (← richCompare CmpOp.Eq (Value.float p t) (Value.float q u))) Q E s := by
        refine wpAny_bind (AutoFloatOps.eq_0 ?_)
        rw [hn]
        exact wpAny_truthy_bool hq
      unfold eqBool
      refine wpAny_holding ?_
      refine wpAny_ite_split (fun _ => wpAny_bind (wpAny_rule (wpAny_pure hq))) (fun _ => ?_)
      refine wpAny_bind ?_
      unfold isSame isSame.created
      dsimp only
      rw [if_neg (by simp [ht, hu])]
      by_cases h1 : (t == u) = true
      · rw [if_pos h1]; exact wpAny_pure (wpAny_pure hq)
      rw [if_neg h1]
      by_cases h2 : (!(p == q && !Float64.isNaN p)) = true
      · rw [if_pos h2]; exact wpAny_pure rest
      rw [if_neg h2]
      refine wpAny_bind (wpAny_sharingNotTold_none nb ?_)
      rw [if_neg Bool.false_ne_true]
      refine wpAny_bind (wpAny_sharingNotTold_none nb ?_)
      rw [if_neg Bool.false_ne_true]
      refine wpAny_bind (wpAny_rule ?_)
      refine wpAny_bind (wpAny_askSetting ?_)
      refine wpAny_pure ?_
      split
      · exact wpAny_pure hq
      · exact rest
    · cases hv
  · cases hv
theorem eqs_len : ∀ {a b : List V} {k : Bool}, eqs a b = some k → a.length = b.length
  | [], [], _, _ => rfl
  | [], _ :: _, _, h => by simp [eqs] at h
  | _ :: _, [], _, h => by simp [eqs] at h
  | a :: r, b :: t, k, h => by
    unfold eqs at h
    split at h
    · rename_i h2
      simp [eqs_len h2]
    · cases h
open PySem.SeqAt in
theorem eqs_at {A : Around} {s : Shared} {h : Heap} {F : Addr → Prop} (nb : NoneBooked s.heap) : ∀ {a b : List V} {xs ys : List Value} {k : Bool}, VRs h F a xs → VRs h F b ys → eqs a b = some k →
    ∃ e : Nat → Bool, (∀ j (h1 : j < xs.length) (h2 : j < ys.length), EqAt A s xs[j] ys[j] (e j)) ∧ (List.range xs.length).all e = k
  | [], [], _, _, k, ha, hb, hv => by
    unfold VRs at ha hb; subst ha hb
    cases hv
    exact ⟨fun _ => true, fun j h1 => absurd h1 (Nat.not_lt_zero _), rfl⟩
  | [], _ :: _, _, _, _, _, _, h => by simp [eqs] at h
  | _ :: _, [], _, _, _, _, _, h => by simp [eqs] at h
  | a :: r, b :: t, _, _, k, ha, hb, hv => by
    unfold VRs at ha hb
    obtain ⟨x, xs, rfl, a1, a2⟩ := ha
    obtain ⟨y, ys, rfl, b1, b2⟩ := hb
    unfold eqs at hv
    split at hv
    · rename_i k1 k2 g1 g2
      cases hv
      obtain ⟨e, e1, e2⟩ := eqs_at nb a2 b2 g2
      refine ⟨fun j => match j with | 0 => k1 | i + 1 => e i, fun j h1 h2 => ?_, ?_⟩
      · cases j with
        | zero => exact eqE_at nb a1 b1 g1
        | succ i => exact e1 i (by simpa using h1) (by simpa using h2)
      · simp only [List.length_cons, List.range_succ_eq_map, List.all_cons, List.all_map]
        rw [← e2]; rfl
    · cases hv
theorem lists_of {h : Heap} {F : Addr → Prop} {vs : List V} {its : Array Value} (e : VRs h F vs its.toList) : its.size = vs.length := by
  simpa using e.length

open PySem.SeqAt in
theorem veq_sound {a b : V} {x y : Value} {k : Bool} (nb : NoneBooked s.heap) (hu : A.units < cLine) (ha : VL tabs s.heap F a x) (hb : VL tabs s.heap F b y) (hv : veq a b = some k) :
    (∀ Q : Value → Shared → Prop, Q (.bool k) s → wpAny (model prog w) A (compareOp .Eq x y) Q noE s) ∧
    (∀ Q : Value → Shared → Prop, Q (.bool (!k)) s → wpAny (model prog w) A (compareOp .NotEq x y) Q noE s) := by
  unfold veq at hv
  split at hv
  · obtain ⟨i, its, rfl, _, h2, h3⟩ := ha
    obtain ⟨j, itt, rfl, _, h5, h6⟩ := hb
    have l1 := lists_of h3
    have l2 := lists_of h6
    split at hv
    · rename_i hl
      have hl' := eq_of_beq hl
      obtain ⟨e, e1, e2⟩ := eqs_at (A := A.in1) (s := s) nb h3 h6 hv
      simp only [Array.length_toList] at e1 e2
      have e1' : ∀ j (h1 : j < its.size) (h2 : j < itt.size), EqAt A.in1 s its[j] itt[j] (e j) := fun j h1 h2 => by simpa using e1 j h1 h2
      rw [← e2]
      exact ⟨fun Q hq => RcAt.lists h2 h5 (by omega) hu e1' prog w _ Q hq, fun Q hq => RcNeAt.lists h2 h5 (by omega) hu e1' prog w _ Q hq⟩
    · rename_i hl
      cases hv
      have hne : (its.size != itt.size) = true := by
        rw [l1, l2]; simpa using hl
      exact ⟨fun Q hq => RcAt.lists_lengths h2 h5 hne hu prog w _ Q hq, fun Q hq => RcNeAt.lists_lengths h2 h5 hne hu prog w _ Q hq⟩
  · replace ha : VR s.heap F _ _ := ha
    replace hb : VR s.heap F _ _ := hb
    unfold VR at ha hb
    obtain ⟨i, its, rfl, _, h2, h3⟩ := ha
    obtain ⟨j, itt, rfl, _, h5, h6⟩ := hb
    have l1 := lists_of h3
    have l2 := lists_of h6
    split at hv
    · rename_i hl
      have hl' := eq_of_beq hl
      obtain ⟨e, e1, e2⟩ := eqs_at (A := A.in1) (s := s) nb h3 h6 hv
      simp only [Array.length_toList] at e1 e2
      have e1' : ∀ j (h1 : j < its.size) (h2 : j < itt.size), EqAt A.in1 s its[j] itt[j] (e j) := fun j h1 h2 => by simpa using e1 j h1 h2
      have e3 : ((List.range (min its.size itt.size)).all e && its.size == itt.size) = k := by
        rw [show its.size = itt.size by omega] at e2 ⊢
        simp [e2]
      rw [← e3]
      exact ⟨fun Q hq => RcAt.tuples h2 h5 hu e1' prog w _ Q hq, fun Q hq => RcNeAt.tuples h2 h5 hu e1' prog w _ Q hq⟩
    · cases hv
  · unfold eq1 at hv
    split at hv
    · obtain ⟨t, rfl⟩ := ha; obtain ⟨u, rfl⟩ := hb; cases hv
      exact ⟨fun Q hq => PyProof.Rows.eq_int hq, fun Q hq => PyProof.Rows.ne_int hq⟩
    · cases ha; cases hb; cases hv
      exact ⟨fun Q hq => PyProof.Rows.eq_bool hq, fun Q hq => PyProof.Rows.ne_bool hq⟩
    · obtain ⟨t, rfl, _⟩ := ha; obtain ⟨u, rfl, _⟩ := hb
      · cases hv
        exact ⟨fun Q hq => AutoFloatOps.eq_0 hq, fun Q hq => AutoFloatOps.ne_0 hq⟩
    · cases hv

theorem allInts_mem : ∀ {vs : List V} {ns : List Int}, allInts vs = some ns → vs = ns.map V.int
  | [], _, h => by cases h; rfl
  | .int i :: r, _, h => by
    simp only [allInts, Option.map_eq_some_iff] at h
    obtain ⟨m, h1, rfl⟩ := h
    rw [allInts_mem h1]; rfl
  | .none :: _, _, h => by simp [allInts] at h
  | .bool _ :: _, _, h => by simp [allInts] at h
  | .flt _ :: _, _, h => by simp [allInts] at h
  | .lst _ :: _, _, h => by simp [allInts] at h
  | .tup _ :: _, _, h => by simp [allInts] at h
  | .rng _ :: _, _, h => by simp [allInts] at h
theorem ints_vals {h : Heap} {F : Addr → Prop} : ∀ {ns : List Int} {xs : List Value}, VRs h F (ns.map V.int) xs → ∃ ps : List (Int × Tok), xs = ps.map (fun p => .int p.1 p.2) ∧ ps.map (·.1) = ns
  | [], _, e => by unfold VRs at e; exact ⟨[], by simpa using e, rfl⟩
  | n :: r, _, e => by
    simp only [List.map_cons] at e
    unfold VRs at e
    obtain ⟨x, t, rfl, ⟨u, rfl⟩, e3⟩ := e
    obtain ⟨ps, rfl, rfl⟩ := ints_vals e3
    exact ⟨(n, u) :: ps, rfl, rfl⟩

open PySem.SeqAt in
theorem cmp_sound {o : Cop} {a b : V} {x y : Value} {k : Bool} (nb : NoneBooked s.heap) (hu : A.units < cLine) (ha : VL tabs s.heap F a x) (hb : VL tabs s.heap F b y) (hv : cmp o a b = some k)
    (Q : Value → Shared → Prop) (hq : Q (.bool k) s) : wpAny (model prog w) A (compareOp (copOf o) x y) Q noE s := by
  unfold cmp at hv
  split at hv
  · exact (veq_sound nb hu ha hb hv).1 Q hq
  · simp only [Option.map_eq_some_iff] at hv
    obtain ⟨k', h1, rfl⟩ := hv
    exact (veq_sound nb hu ha hb h1).2 Q hq
  · unfold cmpR at hv
    split at hv
    · obtain ⟨t, rfl⟩ := ha; obtain ⟨u, rfl⟩ := hb
      cases o <;> cases hv
      · exact PyProof.Rows.lt_int hq
      · exact PyProof.Rows.le_int hq
      · exact PyProof.Rows.gt_int hq
      · exact PyProof.Rows.ge_int hq
    · obtain ⟨t, rfl, _⟩ := ha; obtain ⟨u, rfl, _⟩ := hb
      cases o <;> cases hv
      exact AutoFloatOps.le_0 hq
    · obtain ⟨t, rfl, _⟩ := ha; obtain ⟨u, rfl⟩ := hb
      cases o <;> cases hv
      exact PyProof.Rows.gt_fi hq
    · rename_i p vs
      obtain ⟨t, rfl⟩ := ha
      obtain ⟨j, itt, rfl, _, h5, h6⟩ := hb
      have e0 : o = .isin := by cases o <;> first | rfl | cases hv
      subst e0
      have hv' : (allInts vs).map (fun ns => ns.contains p) = some k := hv
      simp only [Option.map_eq_some_iff] at hv'
      obtain ⟨ns, h1, rfl⟩ := hv'
      rw [allInts_mem h1] at h6
      obtain ⟨ps, e1, e2⟩ := ints_vals h6
      refine in_listAt (fun y => match y with | .int i _ => i == p | _ => false) h5 (fun y hy => ?_) ?_
      · have hy' : y ∈ itt.toList := by simpa using hy
        rw [e1] at hy'
        obtain ⟨q, _, rfl⟩ := List.mem_map.mp hy'
        exact EqAt.int_int _ _ _ _
      · have : itt.any (fun y => match y with | .int i _ => i == p | _ => false) = ns.contains p := by
          rw [← Array.any_toList, e1, ← e2, List.any_map]
          clear e1 e2 h6 h1
          induction ps with
          | nil => rfl
          | cons q r ih =>
            rw [List.any_cons, ih, List.map_cons, List.contains_cons]
            congr 1
            exact Bool.beq_comm
        rw [this]; exact hq
    · cases hv
end
end Mine
end
section
namespace Mine
open PySem PySem.W PyProof.Rows

section
variable {prog : Program} {w : World} {A : Around} {E : Value → Shared → Prop} {s : Shared}
theorem args_max3 (a b c : Value) : argsOk "max" ⟨[a, b, c], []⟩ := by unfold argsOk; kernel_rfl
theorem args_min3 (a b c : Value) : argsOk "min" ⟨[a, b, c], []⟩ := by unfold argsOk; kernel_rfl
/-- the greatest of three -/
theorem call_max3 {a b c : Value} {Q : Value → Shared → Prop}
    (h : wpAny (model prog w) A.in1 (pyIter (.ref s.heap.objs.size)) (fun it s₂ => ∃ I fp wr n P St bt, it = .ref I ∧ Walks prog w A.in1 I fp wr n P St ∧ St 0 s₂.heap ∧ (∀ b ∈ fp, b < s₂.heap.objs.size) ∧ 0 < n ∧ CmpOf prog w A.in1 .Gt P bt ∧
      ∀ v h' tk, P (argBest bt (n - 1)) v → (∀ b o, b ∉ wr → s₂.heap.get? b = some o → h'.get? b = some o) → Q v { s₂ with heap := h', toks := tk }) E
      { s with heap := s.heap.push { cls := .type "tuple", data := .seq #[a, b, c] } }) :
    wpAny (model prog w) A (call (.builtin "max") [a, b, c]) Q E s := by
  have hname : (toString "max" ++ toString ".loop" : String) = "max.loop" := by decide
  refine call_function_tree F.kind_max F.plain_max F.entry_max (args_max3 _ _ _) ?_
  show wpAny _ A.in1 (Builtin.Builtins.bindParams "max" ["key", "default"] 0 ⟨[], []⟩ >>= _) _ _ s
  refine wpAny_bind (wpAny_of_eq (show Builtin.Builtins.bindParams "max" ["key", "default"] 0 ⟨[], []⟩ = pure [none, none] from rfl) ?_)
  show wpAny _ A.in1 (newTuple [a, b, c] >>= _) _ _ s
  refine wpAny_bind (wpAny_newObj_type ?_)
  refine wpAny_bind (wpAny_mono h (fun it s₂ h₂ => ?_) fun _ _ e => e)
  obtain ⟨I, fp, wr, n, P, St, bt, rfl, W, hst, hfp, hn, hcmp, hQ⟩ := h₂
  refine wpAny_bind (wpAny_newObj_type ?_)
  have hSf : s₂.heap.objs.size ∉ fp := fun hm => Nat.lt_irrefl _ (hfp _ hm)
  rw [hname]
  refine wpAny_pure ⟨plainId_quiet F.plain_max_loop _, codeAny_max_loop_first W bt hcmp s₂.heap.objs.size hSf hn (W.frame _ _ _ hst fun b _ o e => Heap.get?_push_of_some _ e) (Heap.get?_push_size _ rfl) fun v h' tk hP hk => ?_⟩
  exact hQ v h' tk hP fun b o hbw e => hk b o hbw (Nat.ne_of_lt (Heap.lt_size e)) (Heap.get?_push_of_some _ e)
theorem call_min3 {a b c : Value} {Q : Value → Shared → Prop}
    (h : wpAny (model prog w) A.in1 (pyIter (.ref s.heap.objs.size)) (fun it s₂ => ∃ I fp wr n P St bt, it = .ref I ∧ Walks prog w A.in1 I fp wr n P St ∧ St 0 s₂.heap ∧ (∀ b ∈ fp, b < s₂.heap.objs.size) ∧ 0 < n ∧ CmpOf prog w A.in1 .Lt P bt ∧
      ∀ v h' tk, P (argBest bt (n - 1)) v → (∀ b o, b ∉ wr → s₂.heap.get? b = some o → h'.get? b = some o) → Q v { s₂ with heap := h', toks := tk }) E
      { s with heap := s.heap.push { cls := .type "tuple", data := .seq #[a, b, c] } }) :
    wpAny (model prog w) A (call (.builtin "min") [a, b, c]) Q E s := by
  have hname : (toString "min" ++ toString ".loop" : String) = "min.loop" := by decide
  refine call_function_tree F.kind_min F.plain_min F.entry_min (args_min3 _ _ _) ?_
  show wpAny _ A.in1 (Builtin.Builtins.bindParams "min" ["key", "default"] 0 ⟨[], []⟩ >>= _) _ _ s
  refine wpAny_bind (wpAny_of_eq (show Builtin.Builtins.bindParams "min" ["key", "default"] 0 ⟨[], []⟩ = pure [none, none] from rfl) ?_)
  show wpAny _ A.in1 (newTuple [a, b, c] >>= _) _ _ s
  refine wpAny_bind (wpAny_newObj_type ?_)
  refine wpAny_bind (wpAny_mono h (fun it s₂ h₂ => ?_) fun _ _ e => e)
  obtain ⟨I, fp, wr, n, P, St, bt, rfl, W, hst, hfp, hn, hcmp, hQ⟩ := h₂
  refine wpAny_bind (wpAny_newObj_type ?_)
  have hSf : s₂.heap.objs.size ∉ fp := fun hm => Nat.lt_irrefl _ (hfp _ hm)
  rw [hname]
  refine wpAny_pure ⟨plainId_quiet F.plain_min_loop _, codeAny_min_loop_first W bt hcmp s₂.heap.objs.size hSf hn (W.frame _ _ _ hst fun b _ o e => Heap.get?_push_of_some _ e) (Heap.get?_push_size _ rfl) fun v h' tk hP hk => ?_⟩
  exact hQ v h' tk hP fun b o hbw e => hk b o hbw (Nat.ne_of_lt (Heap.lt_size e)) (Heap.get?_push_of_some _ e)

open PySem.Flt in
theorem max3_num {Q : Value → Shared → Prop} {a b c : Value} (hh : A.handled = none) (ha : NumV a) (hb : NumV b) (hc : NumV c)
    (h : ∀ h' tk, (∀ c o, s.heap.get? c = some o → h'.get? c = some o) → Q (if ltV (if ltV a b then b else a) c then c else (if ltV a b then b else a)) { s with heap := h', toks := tk }) :
    wpAny (model prog w) A (call (.builtin "max") [a, b, c]) Q E s := by
  have hT : (s.heap.push { cls := .type "tuple", data := .seq #[a, b, c] }).IsTuple s.heap.objs.size #[a, b, c] := ⟨_, Heap.get?_push_size _ rfl, rfl, 0, rfl⟩
  refine call_max3 (wpAny_pyIter_tuple hT ?_)
  have hsz : (s.heap.push { cls := .type "tuple", data := .seq #[a, b, c] }).objs.size = s.heap.objs.size + 1 := Heap.size_push ..
  refine ⟨_, [_, s.heap.objs.size], [_], _, _, _, _, rfl, Walks.tuple (A := A.in1) hh _ s.heap.objs.size (by rw [hsz]; exact Nat.ne_of_lt (Nat.lt_succ_self _)) #[a, b, c],
    ⟨⟨_, Heap.get?_push_size _ rfl, rfl, rfl⟩, hT.push _⟩, fun d hd => ?_, by simp, cmpOf_gt #[a, b, c] (by simp [ha, hb, hc]), fun v h' tk hP hk => ?_⟩
  · show d < ((s.heap.push _).push _).objs.size
    rw [Heap.size_push, hsz]
    rcases List.mem_cons.mp hd with rfl | hd
    · rw [hsz]; exact Nat.lt_succ_self _
    · rcases List.mem_cons.mp hd with rfl | hd
      · exact Nat.lt_succ_of_lt (Nat.lt_succ_self _)
      · cases hd
  · have hold : ∀ d o, s.heap.get? d = some o → h'.get? d = some o := fun d o e => by
      refine hk d o (fun hm => ?_) (Heap.get?_push_of_some _ (Heap.get?_push_of_some _ e))
      rcases List.mem_cons.mp hm with e1 | hm
      · have := Heap.lt_size e; rw [e1, hsz] at this; exact Nat.lt_irrefl _ (Nat.lt_of_succ_lt this)
      · cases hm
    have := h h' tk hold
    have hv : v = if ltV (if ltV a b then b else a) c then c else (if ltV a b then b else a) := by
      cases h1 : ltV a b
      · cases h2 : ltV a c <;> simp [argBest, h1, h2] at hP ⊢ <;> exact hP.symm
      · cases h2 : ltV b c <;> simp [argBest, h1, h2] at hP ⊢ <;> exact hP.symm
    rw [hv]; exact this
open PySem.Flt in
theorem min3_num {Q : Value → Shared → Prop} {a b c : Value} (hh : A.handled = none) (ha : NumV a) (hb : NumV b) (hc : NumV c)
    (h : ∀ h' tk, (∀ c o, s.heap.get? c = some o → h'.get? c = some o) → Q (if ltV c (if ltV b a then b else a) then c else (if ltV b a then b else a)) { s with heap := h', toks := tk }) :
    wpAny (model prog w) A (call (.builtin "min") [a, b, c]) Q E s := by
  have hT : (s.heap.push { cls := .type "tuple", data := .seq #[a, b, c] }).IsTuple s.heap.objs.size #[a, b, c] := ⟨_, Heap.get?_push_size _ rfl, rfl, 0, rfl⟩
  refine call_min3 (wpAny_pyIter_tuple hT ?_)
  have hsz : (s.heap.push { cls := .type "tuple", data := .seq #[a, b, c] }).objs.size = s.heap.objs.size + 1 := Heap.size_push ..
  refine ⟨_, [_, s.heap.objs.size], [_], _, _, _, _, rfl, Walks.tuple (A := A.in1) hh _ s.heap.objs.size (by rw [hsz]; exact Nat.ne_of_lt (Nat.lt_succ_self _)) #[a, b, c],
    ⟨⟨_, Heap.get?_push_size _ rfl, rfl, rfl⟩, hT.push _⟩, fun d hd => ?_, by simp, cmpOf_lt #[a, b, c] (by simp [ha, hb, hc]), fun v h' tk hP hk => ?_⟩
  · show d < ((s.heap.push _).push _).objs.size
    rw [Heap.size_push, hsz]
    rcases List.mem_cons.mp hd with rfl | hd
    · rw [hsz]; exact Nat.lt_succ_self _
    · rcases List.mem_cons.mp hd with rfl | hd
      · exact Nat.lt_succ_of_lt (Nat.lt_succ_self _)
      · cases hd
  · have hold : ∀ d o, s.heap.get? d = some o → h'.get? d = some o := fun d o e => by
      refine hk d o (fun hm => ?_) (Heap.get?_push_of_some _ (Heap.get?_push_of_some _ e))
      rcases List.mem_cons.mp hm with e1 | hm
      · have := Heap.lt_size e; rw [e1, hsz] at this; exact Nat.lt_irrefl _ (Nat.lt_of_succ_lt this)
      · cases hm
    have := h h' tk hold
    have hv : v = if ltV c (if ltV b a then b else a) then c else (if ltV b a then b else a) := by
      cases h1 : ltV b a
      · cases h2 : ltV c a <;> simp [argBest, h1, h2] at hP ⊢ <;> exact hP.symm
      · cases h2 : ltV c b <;> simp [argBest, h1, h2] at hP ⊢ <;> exact hP.symm
    rw [hv]; exact this
end

noncomputable def VLs (tabs : List TabRec) (h : Heap) (F : Addr → Prop) : List V → List Value → Prop
  | [], l => l = []
  | v :: r, l => ∃ x t, l = x :: t ∧ VL tabs h F v x ∧ VLs tabs h F r t
theorem VLs.ext {tabs : List TabRec} {F F' : Addr → Prop} {s s' : Shared} (x : ExtF tabs F s F' s') (hF : ∀ a, F a → NT tabs a) : ∀ {v : List V} {y : List Value}, VLs tabs s.heap F v y → VLs tabs s'.heap F' v y
  | [], _, e => e
  | _ :: _, _, ⟨a, t, e1, e2, e3⟩ => ⟨a, t, e1, e2.ext x hF, VLs.ext x hF e3⟩

noncomputable def fOf : Bi → Value
  | .len => .builtin "len" | .sum => .builtin "sum" | .abs => .builtin "abs" | .max => .builtin "max" | .min => .builtin "min"
  | .int => .type "int" | .divmod => .builtin "divmod" | .range => .type "range" | .isbool => .builtin "isinstance"
noncomputable def moreOf : Bi → List Value
  | .isbool => [.type "bool"]
  | _ => []

section
variable {prog : Program} {w : World} {tabs : List TabRec} {A : Around} {F : Addr → Prop} {s : Shared}
theorem tokWrap {α : Type} {M : Model} {t : Sem α} {Q : α → Shared → Prop} (h : wpAny M A t (fun a s' => s.toks ≤ s'.toks → Q a s') noE s) : wpAny M A t Q noE s :=
  wpAny_with_toks (Nat.le_refl _) (wpAny_mono h (fun _ _ x => x) fun _ _ x => x.elim)

theorem grown {o : Obj} {tk : Nat} (ti : TI tabs s.heap) (ho : o.isFreed = false) (htk : s.toks ≤ tk) :
    ExtF tabs F s (fun b => F b ∨ b = s.heap.objs.size) { s with heap := s.heap.push o, toks := tk } :=
  (ExtF.ofKeep (s' := { s with heap := s.heap.push o, toks := tk }) ti (push_keep _ _) htk).grow (dead_size s.heap) (ti.notNew (dead_size _)) ⟨_, Heap.get?_push_size _ ho⟩

/-- a float object that stands for u -/
noncomputable def FObj (u : UInt64) (x : Value) : Prop := ∃ t, x = .float u t ∧ t ≠ 0
theorem FObj.pick {u v : UInt64} {x y : Value} (c : Bool) (h1 : FObj u x) (h2 : FObj v y) : FObj (if c = true then u else v) (if c = true then x else y) := by
  cases c
  · exact h2
  · exact h1
theorem FObj.lt {u v : UInt64} {x y : Value} (h1 : FObj u x) (h2 : FObj v y) : PySem.Flt.ltV x y = (Float64.cmp u v == some .lt) := by
  obtain ⟨_, rfl, _⟩ := h1
  obtain ⟨_, rfl, _⟩ := h2
  rfl
theorem FObj.max {u v : UInt64} {x y : Value} (h1 : FObj u x) (h2 : FObj v y) : FObj (maxF u v) (if PySem.Flt.ltV x y = true then y else x) := by
  rw [h1.lt h2]; exact h2.pick _ h1
theorem FObj.min {u v : UInt64} {x y : Value} (h1 : FObj u x) (h2 : FObj v y) : FObj (minF u v) (if PySem.Flt.ltV y x = true then y else x) := by
  rw [h2.lt h1]; exact h2.pick _ h1
theorem FObj.vr {u : UInt64} {x : Value} {h : Heap} {F : Addr → Prop} (e : FObj u x) : VR h F (.flt u) x := by
  unfold VR
  exact e
theorem fltOf_eq {v : V} {a : UInt64} (h : fltOf v = some a) : v = .flt a := by
  cases v <;> cases h; rfl
theorem flt2_of {a b v : V} {f : UInt64 → UInt64 → UInt64} (h : ((fltOf a).bind fun a => (fltOf b).map fun b => V.flt (f a b)) = some v) : ∃ p q, a = .flt p ∧ b = .flt q ∧ v = .flt (f p q) := by
  simp only [Option.bind_eq_some_iff, Option.map_eq_some_iff] at h
  obtain ⟨p, e1, q, e2, e⟩ := h
  exact ⟨p, q, fltOf_eq e1, fltOf_eq e2, e.symm⟩
theorem flt3_of {a b c v : V} {f : UInt64 → UInt64 → UInt64 → UInt64} (h : ((fltOf a).bind fun a => (fltOf b).bind fun b => (fltOf c).map fun c => V.flt (f a b c)) = some v) :
    ∃ p q r, a = .flt p ∧ b = .flt q ∧ c = .flt r ∧ v = .flt (f p q r) := by
  simp only [Option.bind_eq_some_iff, Option.map_eq_some_iff] at h
  obtain ⟨p, e1, q, e2, r, e3, e⟩ := h
  exact ⟨p, q, r, fltOf_eq e1, fltOf_eq e2, fltOf_eq e3, e.symm⟩
theorem builtin_sound {b : Bi} {args : List V} {v : V} {xs : List Value} (hA : A.handled = none) (hP : PylongRoom (model prog w) A s) (ti : TI tabs s.heap) (hF : ∀ a, F a → NT tabs a)
    (ha : VLs tabs s.heap F args xs) (hv : builtin b args = some v) :
    wpAny (model prog w) A (call (fOf b) (xs ++ moreOf b)) (Res tabs F s v) noE s := by
  cases b
  · dsimp only [builtin] at hv
    unfold bLen at hv
    split at hv
    · -- len
      obtain ⟨x, t, rfl, ⟨a, its, rfl, _, h2, h3⟩, rfl⟩ := ha
      split at hv
      · rename_i hl
        cases hv
        have l1 := lists_of h3
        refine PyProof.Rows.len_list h2 (by omega) ?_
        rw [l1]
        exact ⟨F, .ofKeep ti (fun _ _ e => e) (by show s.toks ≤ s.toks + 1 + 1; omega), _, rfl⟩
      · cases hv
    · cases hv
  · dsimp only [builtin] at hv
    unfold bSum at hv
    split at hv
    · -- sum
      obtain ⟨x, t, rfl, ⟨a, its, rfl, _, h2, h3⟩, rfl⟩ := ha
      simp only [Option.map_eq_some_iff] at hv
      obtain ⟨ns, h1, rfl⟩ := hv
      rw [allInts_mem h1] at h3
      obtain ⟨ps, e1, e2⟩ := ints_vals h3
      have e3 : its = intItems ps.toArray := by
        unfold intItems
        rw [← Array.toArray_toList (xs := its), e1]; simp
      rw [e3] at h2
      refine tokWrap (sum_intListG hA h2 fun h' tk t' hk htk => ⟨F, .ofKeep ti hk htk, ?_⟩)
      have e4 : preSum (numAt ps.toArray) ps.toArray.size = ns.sum := by
        rw [preSum_eq, List.take_of_length_le (by simp)]
        simp [e2]
      exact ⟨t', by rw [e4]⟩
    · cases hv
  · dsimp only [builtin] at hv
    unfold bAbs at hv
    split at hv
    · -- abs
      obtain ⟨x, t, rfl, ⟨t, rfl⟩, rfl⟩ := ha
      cases hv
      exact tokWrap (PyProof.Rows.call_abs_int fun u tk htk => ⟨F, .ofKeep ti (fun _ _ e => e) htk, u, rfl⟩)
    · cases hv
  · dsimp only [builtin] at hv
    unfold bMax at hv
    split at hv
    · -- max of two ints
      unfold max2 at hv
      split at hv
      · obtain ⟨x, t, rfl, ⟨t, rfl⟩, y, t', rfl, ⟨u, rfl⟩, rfl⟩ := ha
        cases hv
        refine tokWrap (max_two_ints hA fun h' tk hk htk => ⟨F, .ofKeep ti hk htk, ?_⟩)
        split
        · exact ⟨_, rfl⟩
        · exact ⟨_, rfl⟩
      · cases hv
    · -- max of three floats
      obtain ⟨p, q, r, rfl, rfl, rfl, rfl⟩ := flt3_of hv
      obtain ⟨x, t, rfl, ⟨t, rfl, h1⟩, y, t', rfl, ⟨u, rfl, h2⟩, z, t'', rfl, ⟨k, rfl, h3⟩, rfl⟩ := ha
      refine tokWrap (max3_num hA (.float _ _) (.float _ _) (.float _ _) fun h' tk hk htk => ⟨F, .ofKeep ti hk htk, ?_⟩)
      exact (FObj.max (FObj.max ⟨_, rfl, h1⟩ ⟨_, rfl, h2⟩) ⟨_, rfl, h3⟩).vr
    · cases hv
  · dsimp only [builtin] at hv
    unfold bMin at hv
    split at hv
    · -- min of two floats
      obtain ⟨p, q, rfl, rfl, rfl⟩ := flt2_of hv
      obtain ⟨x, t, rfl, ⟨t, rfl, h1⟩, y, t', rfl, ⟨u, rfl, h2⟩, rfl⟩ := ha
      refine tokWrap (PySem.Flt.min_two_num hA (.float _ _) (.float _ _) fun h' tk hk htk => ⟨F, .ofKeep ti hk htk, ?_⟩)
      exact (FObj.min ⟨_, rfl, h1⟩ ⟨_, rfl, h2⟩).vr
    · -- min of three floats
      obtain ⟨p, q, r, rfl, rfl, rfl, rfl⟩ := flt3_of hv
      obtain ⟨x, t, rfl, ⟨t, rfl, h1⟩, y, t', rfl, ⟨u, rfl, h2⟩, z, t'', rfl, ⟨k, rfl, h3⟩, rfl⟩ := ha
      refine tokWrap (min3_num hA (.float _ _) (.float _ _) (.float _ _) fun h' tk hk htk => ⟨F, .ofKeep ti hk htk, ?_⟩)
      exact (FObj.min (FObj.min ⟨_, rfl, h1⟩ ⟨_, rfl, h2⟩) ⟨_, rfl, h3⟩).vr
    · cases hv
  · dsimp only [builtin] at hv
    unfold bInt at hv
    split at hv
    · -- int of a float
      obtain ⟨x, t, rfl, ⟨t, rfl, h1⟩, rfl⟩ := ha
      split at hv
      · rename_i hd
        cases hv
        exact call_int_float hd ⟨F, .ofKeep ti (fun _ _ e => e) (Nat.le_succ _), _, rfl⟩
      · cases hv
    · cases hv
  · dsimp only [builtin] at hv
    unfold bDm at hv
    split at hv
    · -- divmod
      obtain ⟨x, t, rfl, ⟨t, rfl⟩, y, t', rfl, ⟨u, rfl⟩, rfl⟩ := ha
      split at hv
      · cases hv
      · rename_i hc
        cases hv
        refine PyProof.Rows.divmod_int (by simpa using hc) ?_ (.inr hP)
        refine ⟨_, grown ti rfl (by omega), ?_⟩
        unfold VR
        exact ⟨_, _, rfl, .inr rfl, ⟨_, Heap.get?_push_size _ rfl, rfl, _, rfl⟩, VRs.cons ⟨_, rfl⟩ (VRs.cons ⟨_, rfl⟩ VRs.nil)⟩
    · cases hv
  · dsimp only [builtin] at hv
    unfold bRng at hv
    split at hv
    · -- range
      obtain ⟨x, t, rfl, ⟨t, rfl⟩, rfl⟩ := ha
      split at hv
      · cases hv
        refine call_range_1 ?_
        rename_i n _
        refine ⟨_, grown ti rfl (by omega), ?_⟩
        unfold VR
        exact ⟨_, _, _, _, rfl, .inr rfl, IsRange.new ..⟩
      · cases hv
    · cases hv
  · dsimp only [builtin] at hv
    unfold bIsb at hv
    split at hv
    · -- isinstance(x, bool)
      obtain ⟨x, t, rfl, rfl, rfl⟩ := ha
      cases hv
      exact PyProof.Rows.call_isinstance_yes (Tx := "bool") (T := "bool") (by exact rfl) (by rfl) (by rfl) ⟨F, ExtF.refl ti, rfl⟩
    · cases hv
end
end Mine
end
section
namespace Mine
open PySem PySem.W PyProof.Rows

structure Sc where
  vars : List Str
  kinds : Str → Option NameKind
  /-- the frame's code object, and the names' prefix of what it makes -/
  code : Option (Addr × Str) := none

/-- a nested def: its parameters' and locals' names with the captured ones last -/
structure CloI where
  sc : Sc
  cap : List Str
  params : Arguments
  body : List Stmt
  scope : Scope
  qual : Str
  /-- the def statement's own place -/
  pos : Pos

structure Gx where
  prog : Program
  w : World
  hg : Heap
  mg : Str → Option Value
  mb : Str → Option Value
  tabs : List TabRec
  fns : List Str
  glos : List Str
  clos : List CloI

noncomputable def bname : Bi → Str
  | .len => "len" | .sum => "sum" | .abs => "abs" | .max => "max" | .min => "min"
  | .int => "int" | .divmod => "divmod" | .range => "range" | .isbool => "isinstance"

/-- a list as a display makes it -/
noncomputable def PlainX (h : Heap) (a : Addr) (its : Array Value) : Prop := ∃ o n, h.get? a = some o ∧ o.cls = .type "list" ∧ (o.dict = none ∧ o.slots = #[]) ∧ o.data = .seq its n
theorem PlainX.isList {h : Heap} {a : Addr} {its : Array Value} (x : PlainX h a its) : h.IsList a its := let ⟨o, n, e, c, _, d⟩ := x; ⟨o, e, c, n, d⟩
theorem PlainX.exact {h : Heap} {a : Addr} {its : Array Value} (x : PlainX h a its) : ∃ n, h.get? a = some { cls := .type "list", dict := none, data := .seq its n, slots := #[] } := by
  obtain ⟨⟨c, d, dt, sl⟩, n, e, e1, ⟨e2, e3⟩, e4⟩ := x
  simp only at e1 e2 e3 e4
  subst e1 e2 e3 e4
  exact ⟨n, e⟩
theorem PlainX.of {h : Heap} {a : Addr} {its : Array Value} {n : Nat} (e : h.get? a = some { cls := .type "list", dict := none, data := .seq its n, slots := #[] }) : PlainX h a its := ⟨_, n, e, rfl, ⟨rfl, rfl⟩, rfl⟩

/-- the value that a name holds: in the frame, or in a cell -/
noncomputable def Slot (env : Env) (h : Heap) (x : Str) (ov : Option Value) : Prop :=
  (env.kindOf x = some .local ∧ ∃ m, h.Ns env.locals m ∧ m x = ov) ∨
  ((env.kindOf x = some .cell ∨ env.kindOf x = some .free) ∧ ∃ c, env.cells.lookup x = some c ∧ h.IsCell c ov)

/-- a closure: a def of the text's, its captured names' cells those of this frame -/
noncomputable def CloAt (g : Gx) (env : Env) (h : Heap) (k : Nat) (f : Addr) : Prop :=
  ∃ ci o fd, g.clos[k]? = some ci ∧ h.get? f = some o ∧ o.data = .func fd ∧ fd.body = .stmts ci.body ∧ fd.params = ci.params ∧ fd.scope = ci.scope ∧ fd.qualname = ci.qual ∧ fd.defaults = .none ∧ fd.kwdefaults = .none ∧
    fd.globals = mainGlobals ∧ fd.builtins = builtinsNs ∧ (∃ c', fd.code = .ref c' ∧ NT g.tabs c') ∧ h.CodeRec fd.code fd.qualname ∧ (∀ x ∈ ci.cap, ∃ c, fd.closure.lookup x = some c ∧ env.cells.lookup x = some c)

/-- what a name's value is, by its place in the evaluator's state -/
noncomputable def LocR (g : Gx) (env : Env) (F : Addr → Prop) (h : Heap) : Loc → Option Value → Prop
  | .un, _ => True
  | .val v, ov => ∃ x, ov = some x ∧ VR h F v x
  | .own vs, ov => ∃ a its, ov = some (.ref a) ∧ PlainX h a its ∧ VRs h F vs its.toList
  | .bor vs, ov => ∃ a its, ov = some (.ref a) ∧ PlainX h a its ∧ VRs h F vs its.toList
  | .clo k, ov => ∃ f, ov = some (.ref f) ∧ F f ∧ CloAt g env h k f

/-- the state stands for the frame, for reading -/
structure InvE (g : Gx) (sc : Sc) (env : Env) (F : Addr → Prop) (st : St) (s : Shared) : Prop where
  base : ∀ b o, g.hg.get? b = some o → s.heap.get? b = some o
  ti : TI g.tabs s.heap
  tk : 1 ≤ s.toks
  fnt : ∀ a, F a → NT g.tabs a
  fal : ∀ a, F a → ∃ o, s.heap.get? a = some o
  kind : ∀ x, env.kindOf x = sc.kinds x
  fn : env.scope.kind = .function
  gb : env.globals = mainGlobals
  bb : env.builtins = builtinsNs
  cd : ∀ c q, sc.code = some (c, q) → env.code = .ref c ∧ env.qual = q
  vars : ∀ (i : Nat) (x : Str) (l : Loc), sc.vars[i]? = some x → st[i]? = some l → ∃ ov, Slot env s.heap x ov ∧ LocR g env F s.heap l ov

structure GOk (g : Gx) (p : Prog) : Prop where
  nolimit : g.hg.NoLimit
  booked : NoneBooked g.hg
  gl : g.hg.Ns mainGlobals g.mg
  bl : g.hg.Ns builtinsNs g.mb
  seer : g.hg.NoSeer
  tree : g.prog.given.tree = none
  nt : ∀ b o, g.hg.get? b = some o → NT g.tabs b
  bi : ∀ b, g.mg (bname b) = none ∧ g.mb (bname b) = some (fOf b)
  boolT : g.mg "bool" = none ∧ g.mb "bool" = some (.type "bool")
  revT : g.mg "reversed" = none ∧ g.mb "reversed" = some (.type "reversed")
  bmain : ∃ bm o, g.mg "__builtins__" = some (.ref bm) ∧ bm ≠ builtinsNs ∧ g.hg.get? bm = some o ∧ o.cls = .type "module" ∧ o.dict = some builtinsNs ∧ o.data = .plain
  fnv : ∀ (f : Nat) (x : Str), g.fns[f]? = some x → ∃ a o fd, g.mg x = some (.ref a) ∧ g.hg.get? a = some o ∧ o.data = .func fd
  glo : ∀ (j : Nat) (x : Str) (i : Int), g.glos[j]? = some x → p.glos[j]? = some i → ∃ t, g.mg x = some (.int i t)

structure AOk (g : Gx) (n : Nat) (A : Around) : Prop where
  hd : A.handled = none
  dp : A.depth + n + 150 < recursionLimit
  un : A.units + 4 * n + 200 < cLine
  fr : ∃ l, A.frames = some l
  pr : ∀ s : Shared, (∀ b o, g.hg.get? b = some o → s.heap.get? b = some o) → PylongRoom (model g.prog g.w) A s

theorem AOk.le {g : Gx} {n m : Nat} {A : Around} (x : AOk g n A) (h : m ≤ n) : AOk g m A := ⟨x.hd, by have := x.dp; omega, by have := x.un; omega, x.fr, x.pr⟩

section
variable {g : Gx} {p : Prog} {sc : Sc} {env : Env} {F F' : Addr → Prop} {st : St} {s s' : Shared} {h h' : Heap}
theorem Slot.det {x : Str} {a b : Option Value} (u : Slot env h x a) (v : Slot env h x b) : a = b := by
  rcases u with ⟨k1, m, ⟨o, es, ep, e1, e2, e3, e4⟩, rfl⟩ | ⟨k1, c, e1, o, e2, e3⟩
  · rcases v with ⟨k2, m', ⟨o', es', ep', e1', e2', e3', e4'⟩, rfl⟩ | ⟨k2, c', e1', o', e2', e3'⟩
    · rw [e1] at e1'; cases e1'
      rw [e2] at e2'; cases e2'
      rw [← e4, ← e4']
    · rw [k1] at k2; rcases k2 with k2 | k2 <;> cases k2
  · rcases v with ⟨k2, m', _⟩ | ⟨k2, c', e1', o', e2', e3'⟩
    · rw [k2] at k1; rcases k1 with k1 | k1 <;> cases k1
    · rw [e1] at e1'; cases e1'
      rw [e2] at e2'; cases e2'
      rw [e3] at e3'; cases e3'; rfl
theorem Slot.keep {x : Str} {a : Option Value} (u : Slot env h x a) (ti : TI g.tabs h) (hk : ∀ b o, NT g.tabs b → h.get? b = some o → h'.get? b = some o) : Slot env h' x a := by
  rcases u with ⟨k1, m, ⟨o, es, ep, e1, e2, e3⟩, rfl⟩ | ⟨k1, c, e1, o, e2, e3⟩
  · exact .inl ⟨k1, m, ⟨o, es, ep, hk _ _ (ti.notP e1 (fun vs q => by rw [e2] at q; cases q)) e1, e2, e3⟩, rfl⟩
  · exact .inr ⟨k1, c, e1, o, hk _ _ (ti.notP e2 (fun vs q => by rw [e3] at q; cases q)) e2, e3⟩
theorem plKeep {a : Addr} {its : Array Value} (u : PlainX h a its) (ti : TI g.tabs h) (hk : ∀ b o, NT g.tabs b → h.get? b = some o → h'.get? b = some o) : PlainX h' a its := by
  obtain ⟨o, n, e1, e2, e3, e4⟩ := u
  exact ⟨o, n, hk _ _ (ti.notP e1 (fun vs q => by rw [e4] at q; cases q)) e1, e2, e3, e4⟩
theorem plNT {a : Addr} {its : Array Value} (u : PlainX h a its) (ti : TI g.tabs h) : NT g.tabs a := by
  obtain ⟨o, n, e1, e2, e3, e4⟩ := u
  exact ti.notP e1 (fun vs q => by rw [e4] at q; cases q)
theorem CloAt.keep {k : Nat} {f : Addr} (u : CloAt g env h k f) (hf : NT g.tabs f) (hk : ∀ b o, NT g.tabs b → h.get? b = some o → h'.get? b = some o) : CloAt g env h' k f := by
  obtain ⟨ci, o, fd, e1, e2, e3, r1, r2, r3, r4, r5, r6, r7, r8, ⟨c', r9, r10⟩, r11, r12⟩ := u
  exact ⟨ci, o, fd, e1, hk _ _ hf e2, e3, r1, r2, r3, r4, r5, r6, r7, r8, ⟨c', r9, r10⟩, by rw [r9] at r11 ⊢; exact CodeRec_NT r11 r10 hk, r12⟩
theorem LocR.ext {l : Loc} {ov : Option Value} (u : LocR g env F s.heap l ov) (ti : TI g.tabs s.heap) (x : ExtF g.tabs F s F' s') (hF : ∀ a, F a → NT g.tabs a) : LocR g env F' s'.heap l ov := by
  cases l with
  | un => trivial
  | val v => obtain ⟨y, e, r⟩ := u; exact ⟨y, e, r.ext x hF⟩
  | own vs => obtain ⟨a, its, e, r1, r2⟩ := u; exact ⟨a, its, e, plKeep r1 ti x.keep, r2.ext x hF⟩
  | bor vs => obtain ⟨a, its, e, r1, r2⟩ := u; exact ⟨a, its, e, plKeep r1 ti x.keep, r2.ext x hF⟩
  | clo k => obtain ⟨f, e, r1, r2⟩ := u; exact ⟨f, e, x.mono f r1, r2.keep (hF f r1) x.keep⟩
theorem InvE.ext (I : InvE g sc env F st s) (hnt : ∀ b o, g.hg.get? b = some o → NT g.tabs b) (x : ExtF g.tabs F s F' s') : InvE g sc env F' st s' where
  base := fun b o e => x.keep b o (hnt b o e) (I.base b o e)
  ti := x.ti
  tk := Nat.le_trans I.tk x.tok
  fnt := fun a e => (x.new a e).elim (I.fnt a) fun q => q.2.1
  fal := fun a e => (x.new a e).elim (fun q => let ⟨o, r⟩ := I.fal a q; ⟨o, x.keep a o (I.fnt a q) r⟩) fun q => q.2.2
  kind := I.kind
  fn := I.fn
  gb := I.gb
  bb := I.bb
  cd := I.cd
  vars := fun i y l e1 e2 => let ⟨ov, r1, r2⟩ := I.vars i y l e1 e2; ⟨ov, r1.keep I.ti x.keep, r2.ext I.ti x I.fnt⟩

variable {M : Model} {A : Around} {E : Value → Shared → Prop}
theorem load_slot {x : Str} {v : Value} {Q : Value → Shared → Prop} (hk : env.scope.kind = .function) (u : Slot env s.heap x (some v)) (hn : (x == ("__classdict__" : Str)) = false) (h : Q v s) :
    wpAny M A (loadName env x) Q E s := by
  rcases u with ⟨k1, m, e1, e2⟩ | ⟨k1 | k1, c, e1, e2⟩
  · exact wpAny_loadName_local hk k1 e1 e2 h
  · exact wpAny_loadName_cell hk k1 e1 e2 h
  · exact wpAny_loadName_free hk k1 e1 e2 h hn
theorem load_glob {x : Str} {v : Value} {Q : Value → Shared → Prop} {mg mb : Str → Option Value} (hk : env.scope.kind = .function) (hx : env.kindOf x = some .globalImplicit) (hg : s.heap.Ns env.globals mg) (hb : s.heap.Ns env.builtins mb)
    (hv : (mg x).or (mb x) = some v) (h : Q v s) : wpAny M A (loadName env x) Q E s := by
  unfold loadName
  simp only [Env.blockKind, hk, hx, ScopeKind.isAnnotationScope, Bool.false_and, Bool.false_eq_true, if_false]
  unfold loadGlobal
  refine wpAny_bind (wpAny_nsGet hg ?_)
  cases hm : mg x with
  | some u =>
    rw [hm] at hv
    simp at hv; subst hv
    exact wpAny_pure h
  | none =>
    rw [hm] at hv
    simp at hv
    refine wpAny_bind (wpAny_nsGet hb ?_)
    rw [hv]
    exact wpAny_pure h
end
end Mine
end
section
namespace Mine
open PySem PySem.W PyProof.Rows

noncomputable def plainName (x : Str) : Bool := !(x == ("__debug__" : Str)) && !(x == ("__classdict__" : Str))

/-- the names of a comprehension's own block, as its frame bears them -/
noncomputable def relNames (scope : Scope) (kinds : Str → Option NameKind) : List (Str × NameKind) :=
  scope.names.map fun (n, k) => if (k == .free && kinds n == some .cell) then (n, .cell) else (n, k)

noncomputable def compSc (scope : Scope) (kinds : Str → Option NameKind) (x : Str) (capN : List Str) : Sc := ⟨x :: capN, fun y => (relNames scope kinds).lookup y, none⟩

structure CompOk (sc : Sc) (scope : Scope) (x : Str) (cap : List Nat) (capN : List Str) : Prop where
  kind : scope.kind = .function
  nocell : ∀ y ∈ scope.names, y.2 ≠ .cell
  names : ∀ y ∈ scope.names, y.2 = .local → scope.names.lookup y.1 = some .local
  hx : scope.names.lookup x = some .local
  capn : cap.map (fun i => sc.vars[i]?) = capN.map some
  free : ∀ y ∈ scope.names, y.2 = .free → y.1 ∈ capN
  isfree : ∀ y ∈ capN, scope.names.lookup y = some .free ∧ sc.kinds y = some .cell
  nd : (scope.names.map (·.1)).Nodup

mutual
inductive TE (g : Gx) : Sc → Expr → Ex → Prop
  | int {sc : Sc} {i k pos} : TE g sc (.Constant (.int i) k pos) (.int i)
  | flt {sc : Sc} {u k pos} : TE g sc (.Constant (.float u) k pos) (.flt u)
  | bool {sc : Sc} {b k pos} : TE g sc (.Constant (.bool b) k pos) (.bool b)
  | var {sc : Sc} {x pos} {i : Nat} : sc.vars[i]? = some x → plainName x = true → TE g sc (.Name x pos) (.var i)
  | glo {sc : Sc} {x pos} {j : Nat} : g.glos[j]? = some x → sc.kinds x = some .globalImplicit → plainName x = true → TE g sc (.Name x pos) (.glo j)
  | bin {sc : Sc} {l r o pos a b} : TE g sc l a → TE g sc r b → TE g sc (.BinOp l (opOf o) r pos) (.bin o a b)
  | rep {sc : Sc} {es k pos p xs y} : TEs g sc es xs → TE g sc k y → TE g sc (.BinOp (.List es p) .Mult k pos) (.rep xs y)
  | neg {sc : Sc} {e pos a} : TE g sc e a → TE g sc (.UnaryOp .USub e pos) (.neg a)
  | inv {sc : Sc} {e pos a} : TE g sc e a → TE g sc (.UnaryOp .Invert e pos) (.inv a)
  | not {sc : Sc} {e pos a} : TE g sc e a → TE g sc (.UnaryOp .Not e pos) (.not a)
  | and {sc : Sc} {x y pos a b} : TE g sc x a → TE g sc y b → TE g sc (.BoolOp .And [x, y] pos) (.and a b)
  | or {sc : Sc} {x y pos a b} : TE g sc x a → TE g sc y b → TE g sc (.BoolOp .Or [x, y] pos) (.or a b)
  | cmp {sc : Sc} {l r o pos a b} : TE g sc l a → TE g sc r b → behindInMarks (copOf o) r = false → TE g sc (.Compare l [copOf o] [r] pos) (.cmp o a b)
  | ite {sc : Sc} {t x y pos c a b} : TE g sc t c → TE g sc x a → TE g sc y b → TE g sc (.IfExp t x y pos) (.ite c a b)
  | lst {sc : Sc} {es pos xs} : TEs g sc es xs → TE g sc (.List es pos) (.lst xs)
  | tup {sc : Sc} {es k pos xs} : TEs g sc es xs → TE g sc (.Tuple es k pos) (.tup xs)
  | idx {sc : Sc} {e i pos a b} : TE g sc e a → TE g sc i b → TE g sc (.Subscript e i pos) (.idx a b)
  | slc {sc : Sc} {e lo hi p pos a x y} : TE g sc e a → TEo g sc lo x → TEo g sc hi y → TE g sc (.Subscript e (.Slice lo hi none p) pos) (.slc a x y)
  | comp {sc : Sc} {elt iter : Expr} {x : Str} {px : Pos} {c : Option Expr} {scope : Scope} {pos : Pos} {a : Ex} {cond : Option Ex} {it : Ex} {cap : List Nat} {capN : List Str} :
      TE g sc iter it → TE g (compSc scope sc.kinds x capN) elt a → TEo g (compSc scope sc.kinds x capN) c cond → CompOk sc scope x cap capN → (∀ env v, foldedSetIterable iter env v = pure v) →
      TE g sc (.ListComp elt [⟨.Name x px, iter, c.toList, 0⟩] scope pos) (.comp a cond it cap)
  | bi {sc : Sc} {b : Bi} {p pos e es xs} : sc.kinds (bname b) = some .globalImplicit → TEs g sc (e :: es) xs → b ≠ .isbool → TE g sc (.Call (.Name (bname b) p) (e :: es) [] pos) (.bi b xs)
  | isb {sc : Sc} {p p2 pos e x} : sc.kinds "isinstance" = some .globalImplicit → sc.kinds "bool" = some .globalImplicit → TE g sc e x →
      TE g sc (.Call (.Name "isinstance" p) [e, .Name "bool" p2] [] pos) (.bi .isbool [x])
  | call {sc : Sc} {x : Str} {f : Nat} {p pos e es xs} : g.fns[f]? = some x → sc.kinds x = some .globalImplicit → plainName x = true → TEs g sc (e :: es) xs → TE g sc (.Call (.Name x p) (e :: es) [] pos) (.call f xs)
  | callc {sc : Sc} {x : Str} {i k : Nat} {ci : CloI} {p pos e es xs} {src : List Nat} : sc.vars[i]? = some x → plainName x = true → g.clos[k]? = some ci → src.map (fun j => sc.vars[j]?) = ci.cap.map some →
      (∀ y ∈ ci.cap, sc.kinds y = some .cell ∨ sc.kinds y = some .free) → TEs g sc (e :: es) xs → TE g sc (.Call (.Name x p) (e :: es) [] pos) (.callc i k xs src)
  | bitlen {sc : Sc} {e ap pos a} : TE g sc e a → (∀ env, attributeBase e "bit_length" env (eval e env) = eval e env) → (ap.endLine == pos.line) = true → TE g sc (.Call (.Attribute e "bit_length" ap) [] [] pos) (.bitlen a)
inductive TEs (g : Gx) : Sc → List Expr → List Ex → Prop
  | nil {sc : Sc} : TEs g sc [] []
  | cons {sc : Sc} {e x r t} : TE g sc e x → TEs g sc r t → TEs g sc (e :: r) (x :: t)
inductive TEo (g : Gx) : Sc → Option Expr → Option Ex → Prop
  | none {sc : Sc} : TEo g sc none none
  | some {sc : Sc} {e x} : TE g sc e x → TEo g sc (some e) (some x)
end

theorem TE.plain {g : Gx} {sc : Sc} {e : Expr} {x : Ex} (h : TE g sc e x) (rest : List Expr) (env : Env) : starEach (e :: rest) env = (false, eval e env) :: starEach rest env := by
  induction h using TE.casesOn <;> rfl

noncomputable def ResL (tabs : List TabRec) (F : Addr → Prop) (s : Shared) (v : V) (x : Value) (s' : Shared) : Prop := ∃ F', ExtF tabs F s F' s' ∧ VL tabs s'.heap F' v x
noncomputable def ResS (tabs : List TabRec) (F : Addr → Prop) (s : Shared) (v : List V) (x : List Value) (s' : Shared) : Prop := ∃ F', ExtF tabs F s F' s' ∧ VRs s'.heap F' v x
noncomputable def ResM (tabs : List TabRec) (F : Addr → Prop) (s : Shared) (v : List V) (x : List Value) (s' : Shared) : Prop := ∃ F', ExtF tabs F s F' s' ∧ VLs tabs s'.heap F' v x
noncomputable def ResB (tabs : List TabRec) (F : Addr → Prop) (s : Shared) (b b' : Bool) (s' : Shared) : Prop := b' = b ∧ ∃ F', ExtF tabs F s F' s'

/-- a list that the evaluation has made, and that nothing else holds -/
noncomputable def ResN (tabs : List TabRec) (F : Addr → Prop) (s : Shared) (vs : List V) (x : Value) (s' : Shared) : Prop :=
  ∃ F' a its, ExtF tabs F s F' s' ∧ x = .ref a ∧ s.heap.get? a = none ∧ ¬ F' a ∧ NT tabs a ∧ PlainX s'.heap a its ∧ VRs s'.heap F' vs its.toList

/-- the facts of a state that a call wants -/
structure SOk (g : Gx) (F : Addr → Prop) (s : Shared) : Prop where
  base : ∀ b o, g.hg.get? b = some o → s.heap.get? b = some o
  ti : TI g.tabs s.heap
  tk : 1 ≤ s.toks
  fnt : ∀ a, F a → NT g.tabs a
  fal : ∀ a, F a → ∃ o, s.heap.get? a = some o
theorem InvE.sok {g : Gx} {sc : Sc} {env : Env} {F : Addr → Prop} {st : St} {s : Shared} (I : InvE g sc env F st s) : SOk g F s := ⟨I.base, I.ti, I.tk, I.fnt, I.fal⟩

/-- the captured names' cells, and what they hold -/
noncomputable def CapOk (g : Gx) (env : Env) (F : Addr → Prop) (h : Heap) (capN : List Str) (cs : List Loc) : Prop :=
  cs.length = capN.length ∧ ∀ (j : Nat) (y : Str) (l : Loc), capN[j]? = some y → cs[j]? = some l → ∃ c ov, env.cells.lookup y = some c ∧ h.IsCell c ov ∧ LocR g env F h l ov

/-- what is known of the evaluator at n steps -/
structure IH (g : Gx) (p : Prog) (n : Nat) : Prop where
  e : ∀ {A sc env F st s e x v}, AOk g n A → InvE g sc env F st s → TE g sc e x → ev p n st x = some v → wpAny (model g.prog g.w) A (eval e env) (Res g.tabs F s v) noE s
  l : ∀ {A sc env F st s e x v}, AOk g n A → InvE g sc env F st s → TE g sc e x → evL p n st x = some v → wpAny (model g.prog g.w) A (eval e env) (ResL g.tabs F s v) noE s
  o : ∀ {A sc env F st s e x i}, AOk g n A → InvE g sc env F st s → TEo g sc e x → evO p n st x = some i → wpAny (model g.prog g.w) A (evalPart e env) (fun y s' => IsPart y i ∧ ∃ F', ExtF g.tabs F s F' s') noE s
  t : ∀ {A sc env F st s e x b}, AOk g n A → InvE g sc env F st s → TE g sc e x → evT p n st x = some b → wpAny (model g.prog g.w) A (isTrue e env (eval e env)) (ResB g.tabs F s b) noE s
  f : ∀ {A F s f x a vs xs v}, AOk g n A → SOk g F s → g.fns[f]? = some x → g.mg x = some (.ref a) → VRs s.heap F vs xs → callF p n f vs = some v → wpAny (model g.prog g.w) A (call (.ref a) xs) (Res g.tabs F s v) noE s
  c : ∀ {A F s k ci f env vs xs cs v cs'}, AOk g n A → SOk g F s → CloAt g env s.heap k f → F f → g.clos[k]? = some ci → CapOk g env F s.heap ci.cap cs → cs.all frozenLoc = true → VRs s.heap F vs xs → callC p n k vs cs = some (v, cs') →
    wpAny (model g.prog g.w) A (call (.ref f) xs) (Res g.tabs F s v) noE s
  w : ∀ {A sc env F st s e x vs}, AOk g n A → InvE g sc env F st s → TE g sc e x → isFresh x = true → ev p n st x = some (.lst vs) → wpAny (model g.prog g.w) A (eval e env) (ResN g.tabs F s vs) noE s
  u : ∀ {A sc env F st s use Q elt iter x px c scope pos xe us q}, AOk g n A → InvE g sc env F st s → TE g sc (.ListComp elt [⟨.Name x px, iter, c, 0⟩] scope pos) xe → ev p n st xe = some (.lst us) →
    (∀ D C F' its m s9, ExtF g.tabs F s F' s9 → s.heap.get? D = none → s.heap.get? C = none → C ≠ D → ¬ F' D → ¬ F' C → NT g.tabs D → NT g.tabs C → PlainX s9.heap D its → VRs s9.heap F' us its.toList → s9.heap.Ns C m →
      compPost (model g.prog g.w) A noE use Q (.ref D) C (.ok .next) s9) →
    wpAny (model g.prog g.w) A (comprehension (.ListComp elt [⟨.Name x px, iter, c, 0⟩] scope pos) scope env q (newList []) false (eval iter env) use) Q noE s
end Mine
end
section
namespace Mine
open PySem PySem.W PyProof.Rows

section
variable {g : Gx} {p : Prog} {tabs : List TabRec} {F F' F1 : Addr → Prop} {s s' s1 : Shared}
theorem ResN.res {vs : List V} {x : Value} (h : ResN tabs F s vs x s') : Res tabs F s (.lst vs) x s' := by
  obtain ⟨F', a, its, x1, rfl, h0, hn, ht, hp, hv⟩ := h
  obtain ⟨o, n, e1, e2, e3, e4⟩ := id hp
  refine ⟨_, x1.grow h0 ht ⟨o, e1⟩, ?_⟩
  unfold VR
  exact ⟨a, its, rfl, .inr rfl, hp.isList, VRs.mono (fun _ e => .inl e) (fun _ _ _ e => e) hv⟩
theorem ResN.mk {vs : List V} {its : Array Value} (x : ExtF tabs F s F1 s1) (al : ∀ a, F1 a → ∃ o, s1.heap.get? a = some o) (hF : ∀ a, F1 a → NT tabs a) (r : VRs s1.heap F1 vs its.toList) :
    ResN tabs F s vs (.ref s1.heap.objs.size) { s1 with heap := s1.heap.push { cls := .type "list", data := .seq its } } := by
  have ht := x.ti.notNew (dead_size s1.heap)
  have y : ExtF tabs F1 s1 F1 { s1 with heap := s1.heap.push { cls := .type "list", data := .seq its } } := .ofKeep x.ti (push_keep _ _) (Nat.le_refl _)
  refine ⟨F1, _, its, x.trans y, rfl, ?_, fun q => ?_, ht, ⟨_, _, Heap.get?_push_size _ rfl, rfl, ⟨rfl, rfl⟩, rfl⟩, r.ext y hF⟩
  · cases q : s.heap.get? s1.heap.objs.size with
    | none => rfl
    | some o => have := x.keep _ o ht q; rw [dead_size] at this; cases this
  · obtain ⟨o, e⟩ := al _ q
    rw [dead_size] at e; cases e
theorem ResN.pre {vs : List V} {x : Value} (y : ExtF tabs F s F1 s1) (h : ResN tabs F1 s1 vs x s') : ResN tabs F s vs x s' := by
  obtain ⟨F', a, its, x1, rfl, h0, hn, ht, hp, hv⟩ := h
  refine ⟨F', a, its, y.trans x1, rfl, ?_, hn, ht, hp, hv⟩
  cases q : s.heap.get? a with
  | none => rfl
  | some o => have := y.keep _ o ht q; rw [h0] at this; cases this
theorem Res.pre {v : V} {x : Value} (y : ExtF tabs F s F1 s1) (h : Res tabs F1 s1 v x s') : Res tabs F s v x s' := let ⟨F', x1, r⟩ := h; ⟨F', y.trans x1, r⟩

theorem InvE.booked {sc : Sc} {env : Env} {st : St} (I : InvE g sc env F st s) (G : GOk g p) : NoneBooked s.heap :=
  let ⟨mc, a, b⟩ := G.booked; ⟨mc, a.keeps I.base, b⟩
end

section
variable {g : Gx} {p : Prog} {n : Nat} {A : Around} {sc : Sc} {env : Env} {F : Addr → Prop} {st : St} {s : Shared}

/-- the items of a display, or a call's arguments -/
theorem items_sound (G : GOk g p) (ih : IH g p n) (hA : AOk g n A) : ∀ {es : List Expr} {xs : List Ex} {vs : List V} {F : Addr → Prop} {s : Shared} {pos : Pos}, InvE g sc env F st s → TEs g sc es xs → mapO (ev p n st) xs = some vs →
    wpAny (model g.prog g.w) A (spliced (backTo pos (starEach es env))) (ResS g.tabs F s vs) noE s
  | [], _, vs, F, s, pos, I, h, hv => by
    cases h
    cases hv
    exact wpAny_items_nil ⟨F, ExtF.refl I.ti, VRs.nil⟩
  | e :: r, _, vs, F, s, pos, I, h, hv => by
    cases h with
    | cons h1 h2 =>
      unfold mapO at hv
      split at hv
      · rename_i v hv1
        split at hv
        · rename_i ws hv2
          cases hv
          refine wpAny_items_cons (wpAny_mono (ih.e hA I h1 hv1) (fun x s1 r1 => ?_) fun _ _ q => q) (h1.plain _ _)
          obtain ⟨F1, x1, r1⟩ := r1
          have I1 := I.ext G.nt x1
          refine wpAny_mono (items_sound G ih hA I1 h2 hv2) (fun ys s2 r2 => ?_) fun _ _ q => q
          obtain ⟨F2, x2, r2⟩ := r2
          exact ⟨F2, x1.trans x2, VRs.cons (r1.ext x2 I1.fnt) r2⟩
        · cases hv
      · cases hv
/-- .. looked at alone -/
theorem looks_sound (G : GOk g p) (ih : IH g p n) (hA : AOk g n A) : ∀ {es : List Expr} {xs : List Ex} {vs : List V} {F : Addr → Prop} {s : Shared} {pos : Pos}, InvE g sc env F st s → TEs g sc es xs → mapO (evL p n st) xs = some vs →
    wpAny (model g.prog g.w) A (spliced (backTo pos (starEach es env))) (ResM g.tabs F s vs) noE s
  | [], _, vs, F, s, pos, I, h, hv => by
    cases h
    cases hv
    exact wpAny_items_nil ⟨F, ExtF.refl I.ti, rfl⟩
  | e :: r, _, vs, F, s, pos, I, h, hv => by
    cases h with
    | cons h1 h2 =>
      unfold mapO at hv
      split at hv
      · rename_i v hv1
        split at hv
        · rename_i ws hv2
          cases hv
          refine wpAny_items_cons (wpAny_mono (ih.l hA I h1 hv1) (fun x s1 r1 => ?_) fun _ _ q => q) (h1.plain _ _)
          obtain ⟨F1, x1, r1⟩ := r1
          have I1 := I.ext G.nt x1
          refine wpAny_mono (looks_sound G ih hA I1 h2 hv2) (fun ys s2 r2 => ?_) fun _ _ q => q
          obtain ⟨F2, x2, r2⟩ := r2
          exact ⟨F2, x1.trans x2, x, ys, rfl, r1.ext x2 I1.fnt, r2⟩
        · cases hv
      · cases hv
theorem mapO_len {α β : Type} {f : α → Option β} : ∀ {l : List α} {r : List β}, mapO f l = some r → r.length = l.length
  | [], _, h => by cases h; rfl
  | a :: l, r, h => by
    unfold mapO at h
    split at h
    · split at h
      · rename_i h2; cases h; simp [mapO_len h2]
      · cases h
    · cases h
theorem fold_app (its : Array Value) : ∀ k (acc : Array Value), (List.foldl (fun x1 x2 => x1 ++ x2) acc (List.replicate k its)).toList = acc.toList ++ (List.replicate k its.toList).flatten
  | 0, acc => by simp
  | k + 1, acc => by
    rw [List.replicate_succ, List.foldl_cons, fold_app its k, List.replicate_succ, List.flatten_cons]
    simp
theorem VRs.rep {h : Heap} {vs : List V} {xs : List Value} (r : VRs h F vs xs) : ∀ k, VRs h F (List.replicate k vs).flatten (List.replicate k xs).flatten
  | 0 => by simpa using VRs.nil
  | k + 1 => by
    rw [List.replicate_succ, List.flatten_cons, List.replicate_succ, List.flatten_cons]
    exact r.append (VRs.rep r k)

theorem lst_sound (G : GOk g p) (ih : IH g p n) (hA : AOk g n A) (I : InvE g sc env F st s) {es : List Expr} {xs : List Ex} {vs : List V} {pos : Pos} (h : TEs g sc es xs) (hl : xs.length ≤ 1000) (hv : mapO (ev p n st) xs = some vs) :
    wpAny (model g.prog g.w) A (eval (.List es pos) env) (ResN g.tabs F s vs) noE s := by
  refine wpAny_List_spliced (wpAny_mono (items_sound G ih hA I h hv) (fun ys s1 r1 => ?_) fun _ _ q => q)
  obtain ⟨F1, x1, r1⟩ := r1
  have I1 := I.ext G.nt x1
  refine ⟨?_, ResN.mk x1 I1.fal I1.fnt (by simpa using r1)⟩
  rw [r1.length, mapO_len hv]
  exact Nat.le_trans hl (by decide)
theorem tup_sound (G : GOk g p) (ih : IH g p n) (hA : AOk g n A) (I : InvE g sc env F st s) {es : List Expr} {xs : List Ex} {vs : List V} {k : Nat} {pos : Pos} (h : TEs g sc es xs) (hl : xs.length ≤ 1000) (hv : mapO (ev p n st) xs = some vs) :
    wpAny (model g.prog g.w) A (eval (.Tuple es k pos) env) (Res g.tabs F s (.tup vs)) noE s := by
  refine wpAny_Tuple_spliced (wpAny_mono (items_sound G ih hA I h hv) (fun ys s1 r1 => ?_) fun _ _ q => q)
  obtain ⟨F1, x1, r1⟩ := r1
  have I1 := I.ext G.nt x1
  refine ⟨?_, ?_⟩
  · rw [r1.length, mapO_len hv]
    exact Nat.le_trans hl (by decide)
  · have y := grown (F := F1) (o := { cls := .type "tuple", data := .seq ys.toArray }) (tk := s1.toks) x1.ti rfl (Nat.le_refl _)
    refine ⟨_, x1.trans y, ?_⟩
    unfold VR
    exact ⟨_, _, rfl, .inr rfl, ⟨_, Heap.get?_push_size _ rfl, rfl, _, rfl⟩, by simpa using r1.ext y I1.fnt⟩
theorem rep_sound (G : GOk g p) (ih : IH g p n) (hA : AOk g n A) (I : InvE g sc env F st s) {es : List Expr} {k : Expr} {xs : List Ex} {y : Ex} {vs : List V} {i : Int} {pos q : Pos} (h : TEs g sc es xs) (hk : TE g sc k y)
    (hv : mapO (ev p n st) xs = some vs) (hi : ev p n st y = some (.int i)) (h1 : small i = true) (h2 : xs.length * i.toNat ≤ 1000) (h3 : xs.length ≤ 1000) :
    wpAny (model g.prog g.w) A (eval (.BinOp (.List es q) .Mult k pos) env) (ResN g.tabs F s (List.replicate i.toNat vs).flatten) noE s := by
  refine wpAny_BinOp ?_
  have hl := mapO_len hv
  refine wpAny_List_spliced (wpAny_mono (items_sound G ih hA I h hv) (fun ys s1 r1 => ?_) fun _ _ q => q)
  obtain ⟨F1, x1, r1⟩ := r1
  have I1 := I.ext G.nt x1
  refine ⟨by rw [r1.length, hl]; exact Nat.le_trans h3 (by decide), ?_⟩
  have e0 : ExtF g.tabs F1 s1 F1 { s1 with heap := s1.heap.push { cls := .type "list", data := .seq ys.toArray } } := .ofKeep x1.ti (push_keep _ _) (Nat.le_refl _)
  have I2 := I1.ext G.nt e0
  refine wpAny_mono (ih.e hA I2 hk hi) (fun z s3 r3 => ?_) fun _ _ q => q
  obtain ⟨F3, x3, u, rfl⟩ := r3
  have I3 := I2.ext G.nt x3
  have hget : s3.heap.get? s1.heap.objs.size = some { cls := .type "list", dict := none, data := .seq ys.toArray 0, slots := #[] } := x3.keep _ _ (x1.ti.notNew (dead_size _)) (Heap.get?_push_size _ rfl)
  have hb : i.natAbs < 2 ^ 60 := of_decide_eq_true h1
  have hsz : ys.toArray.size * i.toNat ≤ 2 ^ 24 := by
    rw [List.size_toArray, r1.length, hl]; exact Nat.le_trans h2 (by decide)
  refine wpAny_binaryOp_repeat_ref (T := "list") (U := "int") (by decide) ⟨_, hget, rfl⟩ (fun s' => typeIs_int s' i u) noFill_list_mul PySem.F.fills_int_mul PySem.F.slot_int_rmul repeat_list PySem.F.slot_int_index.lookup
    (call_meets PySem.F.slot_int_rmul (typeIs_int _ i u) PySem.F.entry_int_rmul (PySem.F.args_int_rmul_2 _ _) (int___rmul___int_list i u s1.heap.objs.size ys.toArray 0)
      ⟨hget, rfl, ⟨_, hget, rfl⟩, call_meets PySem.F.slot_list_mul ⟨_, hget, rfl⟩ PySem.F.entry_list_mul (PySem.F.args_list_mul_2 _ _)
        (AutoListH.list___mul___list_int_3 s1.heap.objs.size ys.toArray 0 i u (by simp [Builtin.List.listFitsIndex]; omega) (by omega) (by simp [Builtin.List.listTooLong, sizeLine]; simpa using hsz))
        ⟨hget, ?_⟩⟩)
  refine ResN.mk ((x1.trans e0).trans x3) I3.fal I3.fnt ?_
  rw [fold_app]
  have r1' := (r1.ext e0 I1.fnt).ext x3 I2.fnt
  by_cases hem : ys.toArray.isEmpty = true
  · rw [if_pos hem]
    have : ys = [] := by simpa using hem
    subst this
    have : vs = [] := by have := r1.length; simpa using this.symm
    subst this
    simpa using VRs.nil
  · rw [if_neg hem]
    simpa using r1'.rep i.toNat

theorem slc_eq (vs : List V) (l h : Option Int) : slc vs l h = (vs.drop (kms_lo l vs.length)).take (kms_hi h vs.length - kms_lo l vs.length) := by
  cases l <;> cases h <;> rfl
theorem slc_sound (G : GOk g p) (ih : IH g p n) (hA : AOk g n A) (I : InvE g sc env F st s) {e : Expr} {lo hi : Option Expr} {a : Ex} {x y : Option Ex} {vs : List V} {l h : Option Int} {pos q : Pos} (h1 : TE g sc e a) (h2 : TEo g sc lo x) (h3 : TEo g sc hi y)
    (hv : evL p n st a = some (.lst vs)) (hl : evO p n st x = some l) (hh : evO p n st y = some h) (hz : vs.length ≤ 1000) :
    wpAny (model g.prog g.w) A (eval (.Subscript e (.Slice lo hi none q) pos) env) (ResN g.tabs F s (slc vs l h)) noE s := by
  refine Subscript_ (wpAny_mono (ih.l hA I h1 hv) (fun o s1 r1 => ?_) fun _ _ q => q)
  obtain ⟨F1, x1, i, its, rfl, hn, h5, r1⟩ := r1
  have I1 := I.ext G.nt x1
  refine wpAny_Slice (wpAny_mono (ih.o hA I1 h2 hl) (fun vl s2 r2 => ?_) fun _ _ q => q)
  obtain ⟨p2, F2, x2⟩ := r2
  have I2 := I1.ext G.nt x2
  refine wpAny_mono (ih.o hA I2 h3 hh) (fun vu s3 r3 => ?_) fun _ _ q => q
  obtain ⟨p3, F3, x3⟩ := r3
  have I3 := I2.ext G.nt x3
  refine wpAny_evalPart_none ?_
  have e0 : ExtF g.tabs F3 s3 F3 { s3 with heap := s3.heap.push { cls := .type "slice", data := .fields #[vl, vu, .none] } } := .ofKeep I3.ti (push_keep _ _) (Nat.le_refl _)
  have I4 := I3.ext G.nt e0
  have hL : (s3.heap.push { cls := .type "slice", data := .fields #[vl, vu, .none] }).IsList i its := by
    obtain ⟨o, q1, q2⟩ := h5
    exact ⟨o, Heap.get?_push_of_some _ (x3.keep _ _ hn (x2.keep _ _ hn q1)), q2⟩
  have r4 := ((r1.ext x2 I1.fnt).ext x3 I2.fnt).ext e0 I3.fnt
  refine tail_any hL.typeIs PySem.F.slot_list_getitem.lookup (wpAny_getItem_list_slice hL (Heap.IsSliceOf.new ..) p2 p3 .none (by intro q; cases q) ?_ ?_) (by rfl)
  · refine ResN.mk (((x1.trans x2).trans x3).trans e0) I4.fal I4.fnt ?_
    rw [kms_pick_eq]
    have ll : its.toList.length = vs.length := r4.length
    show VRs _ F3 (slc vs l h) (kms_pick its.toList l h)
    unfold kms_pick
    rw [ll, slc_eq]
    exact (r4.drop _).take _
  · have : its.size = vs.length := lists_of r4
    rw [this]; exact Nat.le_trans hz (by decide)
end
end Mine
end
section
namespace Mine
open PySem PySem.W PyProof.Rows

theorem TI.butN {tabs : List TabRec} {h h' : Heap} {a : Addr} (x : TI tabs h) (ha : NT tabs a) (hn : ∀ q, ¬ h.CodeRec (.ref a) q) (hk : ∀ b o, b ≠ a → h.get? b = some o → h'.get? b = some o) : TI tabs h' := fun q hq => by
  rcases x q hq with e | ⟨c', e1, e2, e3⟩
  · exact .inl (hk _ _ (fun r => ha q hq r.symm) e)
  · refine .inr ⟨c', hk _ _ (fun r => ha q hq r.symm) e1, ?_, e3⟩
    obtain ⟨c, o, vs, t, e, g, r⟩ := id e2
    cases e
    exact ⟨_, o, vs, t, rfl, hk _ _ (fun r => hn _ (r ▸ e2)) g, r⟩

/-- an iterator over the items vs: what it is, and how it walks -/
structure ItOk (prog : Program) (w : World) (A : Around) (tabs : List TabRec) (F : Addr → Prop) (vs : List V) (x : Value) (s s2 : Shared) (I : Addr) (fp : List Addr) (P : Nat → Value → Prop) (St : Nat → Heap → Prop) : Prop where
  W : Walks prog w A I fp [I] vs.length P St
  st : St 0 s2.heap
  lt : ∀ b ∈ fp, b < s2.heap.objs.size
  nt : ∀ b ∈ fp, NT tabs b
  dead : s.heap.get? I = none
  fi : ∀ b ∈ fp, b = I ∨ ∃ o, s.heap.get? b = some o
  nc : ∀ i h q, St i h → ¬ h.CodeRec (.ref I) q
  al : ∀ i h, St i h → ∃ o, h.get? I = some o
  kd : ∀ i h, St i h → ∃ o vs, h.get? I = some o ∧ o.data = .fields vs
  ref : ∀ b ∈ fp, b = I ∨ x = .ref b
  vals : ∀ i x, P i x → ∃ v, vs[i]? = some v ∧ VR s.heap F v x

section
variable {prog : Program} {w : World} {A : Around} {tabs : List TabRec} {F : Addr → Prop} {s : Shared}
theorem no_codeRec {h : Heap} {a : Addr} {o : Obj} {vs : Array Value} {k : Int} {t : Tok} (e : h.get? a = some o) (hd : o.data = .fields vs) (h1 : vs[1]? = some (.int k t)) (q : Str) : ¬ h.CodeRec (.ref a) q := by
  rintro ⟨c, o', vs', t', e1, e2, e3, e4⟩
  cases e1
  rw [e] at e2; cases e2
  rw [hd] at e3; cases e3
  rw [h1] at e4; cases e4
theorem iter_sound (hA : A.handled = none) (ti : TI tabs s.heap) {v : V} {x : Value} {vs : List V} (r : VL tabs s.heap F v x) (hF : ∀ a, F a → NT tabs a) (hv : items v = some vs)
    {Q : Value → Shared → Prop} (h : ∀ I o fp P St, o.isFreed = false → ItOk prog w A tabs F vs x s { s with heap := s.heap.push o } I fp P St → I = s.heap.objs.size → Q (.ref I) { s with heap := s.heap.push o }) :
    wpAny (model prog w) A (pyIter x) Q noE s := by
  have hd := dead_size s.heap
  have hn := ti.notNew hd
  cases v with
  | lst us =>
    cases hv
    obtain ⟨a, its, rfl, hna, hl, hr⟩ := r
    have ne : a ≠ s.heap.objs.size := by
      obtain ⟨o, e, _⟩ := hl
      exact Nat.ne_of_lt (Heap.lt_size e)
    refine wpAny_pyIter_list hl (h s.heap.objs.size _ [s.heap.objs.size, a] (fun i v => its[i]? = some v) (fun i h => h.IsListIter s.heap.objs.size a i ∧ h.IsList a its) rfl
      ⟨?_, ⟨⟨_, Heap.get?_push_size _ rfl, rfl, rfl⟩, ?_⟩, ?_, ?_, hd, ?_, ?_, ?_, ?_, ?_, ?_⟩ rfl)
    · have := Walks.list (prog := prog) (w := w) hA s.heap.objs.size a ne its
      rwa [lists_of hr] at this
    · obtain ⟨o, e, r⟩ := hl
      exact ⟨o, Heap.get?_push_of_some _ e, r⟩
    · intro b hb
      rw [Heap.size_push]
      simp only [List.mem_cons, List.not_mem_nil, or_false] at hb
      rcases hb with rfl | rfl
      · exact Nat.lt_succ_self _
      · obtain ⟨o, e, _⟩ := hl
        exact Nat.lt_succ_of_lt (Heap.lt_size e)
    · intro b hb
      simp only [List.mem_cons, List.not_mem_nil, or_false] at hb
      rcases hb with rfl | rfl
      · exact hn
      · exact hna
    · intro b hb
      simp only [List.mem_cons, List.not_mem_nil, or_false] at hb
      rcases hb with rfl | rfl
      · exact .inl rfl
      · obtain ⟨o, e, _⟩ := hl
        exact .inr ⟨o, e⟩
    · rintro i h q ⟨⟨o, e1, e2, e3⟩, _⟩
      exact no_codeRec e1 e3 rfl q
    · rintro i h ⟨⟨o, e1, e2, e3⟩, _⟩
      exact ⟨o, e1⟩
    · rintro i h ⟨⟨o, e1, e2, e3⟩, _⟩
      exact ⟨o, _, e1, e3⟩
    · intro b hb
      simp only [List.mem_cons, List.not_mem_nil, or_false] at hb
      exact hb.imp id fun q => by rw [q]
    · intro i y hy
      have hy' : its.toList[i]? = some y := by simpa using hy
      have hi : i < vs.length := by
        have := hr.length
        have h2 := (List.getElem?_eq_some_iff.mp hy').1
        omega
      obtain ⟨z, e1, e2⟩ := hr.get (i := i) (v := vs[i]) (by simp [hi])
      rw [hy'] at e1; cases e1
      exact ⟨vs[i], by simp [hi], e2⟩
  | tup us =>
    cases hv
    replace r : VR s.heap F _ _ := r
    unfold VR at r
    obtain ⟨a, its, rfl, hfa, hl, hr⟩ := r
    have hna := hF a hfa
    have ne : a ≠ s.heap.objs.size := by
      obtain ⟨o, e, _⟩ := hl
      exact Nat.ne_of_lt (Heap.lt_size e)
    refine wpAny_pyIter_tuple hl (h s.heap.objs.size _ [s.heap.objs.size, a] (fun i v => its[i]? = some v) (fun i h => h.IsTupleIter s.heap.objs.size a i ∧ h.IsTuple a its) rfl
      ⟨?_, ⟨⟨_, Heap.get?_push_size _ rfl, rfl, rfl⟩, ?_⟩, ?_, ?_, hd, ?_, ?_, ?_, ?_, ?_, ?_⟩ rfl)
    · have := Walks.tuple (prog := prog) (w := w) hA s.heap.objs.size a ne its
      rwa [lists_of hr] at this
    · exact hl.push _
    · intro b hb
      rw [Heap.size_push]
      simp only [List.mem_cons, List.not_mem_nil, or_false] at hb
      rcases hb with rfl | rfl
      · exact Nat.lt_succ_self _
      · obtain ⟨o, e, _⟩ := hl
        exact Nat.lt_succ_of_lt (Heap.lt_size e)
    · intro b hb
      simp only [List.mem_cons, List.not_mem_nil, or_false] at hb
      rcases hb with rfl | rfl
      · exact hn
      · exact hna
    · intro b hb
      simp only [List.mem_cons, List.not_mem_nil, or_false] at hb
      rcases hb with rfl | rfl
      · exact .inl rfl
      · obtain ⟨o, e, _⟩ := hl
        exact .inr ⟨o, e⟩
    · rintro i h q ⟨⟨o, e1, e2, e3⟩, _⟩
      exact no_codeRec e1 e3 rfl q
    · rintro i h ⟨⟨o, e1, e2, e3⟩, _⟩
      exact ⟨o, e1⟩
    · rintro i h ⟨⟨o, e1, e2, e3⟩, _⟩
      exact ⟨o, _, e1, e3⟩
    · intro b hb
      simp only [List.mem_cons, List.not_mem_nil, or_false] at hb
      exact hb.imp id fun q => by rw [q]
    · intro i y hy
      have hy' : its.toList[i]? = some y := by simpa using hy
      have hi : i < vs.length := by
        have := hr.length
        have h2 := (List.getElem?_eq_some_iff.mp hy').1
        omega
      obtain ⟨z, e1, e2⟩ := hr.get (i := i) (v := vs[i]) (by simp [hi])
      rw [hy'] at e1; cases e1
      exact ⟨vs[i], by simp [hi], e2⟩
  | rng hi =>
    unfold items at hv
    dsimp only at hv
    split at hv
    case isFalse => cases hv
    rename_i hs
    cases hv
    replace r : VR s.heap F _ _ := r
    unfold VR at r
    obtain ⟨a, t, u, k, rfl, hfa, hl⟩ := r
    have hb : hi.natAbs < 2 ^ 60 := of_decide_eq_true hs
    have hsz : Builtin.Range.rangeSize 0 hi 1 = ((hi.toNat : Nat) : Int) := by
      rw [rangeSize_nat]; simp
    have hsm : Builtin.Range.small 0 hi 1 = true := by
      unfold Builtin.Range.small Builtin.Range.rangeFitsLong
      rw [hsz]
      simp only [Bool.and_eq_true, decide_eq_true_eq, Bool.or_eq_true, beq_iff_eq]
      refine ⟨⟨⟨⟨by omega, by omega⟩, by omega⟩, by omega⟩, ?_⟩
      right
      simp only [gt_iff_lt, Int.zero_lt_one, if_true, Bool.and_eq_true, decide_eq_true_eq]
      omega
    refine wpAny_pyIter_range hl hsm (h s.heap.objs.size _ [s.heap.objs.size] (fun i v => i < hi.toNat ∧ ∃ t, v = .int (0 + i * 1) t)
      (fun i h => IsRangeIter h s.heap.objs.size (0 + (i : Nat) * 1) ((hi.toNat : Int) - (i : Nat)) 1) rfl ⟨?_, ?_, ?_, ?_, hd, ?_, ?_, ?_, ?_, ?_, ?_⟩ rfl)
    · have := Walks.range (prog := prog) (w := w) hA s.heap.objs.size 0 1 hi.toNat
      have this' := this
      refine ⟨this.sub, this.frame, fun i s Q E hi2 st hQ => ?_, ?_, this.self⟩
      · simp only [List.length_map, List.length_range] at hi2
        exact this.item i s Q E hi2 st fun v h' tk hP hst hk => hQ v h' tk ⟨hi2, hP⟩ hst hk
      · simpa using this.done
    · show IsRangeIter _ _ _ _ _
      have e1 : ((0 : Int) + (0 : Nat) * 1) = 0 := by simp
      have e2 : ((hi.toNat : Int) - (0 : Nat)) = Builtin.Range.rangeSize 0 hi 1 := by rw [hsz]; simp
      rw [e1, e2]
      exact Heap.get?_push_size _ rfl
    · intro b hb
      rw [Heap.size_push]
      simp only [List.mem_cons, List.not_mem_nil, or_false] at hb
      subst hb
      exact Nat.lt_succ_self _
    · intro b hb
      simp only [List.mem_cons, List.not_mem_nil, or_false] at hb
      subst hb
      exact hn
    · intro b hb
      simp only [List.mem_cons, List.not_mem_nil, or_false] at hb
      exact .inl hb
    · intro i h q hst
      exact no_codeRec hst rfl rfl q
    · intro i h hst
      exact ⟨_, hst⟩
    · intro i h hst
      exact ⟨_, _, hst, rfl⟩
    · intro b hb
      simp only [List.mem_cons, List.not_mem_nil, or_false] at hb
      exact .inl hb
    · rintro i y ⟨hi2, t, rfl⟩
      refine ⟨.int i, by simp [hi2], t, ?_⟩
      simp
  | none => cases hv
  | bool _ => cases hv
  | int _ => cases hv
  | flt _ => cases hv

theorem clo_go {env : Env} : ∀ (names : List (Str × NameKind)) (acc : List (Str × Addr)), (names.map (·.1)).Nodup → (∀ y ∈ names, y.2 = .free → ∃ c, env.cells.lookup y.1 = some c) →
    ∃ cl, (forIn names acc fun (x : Str × NameKind) (cs : List (Str × Addr)) => (if x.2 == .free then (do let a ← cellOf env x.1; pure (.yield ((x.1, a) :: cs))) else pure (.yield cs) : Sem (ForInStep (List (Str × Addr))))) = pure cl ∧
      (∀ y ∈ names, y.2 = .free → cl.lookup y.1 = env.cells.lookup y.1) ∧ (∀ z, (∀ y ∈ names, y.1 ≠ z) → cl.lookup z = acc.lookup z)
  | [], acc, _, _ => ⟨acc, by rw [List.forIn_nil], fun _ h => (nomatch h), fun _ _ => rfl⟩
  | (m, k) :: r, acc, nd, h => by
    simp only [List.map_cons, List.nodup_cons] at nd
    rw [List.forIn_cons]
    by_cases hk : k = .free
    · subst hk
      obtain ⟨c, hc⟩ := h (m, .free) (List.mem_cons_self ..) rfl
      obtain ⟨cl, e1, e2, e3⟩ := clo_go r ((m, c) :: acc) nd.2 fun y hy => h y (List.mem_cons_of_mem _ hy)
      refine ⟨cl, ?_, ?_, ?_⟩
      · simp only [beq_self_eq_true, if_true, cellOf, hc, pure_bind]
        exact e1
      · intro y hy hf
        rcases List.mem_cons.mp hy with rfl | hy
        · rw [e3 m (fun y hy e => nd.1 (List.mem_map.mpr ⟨y, hy, e⟩))]
          simp [List.lookup_cons, hc]
        · exact e2 y hy hf
      · intro z hz
        rw [e3 z fun y hy => hz y (List.mem_cons_of_mem _ hy)]
        have : (z == m) = false := by
          have := hz (m, .free) (List.mem_cons_self ..)
          simpa using fun e => this (Eq.symm e)
        simp [List.lookup_cons, this]
    · have hk' : (k == NameKind.free) = false := by simpa using hk
      obtain ⟨cl, e1, e2, e3⟩ := clo_go r acc nd.2 fun y hy => h y (List.mem_cons_of_mem _ hy)
      refine ⟨cl, ?_, ?_, fun z hz => e3 z fun y hy => hz y (List.mem_cons_of_mem _ hy)⟩
      · simp only [hk', Bool.false_eq_true, if_false, pure_bind]
        exact e1
      · intro y hy hf
        rcases List.mem_cons.mp hy with rfl | hy
        · exact absurd hf hk
        · exact e2 y hy hf
theorem closure_ok {env : Env} {scope : Scope} (nd : (scope.names.map (·.1)).Nodup) (h : ∀ y ∈ scope.names, y.2 = .free → ∃ c, env.cells.lookup y.1 = some c) :
    ∃ cl, closureFor scope env = pure cl ∧ ∀ y ∈ scope.names, y.2 = .free → cl.lookup y.1 = env.cells.lookup y.1 := by
  obtain ⟨cl, e1, e2, _⟩ := clo_go scope.names [] nd h
  refine ⟨cl, ?_, e2⟩
  unfold closureFor
  have e3 : (forIn scope.names ([] : List (Str × Addr)) fun (x : Str × NameKind) (cs : List (Str × Addr)) => (match x with
      | (name, kind) => if (kind == .free) = true then (do let a ← cellOf env name; pure (ForInStep.yield ((name, a) :: cs))) else pure (ForInStep.yield cs) : Sem (ForInStep (List (Str × Addr))))) = pure cl := e1
  exact (congrArg (fun t : Sem (List (Str × Addr)) => t >>= fun cs => pure cs) e3).trans (by rfl)
end
end Mine
end
section
namespace Mine
open PySem PySem.W PyProof.Rows

section
variable {g : Gx} {p : Prog} {n : Nat} {A : Around} {sc : Sc} {env : Env} {F : Addr → Prop} {st : St} {s : Shared}

/-- a comprehension's test -/
noncomputable def condV (p : Prog) (n : Nat) (st : St) : Option Ex → Option Bool
  | some c => evT p n st c
  | none => some true

theorem tests_sound (ih : IH g p n) (hA : AOk g n A) (I : InvE g sc env F st s) {c : Option Expr} {cond : Option Ex} {b : Bool} (h : TEo g sc c cond)
    (hb : condV p n st cond = some b) :
    wpAny (model g.prog g.w) A (forIn c.toList true fun c r => if r = true then do let ok ← isTrue c env (eval c env); pure (ForInStep.yield ok) else pure (ForInStep.yield r)) (ResB g.tabs F s b) noE s := by
  cases h with
  | none =>
    cases hb
    exact wpAny_pure ⟨rfl, F, ExtF.refl I.ti⟩
  | some h1 =>
    show wpAny _ A (forIn [_] true _) _ _ s
    rw [List.forIn_cons]
    simp only [if_true, List.forIn_nil]
    refine wpAny_bind (wpAny_bind (wpAny_mono (ih.t hA I h1 hb) (fun ok s1 r1 => wpAny_pure ?_) fun _ _ q => q))
    exact wpAny_pure r1

theorem caps_get : ∀ {cap : List Nat} {cs : List Loc}, caps st cap = some cs → ∀ i : Nat, i < cap.length → ∃ l, cs[i]? = some l ∧ st[cap.getD i 0]? = some l
  | [], _, _, i, hi => absurd hi (Nat.not_lt_zero _)
  | x :: r, cs, h, i, hi => by
    unfold caps at h
    split at h
    · rename_i l hl
      simp only [Option.map_eq_some_iff] at h
      obtain ⟨ds, h1, rfl⟩ := h
      cases i with
      | zero => exact ⟨l, rfl, by simpa using hl⟩
      | succ j =>
        obtain ⟨l', e1, e2⟩ := caps_get h1 j (by simpa using hi)
        exact ⟨l', by simpa using e1, by simpa using e2⟩
    · cases h
theorem caps_len : ∀ {cap : List Nat} {cs : List Loc}, caps st cap = some cs → cs.length = cap.length
  | [], _, h => by cases h; rfl
  | x :: r, cs, h => by
    unfold caps at h
    split at h
    · simp only [Option.map_eq_some_iff] at h
      obtain ⟨ds, h1, rfl⟩ := h
      simp [caps_len h1]
    · cases h

theorem relabel_kind {scope : Scope} (hfn : env.scope.kind = .function) (hk : ∀ x, env.kindOf x = sc.kinds x) (y : Str) : (relabel scope env).names.lookup y = (relNames scope sc.kinds).lookup y := by
  unfold relabel relNames
  simp only [hfn, hk, beq_self_eq_true, Bool.and_true]
theorem lookup_map_free {kinds : Str → Option NameKind} : ∀ {names : List (Str × NameKind)} {y : Str}, names.lookup y = some .free → kinds y = some .cell →
    (names.map fun (n, k) => if (k == .free && kinds n == some .cell) then (n, NameKind.cell) else (n, k)).lookup y = some .cell
  | [], _, h, _ => by simp at h
  | (m, k) :: r, y, h, hc => by
    simp only [List.map_cons]
    cases hy : y == m with
    | true =>
      simp only [List.lookup_cons, hy] at h
      cases h
      have := eq_of_beq hy; subst this
      simp [List.lookup_cons, hc]
    | false =>
      simp only [List.lookup_cons, hy] at h
      have := lookup_map_free (kinds := kinds) h hc
      by_cases hq : (k == NameKind.free && kinds m == some .cell) = true
      · rw [if_pos hq]; simp only [List.lookup_cons, hy]; exact this
      · rw [if_neg hq]; simp only [List.lookup_cons, hy]; exact this
theorem lookup_map_local {kinds : Str → Option NameKind} : ∀ {names : List (Str × NameKind)} {y : Str}, names.lookup y = some .local →
    (names.map fun (n, k) => if (k == .free && kinds n == some .cell) then (n, NameKind.cell) else (n, k)).lookup y = some .local
  | [], _, h => by simp at h
  | (m, k) :: r, y, h => by
    simp only [List.map_cons]
    cases hy : y == m with
    | true =>
      simp only [List.lookup_cons, hy] at h
      cases h
      simp [List.lookup_cons, hy]
    | false =>
      simp only [List.lookup_cons, hy] at h
      have := lookup_map_local (kinds := kinds) h
      by_cases hq : (k == NameKind.free && kinds m == some .cell) = true
      · rw [if_pos hq]; simp only [List.lookup_cons, hy]; exact this
      · rw [if_neg hq]; simp only [List.lookup_cons, hy]; exact this

/-- a comprehension's own frame, for reading: I the outer frame at an earlier state -/
theorem comp_inv {F' : Addr → Prop} {s s' : Shared} {scope : Scope} {x : Str} {cap : List Nat} {capN : List Str} {cl : List (Str × Addr)} {C : Addr} {cs : List Loc} {v : V} {y : Value} {m : Str → Option Value}
    (G : GOk g p) (I : InvE g sc env F st s) (e : ExtF g.tabs F s F' s') (ok : CompOk sc scope x cap capN) (hcl : ∀ z ∈ scope.names, z.2 = .free → cl.lookup z.1 = env.cells.lookup z.1)
    (hc : caps st cap = some cs) (hval : cs.all isVal = true) (hn : s'.heap.Ns C m) (hm : m x = some y) (hy : VR s'.heap F' v y) :
    InvE g (compSc scope sc.kinds x capN) (compEnvC scope cl C env) F' (Loc.val v :: cs) s' := by
  have I' := I.ext G.nt e
  have hkind : ∀ z, (compEnvC scope cl C env).kindOf z = (compSc scope sc.kinds x capN).kinds z := fun z => relabel_kind I.fn I.kind z
  refine { base := I'.base, ti := I'.ti, tk := I'.tk, fnt := I'.fnt, fal := I'.fal, kind := hkind, fn := ok.kind, gb := I.gb, bb := I.bb, cd := fun _ _ e => (by cases e), vars := fun i z l h1 h2 => ?_ }
  cases i with
  | zero =>
    simp only [compSc, List.getElem?_cons_zero, Option.some.injEq] at h1
    simp only [List.getElem?_cons_zero, Option.some.injEq] at h2
    subst h1 h2
    refine ⟨some y, .inl ⟨?_, m, hn, hm⟩, y, rfl, hy⟩
    rw [hkind]
    exact lookup_map_local ok.hx
  | succ j =>
    simp only [compSc, List.getElem?_cons_succ] at h1 h2
    have hlen : capN.length = cap.length := by
      have := congrArg List.length ok.capn
      simpa using this.symm
    have hj : j < cap.length := by
      have := (List.getElem?_eq_some_iff.mp h1).1
      omega
    obtain ⟨l', e1, e2⟩ := caps_get hc j hj
    rw [e1] at h2; cases h2
    have hz : sc.vars[cap.getD j 0]? = some z := by
      have := congrArg (fun t => t[j]?) ok.capn
      simp only [List.getElem?_map, h1, Option.map_some] at this
      rw [List.getElem?_eq_getElem hj, Option.map_some] at this
      have h3 : cap.getD j 0 = cap[j] := by simp [List.getD, hj]
      rw [h3]
      exact Option.some.inj this
    obtain ⟨ov, r1, r2⟩ := I'.vars _ z l hz e2
    have hv : isVal l = true := List.all_eq_true.mp hval l (List.mem_of_getElem? e1)
    cases l with
    | val u =>
      obtain ⟨hf, hcell⟩ := ok.isfree z (List.mem_of_getElem? h1)
      refine ⟨ov, .inr ⟨.inl ?_, ?_⟩, r2⟩
      · rw [hkind]
        exact lookup_map_free hf hcell
      · rcases r1 with ⟨k1, _⟩ | ⟨_, c, q1, q2⟩
        · rw [I'.kind, hcell] at k1; cases k1
        · refine ⟨c, ?_, q2⟩
          have := hcl (z, .free) (mem_of_lookup hf) rfl
          exact this.trans q1
    | un => cases hv
    | own _ => cases hv
    | bor _ => cases hv
    | clo _ => cases hv

/-- the comprehension's list is made: D the list, C the block's own frame; what is then done with it -/
theorem comp_gen (G : GOk g p) (ih : IH g p n) (hA : AOk g n A) (I : InvE g sc env F st s) {use : Option (Value → Sem Unit)} {Q : Value → Shared → Prop} {elt iter : Expr} {x : Str} {px : Pos} {c : Option Expr} {scope : Scope} {pos : Pos} {a : Ex} {cond : Option Ex} {it : Ex} {cap : List Nat} {capN : List Str}
    {v : V} {vs us : List V} {cs : List Loc}
    (h1 : TE g sc iter it) (hE : TE g (compSc scope sc.kinds x capN) elt a) (h3 : TEo g (compSc scope sc.kinds x capN) c cond) (ok : CompOk sc scope x cap capN) (hs : ∀ env v, foldedSetIterable iter env v = pure v)
    (hv : evL p n st it = some v) (hi : items v = some vs) (hc : caps st cap = some cs) (hval : cs.all isVal = true) (hz : vs.length ≤ 1000)
    (hr : compL (fun v => condV p n (Loc.val v :: cs) cond) (fun v => ev p n (Loc.val v :: cs) a) vs = some us)
    (fin : ∀ D C F' its m s9, ExtF g.tabs F s F' s9 → s.heap.get? D = none → s.heap.get? C = none → C ≠ D → ¬ F' D → ¬ F' C → NT g.tabs D → NT g.tabs C → PlainX s9.heap D its → VRs s9.heap F' us its.toList → s9.heap.Ns C m →
      compPost (model g.prog g.w) A noE use Q (.ref D) C (.ok .next) s9) {q : Pos} :
    wpAny (model g.prog g.w) A (comprehension (.ListComp elt [⟨.Name x px, iter, c.toList, 0⟩] scope pos) scope env q (newList []) false (eval iter env) use) Q noE s := by
  have hcells : ∀ y ∈ scope.names, y.2 = .free → ∃ c, env.cells.lookup y.1 = some c := by
    intro y hy hf
    have hm := ok.free y hy hf
    obtain ⟨hq, hcell⟩ := ok.isfree y.1 hm
    obtain ⟨i, hi1, hi2⟩ := List.getElem_of_mem hm
    have hlen : capN.length = cap.length := by
      have := congrArg List.length ok.capn
      simpa using this.symm
    obtain ⟨l', e1, e2⟩ := caps_get hc i (by omega)
    have hz : sc.vars[cap.getD i 0]? = some y.1 := by
      have := congrArg (fun t => t[i]?) ok.capn
      simp only [List.getElem?_map] at this
      rw [List.getElem?_eq_getElem hi1, List.getElem?_eq_getElem (show i < cap.length by omega)] at this
      simp only [Option.map_some, Option.some.injEq] at this
      have h3 : cap.getD i 0 = cap[i]'(by omega) := by simp [List.getD, show i < cap.length by omega]
      rw [h3, this, hi2]
    obtain ⟨ov, r1, _⟩ := I.vars _ y.1 l' hz e2
    rcases r1 with ⟨k1, _⟩ | ⟨_, c, q1, q2⟩
    · rw [I.kind, hcell] at k1; cases k1
    · exact ⟨c, q1⟩
  obtain ⟨cl, hclos, hcl⟩ := closure_ok ok.nd hcells
  refine wpAny_comprehension_free (use := use) rfl (hs env) hclos ok.kind ok.names ?_
  refine wpAny_mono (ih.l hA I h1 hv) (fun xv s1 r1 => ?_) fun _ _ q => q
  obtain ⟨F1, x1, r1⟩ := r1
  have I1 := I.ext G.nt x1
  refine iter_sound hA.hd I1.ti r1 I1.fnt hi fun It o fp P St hof W eI => ?_
  refine wpAny_newObj_type (wpAny_newFunctionEnv ok.nocell (by intro y hy; simp at hy) (fun h₁ hns₁ hsb₁ => ?_) ok.kind)
  dsimp only at hns₁ hsb₁ ⊢
  have W' := W.W
  generalize hH1 : s1.heap.push o = H1 at hns₁ hsb₁ W ⊢
  generalize hH2 : H1.push { cls := .type "list", dict := none, data := .seq ([] : List Value).toArray } = H2 at hns₁ hsb₁ ⊢
  have z1 : H1.objs.size = It + 1 := by rw [← hH1, Heap.size_push, eI]
  have z2 : H2.objs.size = It + 2 := by rw [← hH2, Heap.size_push, z1]
  have old1 : ∀ b o, s1.heap.get? b = some o → H1.get? b = some o := fun b o e => hH1 ▸ Heap.get?_push_of_some _ e
  have old2 : ∀ b o, H1.get? b = some o → H2.get? b = some o := fun b o e => hH2 ▸ Heap.get?_push_of_some _ e
  have below : ∀ b o, s1.heap.get? b = some o → b < It := fun b o e => by rw [eI]; exact Heap.lt_size e
  have b1 : ∀ b, b < It → b ≠ H1.objs.size := fun b h e => by rw [e, z1] at h; exact absurd h (Nat.not_lt.mpr (Nat.le_succ _))
  have b2 : ∀ b, b < It → b ≠ H2.objs.size := fun b h e => by rw [e, z2] at h; exact absurd h (Nat.not_lt.mpr (Nat.le_add_right _ _))
  have nDI : H1.objs.size ≠ It := by rw [z1]; exact Nat.succ_ne_self _
  have nCI : H2.objs.size ≠ It := by rw [z2]; exact fun e => by have : It + 2 = It := e; omega
  have nCD : H2.objs.size ≠ H1.objs.size := by rw [z1, z2]; exact fun e => by have : It + 2 = It + 1 := e; omega
  have old3 : ∀ b o, H1.get? b = some o → h₁.get? b = some o := fun b o e => hsb₁.extBut b o (fun q => by
    have := Heap.lt_size e; rw [q, z1, z2] at this; exact absurd this (Nat.not_lt.mpr (Nat.le_succ _))) (Heap.get?_push_of_some _ (old2 b o e))
  have old : ∀ b o, s1.heap.get? b = some o → h₁.get? b = some o := fun b o e => old3 b o (old1 b o e)
  have hacc : h₁.PlainList H1.objs.size #[] := ⟨0, hsb₁.extBut _ _ (Ne.symm nCD) (Heap.get?_push_of_some _ (hH2 ▸ Heap.get?_push_size _ rfl))⟩
  have hst₁ : St 0 h₁ := W'.frame _ _ _ W.st fun b _ o e => old3 b o e
  have loop : codeAny (model g.prog g.w) A (.compLoop (.ListComp elt [⟨.Name x px, iter, c.toList, 0⟩] scope pos) 0 (.ref It) (.ref H1.objs.size) (compEnvC scope cl H2.objs.size env))
      (compPost (model g.prog g.w) A noE use Q (.ref H1.objs.size) H2.objs.size) { s1 with heap := h₁, toks := s1.toks + ([] : List (Str × Value)).length } := by
    have tn : NT g.tabs H2.objs.size ∧ NT g.tabs H1.objs.size ∧ NT g.tabs It := by
      have d : ∀ k, It ≤ k → s1.heap.get? k = none := fun k hk => by
        cases q : s1.heap.get? k with
        | none => rfl
        | some o => exact absurd (below _ _ q) (Nat.not_lt.mpr hk)
      exact ⟨I1.ti.notNew (d _ (by rw [z2]; exact Nat.le_add_right _ _)), I1.ti.notNew (d _ (by rw [z1]; exact Nat.le_add_right _ _)), I1.ti.notNew (d _ (Nat.le_refl _))⟩
    have nF : ¬ F1 It ∧ ¬ F1 H1.objs.size ∧ ¬ F1 H2.objs.size := by
      refine ⟨fun q => ?_, fun q => ?_, fun q => ?_⟩ <;> obtain ⟨o, e⟩ := I1.fal _ q <;> have := below _ _ e
      · exact absurd this (Nat.lt_irrefl _)
      · exact b1 _ this rfl
      · exact b2 _ this rfl
    refine codeAny_compLoop_tests
      (fun k s' => ∃ j F' ys m', ExtF g.tabs F1 s1 F' s' ∧ ¬ F' It ∧ ¬ F' H1.objs.size ∧ ¬ F' H2.objs.size ∧ St j s'.heap ∧ s'.heap.PlainList H1.objs.size ys ∧ s'.heap.Ns H2.objs.size m' ∧ j ≤ vs.length ∧ k = vs.length + 1 - j ∧
        ∃ out rest, VRs s'.heap F' out ys.toList ∧ compL (fun v => condV p n (Loc.val v :: cs) cond) (fun v => ev p n (Loc.val v :: cs) a) (vs.drop j) = some rest ∧ us = out ++ rest ∧ out.length ≤ j)
      ?_ (vs.length + 1) ⟨0, F1, #[], _, .ofKeep I1.ti old (Nat.le_refl _), nF.1, nF.2.1, nF.2.2, hst₁, hacc, hns₁, Nat.zero_le _, rfl, [], us, VRs.nil, by simpa using hr, rfl, Nat.le_refl _⟩
    rintro k s' ⟨j, F', ys, m', xE, nI, nD, nC, hst, hD, hC, hj, hk, out, rest, ro, hcl', hus, hol⟩
    by_cases hlt : j < vs.length
    · refine wpAny_with_toks (n := s'.toks) (Nat.le_refl _) (W'.item j s' _ _ hlt hst fun y h' tk hP hst' hkp htk => ?_)
      dsimp only
      obtain ⟨vi, hvi, hvr⟩ := W.vals j y hP
      have hC' : h'.Ns H2.objs.size m' := hC.at' fun o e => hkp _ o (by simpa using nCI) e
      refine wpAny_assign_Name (wpAny_storeName_local (by
          show (relabel scope env).names.lookup x = some .local
          rw [relabel_kind I.fn I.kind]; exact lookup_map_local ok.hx) hC' (fun h2 hn2 hs2 => ?_) (by
          show ((relabel scope env).kind == .class || ((relabel scope env).kind == .module && _)) = false
          simp [relabel, ok.kind]))
      have kp : ∀ b o, b ≠ It → b ≠ H2.objs.size → s'.heap.get? b = some o → h2.get? b = some o := fun b o e1 e2 e => hs2.extBut b o e2 (hkp b o (by simpa using e1) e)
      have kF : ∀ b o, F' b → s'.heap.get? b = some o → h2.get? b = some o := fun b o e => kp b o (fun q => nI (q ▸ e)) (fun q => nC (q ▸ e))
      have ti2 : TI g.tabs h2 := by
        have t1 : TI g.tabs h' := xE.ti.butN tn.2.2 (fun q => W.nc j _ q hst) fun b o e1 e => hkp b o (by simpa using e1) e
        obtain ⟨oC, es, ep, q1, q2, _⟩ := hC'
        exact t1.but q1 (fun vs q => by rw [q2] at q; cases q) fun b o e1 e => hs2.extBut b o e1 e
      have x5 : ExtF g.tabs F1 s1 F' { s' with heap := h2, toks := tk + 1 } := {
        keep := fun b o nb e => kp b o (fun q => absurd (below b o e) (by rw [q]; exact Nat.lt_irrefl _)) (b2 b (below b o e)) (xE.keep b o nb e)
        ti := ti2
        gens := xE.gens
        os := xE.os
        tok := Nat.le_trans xE.tok (Nat.le_succ_of_le htk)
        mono := xE.mono
        new := fun b e => (xE.new b e).imp id fun ⟨q1, q2, o, q3⟩ => ⟨q1, q2, o, kF b o e q3⟩ }
      have I5 := comp_inv G I1 x5 ok hcl hc hval hn2 (by simp) (hvr.ext x5 I1.fnt)
      have ro5 : VRs h2 F' out ys.toList := VRs.mono (fun _ e => e) (fun b o e q => kF b o e q) ro
      have hD5 : h2.PlainList H1.objs.size ys := hD.at fun o e => kp _ o nDI (Ne.symm nCD) e
      have hst5 : St (j + 1) h2 := W'.frame _ _ _ hst' fun b hb o e => hs2.extBut b o (fun q => by
        rcases W.fi b hb with r | ⟨o', r⟩
        · rw [r] at q; exact nCI q.symm
        · exact b2 b (below _ _ r) q) e
      have hdr : vs.drop j = vi :: vs.drop (j + 1) := by
        rw [List.drop_eq_getElem_cons hlt]
        congr 1
        rw [List.getElem?_eq_getElem hlt] at hvi
        exact Option.some.inj hvi
      rw [hdr] at hcl'
      unfold compL at hcl'
      split at hcl'
      · rename_i hb
        refine wpAny_mono (tests_sound ih hA I5 h3 hb) (fun okb s6 r6 => ?_) (fun _ _ q => q.elim)
        obtain ⟨rfl, F6, x6⟩ := r6
        rw [if_neg Bool.false_ne_true]
        have I6 := I5.ext G.nt x6
        have no : ∀ b, (∃ o, h2.get? b = some o) → ¬ F' b → ¬ F6 b := fun b ⟨o, e⟩ hb q => (x6.new b q).elim hb fun ⟨q1, _⟩ => by rw [show ({ s' with heap := h2, toks := tk + 1 } : Shared).heap.get? b = h2.get? b from rfl, e] at q1; cases q1
        refine ⟨vs.length + 1 - (j + 1), by omega, j + 1, F6, ys, _, x5.trans x6, ?_, ?_, ?_, W'.frame _ _ _ hst5 fun b hb o e => x6.keep b o (W.nt b hb) e, hD5.at fun o e => x6.keep _ o tn.2.1 e, hn2.at' fun o e => x6.keep _ o tn.1 e, hlt, rfl, out, rest, ro5.ext x6 I5.fnt, hcl', hus, by omega⟩
        · exact no _ (W.al _ _ hst5) nI
        · obtain ⟨q, e⟩ := hD5; exact no _ ⟨_, e⟩ nD
        · obtain ⟨q, _, _, e, _⟩ := hn2; exact no _ ⟨_, e⟩ nC
      · rename_i hb
        split at hcl'
        · rename_i y1 hy1
          split at hcl'
          · rename_i ys1 hys1
            cases hcl'
            refine wpAny_mono (tests_sound ih hA I5 h3 hb) (fun okb s6 r6 => ?_) (fun _ _ q => q.elim)
            obtain ⟨rfl, F6, x6⟩ := r6
            rw [if_pos rfl]
            have I6 := I5.ext G.nt x6
            refine wpAny_mono (ih.e hA I6 hE hy1) (fun z s7 r7 => ?_) (fun _ _ q => q.elim)
            obtain ⟨F7, x7, r7⟩ := r7
            have x67 := x6.trans x7
            have no : ∀ b, (∃ o, h2.get? b = some o) → ¬ F' b → ¬ F7 b := fun b ⟨o, e⟩ hb q => (x67.new b q).elim hb fun ⟨q1, _⟩ => by rw [show ({ s' with heap := h2, toks := tk + 1 } : Shared).heap.get? b = h2.get? b from rfl, e] at q1; cases q1
            have n1 := no _ (W.al _ _ hst5) nI
            have n2 : ¬ F7 H1.objs.size := by obtain ⟨q, e⟩ := hD5; exact no _ ⟨_, e⟩ nD
            have n3 : ¬ F7 H2.objs.size := by obtain ⟨q, _, _, e, _⟩ := hn2; exact no _ ⟨_, e⟩ nC
            have hD7 : s7.heap.PlainList H1.objs.size ys := hD5.at fun o e => x67.keep _ o tn.2.1 e
            have ro7 := ro5.ext x67 I5.fnt
            have hsz : ys.size ≤ sizeLine := by
              rw [lists_of ro7]
              exact Nat.le_trans hol (Nat.le_trans (Nat.le_of_lt hlt) (Nat.le_trans hz (by decide)))
            refine wpAny_list_append_plain (hsz := hsz) hD7 fun h8 hD8 hs8 => ?_
            have kF8 : ∀ b o, F7 b → s7.heap.get? b = some o → h8.get? b = some o := fun b o e q => hs8.extBut b o (fun r => n2 (r ▸ e)) q
            have x8 : ExtF g.tabs F1 s1 F7 { s7 with heap := h8 } := {
              keep := fun b o nb e => hs8.extBut b o (b1 b (below b o e)) ((x5.trans x67).keep b o nb e)
              ti := by
                obtain ⟨q, e⟩ := hD7
                exact x67.ti.but e (fun vs q => by cases q) fun b o e1 e => hs8.extBut b o e1 e
              gens := (x5.trans x67).gens
              os := (x5.trans x67).os
              tok := (x5.trans x67).tok
              mono := (x5.trans x67).mono
              new := fun b e => ((x5.trans x67).new b e).imp id fun ⟨q1, q2, o, q3⟩ => ⟨q1, q2, o, kF8 b o e q3⟩ }
            refine ⟨vs.length + 1 - (j + 1), by omega, j + 1, F7, ys.push z, _, x8, n1, n2, n3, W'.frame _ _ _ hst5 fun b hb o e => hs8.extBut b o (fun q => ?_) (x67.keep b o (W.nt b hb) e), hD8,
              (hn2.at' fun o e => x67.keep _ o tn.1 e).sameBut hs8 nCD, hlt, rfl, out ++ [y1], ys1, ?_, hys1, ?_, ?_⟩
            · rcases W.fi b hb with r | ⟨o', r⟩
              · rw [r] at q; exact nDI q.symm
              · exact b1 b (below _ _ r) q
            · rw [Array.toList_push]
              exact VRs.append (VRs.mono (fun _ e => e) kF8 ro7) (VRs.cons (VR.mono (fun _ e => e) kF8 r7) VRs.nil)
            · rw [hus]; simp
            · simp; omega
          · cases hcl'
        · cases hcl'
      · cases hcl'
    · have hjn : j = vs.length := by omega
      subst hjn
      rw [List.drop_length] at hcl'
      cases hcl'
      refine wpAny_with_toks (n := s'.toks) (Nat.le_refl _) (W'.done s' _ _ hst fun h' tk hkp htk => ?_)
      dsimp only
      have hC' : h'.Ns H2.objs.size m' := hC.at' fun o e => hkp _ o (by simpa using nCI) e
      have kp : ∀ b o, b ≠ It → s'.heap.get? b = some o → h'.get? b = some o := fun b o e1 e => hkp b o (by simpa using e1) e
      have kF : ∀ b o, F' b → s'.heap.get? b = some o → h'.get? b = some o := fun b o e => kp b o (fun q => nI (q ▸ e))
      have x5 : ExtF g.tabs F1 s1 F' { s' with heap := h', toks := tk } := {
        keep := fun b o nb e => kp b o (fun q => absurd (below b o e) (by rw [q]; exact Nat.lt_irrefl _)) (xE.keep b o nb e)
        ti := xE.ti.butN tn.2.2 (fun q => W.nc _ _ q hst) fun b o e1 e => hkp b o (by simpa using e1) e
        gens := xE.gens
        os := xE.os
        tok := Nat.le_trans xE.tok htk
        mono := xE.mono
        new := fun b e => (xE.new b e).imp id fun ⟨q1, q2, o, q3⟩ => ⟨q1, q2, o, kF b o e q3⟩ }
      have dd : ∀ k, NT g.tabs k → (∀ o, s1.heap.get? k ≠ some o) → s.heap.get? k = none := fun k hk hd => by
        cases q : s.heap.get? k with
        | none => rfl
        | some o => exact absurd (x1.keep _ o hk q) (hd o)
      refine fin H1.objs.size H2.objs.size F' ys m' _ (x1.trans x5) (dd _ tn.2.1 fun o q => b1 _ (below _ _ q) rfl) (dd _ tn.1 fun o q => b2 _ (below _ _ q) rfl) nCD nD nC tn.2.1 tn.1 ?_ ?_ hC'
      · obtain ⟨q, e⟩ := hD
        exact ⟨_, q, kp _ _ nDI e, rfl, ⟨rfl, rfl⟩, rfl⟩
      · rw [hus, List.append_nil]
        exact VRs.mono (fun _ e => e) kF ro
  exact codeAny_compStart_list loop (W'.self 0 _ _ _ hst₁ loop)

theorem comp_sound (G : GOk g p) (ih : IH g p n) (hA : AOk g n A) (I : InvE g sc env F st s) {elt iter : Expr} {x : Str} {px : Pos} {c : Option Expr} {scope : Scope} {pos : Pos} {a : Ex} {cond : Option Ex} {it : Ex} {cap : List Nat} {capN : List Str}
    {v : V} {vs us : List V} {cs : List Loc}
    (h1 : TE g sc iter it) (hE : TE g (compSc scope sc.kinds x capN) elt a) (h3 : TEo g (compSc scope sc.kinds x capN) c cond) (ok : CompOk sc scope x cap capN) (hs : ∀ env v, foldedSetIterable iter env v = pure v)
    (hv : evL p n st it = some v) (hi : items v = some vs) (hc : caps st cap = some cs) (hval : cs.all isVal = true) (hz : vs.length ≤ 1000)
    (hr : compL (fun v => condV p n (Loc.val v :: cs) cond) (fun v => ev p n (Loc.val v :: cs) a) vs = some us) :
    wpAny (model g.prog g.w) A (eval (.ListComp elt [⟨.Name x px, iter, c.toList, 0⟩] scope pos) env) (ResN g.tabs F s us) noE s := by
  rw [eval_ListComp]
  refine comp_gen (use := none) G ih hA I h1 hE h3 ok hs hv hi hc hval hz hr fun D C F' its m s9 e hD hC nCD nD nC tD tC hp hvr hns => ⟨m, hns, fun h2 hs2 => ?_⟩
  have kF : ∀ b o, F' b → s9.heap.get? b = some o → h2.get? b = some o := fun b o e q => hs2.extBut b o (fun r => nC (r ▸ e)) q
  refine ⟨F', D, its, ?_, rfl, hD, nD, tD, ?_, VRs.mono (fun _ e => e) kF hvr⟩
  · exact {
      keep := fun b o nb q => hs2.extBut b o (fun r => by rw [r, hC] at q; cases q) (e.keep b o nb q)
      ti := by
        obtain ⟨oC, es, ep, q1, q2, _⟩ := hns
        exact e.ti.but q1 (fun vs q => by rw [q2] at q; cases q) fun b o e1 e => hs2.extBut b o e1 e
      gens := e.gens
      os := e.os
      tok := e.tok
      mono := e.mono
      new := fun b q => (e.new b q).imp id fun ⟨q1, q2, o, q3⟩ => ⟨q1, q2, o, kF b o q q3⟩ }
  · obtain ⟨o, k, q1, q2⟩ := hp
    exact ⟨o, k, hs2.extBut D o (Ne.symm nCD) q1, q2⟩
end
end Mine
end
section
namespace Mine
open PySem PySem.W PyProof.Rows

section
variable {g : Gx} {p : Prog} {n : Nat} {A : Around} {sc : Sc} {env : Env} {F : Addr → Prop} {st : St} {s : Shared}

theorem plainName_iff {x : Str} (h : plainName x = true) : (x == ("__debug__" : Str)) = false ∧ (x == ("__classdict__" : Str)) = false := by
  unfold plainName at h
  simpa using h
theorem name_glob (G : GOk g p) (I : InvE g sc env F st s) {x : Str} {pos : Pos} {v : Value} {Q : Value → Shared → Prop} (hk : sc.kinds x = some .globalImplicit) (hn : (x == ("__debug__" : Str)) = false) (hv : (g.mg x).or (g.mb x) = some v) (h : Q v s) :
    wpAny (model g.prog g.w) A (eval (.Name x pos) env) Q noE s :=
  wpAny_Name (load_glob I.fn (by rw [I.kind]; exact hk) (by rw [I.gb]; exact G.gl.keeps I.base) (by rw [I.bb]; exact G.bl.keeps I.base) hv h) hn
theorem name_var (I : InvE g sc env F st s) {x : Str} {i : Nat} {pos : Pos} {v : Value} {Q : Value → Shared → Prop} (hp : plainName x = true) (hs : Slot env s.heap x (some v)) (h : Q v s) :
    wpAny (model g.prog g.w) A (eval (.Name x pos) env) Q noE s :=
  wpAny_Name (load_slot I.fn hs (plainName_iff hp).2 h) (plainName_iff hp).1

theorem bname_plain (b : Bi) : (bname b == ("__debug__" : Str)) = false := by cases b <;> decide

theorem truth_sound {v : V} {x : Value} {b : Bool} (ti : TI g.tabs s.heap) (r : VL g.tabs s.heap F v x) (h : truth v = some b) : wpAny (model g.prog g.w) A (truthy x) (ResB g.tabs F s b) noE s := by
  cases v with
  | bool c => cases h; cases r; exact wpAny_truthy_bool ⟨rfl, F, ExtF.refl ti⟩
  | int i => cases h; obtain ⟨t, rfl⟩ := r; exact PyProof.Rows.truthy_int ⟨rfl, F, ExtF.refl ti⟩
  | lst vs =>
    obtain ⟨a, its, rfl, _, hl, hr⟩ := r
    have l1 := lists_of hr
    simp only [truth] at h
    split at h
    · cases h
      refine wpAny_truthy_list hl (by omega) ⟨?_, F, .ofKeep ti (fun _ _ e => e) (by show s.toks ≤ s.toks + 1 + 1; omega)⟩
      cases vs with
      | nil => have : its = #[] := Array.eq_empty_of_size_eq_zero (by simpa using l1)
               subst this; rfl
      | cons v r =>
        have : its.isEmpty = false := by
          rw [Array.isEmpty_eq_false_iff]
          intro e; subst e; simp at l1
        rw [this]; rfl
    · cases h
  | none => cases h
  | flt _ => cases h
  | tup _ => cases h
  | rng _ => cases h

theorem idx_sound (ti : TI g.tabs s.heap) {v : V} {o : Value} {vs : List V} {k : Int} {t : Tok} {y : V} {value slice : Expr} (hs : subscripted slice false o (.int k t) = operate [o, .int k t] (getItem o (.int k t)))
    (r : VL g.tabs s.heap F v o) (hv : v = .lst vs ∨ v = .tup vs) (hk : small k = true) (hy : idx vs k = some y) :
    wpAny (model g.prog g.w) A (subscriptTail value slice o (.int k t)) (Res g.tabs F s y) noE s := by
  have hb : k.natAbs < 2 ^ 60 := of_decide_eq_true hk
  rcases hv with rfl | rfl
  · obtain ⟨a, its, rfl, _, hl, hr⟩ := r
    have l1 := lists_of hr
    refine tail_any hl.typeIs PySem.F.slot_list_getitem.lookup ?_ hs
    unfold idx at hy
    split at hy
    · rename_i hneg
      split at hy
      · rename_i hlo
        obtain ⟨z, e1, e2⟩ := hr.get hy
        refine wpAny_getItem_list_neg hl hneg (by rw [l1]; exact hlo) (by omega) (x := z) (by rw [l1]; simpa using e1) ⟨F, ExtF.refl ti, e2⟩
      · cases hy
    · rename_i hneg
      obtain ⟨z, e1, e2⟩ := hr.get hy
      exact wpAny_getItem_list hl (by omega) (by omega) (x := z) (by simpa using e1) ⟨F, ExtF.refl ti, e2⟩
  · replace r : VR s.heap F _ _ := r
    unfold VR at r
    obtain ⟨a, its, rfl, _, hl, hr⟩ := r
    have l1 := lists_of hr
    refine tail_any hl.typeIs PySem.F.slot_tuple_getitem.lookup ?_ hs
    unfold idx at hy
    split at hy
    · rename_i hneg
      split at hy
      · rename_i hlo
        obtain ⟨z, e1, e2⟩ := hr.get hy
        refine PyProof.Rows.getItem_tuple hl (by omega) (by omega) (j := (k + vs.length).toNat) ?_ (x := z) (by simpa using e1) ⟨F, ExtF.refl ti, e2⟩
        have h1 := (List.getElem?_eq_some_iff.mp hy).1
        unfold seqIndex?
        simp only [hneg, if_true, l1]
        rw [if_pos (by simp; omega)]
      · cases hy
    · rename_i hneg
      obtain ⟨z, e1, e2⟩ := hr.get hy
      refine PyProof.Rows.getItem_tuple hl (by omega) (by omega) (j := k.toNat) ?_ (x := z) (by simpa using e1) ⟨F, ExtF.refl ti, e2⟩
      have h1 := (List.getElem?_eq_some_iff.mp hy).1
      unfold seqIndex?
      simp only [hneg, if_false, l1]
      rw [if_pos (by simp; omega)]

theorem TE.notSlice {e : Expr} {x : Ex} (h : TE g sc e x) (o i : Value) : subscripted e false o i = operate [o, i] (getItem o i) := by
  induction h using TE.casesOn <;> rfl
theorem TE.boolT {e : Expr} {x : Ex} (h : TE g sc e x) (h1 : ∀ a, x ≠ .not a) (h2 : ∀ a b, x ≠ .and a b) (h3 : ∀ a b, x ≠ .or a b) (h4 : ∀ a b c, x ≠ .ite a b c) (h5 : ∀ o a b, x ≠ .cmp o a b) (whole : Sem Value) :
    isTrue e env whole = (do let v ← whole; standAt e.pos; holding [v] (truthy v)) := by
  induction h using TE.casesOn <;> first | rfl | (exact absurd rfl (h1 _)) | (exact absurd rfl (h2 _ _)) | (exact absurd rfl (h3 _ _)) | (exact absurd rfl (h4 _ _ _)) | (exact absurd rfl (h5 _ _ _))

/-- one step more: an expression that makes a new list -/
theorem new_succ (G : GOk g p) (ih : IH g p n) (hA : AOk g n A) (I : InvE g sc env F st s) {e : Expr} {x : Ex} {vs : List V} (h : TE g sc e x) (hf : isFresh x = true) (hv : ev p (n + 1) st x = some (.lst vs)) :
    wpAny (model g.prog g.w) A (eval e env) (ResN g.tabs F s vs) noE s := by
  induction h using TE.casesOn with
  | lst h1 =>
    simp only [ev] at hv
    split at hv
    · rename_i hl
      simp only [Option.map_eq_some_iff] at hv
      obtain ⟨ws, e1, e2⟩ := hv
      cases e2
      exact lst_sound G ih hA I h1 hl e1
    · cases hv
  | rep h1 h2 =>
    simp only [ev, Option.bind_eq_some_iff] at hv
    obtain ⟨ws, e1, hv⟩ := hv
    split at hv
    · rename_i i hi
      split at hv
      · rename_i hc
        cases hv
        simp only [Bool.and_eq_true, decide_eq_true_eq] at hc
        exact rep_sound G ih hA I h1 h2 e1 hi hc.1.1 hc.1.2 hc.2
      · cases hv
    · cases hv
  | slc h1 h2 h3 =>
    simp only [ev, Option.bind_eq_some_iff] at hv
    obtain ⟨a, e1, hv⟩ := hv
    split at hv
    · rename_i l h el eh
      split at hv
      · rename_i hl
        cases hv
        exact slc_sound G ih hA I h1 h2 h3 e1 el eh hl
      · cases hv
    · cases hv
  | comp h1 h2 h3 ok hs =>
    simp only [ev, Option.bind_eq_some_iff] at hv
    obtain ⟨a, e1, us, e2, cs, e3, hv⟩ := hv
    split at hv
    · rename_i hc
      simp only [Bool.and_eq_true, decide_eq_true_eq] at hc
      simp only [Option.map_eq_some_iff] at hv
      obtain ⟨ws, e4, e5⟩ := hv
      cases e5
      refine comp_sound G ih hA I h1 h2 h3 ok hs e1 e2 e3 hc.2 hc.1 (Eq.trans ?_ e4)
      congr 1
    · cases hv
  | _ => cases hf

theorem call_sound (G : GOk g p) (ih : IH g p n) (hA : AOk g n A) (I : InvE g sc env F st s) {x : Str} {f : Nat} {q pos : Pos} {e : Expr} {es : List Expr} {xs : List Ex} {vs : List V} {v : V}
    (hf : g.fns[f]? = some x) (hk : sc.kinds x = some .globalImplicit) (hp : plainName x = true) (h : TEs g sc (e :: es) xs) (hv : mapO (ev p n st) xs = some vs) (hc : callF p n f vs = some v) :
    wpAny (model g.prog g.w) A (eval (.Call (.Name x q) (e :: es) [] pos) env) (Res g.tabs F s v) noE s := by
  obtain ⟨a, o, fd, f1, f2, f3⟩ := G.fnv f x hf
  refine wpAny_Call_NameR (name_glob G I hk (plainName_iff hp).1 (by rw [f1]; rfl) ?_)
  have he : starEach (e :: es) env = (false, eval e env) :: starEach es env := by cases h with | cons h1 _ => exact h1.plain _ _
  have hh := items_sound (pos := pos) G ih hA I h hv
  rw [he] at hh ⊢
  refine Calls.callWith_function (o := o) (fd := fd) (Calls.evalArgs_plain (wpAny_mono hh (fun ys s1 r1 => ?_) fun _ _ q => q))
  obtain ⟨F1, x1, r1⟩ := r1
  have I1 := I.ext G.nt x1
  refine ⟨⟨I1.base _ _ f2, f3⟩, ?_⟩
  refine wpAny_mono (ih.f hA I1.sok hf f1 r1 hc) (fun z s2 r2 => r2.pre x1) fun _ _ q => q

theorem CapOk.of (I : InvE g sc env F st s) {src : List Nat} {capN : List Str} {cs : List Loc} (hm : src.map (fun j => sc.vars[j]?) = capN.map some) (hk : ∀ y ∈ capN, sc.kinds y = some .cell ∨ sc.kinds y = some .free) (hc : caps st src = some cs) :
    CapOk g env F s.heap capN cs := by
  have hlen : capN.length = src.length := by
    have := congrArg List.length hm
    simpa using this.symm
  refine ⟨by rw [caps_len hc, hlen], fun j y l h1 h2 => ?_⟩
  have hj : j < src.length := by
    have := (List.getElem?_eq_some_iff.mp h1).1
    omega
  obtain ⟨l', e1, e2⟩ := caps_get hc j hj
  rw [e1] at h2; cases h2
  have hz : sc.vars[src.getD j 0]? = some y := by
    have := congrArg (fun t => t[j]?) hm
    simp only [List.getElem?_map, h1, Option.map_some] at this
    rw [List.getElem?_eq_getElem hj, Option.map_some] at this
    have h3 : src.getD j 0 = src[j] := by simp [List.getD, hj]
    rw [h3]
    exact Option.some.inj this
  obtain ⟨ov, r1, r2⟩ := I.vars _ y l hz e2
  rcases r1 with ⟨k1, _⟩ | ⟨_, c, q1, q2⟩
  · rw [I.kind] at k1
    rcases hk y (List.mem_of_getElem? h1) with k | k <;> rw [k] at k1 <;> cases k1
  · exact ⟨c, ov, q1, q2, r2⟩

theorem callc_sound (G : GOk g p) (ih : IH g p n) (hA : AOk g n A) (I : InvE g sc env F st s) {x : Str} {i k : Nat} {ci : CloI} {q pos : Pos} {e : Expr} {es : List Expr} {xs : List Ex} {src : List Nat} {vs : List V} {cs cs' : List Loc} {v : V}
    (hx : sc.vars[i]? = some x) (hp : plainName x = true) (hci : g.clos[k]? = some ci) (hm : src.map (fun j => sc.vars[j]?) = ci.cap.map some) (hkd : ∀ y ∈ ci.cap, sc.kinds y = some .cell ∨ sc.kinds y = some .free) (h : TEs g sc (e :: es) xs)
    (hcl : isClo st i k = true) (hv : mapO (ev p n st) xs = some vs) (hcs : caps st src = some cs) (hfz : cs.all frozenLoc = true) (hc : callC p n k vs cs = some (v, cs')) :
    wpAny (model g.prog g.w) A (eval (.Call (.Name x q) (e :: es) [] pos) env) (Res g.tabs F s v) noE s := by
  unfold isClo at hcl
  split at hcl
  · rename_i j hst
    have := eq_of_beq hcl; subst this
    obtain ⟨ov, r1, f, rfl, r2, r3⟩ := I.vars i x _ hx hst
    refine wpAny_Call_NameR (name_var (i := i) I hp r1 ?_)
    have he : starEach (e :: es) env = (false, eval e env) :: starEach es env := by cases h with | cons h1 _ => exact h1.plain _ _
    have hh := items_sound (pos := pos) G ih hA I h hv
    rw [he] at hh ⊢
    obtain ⟨ci', o, fd, c1, c2, c3, _⟩ := id r3
    refine Calls.callWith_function (o := o) (fd := fd) (Calls.evalArgs_plain (wpAny_mono hh (fun ys s1 r1 => ?_) fun _ _ q => q))
    obtain ⟨F1, x1, r1⟩ := r1
    have I1 := I.ext G.nt x1
    refine ⟨⟨x1.keep _ _ (I.fnt f r2) c2, c3⟩, ?_⟩
    exact wpAny_mono (ih.c hA I1.sok (r3.keep (I.fnt f r2) x1.keep) (x1.mono f r2) hci (CapOk.of I1 hm hkd hcs) hfz r1 hc) (fun z s2 r2 => r2.pre x1) fun _ _ q => q
  · cases hcl

theorem fOf_kind (b : Bi) : (∃ id, fOf b = .builtin id) ∨ (∃ T, fOf b = .type T) := by
  cases b
  · exact .inl ⟨_, rfl⟩
  · exact .inl ⟨_, rfl⟩
  · exact .inl ⟨_, rfl⟩
  · exact .inl ⟨_, rfl⟩
  · exact .inl ⟨_, rfl⟩
  · exact .inr ⟨_, rfl⟩
  · exact .inl ⟨_, rfl⟩
  · exact .inr ⟨_, rfl⟩
  · exact .inl ⟨_, rfl⟩
theorem biCall {M : Model} {f : Value} {pos : Pos} {e : Expr} {es : List Expr} {Q : Value → Shared → Prop} {E : Value → Shared → Prop} (hf : (∃ id, f = .builtin id) ∨ (∃ T, f = .type T))
    (h : wpAny M A (spliced (backTo pos (starEach (e :: es) env))) (fun vs s₁ => wpAny M A (call f vs) Q E s₁) E s) (he : starEach (e :: es) env = (false, eval e env) :: starEach es env) (hpl : (backTo pos (starEach es env)).any (·.1) = false) :
    wpAny M A (callWith pos f [] (backTo pos (starEach (e :: es) env)) []) Q E s := by
  rcases hf with ⟨id, rfl⟩ | ⟨T, rfl⟩
  · exact PyProof.Rows.callWith_method1 (first := []) h he hpl
  · exact PyProof.Rows.callWith_type1 h he hpl

theorem bitlen_sound (ih : IH g p n) (hA : AOk g n A) (I : InvE g sc env F st s) {e : Expr} {a : Ex} {ap pos : Pos} {i : Int} (h1 : TE g sc e a) (h2 : ∀ env, attributeBase e "bit_length" env (eval e env) = eval e env) (h3 : (ap.endLine == pos.line) = true) (e1 : ev p n st a = some (.int i)) :
    wpAny (model g.prog g.w) A (eval (.Call (.Attribute e "bit_length" ap) [] [] pos) env) (Res g.tabs F s (.int (Builtin.Int.intBits i))) noE s := by
  have hm : wpAny (model g.prog g.w) A (eval e env) (fun ov s₁ => s₁.TypeIs ov "int" ∧ (∀ a, ov = .ref a → ∃ ob, s₁.heap.get? a = some ob ∧ ob.dict = none) ∧
      wpAny (model g.prog g.w) A (callWith pos (.builtin "int.bit_length") [ov] (backTo pos (starEach [] env)) []) (Res g.tabs F s (.int (Builtin.Int.intBits i))) noE s₁) noE s := by
    refine wpAny_mono (ih.e hA I h1 e1) (fun x s1 r1 => ?_) fun _ _ q => q
    obtain ⟨F1, x1, t, rfl⟩ := r1
    refine ⟨typeIs_int _ _ _, fun a e => (by cases e), PyProof.Rows.callWith_method0 (PyProof.Rows.call_int_bit_length ?_)⟩
    exact ⟨F1, x1.trans (.ofKeep x1.ti (fun _ _ e => e) (Nat.le_succ _)), _, rfl⟩
  exact wpAny_Call_method (h2 env) rfl h3 PySem.F.plainAttrs_int PySem.F.slot_int_bit_length PySem.F.type_int_bit_length hm

set_option maxHeartbeats 1000000 in
/-- one step more -/
theorem ev_succ (G : GOk g p) (ih : IH g p n) (hA : AOk g n A) (I : InvE g sc env F st s) {e : Expr} {x : Ex} {v : V} (h : TE g sc e x) (hv : ev p (n + 1) st x = some v) :
    wpAny (model g.prog g.w) A (eval e env) (Res g.tabs F s v) noE s := by
  by_cases hf : isFresh x = true
  · have : ∃ vs, v = .lst vs := by
      cases x <;> first | (cases hf; done) | skip
      · simp only [ev] at hv
        split at hv
        · simp only [Option.map_eq_some_iff] at hv
          obtain ⟨ws, _, rfl⟩ := hv; exact ⟨_, rfl⟩
        · cases hv
      · simp only [ev, Option.bind_eq_some_iff] at hv
        obtain ⟨ws, _, hv⟩ := hv
        split at hv
        · split at hv
          · cases hv; exact ⟨_, rfl⟩
          · cases hv
        · cases hv
      · simp only [ev, Option.bind_eq_some_iff] at hv
        obtain ⟨ws, _, hv⟩ := hv
        split at hv
        · split at hv
          · cases hv; exact ⟨_, rfl⟩
          · cases hv
        · cases hv
      · simp only [ev, Option.bind_eq_some_iff] at hv
        obtain ⟨_, _, _, _, _, _, hv⟩ := hv
        split at hv
        · simp only [Option.map_eq_some_iff] at hv
          obtain ⟨ws, _, rfl⟩ := hv; exact ⟨_, rfl⟩
        · cases hv
    obtain ⟨vs, rfl⟩ := this
    exact wpAny_mono (new_succ G ih hA I h hf hv) (fun _ _ r => r.res) fun _ _ q => q
  induction h using TE.casesOn with
  | int => simp only [ev] at hv; cases hv; exact wpAny_Constant_int ⟨F, .ofKeep I.ti (fun _ _ e => e) (Nat.le_succ _), _, rfl⟩
  | flt => simp only [ev] at hv; cases hv; exact wpAny_Constant_float ⟨F, .ofKeep I.ti (fun _ _ e => e) (Nat.le_succ _), _, rfl, Nat.pos_iff_ne_zero.mp I.tk⟩
  | bool => simp only [ev] at hv; cases hv; exact wpAny_Constant_bool ⟨F, ExtF.refl I.ti, rfl⟩
  | var h1 h2 =>
    simp only [ev, getV] at hv
    split at hv
    · rename_i u hu
      cases hv
      obtain ⟨ov, r1, y, rfl, r2⟩ := I.vars _ _ _ h1 hu
      rename_i i _
      exact name_var (i := i) I h2 r1 ⟨F, ExtF.refl I.ti, r2⟩
    · cases hv
  | glo h1 h2 h3 =>
    simp only [ev, Option.map_eq_some_iff] at hv
    obtain ⟨i, e1, rfl⟩ := hv
    obtain ⟨t, e2⟩ := G.glo _ _ _ h1 e1
    exact name_glob G I h2 (plainName_iff h3).1 (by rw [e2]; rfl) ⟨F, ExtF.refl I.ti, t, rfl⟩
  | bin h1 h2 =>
    simp only [ev, Option.bind_eq_some_iff] at hv
    obtain ⟨a, e1, b, e2, hv⟩ := hv
    refine wpAny_BinOp (wpAny_mono (ih.l hA I h1 e1) (fun x s1 r1 => ?_) fun _ _ q => q)
    obtain ⟨F1, x1, r1⟩ := r1
    have I1 := I.ext G.nt x1
    refine wpAny_mono (ih.l hA I1 h2 e2) (fun y s2 r2 => ?_) fun _ _ q => q
    obtain ⟨F2, x2, r2⟩ := r2
    have I2 := I1.ext G.nt x2
    exact wpAny_mono (bin_sound hA.hd (hA.pr s2 I2.base) I2.tk I2.ti I2.fnt (r1.ext x2 I1.fnt) r2 hv) (fun z s3 r3 => r3.pre (x1.trans x2)) fun _ _ q => q
  | neg h1 =>
    simp only [ev] at hv
    split at hv
    · rename_i i e1
      cases hv
      refine wpAny_UnaryOp (wpAny_mono (ih.e hA I h1 e1) (fun x s1 r1 => ?_) fun _ _ q => q)
      obtain ⟨F1, x1, t, rfl⟩ := r1
      exact PyProof.Rows.neg_int ⟨F1, x1.trans (.ofKeep x1.ti (fun _ _ e => e) (Nat.le_succ _)), _, rfl⟩
    · cases hv
  | inv h1 =>
    simp only [ev] at hv
    split at hv
    · rename_i i e1
      cases hv
      refine wpAny_UnaryOp (wpAny_mono (ih.e hA I h1 e1) (fun x s1 r1 => ?_) fun _ _ q => q)
      obtain ⟨F1, x1, t, rfl⟩ := r1
      exact PyProof.Rows.invert_int ⟨F1, x1.trans (.ofKeep x1.ti (fun _ _ e => e) (Nat.le_succ _)), _, rfl⟩
    · cases hv
  | not h1 =>
    simp only [ev, Option.map_eq_some_iff, Option.bind_eq_some_iff] at hv
    obtain ⟨b, ⟨u, e1, e2⟩, rfl⟩ := hv
    refine wpAny_UnaryOp (wpAny_mono (ih.e hA I h1 e1) (fun x s1 r1 => ?_) fun _ _ q => q)
    obtain ⟨F1, x1, r1⟩ := r1
    have I1 := I.ext G.nt x1
    refine PyProof.Rows.not_of (wpAny_mono (truth_sound I1.ti (r1.toL I1.fnt) e2) (fun b' s2 r2 => ?_) fun _ _ q => q)
    obtain ⟨rfl, F2, x2⟩ := r2
    exact ⟨F2, x1.trans x2, rfl⟩
  | and h1 h2 =>
    simp only [ev] at hv
    refine wpAny_And2 ?_
    split at hv
    · rename_i e1
      refine wpAny_mono (ih.e hA I h1 e1) (fun x s1 r1 => ?_) fun _ _ q => q
      obtain ⟨F1, x1, rfl⟩ := r1
      have I1 := I.ext G.nt x1
      refine wpAny_truthy_bool ?_
      rw [if_pos rfl]
      exact wpAny_mono (ih.e hA I1 h2 hv) (fun z s3 r3 => r3.pre x1) fun _ _ q => q
    · rename_i e1
      cases hv
      refine wpAny_mono (ih.e hA I h1 e1) (fun x s1 r1 => ?_) fun _ _ q => q
      obtain ⟨F1, x1, rfl⟩ := r1
      refine wpAny_truthy_bool ?_
      rw [if_neg Bool.false_ne_true]
      exact ⟨F1, x1, rfl⟩
    · cases hv
  | or h1 h2 =>
    simp only [ev] at hv
    refine wpAny_Or2 ?_
    split at hv
    · rename_i e1
      cases hv
      refine wpAny_mono (ih.e hA I h1 e1) (fun x s1 r1 => ?_) fun _ _ q => q
      obtain ⟨F1, x1, rfl⟩ := r1
      refine wpAny_truthy_bool ?_
      rw [if_pos rfl]
      exact ⟨F1, x1, rfl⟩
    · rename_i e1
      refine wpAny_mono (ih.e hA I h1 e1) (fun x s1 r1 => ?_) fun _ _ q => q
      obtain ⟨F1, x1, rfl⟩ := r1
      have I1 := I.ext G.nt x1
      refine wpAny_truthy_bool ?_
      rw [if_neg Bool.false_ne_true]
      exact wpAny_mono (ih.e hA I1 h2 hv) (fun z s3 r3 => r3.pre x1) fun _ _ q => q
    · cases hv
  | cmp h1 h2 hm =>
    simp only [ev, Option.bind_eq_some_iff, Option.map_eq_some_iff] at hv
    obtain ⟨a, e1, b, e2, k, hk, rfl⟩ := hv
    refine wpAny_Compare1 (wpAny_mono (ih.l hA I h1 e1) (fun x s1 r1 => ?_) fun _ _ q => q) hm
    obtain ⟨F1, x1, r1⟩ := r1
    have I1 := I.ext G.nt x1
    refine wpAny_mono (ih.l hA I1 h2 e2) (fun y s2 r2 => ?_) fun _ _ q => q
    obtain ⟨F2, x2, r2⟩ := r2
    have I2 := I1.ext G.nt x2
    exact cmp_sound (I2.booked G) (by have := hA.un; omega) (r1.ext x2 I1.fnt) r2 hk _ ⟨F2, x1.trans x2, rfl⟩
  | ite h1 h2 h3 =>
    simp only [ev, Option.bind_eq_some_iff] at hv
    obtain ⟨b, e1, hv⟩ := hv
    refine wpAny_IfExp (wpAny_mono (ih.t hA I h1 e1) (fun b' s1 r1 => ?_) fun _ _ q => q)
    obtain ⟨rfl, F1, x1⟩ := r1
    have I1 := I.ext G.nt x1
    cases b' with
    | true =>
      rw [if_pos rfl] at hv ⊢
      exact wpAny_mono (ih.e hA I1 h2 hv) (fun z s3 r3 => r3.pre x1) fun _ _ q => q
    | false =>
      rw [if_neg Bool.false_ne_true] at hv ⊢
      exact wpAny_mono (ih.e hA I1 h3 hv) (fun z s3 r3 => r3.pre x1) fun _ _ q => q
  | tup h1 =>
    simp only [ev] at hv
    split at hv
    · rename_i hl
      simp only [Option.map_eq_some_iff] at hv
      obtain ⟨ws, e1, rfl⟩ := hv
      exact tup_sound G ih hA I h1 hl e1
    · cases hv
  | idx h1 h2 =>
    simp only [ev, Option.bind_eq_some_iff] at hv
    obtain ⟨a, e1, hv⟩ := hv
    refine Subscript_ (wpAny_mono (ih.l hA I h1 e1) (fun x s1 r1 => ?_) fun _ _ q => q)
    obtain ⟨F1, x1, r1⟩ := r1
    have I1 := I.ext G.nt x1
    split at hv
    · rename_i vs k ek
      split at hv
      · rename_i hk
        refine wpAny_mono (ih.e hA I1 h2 ek) (fun y s2 r2 => ?_) fun _ _ q => q
        obtain ⟨F2, x2, t, rfl⟩ := r2
        exact wpAny_mono (idx_sound x2.ti (h2.notSlice _ _) (r1.ext x2 I1.fnt) (.inl rfl) hk hv) (fun z s3 r3 => r3.pre (x1.trans x2)) fun _ _ q => q
      · cases hv
    · rename_i vs k ek
      split at hv
      · rename_i hk
        refine wpAny_mono (ih.e hA I1 h2 ek) (fun y s2 r2 => ?_) fun _ _ q => q
        obtain ⟨F2, x2, t, rfl⟩ := r2
        exact wpAny_mono (idx_sound x2.ti (h2.notSlice _ _) (r1.ext x2 I1.fnt) (.inr rfl) hk hv) (fun z s3 r3 => r3.pre (x1.trans x2)) fun _ _ q => q
      · cases hv
    · cases hv
  | bi h1 h2 h3 =>
    simp only [ev, Option.bind_eq_some_iff] at hv
    obtain ⟨vs, e1, hv⟩ := hv
    rename_i b q pos e es xs
    obtain ⟨g1, g2⟩ := G.bi b
    refine wpAny_Call_NameR (name_glob G I h1 (bname_plain b) (by rw [g1, g2]; rfl) ?_)
    have he : starEach (e :: es) env = (false, eval e env) :: starEach es env := by cases h2 with | cons h1 _ => exact h1.plain _ _
    have hh := looks_sound (pos := pos) G ih hA I h2 e1
    have hpl : ∀ {sc : Sc} {es : List Expr} {xs : List Ex}, TEs g sc es xs → (backTo pos (starEach es env)).any (·.1) = false := by
      intro sc es
      induction es with
      | nil => intro _ _; rfl
      | cons e es ih2 =>
        intro xs h
        cases h with
        | cons a b =>
          rw [a.plain]
          have := ih2 b
          simpa [backTo] using this
    have hpl2 : (backTo pos (starEach es env)).any (·.1) = false := by cases h2 with | cons _ b => exact hpl b
    have fin : ∀ ys s1, ResM g.tabs F s vs ys s1 → wpAny (model g.prog g.w) A (call (fOf b) ys) (Res g.tabs F s v) noE s1 := by
      rintro ys s1 ⟨F1, x1, r1⟩
      have I1 := I.ext G.nt x1
      have := builtin_sound hA.hd (hA.pr s1 I1.base) I1.ti I1.fnt r1 hv
      rw [show moreOf b = [] from by cases b <;> first | rfl | exact absurd rfl h3, List.append_nil] at this
      exact wpAny_mono this (fun z s3 r3 => r3.pre x1) fun _ _ q => q
    exact biCall (fOf_kind b) (wpAny_mono hh fin fun _ _ q => q) he hpl2
  | isb h1 h2 h3 =>
    simp only [ev, Option.bind_eq_some_iff] at hv
    obtain ⟨vs, e1, hv⟩ := hv
    unfold mapO at e1
    split at e1
    · rename_i u hu
      simp only [mapO, Option.some.injEq] at e1
      subst e1
      rename_i q q2 pos e x
      obtain ⟨g1, g2⟩ := G.bi .isbool
      refine wpAny_Call_NameR (name_glob G I h1 (bname_plain .isbool) (v := .builtin "isinstance") (by have := g1; have := g2; show (g.mg (bname .isbool)).or (g.mb (bname .isbool)) = _; rw [g1, g2]; rfl) ?_)
      refine PyProof.Rows.callWith_method1 (first := []) (wpAny_items_cons (wpAny_mono (ih.l hA I h3 hu) (fun y s1 r1 => ?_) fun _ _ q => q) (h3.plain _ _)) (h3.plain _ _) rfl
      obtain ⟨F1, x1, r1⟩ := r1
      have I1 := I.ext G.nt x1
      refine wpAny_items_cons (name_glob G I1 h2 (by decide) (v := .type "bool") (by rw [G.boolT.1, G.boolT.2]; rfl) (wpAny_items_nil ?_)) rfl
      have := builtin_sound (args := [u]) (xs := [y]) hA.hd (hA.pr s1 I1.base) I1.ti I1.fnt (show VLs g.tabs s1.heap F1 [u] [y] from ⟨y, [], rfl, r1, rfl⟩) hv
      exact wpAny_mono this (fun z s3 r3 => r3.pre x1) fun _ _ q => q
    · cases e1
  | call h1 h2 h3 h4 =>
    simp only [ev, Option.bind_eq_some_iff] at hv
    obtain ⟨vs, e1, hv⟩ := hv
    exact call_sound G ih hA I h1 h2 h3 h4 e1 hv
  | callc h1 h2 h3 h4 h5 h6 =>
    simp only [ev] at hv
    split at hv
    · rename_i hcl
      simp only [Option.bind_eq_some_iff] at hv
      obtain ⟨vs, e1, cs, e2, hv⟩ := hv
      split at hv
      · rename_i hfz
        simp only [Option.map_eq_some_iff] at hv
        obtain ⟨⟨v', cs'⟩, e3, rfl⟩ := hv
        exact callc_sound G ih hA I h1 h2 h3 h4 h5 h6 hcl e1 e2 hfz e3
      · cases hv
    · cases hv
  | bitlen h1 h2 h3 =>
    simp only [ev] at hv
    split at hv
    · rename_i i e1
      cases hv
      exact bitlen_sound ih hA I h1 h2 h3 e1
    · cases hv
  | lst _ => exact absurd rfl hf
  | rep _ _ => exact absurd rfl hf
  | slc _ _ _ => exact absurd rfl hf
  | comp _ _ _ _ _ => exact absurd rfl hf

theorem use_succ (G : GOk g p) (ih : IH g p n) (hA : AOk g n A) (I : InvE g sc env F st s) {use : Option (Value → Sem Unit)} {Q : Value → Shared → Prop} {elt iter : Expr} {x : Str} {px : Pos} {c : List Expr} {scope : Scope} {pos q : Pos} {xe : Ex} {us : List V}
    (h : TE g sc (.ListComp elt [⟨.Name x px, iter, c, 0⟩] scope pos) xe) (hv : ev p (n + 1) st xe = some (.lst us))
    (fin : ∀ D C F' its m s9, ExtF g.tabs F s F' s9 → s.heap.get? D = none → s.heap.get? C = none → C ≠ D → ¬ F' D → ¬ F' C → NT g.tabs D → NT g.tabs C → PlainX s9.heap D its → VRs s9.heap F' us its.toList → s9.heap.Ns C m →
      compPost (model g.prog g.w) A noE use Q (.ref D) C (.ok .next) s9) :
    wpAny (model g.prog g.w) A (comprehension (.ListComp elt [⟨.Name x px, iter, c, 0⟩] scope pos) scope env q (newList []) false (eval iter env) use) Q noE s := by
  cases h with
  | comp h1 h2 h3 ok hs =>
    simp only [ev, Option.bind_eq_some_iff] at hv
    obtain ⟨a, e1, us', e2, cs, e3, hv⟩ := hv
    split at hv
    · rename_i hc
      simp only [Bool.and_eq_true, decide_eq_true_eq] at hc
      simp only [Option.map_eq_some_iff] at hv
      obtain ⟨ws, e4, e5⟩ := hv
      cases e5
      refine comp_gen G ih hA I h1 h2 h3 ok hs e1 e2 e3 hc.2 hc.1 (Eq.trans ?_ e4) fin
      congr 1
    · cases hv
end
end Mine
end
section
namespace Mine
open PySem PySem.W PyProof.Rows

section
variable {g : Gx} {p : Prog} {n : Nat} {A : Around} {sc : Sc} {env : Env} {F : Addr → Prop} {st : St} {s : Shared}

theorem evL_succ (ih : IH g p n) (hA : AOk g n A) (I : InvE g sc env F st s) {e : Expr} {x : Ex} {v : V} (h : TE g sc e x) (hv : evL p (n + 1) st x = some v) :
    wpAny (model g.prog g.w) A (eval e env) (ResL g.tabs F s v) noE s := by
  simp only [evL] at hv
  split at hv
  · rename_i i hx
    cases x <;> simp only [isVar, reduceCtorEq, Option.some.injEq] at hx
    subst hx
    obtain ⟨z, q, rfl, h1, h2⟩ : ∃ z q, e = .Name z q ∧ sc.vars[_]? = some z ∧ plainName z = true := by
      cases h with
      | var a b => exact ⟨_, _, rfl, a, b⟩
    unfold getL at hv
    split at hv
    · rename_i u hu
      cases hv
      obtain ⟨ov, r1, y, rfl, r2⟩ := I.vars _ _ _ h1 hu
      exact name_var (i := 0) I h2 r1 ⟨F, ExtF.refl I.ti, r2.toL I.fnt⟩
    · rename_i u hu
      cases hv
      obtain ⟨ov, r1, a, its, rfl, r2, r3⟩ := I.vars _ _ _ h1 hu
      exact name_var (i := 0) I h2 r1 ⟨F, ExtF.refl I.ti, a, its, rfl, plNT r2 I.ti, r2.isList, r3⟩
    · rename_i u hu
      cases hv
      obtain ⟨ov, r1, a, its, rfl, r2, r3⟩ := I.vars _ _ _ h1 hu
      exact name_var (i := 0) I h2 r1 ⟨F, ExtF.refl I.ti, a, its, rfl, plNT r2 I.ti, r2.isList, r3⟩
    · cases hv
  · refine wpAny_mono (ih.e hA I h hv) (fun y s1 r1 => ?_) fun _ _ q => q
    obtain ⟨F1, x1, r1⟩ := r1
    refine ⟨F1, x1, r1.toL fun a e => (x1.new a e).elim (I.fnt a) fun q => q.2.1⟩

theorem evO_succ (ih : IH g p n) (hA : AOk g n A) (I : InvE g sc env F st s) {e : Option Expr} {x : Option Ex} {i : Option Int} (h : TEo g sc e x) (hv : evO p (n + 1) st x = some i) :
    wpAny (model g.prog g.w) A (evalPart e env) (fun y s' => IsPart y i ∧ ∃ F', ExtF g.tabs F s F' s') noE s := by
  simp only [evO] at hv
  cases h with
  | none => cases hv; exact wpAny_evalPart_none ⟨.none, F, ExtF.refl I.ti⟩
  | some h1 =>
    dsimp only at hv
    split at hv
    · rename_i k hk
      split at hv
      · cases hv
        refine wpAny_evalPart_some (wpAny_mono (ih.e hA I h1 hk) (fun y s1 r1 => ?_) fun _ _ q => q)
        obtain ⟨F1, x1, t, rfl⟩ := r1
        exact ⟨.int _ _, F1, x1⟩
      · cases hv
    · cases hv

theorem evT_succ (G : GOk g p) (ih : IH g p n) (hA : AOk g n A) (I : InvE g sc env F st s) {e : Expr} {x : Ex} {b : Bool} (h : TE g sc e x) (hv : evT p (n + 1) st x = some b) :
    wpAny (model g.prog g.w) A (isTrue e env (eval e env)) (ResB g.tabs F s b) noE s := by
  have gen : (∀ a, x ≠ .not a) → (∀ a b, x ≠ .and a b) → (∀ a b, x ≠ .or a b) → (∀ a b c, x ≠ .ite a b c) → (∀ o a b, x ≠ .cmp o a b) → (evL p n st x).bind truth = some b →
      wpAny (model g.prog g.w) A (isTrue e env (eval e env)) (ResB g.tabs F s b) noE s := by
    intro h1 h2 h3 h4 h5 hb
    simp only [Option.bind_eq_some_iff] at hb
    obtain ⟨u, e1, e2⟩ := hb
    refine wpAny_isTrue_value (wpAny_mono (ih.l hA I h e1) (fun y s1 r1 => ?_) fun _ _ q => q) (h.boolT h1 h2 h3 h4 h5 _)
    obtain ⟨F1, x1, r1⟩ := r1
    refine wpAny_mono (truth_sound x1.ti r1 e2) (fun b' s2 r2 => ?_) fun _ _ q => q
    obtain ⟨rfl, F2, x2⟩ := r2
    exact ⟨rfl, F2, x1.trans x2⟩
  induction h using TE.casesOn with
  | not h1 =>
    simp only [evT, Option.map_eq_some_iff] at hv
    obtain ⟨c, e1, rfl⟩ := hv
    refine wpAny_isTrue_Not (wpAny_mono (ih.t hA I h1 e1) (fun b' s1 r1 => ?_) fun _ _ q => q)
    obtain ⟨rfl, F1, x1⟩ := r1
    exact ⟨rfl, F1, x1⟩
  | and h1 h2 =>
    simp only [evT, Option.bind_eq_some_iff] at hv
    obtain ⟨c, e1, hv⟩ := hv
    refine wpAny_isTrue_BoolOp (wpAny_allTrue_And_cons (wpAny_mono (ih.t hA I h1 e1) (fun b' s1 r1 => ?_) fun _ _ q => q))
    obtain ⟨rfl, F1, x1⟩ := r1
    have I1 := I.ext G.nt x1
    cases b' with
    | true =>
      rw [if_pos rfl] at hv ⊢
      refine wpAny_allTrue_And_cons (wpAny_mono (ih.t hA I1 h2 hv) (fun b2 s2 r2 => ?_) fun _ _ q => q)
      obtain ⟨rfl, F2, x2⟩ := r2
      cases b2 with
      | true => rw [if_pos rfl]; exact wpAny_allTrue_And_nil ⟨rfl, F2, x1.trans x2⟩
      | false => rw [if_neg Bool.false_ne_true]; exact ⟨rfl, F2, x1.trans x2⟩
    | false =>
      rw [if_neg Bool.false_ne_true] at hv ⊢
      cases hv
      exact ⟨rfl, F1, x1⟩
  | or h1 h2 =>
    simp only [evT, Option.bind_eq_some_iff] at hv
    obtain ⟨c, e1, hv⟩ := hv
    refine wpAny_isTrue_BoolOp (wpAny_allTrue_Or_cons (wpAny_mono (ih.t hA I h1 e1) (fun b' s1 r1 => ?_) fun _ _ q => q))
    obtain ⟨rfl, F1, x1⟩ := r1
    have I1 := I.ext G.nt x1
    cases b' with
    | true =>
      rw [if_pos rfl] at hv ⊢
      cases hv
      exact ⟨rfl, F1, x1⟩
    | false =>
      rw [if_neg Bool.false_ne_true] at hv ⊢
      refine wpAny_allTrue_Or_cons (wpAny_mono (ih.t hA I1 h2 hv) (fun b2 s2 r2 => ?_) fun _ _ q => q)
      obtain ⟨rfl, F2, x2⟩ := r2
      cases b2 with
      | true => rw [if_pos rfl]; exact ⟨rfl, F2, x1.trans x2⟩
      | false => rw [if_neg Bool.false_ne_true]; exact wpAny_allTrue_Or_nil ⟨rfl, F2, x1.trans x2⟩
  | cmp h1 h2 hm =>
    simp only [evT, Option.bind_eq_some_iff] at hv
    obtain ⟨a, e1, c, e2, hk⟩ := hv
    refine wpAny_isTrue_Compare1 (wpAny_mono (ih.l hA I h1 e1) (fun x s1 r1 => ?_) fun _ _ q => q) hm
    obtain ⟨F1, x1, r1⟩ := r1
    have I1 := I.ext G.nt x1
    refine wpAny_mono (ih.l hA I1 h2 e2) (fun y s2 r2 => ?_) fun _ _ q => q
    obtain ⟨F2, x2, r2⟩ := r2
    have I2 := I1.ext G.nt x2
    exact cmp_sound (I2.booked G) (by have := hA.un; omega) (r1.ext x2 I1.fnt) r2 hk _ (wpAny_truthy_bool ⟨rfl, F2, x1.trans x2⟩)
  | ite _ _ _ => simp only [evT] at hv; cases hv
  | _ => exact gen (by intros; intro e; cases e) (by intros; intro e; cases e) (by intros; intro e; cases e) (by intros; intro e; cases e) (by intros; intro e; cases e) (by simpa only [evT] using hv)
end
end Mine
end
section
namespace Mine
open PySem PySem.W PyProof.Rows

/-- the state stands for the frame, for reading and for writing. h₀: the heap when the call began; P: what must not be written -/
structure Inv (g : Gx) (sc : Sc) (env : Env) (h₀ : Heap) (P F : Addr → Prop) (st : St) (s : Shared) : Prop extends InvE g sc env F st s where
  len : st.length = sc.vars.length
  nd : sc.vars.Nodup
  pnt : ∀ a, P a → NT g.tabs a
  pal : ∀ a, P a → ∃ o, s.heap.get? a = some o
  hgP : ∀ b o, g.hg.get? b = some o → P b
  fr : ∃ m, s.heap.Ns env.locals m
  lPF : ¬ P env.locals ∧ ¬ F env.locals ∧ h₀.get? env.locals = none
  own : ∀ (i : Nat) (x : Str) (l : Loc) (a : Addr), sc.vars[i]? = some x → st[i]? = some l → isOwnL l = true → Slot env s.heap x (some (.ref a)) → ¬ F a ∧ ¬ P a ∧ ((∃ vs, l = .own vs) → h₀.get? a = none)
  inj : ∀ (i j : Nat) (x y : Str) (l l' : Loc) (a : Addr), sc.vars[i]? = some x → sc.vars[j]? = some y → st[i]? = some l → st[j]? = some l' → isOwnL l = true → isOwnL l' = true →
    Slot env s.heap x (some (.ref a)) → Slot env s.heap y (some (.ref a)) → i = j
  cel : ∀ x c, env.kindOf x = some .cell → env.cells.lookup x = some c → ¬ P c ∧ ¬ F c ∧ h₀.get? c = none ∧ ∃ ov, s.heap.IsCell c ov
  cinj : ∀ x y c, env.kindOf x = some .cell → env.cells.lookup x = some c → env.cells.lookup y = some c → y = x
  al0 : ∀ a o, NT g.tabs a → h₀.get? a = some o → ∃ o', s.heap.get? a = some o'

/-- what a statement does to the heap -/
structure ExtS (g : Gx) (h₀ : Heap) (P F : Addr → Prop) (s : Shared) (F' : Addr → Prop) (s' : Shared) : Prop where
  keepP : ∀ b o, P b → s.heap.get? b = some o → s'.heap.get? b = some o
  keepF : ∀ b o, F b → s.heap.get? b = some o → s'.heap.get? b = some o
  gens : s'.gens = s.gens
  os : s'.os = s.os
  tok : s.toks ≤ s'.toks
  mono : ∀ a, F a → F' a
  new : ∀ a, F' a → F a ∨ (h₀.get? a = none ∧ NT g.tabs a ∧ ¬ P a ∧ ∃ o, s'.heap.get? a = some o)

section
variable {g : Gx} {p : Prog} {sc : Sc} {env : Env} {h₀ : Heap} {P F F' F'' : Addr → Prop} {st : St} {s s' s'' : Shared}
theorem ExtS.refl : ExtS g h₀ P F s F s := ⟨fun _ _ _ e => e, fun _ _ _ e => e, rfl, rfl, Nat.le_refl _, fun _ e => e, fun _ e => .inl e⟩
theorem ExtS.trans (x : ExtS g h₀ P F s F' s') (y : ExtS g h₀ P F' s' F'' s'') : ExtS g h₀ P F s F'' s'' where
  keepP := fun b o e q => y.keepP b o e (x.keepP b o e q)
  keepF := fun b o e q => y.keepF b o (x.mono b e) (x.keepF b o e q)
  gens := y.gens.trans x.gens
  os := y.os.trans x.os
  tok := Nat.le_trans x.tok y.tok
  mono := fun a e => y.mono a (x.mono a e)
  new := fun a e => by
    rcases y.new a e with e | e
    · rcases x.new a e with e' | ⟨q1, q2, q4, o, q3⟩
      · exact .inl e'
      · exact .inr ⟨q1, q2, q4, o, y.keepF a o e q3⟩
    · exact .inr e
theorem Inv.extS (I : Inv g sc env h₀ P F st s) (x : ExtF g.tabs F s F' s') : ExtS g h₀ P F s F' s' where
  keepP := fun b o e q => x.keep b o (I.pnt b e) q
  keepF := fun b o e q => x.keep b o (I.fnt b e) q
  gens := x.gens
  os := x.os
  tok := x.tok
  mono := x.mono
  new := fun a e => (x.new a e).imp id fun ⟨q1, q2, q3⟩ => by
    refine ⟨?_, q2, fun q => (by obtain ⟨o, r⟩ := I.pal a q; rw [q1] at r; cases r), q3⟩
    cases q : h₀.get? a with
    | none => rfl
    | some o => obtain ⟨o', r⟩ := I.al0 a o q2 q; rw [q1] at r; cases r
theorem LocR.alive {l : Loc} {ov : Option Value} (h : LocR g env F s.heap l ov) (ho : isOwnL l = true) : ∃ a its vs, ov = some (.ref a) ∧ PlainX s.heap a its ∧ VRs s.heap F vs its.toList := by
  cases l with
  | own vs => obtain ⟨a, its, e, r1, r2⟩ := h; exact ⟨a, its, vs, e, r1, r2⟩
  | bor vs => obtain ⟨a, its, e, r1, r2⟩ := h; exact ⟨a, its, vs, e, r1, r2⟩
  | un => cases ho
  | val _ => cases ho
  | clo _ => cases ho
/-- the slot of a name behind an evaluation is its slot before -/
theorem Inv.slotBack (I : Inv g sc env h₀ P F st s) (x : ExtF g.tabs F s F' s') {i : Nat} {z : Str} {l : Loc} {ov : Option Value} (h1 : sc.vars[i]? = some z) (h2 : st[i]? = some l) (u : Slot env s'.heap z ov) : Slot env s.heap z ov := by
  obtain ⟨ov', r1, _⟩ := I.vars i z l h1 h2
  have := (r1.keep I.ti x.keep).det u
  subst this
  exact r1
theorem Inv.ext (I : Inv g sc env h₀ P F st s) (hnt : ∀ b o, g.hg.get? b = some o → NT g.tabs b) (x : ExtF g.tabs F s F' s') : Inv g sc env h₀ P F' st s' where
  toInvE := I.toInvE.ext hnt x
  len := I.len
  nd := I.nd
  pnt := I.pnt
  pal := fun a e => (let ⟨o, q⟩ := I.pal a e; ⟨o, x.keep a o (I.pnt a e) q⟩)
  hgP := I.hgP
  fr := by
    obtain ⟨m, o, es, ep, e1, e2, e3⟩ := I.fr
    exact ⟨m, o, es, ep, x.keep _ _ (I.ti.notP e1 (fun vs q => by rw [e2] at q; cases q)) e1, e2, e3⟩
  lPF := by
    refine ⟨I.lPF.1, fun q => (x.new _ q).elim I.lPF.2.1 fun ⟨q1, _⟩ => ?_, I.lPF.2.2⟩
    obtain ⟨m, o, es, ep, e1, e2, e3⟩ := I.fr
    rw [e1] at q1; cases q1
  own := fun i z l a h1 h2 h3 h4 => by
    have u := I.slotBack x h1 h2 h4
    obtain ⟨n1, n2, n3⟩ := I.own i z l a h1 h2 h3 u
    refine ⟨fun q => (x.new _ q).elim n1 fun ⟨q1, _⟩ => ?_, n2, n3⟩
    obtain ⟨ov, r1, r2⟩ := I.vars i z l h1 h2
    obtain ⟨a', its, vs, e, r3, _⟩ := r2.alive h3
    have := r1.det u
    rw [e] at this; cases this
    obtain ⟨o, n, e1, _⟩ := r3
    rw [e1] at q1; cases q1
  inj := fun i j z w l l' a h1 h2 h3 h4 h5 h6 h7 h8 => I.inj i j z w l l' a h1 h2 h3 h4 h5 h6 (I.slotBack x h1 h3 h7) (I.slotBack x h2 h4 h8)
  cel := fun z c h1 h2 => by
    obtain ⟨n1, n2, n3, ov, o, e1, e2⟩ := I.cel z c h1 h2
    refine ⟨n1, fun q => (x.new _ q).elim n2 fun ⟨q1, _⟩ => ?_, n3, ov, o, x.keep _ _ (I.ti.notP e1 (fun vs q => by rw [e2] at q; cases q)) e1, e2⟩
    rw [e1] at q1; cases q1
  cinj := I.cinj
  al0 := fun a o h1 h2 => by
    obtain ⟨o', e⟩ := I.al0 a o h1 h2
    exact ⟨o', x.keep a o' h1 e⟩

theorem VR.keepF {h h' : Heap} {v : V} {y : Value} (hk : ∀ b o, F b → h.get? b = some o → h'.get? b = some o) (r : VR h F v y) : VR h' F v y := VR.mono (fun _ e => e) hk r
theorem VRs.keepF {h h' : Heap} {v : List V} {y : List Value} (hk : ∀ b o, F b → h.get? b = some o → h'.get? b = some o) (r : VRs h F v y) : VRs h' F v y := VRs.mono (fun _ e => e) hk r
theorem CodeRec_but {h h' : Heap} {a c : Addr} {q : Str} (x : h.CodeRec (.ref c) q) (hn : ∀ q, ¬ h.CodeRec (.ref a) q) (hk : ∀ b o, b ≠ a → h.get? b = some o → h'.get? b = some o) : h'.CodeRec (.ref c) q := by
  obtain ⟨c', o, vs, t, e, g, r⟩ := id x
  cases e
  exact ⟨_, o, vs, t, rfl, hk _ _ (fun r => hn _ (r ▸ x)) g, r⟩
theorem CloAt.but {h h' : Heap} {k : Nat} {f a : Addr} {oa : Obj} (u : CloAt g env h k f) (ha : h.get? a = some oa) (h1 : ∀ q, ¬ h.CodeRec (.ref a) q) (h2 : ∀ fd, oa.data ≠ .func fd) (hk : ∀ b o, b ≠ a → h.get? b = some o → h'.get? b = some o) : CloAt g env h' k f := by
  obtain ⟨ci, o, fd, e1, e2, e3, r1, r2, r3, r4, r5, r6, r7, r8, ⟨c', r9, r10⟩, r11, r12⟩ := u
  refine ⟨ci, o, fd, e1, hk _ _ (fun q => ?_) e2, e3, r1, r2, r3, r4, r5, r6, r7, r8, ⟨c', r9, r10⟩, by rw [r9] at r11 ⊢; exact CodeRec_but r11 h1 hk, r12⟩
  rw [q, ha] at e2; cases e2
  exact h2 _ e3

/-- one object is written: which, and what stays -/
structure Mut1 (g : Gx) (P F : Addr → Prop) (a : Addr) (s : Shared) (h' : Heap) : Prop where
  nP : ¬ P a
  nF : ¬ F a
  old : ∃ o, s.heap.get? a = some o ∧ (∀ q, ¬ s.heap.CodeRec (.ref a) q) ∧ (∀ fd, o.data ≠ .func fd)
  nt : NT g.tabs a
  keep : ∀ b o, b ≠ a → s.heap.get? b = some o → h'.get? b = some o
theorem Mut1.kF {a : Addr} {h' : Heap} (m : Mut1 g P F a s h') : ∀ b o, F b → s.heap.get? b = some o → h'.get? b = some o := fun b o e q => m.keep b o (fun r => m.nF (r ▸ e)) q
theorem Mut1.kP {a : Addr} {h' : Heap} (m : Mut1 g P F a s h') : ∀ b o, P b → s.heap.get? b = some o → h'.get? b = some o := fun b o e q => m.keep b o (fun r => m.nP (r ▸ e)) q
theorem Mut1.ext {a : Addr} {h' : Heap} {tk : Nat} (m : Mut1 g P F a s h') (htk : s.toks ≤ tk) : ExtS g h₀ P F s F { s with heap := h', toks := tk } :=
  ⟨m.kP, m.kF, rfl, rfl, htk, fun _ e => e, fun _ e => .inl e⟩
theorem Mut1.ti {a : Addr} {h' : Heap} (m : Mut1 g P F a s h') (t : TI g.tabs s.heap) : TI g.tabs h' := let ⟨_, _, e2, _⟩ := m.old; t.butN m.nt e2 m.keep
theorem Mut1.of {a : Addr} {h' : Heap} (t : TI g.tabs s.heap) (nP : ¬ P a) (nF : ¬ F a) (old : ∃ o, s.heap.get? a = some o ∧ (∀ vs, o.data ≠ .fields vs) ∧ (∀ fd, o.data ≠ .func fd)) (same : Heap.SameBut a s.heap h') : Mut1 g P F a s h' := by
  obtain ⟨o, e1, e2, e3⟩ := old
  refine ⟨nP, nF, ⟨o, e1, fun q x => ?_, e3⟩, t.notP e1 e2, fun b o e q => same.extBut b o e q⟩
  obtain ⟨c', o', vs, t, e, g, r, _⟩ := x
  cases e
  rw [e1] at g; cases g
  exact e2 _ r
/-- the state behind a write: every name but one holds what it held -/
theorem Inv.mut (I : Inv g sc env h₀ P F st s) {a : Addr} {h' : Heap} {tk : Nat} (m : Mut1 g P F a s h') (hal : (∃ o, h'.get? a = some o) ∨ h₀.get? a = none) (htk : s.toks ≤ tk) {i : Nat} {l' : Loc} (hi : i < st.length)
    (hfr : ∃ m, h'.Ns env.locals m)
    (hcel : ∀ x c, env.kindOf x = some .cell → env.cells.lookup x = some c → ∃ ov, h'.IsCell c ov)
    (hslot : ∀ (j : Nat) (x : Str) (ov : Option Value), j ≠ i → sc.vars[j]? = some x → Slot env s.heap x ov → Slot env h' x ov)
    (hpl : ∀ (j : Nat) (x : Str) (l : Loc), j ≠ i → sc.vars[j]? = some x → st[j]? = some l → isOwnL l = true → ¬ Slot env s.heap x (some (.ref a)))
    (hnew : ∀ x, sc.vars[i]? = some x → ∃ ov, Slot env h' x ov ∧ LocR g env F h' l' ov ∧ (isOwnL l' = true → ∀ b, ov = some (.ref b) → ¬ F b ∧ ¬ P b ∧ ((∃ vs, l' = .own vs) → h₀.get? b = none) ∧
      ∀ (j : Nat) (y : Str) (l : Loc), j ≠ i → sc.vars[j]? = some y → st[j]? = some l → isOwnL l = true → ¬ Slot env s.heap y (some (.ref b)))) :
    Inv g sc env h₀ P F (st.set i l') { s with heap := h', toks := tk } := by
  obtain ⟨oa, ha, hd1, hd2⟩ := m.old
  have locs : ∀ (j : Nat) (x : Str) (l : Loc), j ≠ i → sc.vars[j]? = some x → st[j]? = some l → ∃ ov, Slot env s.heap x ov ∧ Slot env h' x ov ∧ LocR g env F h' l ov := by
    intro j x l hj h1 h2
    obtain ⟨ov, r1, r2⟩ := I.vars j x l h1 h2
    refine ⟨ov, r1, hslot j x ov hj h1 r1, ?_⟩
    cases l with
    | un => trivial
    | val v => obtain ⟨y, e, r⟩ := r2; exact ⟨y, e, r.keepF m.kF⟩
    | own vs =>
      obtain ⟨b, its, rfl, r3, r4⟩ := r2
      have nb : b ≠ a := fun q => hpl j x _ hj h1 h2 rfl (q ▸ r1)
      obtain ⟨o, k, e1, e2⟩ := r3
      exact ⟨b, its, rfl, ⟨o, k, m.keep b o nb e1, e2⟩, r4.keepF m.kF⟩
    | bor vs =>
      obtain ⟨b, its, rfl, r3, r4⟩ := r2
      have nb : b ≠ a := fun q => hpl j x _ hj h1 h2 rfl (q ▸ r1)
      obtain ⟨o, k, e1, e2⟩ := r3
      exact ⟨b, its, rfl, ⟨o, k, m.keep b o nb e1, e2⟩, r4.keepF m.kF⟩
    | clo k => obtain ⟨f, e, r3, r4⟩ := r2; exact ⟨f, e, r3, r4.but ha hd1 hd2 m.keep⟩
  have get : ∀ (j : Nat) (l : Loc), (st.set i l')[j]? = some l → (j = i ∧ l = l') ∨ (j ≠ i ∧ st[j]? = some l) := by
    intro j l h
    rw [List.getElem?_set] at h
    by_cases e : i = j
    · subst e
      rw [if_pos rfl, if_pos hi] at h
      exact .inl ⟨rfl, (Option.some.inj h).symm⟩
    · rw [if_neg e] at h
      exact .inr ⟨fun q => e q.symm, h⟩
  have E0 : InvE g sc env F (st.set i l') { s with heap := h', toks := tk } := {
    base := fun b o e => m.kP b o (I.hgP b o e) (I.base b o e)
    ti := m.ti I.ti
    tk := Nat.le_trans I.tk htk
    fnt := I.fnt
    fal := fun b e => (let ⟨o, q⟩ := I.fal b e; ⟨o, m.kF b o e q⟩)
    kind := I.kind
    fn := I.fn
    gb := I.gb
    bb := I.bb
    cd := I.cd
    vars := fun j x l h1 h2 => by
      rcases get j l h2 with ⟨rfl, rfl⟩ | ⟨hj, h2⟩
      · obtain ⟨ov, r1, r2, _⟩ := hnew x h1
        exact ⟨ov, r1, r2⟩
      · obtain ⟨ov, _, r1, r2⟩ := locs j x l hj h1 h2
        exact ⟨ov, r1, r2⟩ }
  refine ⟨E0, by rw [List.length_set]; exact I.len, I.nd, I.pnt, (fun b e => (let ⟨o, q⟩ := I.pal b e; ⟨o, m.kP b o e q⟩)), I.hgP, hfr, I.lPF, fun j x l b h1 h2 h3 h4 => ?_, fun j k x y l l2 b h1 h2 h3 h4 h5 h6 h7 h8 => ?_, fun x c h1 h2 => ?_, I.cinj, fun b o h1 h2 => ?_⟩
  · rcases get j l h2 with ⟨rfl, rfl⟩ | ⟨hj, h2⟩
    · obtain ⟨ov, r1, r2, r3⟩ := hnew x h1
      obtain ⟨n1, n2, n3, _⟩ := r3 h3 b (r1.det h4)
      exact ⟨n1, n2, n3⟩
    · obtain ⟨ov, q0, q1, _⟩ := locs j x l hj h1 h2
      have := q1.det h4
      subst this
      exact I.own j x l b h1 h2 h3 q0
  · rcases get j l h3 with ⟨rfl, rfl⟩ | ⟨hj, h3'⟩
    · rcases get k l2 h4 with ⟨rfl, rfl⟩ | ⟨hk, h4'⟩
      · rfl
      · obtain ⟨ov, r1, r2, r3⟩ := hnew x h1
        obtain ⟨_, _, _, n4⟩ := r3 h5 b (r1.det h7)
        obtain ⟨ov2, q0, q1, _⟩ := locs k y l2 hk h2 h4'
        have := q1.det h8
        subst this
        exact absurd q0 (n4 k y l2 hk h2 h4' h6)
    · obtain ⟨ov2, q0, q1, _⟩ := locs j x l hj h1 h3'
      have := q1.det h7
      subst this
      rcases get k l2 h4 with ⟨rfl, rfl⟩ | ⟨hk, h4'⟩
      · obtain ⟨ov, r1, r2, r3⟩ := hnew y h2
        obtain ⟨_, _, _, n4⟩ := r3 h6 b (r1.det h8)
        exact absurd q0 (n4 j x l hj h1 h3' h5)
      · obtain ⟨ov3, q2, q3, _⟩ := locs k y l2 hk h2 h4'
        have := q3.det h8
        subst this
        exact I.inj j k x y l l2 b h1 h2 h3' h4' h5 h6 q0 q2
  · obtain ⟨n1, n2, n3, _⟩ := I.cel x c h1 h2
    exact ⟨n1, n2, n3, hcel x c h1 h2⟩
  · obtain ⟨o', e⟩ := I.al0 b o h1 h2
    by_cases q : b = a
    · subst q; exact hal.elim id fun r => by rw [h2] at r; cases r
    · exact ⟨o', m.keep b o' q e⟩

/-- an object is written that no name of the frame hangs on -/
theorem Inv.touch (I : Inv g sc env h₀ P F st s) {a : Addr} {h' : Heap} {tk : Nat} (m : Mut1 g P F a s h') (hal : (∃ o, h'.get? a = some o) ∨ h₀.get? a = none) (htk : s.toks ≤ tk) (hL : a ≠ env.locals) (hc : ∀ ov, ¬ s.heap.IsCell a ov) (hp : ∀ its, ¬ PlainX s.heap a its) :
    Inv g sc env h₀ P F st { s with heap := h', toks := tk } := by
  obtain ⟨oa, ha, hd1, hd2⟩ := m.old
  have nsOk : ∀ m2, s.heap.Ns env.locals m2 → h'.Ns env.locals m2 := fun m2 ⟨o, es, ep, e1, e2⟩ => ⟨o, es, ep, m.keep _ _ (Ne.symm hL) e1, e2⟩
  have cOk : ∀ c ov, s.heap.IsCell c ov → h'.IsCell c ov := fun c ov e => by
    have ne : c ≠ a := fun q => hc ov (q ▸ e)
    obtain ⟨o, e1, e2⟩ := e
    exact ⟨o, m.keep _ _ ne e1, e2⟩
  have slotOk : ∀ z ov, Slot env s.heap z ov → Slot env h' z ov := by
    intro z ov u
    rcases u with ⟨k1, m2, e1, e2⟩ | ⟨k1, c, e1, e2⟩
    · exact .inl ⟨k1, m2, nsOk _ e1, e2⟩
    · exact .inr ⟨k1, c, e1, cOk _ _ e2⟩
  have locs : ∀ (j : Nat) (x : Str) (l : Loc), sc.vars[j]? = some x → st[j]? = some l → ∃ ov, Slot env s.heap x ov ∧ Slot env h' x ov ∧ LocR g env F h' l ov := by
    intro j x l h1 h2
    obtain ⟨ov, r1, r2⟩ := I.vars j x l h1 h2
    refine ⟨ov, r1, slotOk x ov r1, ?_⟩
    cases l with
    | un => trivial
    | val v => obtain ⟨y, e, r⟩ := r2; exact ⟨y, e, r.keepF m.kF⟩
    | own vs =>
      obtain ⟨b, its, e, r3, r4⟩ := r2
      have nb : b ≠ a := fun q => hp its (q ▸ r3)
      obtain ⟨o, k, e1, e2⟩ := r3
      exact ⟨b, its, e, ⟨o, k, m.keep b o nb e1, e2⟩, r4.keepF m.kF⟩
    | bor vs =>
      obtain ⟨b, its, e, r3, r4⟩ := r2
      have nb : b ≠ a := fun q => hp its (q ▸ r3)
      obtain ⟨o, k, e1, e2⟩ := r3
      exact ⟨b, its, e, ⟨o, k, m.keep b o nb e1, e2⟩, r4.keepF m.kF⟩
    | clo k => obtain ⟨f, e, r3, r4⟩ := r2; exact ⟨f, e, r3, r4.but ha hd1 hd2 m.keep⟩
  have bk : ∀ (j : Nat) (x : Str) (l : Loc) (ov : Option Value), sc.vars[j]? = some x → st[j]? = some l → Slot env h' x ov → Slot env s.heap x ov := by
    intro j x l ov h1 h2 u
    obtain ⟨ov2, q0, q1, _⟩ := locs j x l h1 h2
    have := q1.det u
    subst this
    exact q0
  have E0 : InvE g sc env F st { s with heap := h', toks := tk } := {
    base := fun b o e => m.kP b o (I.hgP b o e) (I.base b o e)
    ti := m.ti I.ti
    tk := Nat.le_trans I.tk htk
    fnt := I.fnt
    fal := fun b e => (let ⟨o, q⟩ := I.fal b e; ⟨o, m.kF b o e q⟩)
    kind := I.kind
    fn := I.fn
    gb := I.gb
    bb := I.bb
    cd := I.cd
    vars := fun j x l h1 h2 => by
      obtain ⟨ov, _, r1, r2⟩ := locs j x l h1 h2
      exact ⟨ov, r1, r2⟩ }
  refine ⟨E0, I.len, I.nd, I.pnt, (fun b e => (let ⟨o, q⟩ := I.pal b e; ⟨o, m.kP b o e q⟩)), I.hgP, (let ⟨m2, e⟩ := I.fr; ⟨m2, nsOk _ e⟩), I.lPF, fun j x l b h1 h2 h3 h4 => I.own j x l b h1 h2 h3 (bk j x l _ h1 h2 h4), fun j k x y l l2 b h1 h2 h3 h4 h5 h6 h7 h8 => I.inj j k x y l l2 b h1 h2 h3 h4 h5 h6 (bk j x l _ h1 h3 h7) (bk k y l2 _ h2 h4 h8), fun x c h1 h2 => ?_, I.cinj, fun b o h1 h2 => ?_⟩
  · obtain ⟨n1, n2, n3, ov, e⟩ := I.cel x c h1 h2
    exact ⟨n1, n2, n3, ov, cOk _ _ e⟩
  · obtain ⟨o', e⟩ := I.al0 b o h1 h2
    by_cases q : b = a
    · subst q; exact hal.elim id fun r => by rw [h2] at r; cases r
    · exact ⟨o', m.keep b o' q e⟩

/-- one address more that must not be written -/
theorem Inv.addP (I : Inv g sc env h₀ P F st s) {a : Addr} (hal : ∃ o, s.heap.get? a = some o) (ha : NT g.tabs a) (hL : a ≠ env.locals) (hc : ∀ ov, ¬ s.heap.IsCell a ov) (hp : ∀ its, ¬ PlainX s.heap a its) : Inv g sc env h₀ (fun b => P b ∨ b = a) F st s where
  toInvE := I.toInvE
  len := I.len
  nd := I.nd
  pnt := fun b e => e.elim (I.pnt b) fun q => q ▸ ha
  pal := fun b e => e.elim (I.pal b) fun q => q ▸ hal
  hgP := fun b o e => .inl (I.hgP b o e)
  fr := I.fr
  lPF := ⟨fun q => q.elim I.lPF.1 fun r => hL r.symm, I.lPF.2⟩
  own := fun i x l b h1 h2 h3 h4 => by
    obtain ⟨n1, n2, n3⟩ := I.own i x l b h1 h2 h3 h4
    refine ⟨n1, fun q => q.elim n2 fun r => ?_, n3⟩
    obtain ⟨ov, r1, r2⟩ := I.vars i x l h1 h2
    obtain ⟨a', its, vs, e, r3, _⟩ := r2.alive h3
    have := r1.det h4
    rw [e] at this; cases this
    exact hp its (r ▸ r3)
  inj := I.inj
  cel := fun x c h1 h2 => by
    obtain ⟨n1, n2, n3, ov, e⟩ := I.cel x c h1 h2
    exact ⟨fun q => q.elim n1 fun r => hc ov (r ▸ e), n2, n3, ov, e⟩
  cinj := I.cinj
  al0 := I.al0
theorem Inv.subP {P' : Addr → Prop} (I : Inv g sc env h₀ P F st s) (h : ∀ a, P' a → P a) (hg : ∀ b o, g.hg.get? b = some o → P' b) : Inv g sc env h₀ P' F st s where
  toInvE := I.toInvE
  len := I.len
  nd := I.nd
  pnt := fun b e => I.pnt b (h b e)
  pal := fun b e => I.pal b (h b e)
  hgP := hg
  fr := I.fr
  lPF := ⟨fun q => I.lPF.1 (h _ q), I.lPF.2⟩
  own := fun i x l b h1 h2 h3 h4 => (let ⟨n1, n2, n3⟩ := I.own i x l b h1 h2 h3 h4; ⟨n1, fun q => n2 (h _ q), n3⟩)
  inj := I.inj
  cel := fun x c h1 h2 => (let ⟨n1, n2, n3⟩ := I.cel x c h1 h2; ⟨fun q => n1 (h _ q), n2, n3⟩)
  cinj := I.cinj
  al0 := I.al0
theorem ExtS.subP {P' : Addr → Prop} (x : ExtS g h₀ P F s F' s') (h : ∀ a, P' a → P a) : ExtS g h₀ P' F s F' s' := ⟨fun b o e q => x.keepP b o (h b e) q, x.keepF, x.gens, x.os, x.tok, x.mono, fun a e => (x.new a e).imp id fun ⟨q1, q2, q3, q4⟩ => ⟨q1, q2, fun q => q3 (h a q), q4⟩⟩
end
end Mine
end
section
namespace Mine
open PySem PySem.W PyProof.Rows

section
variable {g : Gx} {p : Prog} {sc : Sc} {env : Env} {h₀ : Heap} {P F F' F'' : Addr → Prop} {st : St} {s s' s'' : Shared} {A : Around}

theorem Ns.det {h : Heap} {a : Addr} {m m' : Str → Option Value} (x : h.Ns a m) (y : h.Ns a m') : m = m' := by
  obtain ⟨o, es, ep, e1, e2, e3, e4⟩ := x
  obtain ⟨o', es', ep', f1, f2, f3, f4⟩ := y
  rw [e1] at f1; cases f1
  rw [e2] at f2; cases f2
  funext z
  rw [← e4, ← f4]
theorem LocR.mut {a : Addr} {h' : Heap} {l : Loc} {ov : Option Value} (r : LocR g env F s.heap l ov) (m : Mut1 g P F a s h') (hne : isOwnL l = true → ∀ b, ov = some (.ref b) → b ≠ a) : LocR g env F h' l ov := by
  obtain ⟨oa, ha, hd1, hd2⟩ := m.old
  cases l with
  | un => trivial
  | val v => obtain ⟨y, e, r⟩ := r; exact ⟨y, e, r.keepF m.kF⟩
  | own vs =>
    obtain ⟨b, its, e, ⟨o, k, e1, e2⟩, r4⟩ := r
    exact ⟨b, its, e, ⟨o, k, m.keep b o (hne rfl b e) e1, e2⟩, r4.keepF m.kF⟩
  | bor vs =>
    obtain ⟨b, its, e, ⟨o, k, e1, e2⟩, r4⟩ := r
    exact ⟨b, its, e, ⟨o, k, m.keep b o (hne rfl b e) e1, e2⟩, r4.keepF m.kF⟩
  | clo k => obtain ⟨f, e, r3, r4⟩ := r; exact ⟨f, e, r3, r4.but ha hd1 hd2 m.keep⟩

/-- what a new holder of a list must show -/
noncomputable def OwnNew (sc : Sc) (env : Env) (h₀ : Heap) (P F : Addr → Prop) (st : St) (h : Heap) (i : Nat) (l : Loc) (y : Value) : Prop :=
  isOwnL l = true → ∀ b, y = .ref b → ¬ F b ∧ ¬ P b ∧ ((∃ vs, l = .own vs) → h₀.get? b = none) ∧
    ∀ (j : Nat) (z : Str) (l2 : Loc), j ≠ i → sc.vars[j]? = some z → st[j]? = some l2 → isOwnL l2 = true → ¬ Slot env h z (some (.ref b))

theorem vars_ne (I : Inv g sc env h₀ P F st s) {i j : Nat} {x y : Str} (h1 : sc.vars[i]? = some x) (h2 : sc.vars[j]? = some y) (hij : j ≠ i) : y ≠ x := by
  intro e
  subst e
  exact hij ((List.getElem?_inj (List.getElem?_eq_some_iff.mp h2).1 I.nd).mp (h2.trans h1.symm))

theorem store_soundX (I : Inv g sc env h₀ P F st s) {i : Nat} {x : Str} {y : Value} {l' : Loc} (hx : sc.vars[i]? = some x) (hk : sc.kinds x = some .local ∨ sc.kinds x = some .cell) (hr : LocR g env F s.heap l' (some y))
    (hown : OwnNew sc env h₀ P F st s.heap i l' y) {Q : Unit → Shared → Prop} (h : ∀ s', Inv g sc env h₀ P F (st.set i l') s' → ExtS g h₀ P F s F s' → (∀ a its, PlainX s.heap a its → PlainX s'.heap a its) →
      (∀ (j : Nat) (z : Str) (ov : Option Value), j ≠ i → sc.vars[j]? = some z → Slot env s.heap z ov → Slot env s'.heap z ov) → Slot env s'.heap x (some y) → Q () s') :
    wpAny (model g.prog g.w) A (storeName env x y) Q noE s := by
  have hi : i < st.length := by rw [I.len]; exact (List.getElem?_eq_some_iff.mp hx).1
  obtain ⟨m, hm⟩ := I.fr
  have dict : ∃ o es ep, s.heap.get? env.locals = some o ∧ o.data = .dict es ep := by
    obtain ⟨o, es, ep, e1, e2, _⟩ := hm; exact ⟨o, es, ep, e1, e2⟩
  obtain ⟨oL, esL, epL, eL1, eL2⟩ := dict
  rcases hk with hk | hk
  · have hk' : env.kindOf x = some .local := by rw [I.kind]; exact hk
    refine wpAny_storeName_local hk' hm (fun h' hn hs => ?_) (by rw [I.fn]; rfl)
    have mu : Mut1 g P F env.locals s h' := .of I.ti I.lPF.1 I.lPF.2.1 ⟨oL, eL1, (fun vs q => by rw [eL2] at q; cases q), (fun fd q => by rw [eL2] at q; cases q)⟩ hs
    have al : ∃ o, h'.get? env.locals = some o := by obtain ⟨o, _, _, e, _⟩ := hn; exact ⟨o, e⟩
    have cellOk : ∀ c ov, s.heap.IsCell c ov → h'.IsCell c ov := fun c ov ⟨o, e1, e2⟩ => ⟨o, mu.keep c o (fun q => by rw [q, eL1] at e1; cases e1; rw [eL2] at e2; cases e2) e1, e2⟩
    have slots : ∀ (j : Nat) (z : Str) (ov : Option Value), j ≠ i → sc.vars[j]? = some z → Slot env s.heap z ov → Slot env h' z ov := fun j z ov hj h1 u => by
      rcases u with ⟨k1, m2, e1, rfl⟩ | ⟨k1, c, e1, e2⟩
      · have := Ns.det e1 hm; subst this
        exact .inl ⟨k1, _, hn, by rw [if_neg (vars_ne I hx h1 hj)]⟩
      · exact .inr ⟨k1, c, e1, cellOk _ _ e2⟩
    refine h _ (I.mut mu (.inl al) (Nat.le_succ _) hi ⟨_, hn⟩ (fun z c h1 h2 => ?_) slots (fun j z l hj h1 h2 h3 u => ?_) fun z hz => ?_) (mu.ext (Nat.le_succ _)) (fun a its ⟨o, k, q1, q2, q3, q4⟩ => ⟨o, k, mu.keep a o (fun q => by rw [q, eL1] at q1; cases q1; rw [eL2] at q4; cases q4) q1, q2, q3, q4⟩) slots (.inl ⟨hk', _, hn, by simp⟩)
    · obtain ⟨_, _, _, ov, r⟩ := I.cel z c h1 h2
      exact ⟨ov, cellOk c ov r⟩
    · obtain ⟨ov, r1, r2⟩ := I.vars j z l h1 h2
      obtain ⟨a, its, vs, e, ⟨o, k, q1, q2, q3, q4⟩, _⟩ := r2.alive h3
      have := r1.det u
      rw [e] at this; cases this
      rw [eL1] at q1; cases q1; rw [eL2] at q4; cases q4
    · rw [hx] at hz; cases hz
      refine ⟨some y, .inl ⟨hk', _, hn, by simp⟩, hr.mut mu fun ho b e => ?_, fun ho b e => hown ho b (Option.some.inj e)⟩
      intro q
      obtain ⟨a, its, vs, e', ⟨o, k, q1, q2, q3, q4⟩, _⟩ := hr.alive ho
      rw [e] at e'; cases e'
      subst q
      rw [eL1] at q1; cases q1; rw [eL2] at q4; cases q4
  · have hk' : env.kindOf x = some .cell := by rw [I.kind]; exact hk
    obtain ⟨l0, hl0⟩ : ∃ l, st[i]? = some l := ⟨st[i], List.getElem?_eq_getElem hi⟩
    obtain ⟨ov0, r0, _⟩ := I.vars i x l0 hx hl0
    obtain ⟨c, hc, hcell⟩ : ∃ c, env.cells.lookup x = some c ∧ s.heap.IsCell c ov0 := by
      rcases r0 with ⟨k1, _⟩ | ⟨_, c, e1, e2⟩
      · rw [hk'] at k1; cases k1
      · exact ⟨c, e1, e2⟩
    obtain ⟨nP, nF, n0, _⟩ := I.cel x c hk' hc
    refine wpAny_storeName_cell I.fn hk' hc hcell fun h' hn hs => ?_
    obtain ⟨oC, eC1, eC2⟩ := hcell
    have mu : Mut1 g P F c s h' := .of I.ti nP nF ⟨oC, eC1, (fun vs q => by rw [eC2] at q; cases q), (fun fd q => by rw [eC2] at q; cases q)⟩ hs
    have al : ∃ o, h'.get? c = some o := by obtain ⟨o, e, _⟩ := hn; exact ⟨o, e⟩
    have nsOk : h'.Ns env.locals m := hm.sameBut hs fun q => by rw [q, eC1] at eL1; cases eL1; rw [eC2] at eL2; cases eL2
    have slots : ∀ (j : Nat) (z : Str) (ov : Option Value), j ≠ i → sc.vars[j]? = some z → Slot env s.heap z ov → Slot env h' z ov := fun j z ov hj h1 u => by
      rcases u with ⟨k1, m2, e1, rfl⟩ | ⟨k1, c', e1, e2⟩
      · have := Ns.det e1 hm; subst this
        exact .inl ⟨k1, _, nsOk, rfl⟩
      · refine .inr ⟨k1, c', e1, e2.sameBut hs fun q => ?_⟩
        subst q
        exact vars_ne I hx h1 hj (I.cinj _ _ _ hk' hc e1)
    refine h _ (I.mut (tk := s.toks) mu (.inl al) (Nat.le_refl _) hi ⟨_, nsOk⟩ (fun z c' h1 h2 => ?_) slots (fun j z l hj h1 h2 h3 u => ?_) fun z hz => ?_) (mu.ext (Nat.le_refl _)) (fun a its ⟨o, k, q1, q2, q3, q4⟩ => ⟨o, k, mu.keep a o (fun q => by rw [q, eC1] at q1; cases q1; rw [eC2] at q4; cases q4) q1, q2, q3, q4⟩) slots (.inr ⟨.inl hk', c, hc, hn⟩)
    · obtain ⟨_, _, _, ov, r⟩ := I.cel z c' h1 h2
      by_cases e : c' = c
      · subst e; exact ⟨_, hn⟩
      · exact ⟨ov, r.sameBut hs e⟩
    · obtain ⟨ov, r1, r2⟩ := I.vars j z l h1 h2
      obtain ⟨a, its, vs, e, ⟨o, k, q1, q2, q3, q4⟩, _⟩ := r2.alive h3
      have := r1.det u
      rw [e] at this; cases this
      rw [eC1] at q1; cases q1; rw [eC2] at q4; cases q4
    · rw [hx] at hz; cases hz
      refine ⟨some y, .inr ⟨.inl hk', c, hc, hn⟩, hr.mut mu fun ho b e => ?_, fun ho b e => hown ho b (Option.some.inj e)⟩
      intro q
      obtain ⟨a, its, vs, e', ⟨o, k, q1, q2, q3, q4⟩, _⟩ := hr.alive ho
      rw [e] at e'; cases e'
      subst q
      rw [eC1] at q1; cases q1; rw [eC2] at q4; cases q4

theorem store_sound (I : Inv g sc env h₀ P F st s) {i : Nat} {x : Str} {y : Value} {l' : Loc} (hx : sc.vars[i]? = some x) (hk : sc.kinds x = some .local ∨ sc.kinds x = some .cell) (hr : LocR g env F s.heap l' (some y))
    (hown : OwnNew sc env h₀ P F st s.heap i l' y) {Q : Unit → Shared → Prop} (h : ∀ s', Inv g sc env h₀ P F (st.set i l') s' → ExtS g h₀ P F s F s' → Q () s') :
    wpAny (model g.prog g.w) A (storeName env x y) Q noE s := store_soundX I hx hk hr hown fun s' a b _ _ _ => h s' a b

/-- an own or lent list is written -/
theorem list_mut (I : Inv g sc env h₀ P F st s) {i : Nat} {x : Str} {l l' : Loc} {a : Addr} {its : Array Value} {vs' : List V} {h' : Heap} (hx : sc.vars[i]? = some x) (hl : st[i]? = some l) (ho : isOwnL l = true) (hs : Slot env s.heap x (some (.ref a)))
    (hl' : (∃ vs, l = .own vs ∧ l' = .own vs') ∨ (∃ vs, l = .bor vs ∧ l' = .bor vs')) (hp : PlainX h' a its) (hv : VRs s.heap F vs' its.toList) (hsame : Heap.SameBut a s.heap h') {tk : Nat} (htk : s.toks ≤ tk) :
    Inv g sc env h₀ P F (st.set i l') { s with heap := h', toks := tk } ∧ ExtS g h₀ P F s F { s with heap := h', toks := tk } := by
  have hi : i < st.length := by rw [I.len]; exact (List.getElem?_eq_some_iff.mp hx).1
  obtain ⟨nF, nP, n0⟩ := I.own i x l a hx hl ho hs
  obtain ⟨ov, r1, r2⟩ := I.vars i x l hx hl
  obtain ⟨a2, its2, vs2, e2, ⟨oa, k, q1, q2, q3, q4⟩, _⟩ := r2.alive ho
  have hov := r1.det hs
  rw [e2] at hov; cases hov
  have mu : Mut1 g P F a s h' := .of I.ti nP nF ⟨oa, q1, (fun vs q => by rw [q4] at q; cases q), (fun fd q => by rw [q4] at q; cases q)⟩ hsame
  have al : ∃ o, h'.get? a = some o := by obtain ⟨o, n, e, _⟩ := hp; exact ⟨o, e⟩
  have slotOk : ∀ z ov, Slot env s.heap z ov → Slot env h' z ov := by
    intro z ov u
    rcases u with ⟨k1, m2, ⟨o, es, ep, e1, e3, e4⟩, rfl⟩ | ⟨k1, c, e1, o, e3, e4⟩
    · exact .inl ⟨k1, m2, ⟨o, es, ep, mu.keep _ _ (fun q => by rw [q, q1] at e1; cases e1; rw [q4] at e3; cases e3) e1, e3, e4⟩, rfl⟩
    · exact .inr ⟨k1, c, e1, o, mu.keep _ _ (fun q => by rw [q, q1] at e3; cases e3; rw [q4] at e4; cases e4) e3, e4⟩
  refine ⟨I.mut mu (.inl al) htk hi ?_ (fun z c h1 h2 => ?_) (fun j z ov hj h1 u => slotOk z ov u) (fun j z l2 hj h1 h2 h3 u => ?_) (fun z hz => ?_), mu.ext htk⟩
  · obtain ⟨m, o, es, ep, e1, e3, e4⟩ := I.fr
    exact ⟨m, o, es, ep, mu.keep _ _ (fun q => by rw [q, q1] at e1; cases e1; rw [q4] at e3; cases e3) e1, e3, e4⟩
  · obtain ⟨_, _, _, ov, o, e3, e4⟩ := I.cel z c h1 h2
    exact ⟨ov, o, mu.keep _ _ (fun q => by rw [q, q1] at e3; cases e3; rw [q4] at e4; cases e4) e3, e4⟩
  · exact hj (I.inj j i z x l2 l a h1 hx h2 hl h3 ho u hs)
  · rw [hx] at hz; cases hz
    refine ⟨some (.ref a), slotOk _ _ hs, ?_, fun _ b e => ?_⟩
    · rcases hl' with ⟨vs, _, rfl⟩ | ⟨vs, _, rfl⟩ <;> exact ⟨a, its, rfl, hp, hv.keepF mu.kF⟩
    · cases e
      refine ⟨nF, nP, fun ⟨vs, e⟩ => n0 ?_, fun j z l2 hj h1 h2 h3 u => hj (I.inj j i z x l2 l a h1 hx h2 hl h3 ho u hs)⟩
      rcases hl' with ⟨vs, e1, e2⟩ | ⟨vs, e1, e2⟩
      · exact ⟨vs, e1⟩
      · rw [e2] at e; cases e
end
end Mine
end
section
namespace Mine
open PySem PySem.W PyProof.Rows

noncomputable def FlR (h : Heap) (F : Addr → Prop) : Fl → Flow → Prop
  | .nx, f => f = .next
  | .ret v, f => ∃ x, f = .ret x ∧ VR h F v x

noncomputable def SRes (g : Gx) (sc : Sc) (env : Env) (h₀ : Heap) (P F : Addr → Prop) (s : Shared) (fl : Fl) (st' : St) (f : Flow) (s' : Shared) : Prop :=
  ∃ F', ExtS g h₀ P F s F' s' ∧ Inv g sc env h₀ P F' st' s' ∧ FlR s'.heap F' fl f

noncomputable def Swap (sc : Sc) (e : Expr) (x : Str) (p' pos : Pos) (b : Bool) : Prop :=
  ∀ env : Env, (∀ y, env.kindOf y = sc.kinds y) → env.scope.kind = .function → swapsWith e (some (.Name x p')) pos.line env = pure b
noncomputable def storable (sc : Sc) (x : Str) : Prop := sc.kinds x = some .local ∨ sc.kinds x = some .cell

/-- targets that are names -/
inductive TN (sc : Sc) : List Expr → List Nat → Prop
  | nil : TN sc [] []
  | cons {x : Str} {i : Nat} {q r t} : sc.vars[i]? = some x → storable sc x → TN sc r t → TN sc (.Name x q :: r) (i :: t)
/-- .. as names alone -/
inductive TM (sc : Sc) : List Str → List Nat → Prop
  | nil : TM sc [] []
  | cons {x : Str} {i : Nat} {r t} : sc.vars[i]? = some x → storable sc x → TM sc r t → TM sc (x :: r) (i :: t)
noncomputable def EnvOf (sc : Sc) (env : Env) : Prop := (∀ y, env.kindOf y = sc.kinds y) ∧ env.scope.kind = .function

/-- a def inside a def: what its statement must be -/
structure DefOk (g : Gx) (sc : Sc) (x : Str) (ci : CloI) (c : Addr) (q : Str) (P : Addr) (pos : Pos) : Prop where
  code : sc.code = some (c, q)
  qual : ci.qual = q ++ x
  expl : sc.kinds x ≠ some .globalExplicit
  tab : (⟨P, pos.line, pos.col, ci.qual⟩ : TabRec) ∈ g.tabs
  uniq : ∀ q ∈ g.tabs, q.P = P → q = ⟨P, pos.line, pos.col, ci.qual⟩
  hd : CodeHd g.hg c P
  d0 : ci.params.defaults = []
  k0 : ci.params.kw_defaults = []
  ann : ∀ env, annTrees ci.params none env = []
  free : ∀ y ∈ ci.scope.names, y.2 = .free → (sc.kinds y.1 = some .cell ∨ sc.kinds y.1 = some .free) ∧ y.1 ∈ sc.vars
  capf : ∀ y ∈ ci.cap, (y, NameKind.free) ∈ ci.scope.names
  nd : (ci.scope.names.map (·.1)).Nodup

mutual
inductive TS (g : Gx) : Sc → Stmt → Sm → Prop
  | asg {sc : Sc} {x : Str} {i : Nat} {p' e a pos} : TE g sc e a → sc.vars[i]? = some x → storable sc x → Swap sc e x p' pos false → TS g sc (.Assign [.Name x p'] e pos) (.asg i a)
  | asgo {sc : Sc} {x : Str} {i : Nat} {p' e a pos} : TE g sc e a → sc.vars[i]? = some x → storable sc x → Swap sc e x p' pos false → TS g sc (.Assign [.Name x p'] e pos) (.asgo i a)
  | asgU {sc : Sc} {x y : Str} {i : Nat} {p' elt iter py c scope cpos a pos} : TE g sc (.ListComp elt [⟨.Name y py, iter, c, 0⟩] scope cpos) a → sc.vars[i]? = some x → storable sc x → Swap sc (.ListComp elt [⟨.Name y py, iter, c, 0⟩] scope cpos) x p' pos true →
      TS g sc (.Assign [.Name x p'] (.ListComp elt [⟨.Name y py, iter, c, 0⟩] scope cpos) pos) (.asg i a)
  | asgoU {sc : Sc} {x y : Str} {i : Nat} {p' elt iter py c scope cpos a pos} : TE g sc (.ListComp elt [⟨.Name y py, iter, c, 0⟩] scope cpos) a → sc.vars[i]? = some x → storable sc x → Swap sc (.ListComp elt [⟨.Name y py, iter, c, 0⟩] scope cpos) x p' pos true →
      TS g sc (.Assign [.Name x p'] (.ListComp elt [⟨.Name y py, iter, c, 0⟩] scope cpos) pos) (.asgo i a)
  | aug {sc : Sc} {x : Str} {i : Nat} {p' e a pos} : TE g sc e a → sc.vars[i]? = some x → storable sc x → plainName x = true → TS g sc (.AugAssign (.Name x p') .Add e pos) (.aug i .add a)
  | ite {sc : Sc} {t a b pos c x y} : TE g sc t c → TSs g sc a x → TSs g sc b y → TS g sc (.If t a b pos) (.ite c x y)
  | ret {sc : Sc} {e a pos} : TE g sc e a → TS g sc (.Return (some e) pos) (.ret a)
  | retn {sc : Sc} {pos} : TS g sc (.Return none pos) .retn
  | while_ {sc : Sc} {t a pos c x} : TE g sc t c → TSs g sc a x → TS g sc (.While t a [] pos) (.while_ c x)
  | for_ {sc : Sc} {x : Str} {i : Nat} {p' it a pos c b} : TE g sc it c → sc.vars[i]? = some x → storable sc x → TSs g sc a b → (∀ env v, foldedSetIterable it env v = pure v) → TS g sc (.For (.Name x p') it a [] pos) (.for_ i c b)
  | app {sc : Sc} {x : Str} {i : Nat} {p1 ap e a pos spos} : TE g sc e a → sc.vars[i]? = some x → plainName x = true → (ap.endLine == pos.line) = true →
      TS g sc (.Expr (.Call (.Attribute (.Name x p1) "append" ap) [e] [] pos) spos) (.app i a)
  | rev {sc : Sc} {x : Str} {i : Nat} {p1 ap pos spos} : sc.vars[i]? = some x → plainName x = true → (ap.endLine == pos.line) = true →
      TS g sc (.Expr (.Call (.Attribute (.Name x p1) "reverse" ap) [] [] pos) spos) (.rev i)
  | seti {sc : Sc} {x : Str} {i : Nat} {p1 p2 ix b e a pos} : TE g sc e a → TE g sc ix b → sc.vars[i]? = some x → plainName x = true → (∀ env, swapsWith e (some (.Subscript (.Name x p1) ix p2)) pos.line env = pure false) →
      TS g sc (.Assign [.Subscript (.Name x p1) ix p2] e pos) (.seti i b a)
  | augi {sc : Sc} {x : Str} {i : Nat} {p1 p2 ix b e a pos} : TE g sc e a → TE g sc ix b → sc.vars[i]? = some x → plainName x = true → TS g sc (.AugAssign (.Subscript (.Name x p1) ix p2) .Add e pos) (.augi i b .add a)
  | unp {sc : Sc} {ts is k q e a pos} : TN sc ts is → TE g sc e a → (∀ env, EnvOf sc env → swapsWithSole [.Tuple ts k q] e pos.line env = pure false) → (∀ env, EnvOf sc env → swappedStores [.Tuple ts k q] e env = pure none) →
      TS g sc (.Assign [.Tuple ts k q] e pos) (.unp is a)
  | asgs {sc : Sc} {ts is k q es k2 q2 xs names pos} : TM sc names is → TEs g sc es xs → (∀ env, EnvOf sc env → swapsWithSole [.Tuple ts k q] (.Tuple es k2 q2) pos.line env = pure false) → (∀ env, EnvOf sc env → swappedStores [.Tuple ts k q] (.Tuple es k2 q2) env = pure (some names)) →
      TS g sc (.Assign [.Tuple ts k q] (.Tuple es k2 q2) pos) (.asgs is xs)
  | asgso {sc : Sc} {ts is k q es k2 q2 names pos} : TM sc names is → is.Nodup → es.length = is.length → (∀ e ∈ es, ∃ p, e = .List [] p) → (∀ env, EnvOf sc env → swapsWithSole [.Tuple ts k q] (.Tuple es k2 q2) pos.line env = pure false) → (∀ env, EnvOf sc env → swappedStores [.Tuple ts k q] (.Tuple es k2 q2) env = pure (some names)) →
      TS g sc (.Assign [.Tuple ts k q] (.Tuple es k2 q2) pos) (.asgso is)
  | forr {sc : Sc} {x : Str} {i : Nat} {p' p2 p3 it a pos c b} : TE g sc it c → sc.kinds "reversed" = some .globalImplicit → sc.vars[i]? = some x → storable sc x → TSs g sc a b → TS g sc (.For (.Name x p') (.Call (.Name "reversed" p2) [it] [] p3) a [] pos) (.forr i c b)
  | callc {sc : Sc} {x : Str} {i k : Nat} {ci : CloI} {p pos spos e es xs} {src : List Nat} : sc.vars[i]? = some x → plainName x = true → g.clos[k]? = some ci → src.map (fun j => sc.vars[j]?) = ci.cap.map some →
      (∀ y ∈ ci.cap, sc.kinds y = some .cell ∨ sc.kinds y = some .free) → TEs g sc (e :: es) xs → TS g sc (.Expr (.Call (.Name x p) (e :: es) [] pos) spos) (.callc i k xs src)
  | defc {sc : Sc} {x : Str} {i k : Nat} {ci : CloI} {c : Addr} {q : Str} {P : Addr} {pos : Pos} : sc.vars[i]? = some x → storable sc x → g.clos[k]? = some ci → DefOk g sc x ci c q P pos →
      TS g sc (.FunctionDef x ci.params ci.body [] none [] ci.scope none x pos) (.defc i k)
inductive TSs (g : Gx) : Sc → List Stmt → List Sm → Prop
  | nil {sc : Sc} : TSs g sc [] []
  | bad {sc : Sc} {r t} : TSs g sc r (.bad :: t)
  | frz {sc : Sc} {i : Nat} {r t} : TSs g sc r t → TSs g sc r (.frz i :: t)
  | cons {sc : Sc} {a x r t} : TS g sc a x → TSs g sc r t → TSs g sc (a :: r) (x :: t)
end

/-- what a call does to the heap that may write the list at a -/
structure ExtL (tabs : List TabRec) (F : Addr → Prop) (s : Shared) (a : Addr) (F' : Addr → Prop) (s' : Shared) : Prop where
  keep : ∀ b o, NT tabs b → b ≠ a → s.heap.get? b = some o → s'.heap.get? b = some o
  ti : TI tabs s'.heap
  gens : s'.gens = s.gens
  os : s'.os = s.os
  tok : s.toks ≤ s'.toks
  mono : ∀ a, F a → F' a
  new : ∀ a, F' a → F a ∨ (s.heap.get? a = none ∧ NT tabs a ∧ ∃ o, s'.heap.get? a = some o)
noncomputable def ResC (tabs : List TabRec) (F : Addr → Prop) (s : Shared) (a : Addr) (v : V) (cs' : List Loc) (x : Value) (s' : Shared) : Prop :=
  ∃ F' vs' its, ExtL tabs F s a F' s' ∧ VR s'.heap F' v x ∧ cs'[0]? = some (.bor vs') ∧ PlainX s'.heap a its ∧ VRs s'.heap F' vs' its.toList ∧ ¬ F' a

structure IHS (g : Gx) (p : Prog) (n : Nat) : Prop extends IH g p n where
  x : ∀ {A sc env h₀ P F st s a m fl st'}, AOk g n A → Inv g sc env h₀ P F st s → TS g sc a m → ex p n st m = some (fl, st') → wpAny (model g.prog g.w) A (exec a env) (SRes g sc env h₀ P F s fl st') noE s
  m : ∀ {A F s k ci f env vs xs l0 cs v cs' y c a}, AOk g n A → SOk g F s → CloAt g env s.heap k f → F f → g.clos[k]? = some ci → CapOk g env F s.heap ci.cap (l0 :: cs) → isOwnL l0 = true → cs.all frozenLoc = true →
    ci.cap[0]? = some y → env.cells.lookup y = some c → s.heap.IsCell c (some (.ref a)) → ¬ F a → g.hg.get? a = none → VRs s.heap F vs xs → callC p n k vs (l0 :: cs) = some (v, cs') →
    wpAny (model g.prog g.w) A (call (.ref f) xs) (ResC g.tabs F s a v cs') noE s

section
variable {g : Gx} {p : Prog} {n : Nat} {sc : Sc} {env : Env} {h₀ : Heap} {P F F' F'' F1 : Addr → Prop} {st st' : St} {s s' s'' s1 : Shared} {A : Around} {fl : Fl}

theorem SRes.pre {f : Flow} (y : ExtS g h₀ P F s F1 s1) (h : SRes g sc env h₀ P F1 s1 fl st' f s') : SRes g sc env h₀ P F s fl st' f s' :=
  let ⟨F', x, r⟩ := h; ⟨F', y.trans x, r⟩

/-- a list that a name owns is handed out for good -/
theorem Inv.frz (I : Inv g sc env h₀ P F st s) {i : Nat} {x : Str} {vs : List V} (hx : sc.vars[i]? = some x) (hl : st[i]? = some (.own vs)) :
    ∃ F', ExtS g h₀ P F s F' s ∧ Inv g sc env h₀ P F' (st.set i (.val (.lst vs))) s := by
  have hi : i < st.length := by rw [I.len]; exact (List.getElem?_eq_some_iff.mp hx).1
  obtain ⟨ov, r1, a, its, rfl, r3, r4⟩ := I.vars i x _ hx hl
  obtain ⟨nF, nP, n0⟩ := I.own i x _ a hx hl rfl r1
  have h0 := n0 ⟨vs, rfl⟩
  have hnt := plNT r3 I.ti
  obtain ⟨o, k, e1, e2, e3, e4⟩ := id r3
  have up : ∀ {v : V} {y : Value}, VR s.heap F v y → VR s.heap (fun b => F b ∨ b = a) v y := fun r => VR.mono (fun _ e => .inl e) (fun _ _ _ e => e) r
  have ups : ∀ {v : List V} {y : List Value}, VRs s.heap F v y → VRs s.heap (fun b => F b ∨ b = a) v y := fun r => VRs.mono (fun _ e => .inl e) (fun _ _ _ e => e) r
  have upl : ∀ {l ov}, LocR g env F s.heap l ov → LocR g env (fun b => F b ∨ b = a) s.heap l ov := by
    intro l ov r
    cases l with
    | un => trivial
    | val v => obtain ⟨y, e, r⟩ := r; exact ⟨y, e, up r⟩
    | own vs => obtain ⟨b, its, e, q1, q2⟩ := r; exact ⟨b, its, e, q1, ups q2⟩
    | bor vs => obtain ⟨b, its, e, q1, q2⟩ := r; exact ⟨b, its, e, q1, ups q2⟩
    | clo k => obtain ⟨f, e, q1, q2⟩ := r; exact ⟨f, e, .inl q1, q2⟩
  have get : ∀ (j : Nat) (l : Loc), (st.set i (.val (.lst vs)))[j]? = some l → (j = i ∧ l = .val (.lst vs)) ∨ (j ≠ i ∧ st[j]? = some l) := by
    intro j l h
    rw [List.getElem?_set] at h
    by_cases e : i = j
    · subst e
      rw [if_pos rfl, if_pos hi] at h
      exact .inl ⟨rfl, (Option.some.inj h).symm⟩
    · rw [if_neg e] at h
      exact .inr ⟨fun q => e q.symm, h⟩
  refine ⟨fun b => F b ∨ b = a, ⟨fun _ _ _ e => e, fun _ _ _ e => e, rfl, rfl, Nat.le_refl _, fun _ e => .inl e, fun b e => e.imp id fun q => by subst q; exact ⟨h0, hnt, nP, o, e1⟩⟩, ?_⟩
  have E0 : InvE g sc env (fun b => F b ∨ b = a) (st.set i (.val (.lst vs))) s := {
    base := I.base
    ti := I.ti
    tk := I.tk
    fnt := fun b e => e.elim (I.fnt b) fun q => q ▸ hnt
    fal := fun b e => e.elim (I.fal b) fun q => ⟨o, q ▸ e1⟩
    kind := I.kind
    fn := I.fn
    gb := I.gb
    bb := I.bb
    cd := I.cd
    vars := fun j z l h1 h2 => by
      rcases get j l h2 with ⟨rfl, rfl⟩ | ⟨hj, h2⟩
      · rw [hx] at h1; cases h1
        refine ⟨_, r1, .ref a, rfl, ?_⟩
        unfold VR
        exact ⟨a, its, rfl, .inr rfl, r3.isList, ups r4⟩
      · obtain ⟨ov, q1, q2⟩ := I.vars j z l h1 h2
        exact ⟨ov, q1, upl q2⟩ }
  refine ⟨E0, by rw [List.length_set]; exact I.len, I.nd, I.pnt, I.pal, I.hgP, I.fr, ⟨I.lPF.1, fun q => q.elim I.lPF.2.1 fun r => ?_, I.lPF.2.2⟩, fun j z l b h1 h2 h3 h4 => ?_, fun j k x y l l2 b h1 h2 h3 h4 h5 h6 h7 h8 => ?_, fun z c h1 h2 => ?_, I.cinj, I.al0⟩
  · obtain ⟨m, o', es, ep, q1, q2, _⟩ := I.fr
    rw [r, e1] at q1; cases q1; rw [e4] at q2; cases q2
  · rcases get j l h2 with ⟨rfl, rfl⟩ | ⟨hj, h2⟩
    · cases h3
    · obtain ⟨m1, m2, m3⟩ := I.own j z l b h1 h2 h3 h4
      exact ⟨fun q => q.elim m1 fun r => hj (I.inj j i z x l _ a h1 hx h2 hl h3 rfl (r ▸ h4) r1), m2, m3⟩
  · rcases get j l h3 with ⟨rfl, rfl⟩ | ⟨hj, h3⟩
    · cases h5
    · rcases get k l2 h4 with ⟨rfl, rfl⟩ | ⟨hk, h4⟩
      · cases h6
      · exact I.inj j k x y l l2 b h1 h2 h3 h4 h5 h6 h7 h8
  · obtain ⟨n1, n2, n3, ov, o', q1, q2⟩ := I.cel z c h1 h2
    refine ⟨n1, fun q => q.elim n2 fun r => ?_, n3, ov, o', q1, q2⟩
    rw [r, e1] at q1; cases q1; rw [e4] at q2; cases q2

theorem ex_bad {st : St} : ex p n st .bad = none := by cases n <;> rfl
theorem ex_frz {st : St} {i : Nat} {r : Fl × St} (h : ex p n st (.frz i) = some r) : ∃ vs, st[i]? = some (.own vs) ∧ r = (.nx, st.set i (.val (.lst vs))) := by
  cases n with
  | zero => simp [ex] at h
  | succ k =>
    simp only [ex] at h
    split at h
    · rename_i vs hl
      cases h
      exact ⟨vs, hl, rfl⟩
    · cases h

theorem seq_sound (G : GOk g p) (ih : IHS g p n) (hA : AOk g n A) : ∀ {b : List Sm} {a : List Stmt} {F : Addr → Prop} {st : St} {s : Shared}, Inv g sc env h₀ P F st s → TSs g sc a b → seq (ex p n) st b = some (fl, st') →
    wpAny (model g.prog g.w) A (execs a env) (SRes g sc env h₀ P F s fl st') noE s
  | [], _, F, st, s, I, h, hv => by
    cases h
    cases hv
    exact wpAny_execs_nil ⟨F, ExtS.refl, I, rfl⟩
  | m :: r, _, F, st, s, I, h, hv => by
    unfold seq at hv
    cases h with
    | bad => rw [ex_bad] at hv; cases hv
    | frz h1 =>
      rename_i i
      split at hv
      · rename_i st1 e1
        obtain ⟨vs, hl, e2⟩ := ex_frz e1
        cases e2
        have hi : i < sc.vars.length := by rw [← I.len]; exact (List.getElem?_eq_some_iff.mp hl).1
        obtain ⟨F1, x1, I1⟩ := I.frz (List.getElem?_eq_getElem hi) hl
        exact wpAny_mono (seq_sound G ih hA I1 h1 hv) (fun _ _ q => q.pre x1) fun _ _ q => q
      · rename_i o e1
        obtain ⟨vs, hl, e2⟩ := ex_frz hv
        cases e2
        exact absurd hv (e1 _)
    | cons h1 h2 =>
      refine wpAny_execs_cons ?_
      split at hv
      · rename_i st1 e1
        refine wpAny_mono (ih.x hA I h1 e1) (fun f s1 r1 => ?_) fun _ _ q => q
        obtain ⟨F1, x1, I1, rfl⟩ := r1
        exact wpAny_mono (seq_sound G ih hA I1 h2 hv) (fun _ _ q => q.pre x1) fun _ _ q => q
      · rename_i o e1
        refine wpAny_mono (ih.x hA I h1 hv) (fun f s1 r1 => ?_) fun _ _ q => q
        obtain ⟨F1, x1, I1, r2⟩ := r1
        cases fl with
        | nx => exact absurd hv (e1 st')
        | ret v =>
          obtain ⟨y, rfl, r3⟩ := r2
          exact ⟨F1, x1, I1, y, rfl, r3⟩
end
end Mine
end
section
namespace Mine
open PySem PySem.W PyProof.Rows

section
variable {g : Gx} {p : Prog} {n : Nat} {sc : Sc} {env : Env} {h₀ : Heap} {P F F' F'' F1 : Addr → Prop} {st st' : St} {s s' s'' s1 : Shared} {A : Around} {fl : Fl}

/-- a new list's holder -/
theorem OwnNew.fresh (I : Inv g sc env h₀ P F st s) (x : ExtF g.tabs F s F' s') {a : Addr} {i : Nat} {vs : List V} (hd : s.heap.get? a = none) (hF : ¬ F' a) (hn : NT g.tabs a) :
    OwnNew sc env h₀ P F' st s'.heap i (.own vs) (.ref a) := by
  intro _ b e
  cases e
  refine ⟨hF, fun q => (by obtain ⟨o, r⟩ := I.pal _ q; rw [hd] at r; cases r), fun _ => ?_, fun j z l hj h1 h2 h3 u => ?_⟩
  · cases q : h₀.get? a with
    | none => rfl
    | some o => obtain ⟨o', r⟩ := I.al0 a o hn q; rw [hd] at r; cases r
  · have u' := I.slotBack x h1 h2 u
    obtain ⟨ov, r1, r2⟩ := I.vars j z l h1 h2
    obtain ⟨a', its, vs, e, ⟨o, k, e1, _⟩, _⟩ := r2.alive h3
    have := r1.det u'
    rw [e] at this; cases this
    rw [hd] at e1; cases e1


theorem asg_sound (G : GOk g p) (ih : IHS g p n) (hA : AOk g n A) (I : Inv g sc env h₀ P F st s) {x : Str} {i : Nat} {p' pos : Pos} {e : Expr} {a : Ex} {v : V} (h1 : TE g sc e a) (hx : sc.vars[i]? = some x) (hk : storable sc x) (hs : Swap sc e x p' pos false) (hv : ev p n st a = some v) :
    wpAny (model g.prog g.w) A (exec (.Assign [.Name x p'] e pos) env) (SRes g sc env h₀ P F s .nx (st.set i (.val v))) noE s := by
  refine wpAny_Assign_Name (wpAny_mono (ih.e hA I.toInvE h1 hv) (fun y s1 r1 => ?_) fun _ _ q => q) (hs env I.kind I.fn)
  obtain ⟨F1, x1, r1⟩ := r1
  have I1 := I.ext G.nt x1
  exact store_sound I1 hx hk (l' := .val v) ⟨y, rfl, r1⟩ (fun q => by cases q) fun s2 I2 x2 => ⟨F1, (I.extS x1).trans x2, I2, rfl⟩
theorem asgo_sound (G : GOk g p) (ih : IHS g p n) (hA : AOk g n A) (I : Inv g sc env h₀ P F st s) {x : Str} {i : Nat} {p' pos : Pos} {e : Expr} {a : Ex} {vs : List V} (h1 : TE g sc e a) (hx : sc.vars[i]? = some x) (hk : storable sc x) (hs : Swap sc e x p' pos false) (hf : isFresh a = true) (hv : ev p n st a = some (.lst vs)) :
    wpAny (model g.prog g.w) A (exec (.Assign [.Name x p'] e pos) env) (SRes g sc env h₀ P F s .nx (st.set i (.own vs))) noE s := by
  refine wpAny_Assign_Name (wpAny_mono (ih.w hA I.toInvE h1 hf hv) (fun y s1 r1 => ?_) fun _ _ q => q) (hs env I.kind I.fn)
  obtain ⟨F1, b, its, x1, rfl, hd, hF, hn, hp, hr⟩ := r1
  have I1 := I.ext G.nt x1
  exact store_sound I1 hx hk (l' := .own vs) ⟨b, its, rfl, hp, hr⟩ (OwnNew.fresh I x1 hd hF hn) fun s2 I2 x2 => ⟨F1, (I.extS x1).trans x2, I2, rfl⟩

/-- a comprehension whose list goes to a name at once -/
theorem use_sound (G : GOk g p) (ih : IHS g p n) (hA : AOk g n A) (I : Inv g sc env h₀ P F st s) {x y : Str} {i : Nat} {p' py cpos pos : Pos} {elt iter : Expr} {c : List Expr} {scope : Scope} {a : Ex} {vs : List V} {l' : Loc}
    (h1 : TE g sc (.ListComp elt [⟨.Name y py, iter, c, 0⟩] scope cpos) a) (hx : sc.vars[i]? = some x) (hk : storable sc x) (hs : Swap sc (.ListComp elt [⟨.Name y py, iter, c, 0⟩] scope cpos) x p' pos true)
    (hl : l' = .val (.lst vs) ∨ l' = .own vs) (hv : ev p n st a = some (.lst vs)) :
    wpAny (model g.prog g.w) A (exec (.Assign [.Name x p'] (.ListComp elt [⟨.Name y py, iter, c, 0⟩] scope cpos) pos) env) (SRes g sc env h₀ P F s .nx (st.set i l')) noE s := by
  rw [exec_Assign_Name_used _ _ _ _ (hs env I.kind I.fn)]
  refine wpAny_bind (wpAny_standAt (wpAny_bind ?_))
  show wpAny _ A (do let _ ← comprehension (.ListComp elt [⟨.Name y py, iter, c, 0⟩] scope cpos) scope env _ (newList []) false (eval iter env) (some (assign (.Name x p') env))) _ _ s
  refine wpAny_bind (wpAny_mono (ih.u (use := some (assign (.Name x p') env)) (Q := fun _ s' => SRes g sc env h₀ P F s .nx (st.set i l') .next s') hA I.toInvE h1 hv fun D C F' its m s9 e hD hC nCD nD nC tD tC hp hvr hns => ?_) (fun _ s' hq => wpAny_pure (wpAny_pure hq)) fun _ _ q => q)
  have I9 := I.ext G.nt e
  have alC : ∃ o, s9.heap.get? C = some o := by obtain ⟨o, _, _, q, _⟩ := hns; exact ⟨o, q⟩
  obtain ⟨mL, oL, esL, epL, eL1, eL2, _⟩ := I.fr
  have cL : C ≠ env.locals := fun q => by rw [q, eL1] at hC; cases hC
  obtain ⟨oC, esC, epC, eC1, eC2, eC3⟩ := id hns
  have cC : ∀ ov, ¬ s9.heap.IsCell C ov := fun ov ⟨o, q1, q2⟩ => by rw [eC1] at q1; cases q1; rw [eC2] at q2; cases q2
  have cP : ∀ its, ¬ PlainX s9.heap C its := fun its ⟨o, k, q1, _, _, q4⟩ => by rw [eC1] at q1; cases q1; rw [eC2] at q4; cases q4
  have key : ∀ F2, ExtF g.tabs F s F2 s9 → ¬ F2 C → LocR g env F2 s9.heap l' (some (.ref D)) → OwnNew sc env h₀ (fun b => P b ∨ b = C) F2 st s9.heap i l' (.ref D) →
      wpAny (model g.prog g.w) A (assign (.Name x p') env (.ref D)) (fun _ s'' => ∃ m, s''.heap.Ns C m ∧ ∀ h', Heap.SameBut C s''.heap h' → SRes g sc env h₀ P F s .nx (st.set i l') .next { s'' with heap := h' }) noE s9 := by
    intro F2 e2 nC2 hlr hon
    have I2 := (I.ext G.nt e2).addP (a := C) alC tC cL cC cP
    refine wpAny_assign_Name (store_sound I2 hx hk hlr hon fun s10 I10 x10 => ?_)
    have q1 := x10.keepP C oC (.inr rfl) eC1
    have hns' : s10.heap.Ns C m := ⟨oC, esC, epC, q1, eC2, eC3⟩
    refine ⟨m, hns', fun h' hs' => ⟨F2, ?_, ?_, rfl⟩⟩
    all_goals
      have I11 := I10.subP (P' := P) (fun a e => .inl e) I.hgP
      have nP : ¬ P C := fun q => by obtain ⟨o, r⟩ := I.pal _ q; rw [hC] at r; cases r
      have mu : Mut1 g P F2 C s10 h' := .of I11.ti nP nC2 ⟨oC, q1, (fun vs q => by rw [eC2] at q; cases q), (fun fd q => by rw [eC2] at q; cases q)⟩ hs'
      have dC : h₀.get? C = none := by
        cases q : h₀.get? C with
        | none => rfl
        | some o => obtain ⟨o', r⟩ := I.al0 C o tC q; rw [hC] at r; cases r
    · exact ((I.extS e2).trans (x10.subP fun a e => .inl e)).trans (mu.ext (tk := s10.toks) (Nat.le_refl _))
    · exact I11.touch (tk := s10.toks) mu (.inr dC) (Nat.le_refl _) cL (fun ov ⟨o, r1, r2⟩ => by rw [q1] at r1; cases r1; rw [eC2] at r2; cases r2) (fun its ⟨o, k, r1, _, _, r4⟩ => by rw [q1] at r1; cases r1; rw [eC2] at r4; cases r4)
  rcases hl with rfl | rfl
  · obtain ⟨oD, kD, q1, q2⟩ := id hp
    have e2 := e.grow hD tD ⟨oD, q1⟩
    refine key _ e2 (fun q => q.elim nC nCD) ⟨.ref D, rfl, ?_⟩ (fun q => by cases q)
    unfold VR
    exact ⟨D, its, rfl, .inr rfl, hp.isList, VRs.mono (fun _ e => .inl e) (fun _ _ _ e => e) hvr⟩
  · refine key _ e nC ⟨D, its, rfl, hp, hvr⟩ fun h3 b hb => ?_
    obtain ⟨n1, n2, n3, n4⟩ := OwnNew.fresh (i := i) (vs := vs) I e hD nD tD h3 b hb
    cases hb
    exact ⟨n1, fun q => q.elim n2 fun r => nCD r.symm, n3, n4⟩
end
end Mine
end
section
namespace Mine
open PySem PySem.W PyProof.Rows

section
variable {g : Gx} {p : Prog} {n : Nat} {sc : Sc} {env : Env} {h₀ : Heap} {P F F' F'' F1 : Addr → Prop} {st st' : St} {s s' s'' s1 : Shared} {A : Around} {fl : Fl}

theorem aug_sound (G : GOk g p) (ih : IHS g p n) (hA : AOk g n A) (I : Inv g sc env h₀ P F st s) {x : Str} {i : Nat} {p' pos : Pos} {e : Expr} {a : Ex} {k m : Int} (h1 : TE g sc e a) (hx : sc.vars[i]? = some x) (hk : storable sc x) (hp : plainName x = true)
    (hg : getV st i = some (.int k)) (hv : ev p n st a = some (.int m)) :
    wpAny (model g.prog g.w) A (exec (.AugAssign (.Name x p') .Add e pos) env) (SRes g sc env h₀ P F s .nx (st.set i (.val (.int (k + m))))) noE s := by
  unfold getV at hg
  split at hg
  · rename_i u hu
    cases hg
    obtain ⟨ov, r1, y, rfl, t, rfl⟩ := I.vars _ _ _ hx hu
    refine wpAny_AugAssign_Name (load_slot I.fn r1 (plainName_iff hp).2 (wpAny_mono (ih.e hA I.toInvE h1 hv) (fun y s1 r2 => ?_) fun _ _ q => q))
    obtain ⟨F1, x1, u, rfl⟩ := r2
    refine PyProof.Rows.iadd_int ?_
    have x2 : ExtF g.tabs F s F1 { s1 with toks := s1.toks + 1 } := x1.trans (.ofKeep x1.ti (fun _ _ e => e) (Nat.le_succ _))
    exact store_sound (I.ext G.nt x2) hx hk (l' := .val (.int (k + m))) ⟨_, rfl, _, rfl⟩ (fun q => by cases q) fun s2 I2 x3 => ⟨F1, (I.extS x2).trans x3, I2, rfl⟩
  · cases hg
theorem ite_sound (G : GOk g p) (ih : IHS g p n) (hA : AOk g n A) (I : Inv g sc env h₀ P F st s) {t : Expr} {a b : List Stmt} {pos : Pos} {c : Ex} {x y : List Sm} {k : Bool} (h1 : TE g sc t c) (h2 : TSs g sc a x) (h3 : TSs g sc b y) (hv : evT p n st c = some k)
    (hs : (if k then seq (ex p n) st x else seq (ex p n) st y) = some (fl, st')) :
    wpAny (model g.prog g.w) A (exec (.If t a b pos) env) (SRes g sc env h₀ P F s fl st') noE s := by
  refine wpAny_If (wpAny_mono (ih.t hA I.toInvE h1 hv) (fun k' s1 r1 => ?_) fun _ _ q => q)
  obtain ⟨rfl, F1, x1⟩ := r1
  have I1 := I.ext G.nt x1
  cases k' with
  | true => rw [if_pos rfl] at hs ⊢; exact wpAny_mono (seq_sound G ih hA I1 h2 hs) (fun _ _ q => q.pre (I.extS x1)) fun _ _ q => q
  | false => rw [if_neg Bool.false_ne_true] at hs ⊢; exact wpAny_mono (seq_sound G ih hA I1 h3 hs) (fun _ _ q => q.pre (I.extS x1)) fun _ _ q => q
theorem ret_sound (G : GOk g p) (ih : IHS g p n) (hA : AOk g n A) (I : Inv g sc env h₀ P F st s) {e : Expr} {pos : Pos} {a : Ex} {v : V} (h1 : TE g sc e a) (hv : ev p n st a = some v) :
    wpAny (model g.prog g.w) A (exec (.Return (some e) pos) env) (SRes g sc env h₀ P F s (.ret v) st) noE s := by
  refine wpAny_Return_some (wpAny_mono (ih.e hA I.toInvE h1 hv) (fun y s1 r1 => ?_) fun _ _ q => q)
  obtain ⟨F1, x1, r1⟩ := r1
  exact ⟨F1, I.extS x1, I.ext G.nt x1, y, rfl, r1⟩

theorem while_sound (G : GOk g p) (ih : IHS g p n) (hA : AOk g n A) (I : Inv g sc env h₀ P F st s) {t : Expr} {a : List Stmt} {pos : Pos} {c : Ex} {x : List Sm} {k : Nat} (h1 : TE g sc t c) (h2 : TSs g sc a x)
    (hw : whileLoop (fun st => evT p n st c) (fun st => seq (ex p n) st x) k st = some (fl, st')) :
    wpAny (model g.prog g.w) A (exec (.While t a [] pos) env) (SRes g sc env h₀ P F s fl st') noE s := by
  refine wpAny_While (codeAny_whileLoop (fun k s' => ∃ F1 st1, ExtS g h₀ P F s F1 s' ∧ Inv g sc env h₀ P F1 st1 s' ∧ whileLoop (fun st => evT p n st c) (fun st => seq (ex p n) st x) k st1 = some (fl, st')) ?_ k ⟨F, st, ExtS.refl, I, hw⟩)
  rintro k s1 ⟨F1, st1, x1, I1, hw⟩
  cases k with
  | zero => simp [whileLoop] at hw
  | succ k =>
    unfold whileLoop at hw
    split at hw
    · rename_i e1
      cases hw
      refine wpAny_mono (ih.t hA I1.toInvE h1 e1) (fun b s2 r2 => ?_) (fun _ _ q => q.elim)
      obtain ⟨rfl, F2, x2⟩ := r2
      rw [if_neg Bool.false_ne_true]
      exact wpAny_execs_nil ⟨F2, x1.trans (I1.extS x2), I1.ext G.nt x2, rfl⟩
    · rename_i e1
      refine wpAny_mono (ih.t hA I1.toInvE h1 e1) (fun b s2 r2 => ?_) (fun _ _ q => q.elim)
      obtain ⟨rfl, F2, x2⟩ := r2
      rw [if_pos rfl]
      have I2 := I1.ext G.nt x2
      split at hw
      · rename_i st2 e2
        refine wpAny_mono (seq_sound G ih hA I2 h2 e2) (fun f s3 r3 => ?_) (fun _ _ q => q.elim)
        obtain ⟨F3, x3, I3, rfl⟩ := r3
        exact ⟨k, Nat.lt_succ_self _, F3, st2, (x1.trans (I1.extS x2)).trans x3, I3, hw⟩
      · rename_i o e2
        refine wpAny_mono (seq_sound G ih hA I2 h2 hw) (fun f s3 r3 => ?_) (fun _ _ q => q.elim)
        obtain ⟨F3, x3, I3, r3⟩ := r3
        cases fl with
        | nx => exact absurd hw (e2 _)
        | ret v =>
          obtain ⟨y, rfl, r4⟩ := r3
          exact ⟨F3, (x1.trans (I1.extS x2)).trans x3, I3, y, rfl, r4⟩
    · cases hw

theorem VR.refF {h : Heap} {v : V} {b : Addr} (r : VR h F v (.ref b)) : F b := by
  cases v with
  | none => cases r
  | bool _ => cases r
  | int _ => obtain ⟨_, e⟩ := r; cases e
  | flt _ => obtain ⟨_, e, _⟩ := r; cases e
  | lst _ => unfold VR at r; obtain ⟨a, its, e, h, _⟩ := r; cases e; exact h
  | tup _ => unfold VR at r; obtain ⟨a, its, e, h, _⟩ := r; cases e; exact h
  | rng _ => unfold VR at r; obtain ⟨a, _, _, _, e, h, _⟩ := r; cases e; exact h

/-- the loop itself, an iterator in hand -/
theorem loop_sound (G : GOk g p) (ih : IHS g p n) (hA : AOk g n A) (I : Inv g sc env h₀ P F st s) {x : Str} {i : Nat} {p' : Pos} {body : List Stmt} {b : List Sm} {vs : List V} {y : Value} {v : V} {It : Addr} {o : Obj} {fp : List Addr} {Pi : Nat → Value → Prop} {St : Nat → Heap → Prop}
    (hx : sc.vars[i]? = some x) (hk : storable sc x) (hb : TSs g sc body b) (hl : forLoop (fun st => seq (ex p n) st b) i st vs = some (fl, st'))
    (hof : o.isFreed = false) (W : ItOk g.prog g.w A g.tabs F vs y s { s with heap := s.heap.push o } It fp Pi St) (eI : It = s.heap.objs.size) (hy : ∀ b, y = .ref b → F b) :
    codeAny (model g.prog g.w) A (.forLoop (.Name x p') (.ref It) body [] env) (fun r s' => match r with | .ok f => SRes g sc env h₀ P F s fl st' f s' | .error e => cameBackBy (model g.prog g.w) A env noE e s') { s with heap := s.heap.push o } := by
  have x0 : ExtF g.tabs F s F { s with heap := s.heap.push o } := .ofKeep I.ti (push_keep _ _) (Nat.le_refl _)
  have I0 := I.ext G.nt x0
  have ntI : NT g.tabs It := I.ti.notNew W.dead
  have nPI : ¬ P It := fun q => by obtain ⟨o, r⟩ := I.pal _ q; rw [W.dead] at r; cases r
  have nLI : It ≠ env.locals := fun q => by obtain ⟨m, o, _, _, r, _⟩ := I.fr; rw [← q, W.dead] at r; cases r
  have d0 : h₀.get? It = none := by
    cases q : h₀.get? It with
    | none => rfl
    | some o => obtain ⟨o', r⟩ := I.al0 It o ntI q; rw [W.dead] at r; cases r
  have kdc : ∀ j h ov, St j h → ¬ h.IsCell It ov := fun j h ov hst ⟨o, q1, q2⟩ => by obtain ⟨o', us, r1, r2⟩ := W.kd j h hst; rw [r1] at q1; cases q1; rw [r2] at q2; cases q2
  have kdp : ∀ j h its, St j h → ¬ PlainX h It its := fun j h its hst ⟨o, k, q1, _, _, q4⟩ => by obtain ⟨o', us, r1, r2⟩ := W.kd j h hst; rw [r1] at q1; cases q1; rw [r2] at q4; cases q4
  have nFI : ¬ F It := fun q => by obtain ⟨o, r⟩ := I.fal _ q; rw [W.dead] at r; cases r
  refine codeAny_forLoop (fun k s' => ∃ j F1 st1, ExtS g h₀ P F s F1 s' ∧ Inv g sc env h₀ P F1 st1 s' ∧ ¬ F1 It ∧ St j s'.heap ∧ j ≤ vs.length ∧ k = vs.length + 1 - j ∧ forLoop (fun st => seq (ex p n) st b) i st1 (vs.drop j) = some (fl, st'))
    ?_ (vs.length + 1) ⟨0, F, st, I.extS x0, I0, nFI, W.st, Nat.zero_le _, rfl, by simpa using hl⟩
  rintro k s1 ⟨j, F1, st1, x1, I1, nF1, hst, hj, hkk, hl1⟩
  by_cases hlt : j < vs.length
  · refine wpAny_with_toks (n := s1.toks) (Nat.le_refl _) (W.W.item j s1 _ _ hlt hst fun yv h' tk hP hst' hkp htk => ?_)
    dsimp only
    obtain ⟨o', us, q1, q2⟩ := W.kd j _ hst
    have mu : Mut1 g P F1 It s1 h' := ⟨nPI, nF1, ⟨o', q1, fun q => W.nc j _ q hst, fun fd q => by rw [q2] at q; cases q⟩, ntI, fun b o e q => hkp b o (by simpa using e) q⟩
    have I2 := (I1.touch mu (.inr d0) htk nLI (fun ov => kdc j _ ov hst) (fun its => kdp j _ its hst)).addP (a := It) (W.al _ _ hst') ntI nLI (fun ov => kdc _ _ ov hst') (fun its => kdp _ _ its hst')
    have x2 : ExtS g h₀ P F1 s1 F1 { s1 with heap := h', toks := tk } := mu.ext htk
    have x12 := x1.trans x2
    obtain ⟨vi, hvi, hvr⟩ := W.vals j yv hP
    have hvr2 : VR h' F1 vi yv := VR.mono x12.mono (fun b o e q => x12.keepF b o e q) hvr
    have hdr : vs.drop j = vi :: vs.drop (j + 1) := by
      rw [List.drop_eq_getElem_cons hlt]
      congr 1
      rw [List.getElem?_eq_getElem hlt] at hvi
      exact Option.some.inj hvi
    rw [hdr] at hl1
    refine wpAny_assign_Name (wpAny_mono (store_sound I2 hx hk (l' := .val vi) ⟨yv, rfl, hvr2⟩ (fun q => by cases q) (Q := fun _ s3 => Inv g sc env h₀ (fun b => P b ∨ b = It) F1 (st1.set i (.val vi)) s3 ∧ ExtS g h₀ (fun b => P b ∨ b = It) F1 { s1 with heap := h', toks := tk } F1 s3) fun s3 I3 x3 => ⟨I3, x3⟩) (fun _ s3 r3 => ?_) (fun _ _ q => q.elim))
    obtain ⟨I3, x3⟩ := r3
    have stk : ∀ F4 s4, ExtS g h₀ (fun b => P b ∨ b = It) F1 s3 F4 s4 → St (j + 1) s4.heap := fun F4 s4 x4 => W.W.frame _ _ _ hst' fun b hb o e => by
      rcases W.ref b hb with q | q
      · exact (x3.trans x4).keepP b o (.inr q) e
      · exact (x3.trans x4).keepF b o (x1.mono b (hy b q)) e
    unfold forLoop at hl1
    split at hl1
    · rename_i st2 e2
      refine wpAny_mono (seq_sound G ih hA I3 hb e2) (fun f s4 r4 => ?_) (fun _ _ q => q.elim)
      obtain ⟨F4, x4, I4, rfl⟩ := r4
      refine ⟨vs.length + 1 - (j + 1), by omega, j + 1, F4, st2, (x12.trans (x3.subP fun _ e => .inl e)).trans (x4.subP fun _ e => .inl e), I4.subP (fun _ e => .inl e) I.hgP, fun q => ?_, stk F4 s4 x4, hlt, rfl, hl1⟩
      exact (x4.new It q).elim nF1 fun ⟨_, _, q3, _⟩ => q3 (.inr rfl)
    · rename_i o2 e2
      refine wpAny_mono (seq_sound G ih hA I3 hb hl1) (fun f s4 r4 => ?_) (fun _ _ q => q.elim)
      obtain ⟨F4, x4, I4, r4⟩ := r4
      cases fl with
      | nx => exact absurd hl1 (e2 _)
      | ret v =>
        obtain ⟨z, rfl, r5⟩ := r4
        exact ⟨F4, (x12.trans (x3.subP fun _ e => .inl e)).trans (x4.subP fun _ e => .inl e), I4.subP (fun _ e => .inl e) I.hgP, z, rfl, r5⟩
  · have hjn : j = vs.length := by omega
    subst hjn
    rw [List.drop_length] at hl1
    cases hl1
    refine wpAny_with_toks (n := s1.toks) (Nat.le_refl _) (W.W.done s1 _ _ hst fun h' tk hkp htk => ?_)
    dsimp only
    obtain ⟨o', us, q1, q2⟩ := W.kd _ _ hst
    have mu : Mut1 g P F1 It s1 h' := ⟨nPI, nF1, ⟨o', q1, fun q => W.nc _ _ q hst, fun fd q => by rw [q2] at q; cases q⟩, ntI, fun b o e q => hkp b o (by simpa using e) q⟩
    have I2 := I1.touch mu (.inr d0) htk nLI (fun ov => kdc _ _ ov hst) (fun its => kdp _ _ its hst)
    exact wpAny_execs_nil ⟨F1, x1.trans (mu.ext htk), I2, rfl⟩

theorem for_sound (G : GOk g p) (ih : IHS g p n) (hA : AOk g n A) (I : Inv g sc env h₀ P F st s) {x : Str} {i : Nat} {p' pos : Pos} {it : Expr} {body : List Stmt} {c : Ex} {b : List Sm} {vs : List V} {v : V}
    (h1 : TE g sc it c) (hx : sc.vars[i]? = some x) (hk : storable sc x) (hb : TSs g sc body b) (hs : ∀ env v, foldedSetIterable it env v = pure v) (hv : ev p n st c = some v) (hi : items v = some vs)
    (hl : forLoop (fun st => seq (ex p n) st b) i st vs = some (fl, st')) :
    wpAny (model g.prog g.w) A (exec (.For (.Name x p') it body [] pos) env) (SRes g sc env h₀ P F s fl st') noE s := by
  refine wpAny_For (wpAny_mono (ih.e hA I.toInvE h1 hv) (fun y s1 r1 => ?_) fun _ _ q => q) (hs env)
  obtain ⟨F1, x1, r1⟩ := r1
  have I1 := I.ext G.nt x1
  refine iter_sound hA.hd I1.ti (r1.toL I1.fnt) I1.fnt hi fun It o fp Pi St hof W eI => ?_
  refine codeAny_mono (loop_sound (v := v) G ih hA I1 hx hk hb hl hof W eI fun b e => VR.refF (e ▸ r1)) fun r s2 r2 => ?_
  cases r with
  | ok f => exact SRes.pre (I.extS x1) r2
  | error e => exact r2
end
end Mine
end
section
namespace Mine
open PySem PySem.W PyProof.Rows

section
variable {g : Gx} {p : Prog} {n : Nat} {sc : Sc} {env : Env} {h₀ : Heap} {P F F' F'' F1 : Addr → Prop} {st st' : St} {s s' s'' s1 : Shared} {A : Around} {fl : Fl}

theorem PlainX.toL {h : Heap} {a : Addr} {its : Array Value} (x : PlainX h a its) : PlainL h a its := let ⟨o, n, e, c, d, dt⟩ := x; ⟨o, n, e, c, d.1, dt⟩

theorem Name_plain {x : Str} {p1 : Pos} (rest : List Expr) : starEach (.Name x p1 :: rest) env = (false, eval (.Name x p1) env) :: starEach rest env := rfl

theorem app_sound (G : GOk g p) (ih : IHS g p n) (hA : AOk g n A) (I : Inv g sc env h₀ P F st s) {x : Str} {i : Nat} {p1 ap pos spos : Pos} {e : Expr} {a : Ex} {v : V} {vs : List V} (h1 : TE g sc e a) (hx : sc.vars[i]? = some x) (hp : plainName x = true) (hl : (ap.endLine == pos.line) = true)
    (hg : getO st i = some vs) (hv : ev p n st a = some v) (hz : vs.length ≤ 100000) :
    wpAny (model g.prog g.w) A (exec (.Expr (.Call (.Attribute (.Name x p1) "append" ap) [e] [] pos) spos) env) (SRes g sc env h₀ P F s .nx (st.set i (.own (vs ++ [v])))) noE s := by
  unfold getO at hg
  split at hg
  · rename_i us hu
    cases hg
    obtain ⟨ov, r1, b, its, rfl, r2, r3⟩ := I.vars _ _ _ hx hu
    have ht : backTo pos (starEach [e] env) = [(false, eval e env)] := by rw [h1.plain]; rfl
    have hfew : ((backTo pos (starEach [e] env)).all (fun x => !x.1) && (backToKw pos (keywordEach [] env)).all (fun x => x.1.isSome) && decide (([e] : List Expr).length + ([] : List Keyword).length + (if ([] : List Keyword).isEmpty then 0 else 1) < 30)) = true := by rw [ht]; rfl
    have main : wpAny (model g.prog g.w) A (eval (.Call (.Attribute (.Name x p1) "append" ap) [e] [] pos) env) (fun _ => SRes g sc env h₀ P F s .nx (st.set i (.own (vs ++ [v]))) .next) noE s := by
      refine wpAny_Call_append rfl hfew hl ht (name_var (i := i) I.toInvE hp r1 ⟨b, its, rfl, r2.toL, wpAny_mono (ih.e hA I.toInvE h1 hv) (fun y s1 q1 => ?_) fun _ _ q => q⟩)
      obtain ⟨F1, x1, q1⟩ := q1
      have I1 := I.ext G.nt x1
      have r2' := plKeep r2 I.ti x1.keep
      obtain ⟨k, ex⟩ := r2'.exact
      have r3' := r3.ext x1 I.fnt
      have lsz := lists_of r3'
      refine wpAny_list_append_plain (items := its) ⟨k, ex⟩ (fun h' hpl hsb => ?_) (by rw [lsz]; exact Nat.le_trans hz (by decide))
      obtain ⟨k', ex'⟩ := hpl
      have r1' := r1.keep I.ti x1.keep
      obtain ⟨I2, x2⟩ := list_mut (tk := s1.toks) I1 hx hu rfl r1' (.inl ⟨_, rfl, rfl⟩) (vs' := vs ++ [v]) (PlainX.of ex') (by rw [Array.toList_push]; exact VRs.append r3' (VRs.cons q1 VRs.nil)) hsb (Nat.le_refl _)
      exact ⟨F1, (I.extS x1).trans x2, I2, rfl⟩
    exact wpAny_Expr_any main (by unfold interactive; rw [I.fn]; rfl) rfl
  · cases hg

theorem rev_sound (I : Inv g sc env h₀ P F st s) {x : Str} {i : Nat} {p1 ap pos spos : Pos} {vs : List V} (hx : sc.vars[i]? = some x) (hp : plainName x = true) (hl : (ap.endLine == pos.line) = true) (hg : getO st i = some vs) (hz : vs.length ≤ 100000) :
    wpAny (model g.prog g.w) A (exec (.Expr (.Call (.Attribute (.Name x p1) "reverse" ap) [] [] pos) spos) env) (SRes g sc env h₀ P F s .nx (st.set i (.own vs.reverse))) noE s := by
  unfold getO at hg
  split at hg
  · rename_i us hu
    cases hg
    obtain ⟨ov, r1, b, its, rfl, r2, r3⟩ := I.vars _ _ _ hx hu
    obtain ⟨k, ex⟩ := r2.exact
    have lsz := lists_of r3
    have main : wpAny (model g.prog g.w) A (eval (.Call (.Attribute (.Name x p1) "reverse" ap) [] [] pos) env) (fun _ => SRes g sc env h₀ P F s .nx (st.set i (.own vs.reverse)) .next) noE s := by
      refine wpAny_Call_method rfl rfl hl PySem.F.plainAttrs_list PySem.F.slot_list_reverse PySem.F.type_list_reverse (name_var (i := i) I.toInvE hp r1 ⟨r2.isList.typeIs, fun a q => by cases q; exact ⟨_, ex, rfl⟩, PyProof.Rows.callWith_method0 ?_⟩)
      refine call_meets PySem.F.slot_list_reverse r2.isList.typeIs PySem.F.entry_list_reverse (PySem.F.args_list_reverse_1 _) (AutoListH.list_reverse_list_0 b its k (by rw [lsz]; exact Nat.le_trans hz (by decide))) ⟨ex, ?_⟩
      have hsz : (its.reverse.size == its.size) = true := by simp
      have ex' : (s.heap.update b (Obj.mapSeq fun x => x.reverse)).get? b = some { cls := .type "list", dict := none, data := .seq its.reverse k, slots := #[] } := by
        rw [Heap.get?_update_self _ ex rfl]
        simp [Obj.mapSeq]
      obtain ⟨I2, x2⟩ := list_mut (tk := s.toks) I hx hu rfl r1 (.inl ⟨_, rfl, rfl⟩) (vs' := vs.reverse) (PlainX.of ex') (by rw [Array.toList_reverse]; exact r3.reverse) (Heap.SameBut.update ..) (Nat.le_refl _)
      exact ⟨F, x2, I2, rfl⟩
    exact wpAny_Expr_any main (by unfold interactive; rw [I.fn]; rfl) rfl
  · cases hg
end
end Mine
end
section
namespace Mine
open PySem PySem.W PyProof.Rows

section
variable {g : Gx} {p : Prog} {n : Nat} {sc : Sc} {env : Env} {h₀ : Heap} {P F F' F'' F1 : Addr → Prop} {st st' : St} {s s' s'' s1 : Shared} {A : Around} {fl : Fl}

theorem setItem_X {l : Addr} {its : Array Value} {k : Int} {t : Tok} {v : Value} {E : Value → Shared → Prop} {Q : Unit → Shared → Prop} (hl : PlainX s.heap l its) (h0 : 0 ≤ k) (hfit : k < 2 ^ 63) (hn : k < its.size)
    (hQ : ∀ h', PlainX h' l (its.setIfInBounds k.toNat v) → Heap.SameBut l s.heap h' → Q () { s with heap := h' }) :
    wpAny (model g.prog g.w) A (setItem (.ref l) (.int k t) v) Q E s := by
  obtain ⟨ne, ho⟩ := hl.exact
  have hL := hl.isList
  unfold setItem
  try with_reducible refine wpAny_holding ?_
  first | refine wpAny_bind (wpAny_pure ?_) | skip
  refine wpAny_bind (wpAny_sequenceKey hL.typeIs (by decide) ?_)
  refine wpAny_bind (wpAny_callSpecial?_slot (name := Str.ofString "__setitem__") hL.typeIs PySem.F.slot_list_setitem
    (wpAny_call_entry PySem.F.slot_list_setitem hL.typeIs PySem.F.entry_list_setitem ?_ (PySem.F.args_list_setitem_3 _ _ _)))
  show wpAny _ _ (Builtin.List.listSubscript? (.int k t) >>= _) _ _ s
  refine wpAny_bind (wpAny_listSubscript_int (fitsIndex_of h0 hfit) ?_)
  clear hfit
  obtain ⟨j, rfl⟩ := Int.eq_ofNat_of_zero_le h0
  have hj : j < its.size := by omega
  have hx' : its[j]? = some its[j] := Array.getElem?_eq_getElem hj
  show wpAny _ _ ((seqItemAt l j >>= fun r => pure (r.map (j, ·))) >>= _) _ _ s
  refine wpAny_bind (wpAny_bind (wpAny_seqItemAt ho rfl (wpAny_pure ?_)))
  rw [hx']
  show wpAny _ _ (setSeqItemAt l j v >>= _) _ _ s
  have ex' : (s.heap.update l (Obj.mapSeq (·.setIfInBounds j v))).get? l = some { cls := .type "list", dict := none, data := .seq (its.setIfInBounds j v) ne, slots := #[] } := by
    rw [Heap.get?_update_self _ ho rfl]
    simp [Obj.mapSeq]
  refine wpAny_bind (wpAny_setSeqItemAt ho rfl ?_)
  first
    | exact wpAny_bind (wpAny_pure (wpAny_pure ⟨.none, rfl, wpAny_pure (hQ _ (PlainX.of ex') (Heap.SameBut.update ..))⟩))
    | exact wpAny_pure ⟨.none, rfl, wpAny_pure (hQ _ (PlainX.of ex') (Heap.SameBut.update ..))⟩

theorem seti_sound (G : GOk g p) (ih : IHS g p n) (hA : AOk g n A) (I : Inv g sc env h₀ P F st s) {x : Str} {i : Nat} {p1 p2 pos : Pos} {ix e : Expr} {b a : Ex} {v : V} {vs : List V} {mk : List V → Loc} {k : Int} (h1 : TE g sc e a) (h2 : TE g sc ix b)
    (hx : sc.vars[i]? = some x) (hp : plainName x = true) (hs : ∀ env, swapsWith e (some (.Subscript (.Name x p1) ix p2)) pos.line env = pure false)
    (hg : getB st i = some (vs, mk)) (hk : ev p n st b = some (.int k)) (hv : ev p n st a = some v) (h0 : 0 ≤ k) (hlt : k < vs.length) (hsm : small k = true) :
    wpAny (model g.prog g.w) A (exec (.Assign [.Subscript (.Name x p1) ix p2] e pos) env) (SRes g sc env h₀ P F s .nx (st.set i (mk (vs.set k.toNat v)))) noE s := by
  have hb : k.natAbs < 2 ^ 60 := of_decide_eq_true hsm
  have : ∃ l, st[i]? = some l ∧ isOwnL l = true ∧ ((∃ us, l = .own us ∧ mk (vs.set k.toNat v) = .own (vs.set k.toNat v)) ∨ (∃ us, l = .bor us ∧ mk (vs.set k.toNat v) = .bor (vs.set k.toNat v))) ∧
      ∀ F h ov, LocR g env F h l ov → ∃ a its, ov = some (.ref a) ∧ PlainX h a its ∧ VRs h F vs its.toList := by
    unfold getB at hg
    split at hg
    · rename_i us hu
      cases hg
      exact ⟨_, hu, rfl, .inl ⟨_, rfl, rfl⟩, fun F h ov r => r⟩
    · rename_i us hu
      cases hg
      exact ⟨_, hu, rfl, .inr ⟨_, rfl, rfl⟩, fun F h ov r => r⟩
    · cases hg
  obtain ⟨l, hl, hol, hmk, hloc⟩ := this
  refine wpAny_Assign_Subscript (wpAny_mono (ih.e hA I.toInvE h1 hv) (fun y s1 r1 => ?_) fun _ _ q => q) (hs env)
  obtain ⟨F1, x1, r1⟩ := r1
  have I1 := I.ext G.nt x1
  obtain ⟨ov, q1, q2⟩ := I1.vars _ _ _ hx hl
  obtain ⟨c, its, rfl, q3, q4⟩ := hloc _ _ _ q2
  refine name_var (i := i) I1.toInvE hp q1 (wpAny_mono (ih.e hA I1.toInvE h2 hk) (fun z s2 r2 => ?_) fun _ _ q => q)
  obtain ⟨F2, x2, t, rfl⟩ := r2
  have I2 := I1.ext G.nt x2
  have q3' := plKeep q3 I1.ti x2.keep
  have q4' := q4.ext x2 I1.fnt
  have lsz := lists_of q4'
  refine setItem_X q3' h0 (by omega) (by rw [lsz]; exact hlt) fun h' hp' hsb => ?_
  obtain ⟨I3, x3⟩ := list_mut (tk := s2.toks) I2 hx hl hol (q1.keep I1.ti x2.keep) hmk hp' (by rw [Array.toList_setIfInBounds]; exact q4'.set _ (r1.ext x2 I1.fnt)) hsb (Nat.le_refl _)
  exact ⟨F2, ((I.extS x1).trans (I1.extS x2)).trans x3, I3, rfl⟩
theorem TE.augOk {e : Expr} {x : Ex} (h : TE g sc e x) (ov iv new : Value) : augStore e ov iv new = (do holding [new, ov, iv] (setItem ov iv new); release [new, ov, iv] []; pure .next) := by
  induction h using TE.casesOn <;> rfl
theorem augi_sound (G : GOk g p) (ih : IHS g p n) (hA : AOk g n A) (I : Inv g sc env h₀ P F st s) {x : Str} {i : Nat} {p1 p2 pos : Pos} {ix e : Expr} {b a : Ex} {vs : List V} {k m c : Int} (h1 : TE g sc e a) (h2 : TE g sc ix b)
    (hx : sc.vars[i]? = some x) (hp : plainName x = true) (hg : getO st i = some vs) (hk : ev p n st b = some (.int k)) (hv : ev p n st a = some (.int m)) (h0 : 0 ≤ k) (hlt : k < vs.length) (hsm : small k = true) (hc : vs[k.toNat]? = some (.int c)) :
    wpAny (model g.prog g.w) A (exec (.AugAssign (.Subscript (.Name x p1) ix p2) .Add e pos) env) (SRes g sc env h₀ P F s .nx (st.set i (.own (vs.set k.toNat (.int (c + m)))))) noE s := by
  have hb : k.natAbs < 2 ^ 60 := of_decide_eq_true hsm
  unfold getO at hg
  split at hg
  · rename_i us hu
    cases hg
    obtain ⟨ov, r1, d, its, rfl, r2, r3⟩ := I.vars _ _ _ hx hu
    refine wpAny_AugAssign_Subscript_any (name_var (i := i) I.toInvE hp r1 (wpAny_mono (ih.e hA I.toInvE h2 hk) (fun z s1 q1 => ?_) fun _ _ q => q)) (h2.augOk)
    obtain ⟨F1, x1, t, rfl⟩ := q1
    have I1 := I.ext G.nt x1
    have r2' := plKeep r2 I.ti x1.keep
    have r3' := r3.ext x1 I.fnt
    obtain ⟨w, e1, t2, rfl⟩ := r3'.get hc
    refine wpAny_getItem_list r2'.isList h0 (by omega) (by simpa using e1) (wpAny_mono (ih.e hA I1.toInvE h1 hv) (fun z s2 q2 => ?_) fun _ _ q => q)
    obtain ⟨F2, x2, t3, rfl⟩ := q2
    refine PyProof.Rows.iadd_int ?_
    have x3 : ExtF g.tabs F1 s1 F2 { s2 with toks := s2.toks + 1 } := x2.trans (.ofKeep x2.ti (fun _ _ e => e) (Nat.le_succ _))
    have I3 := I1.ext G.nt x3
    have r2'' := plKeep r2' I1.ti x3.keep
    have r3'' := r3'.ext x3 I1.fnt
    have lsz := lists_of r3''
    refine setItem_X r2'' h0 (by omega) (by rw [lsz]; exact hlt) fun h' hp' hsb => ?_
    obtain ⟨I4, x4⟩ := list_mut (tk := s2.toks + 1) I3 hx hu rfl ((r1.keep I.ti x1.keep).keep I1.ti x3.keep) (.inl ⟨_, rfl, rfl⟩) hp' (by rw [Array.toList_setIfInBounds]; exact r3''.set _ (v := .int (c + m)) ⟨_, rfl⟩) hsb (Nat.le_refl _)
    exact ⟨F2, ((I.extS x1).trans (I1.extS x3)).trans x4, I4, rfl⟩
  · cases hg
end
end Mine
end
section
namespace Mine
open PySem PySem.W PyProof.Rows

section
variable {g : Gx} {p : Prog} {n : Nat} {sc : Sc} {env : Env} {h₀ : Heap} {P F F' F'' F1 : Addr → Prop} {st st' : St} {s s' s'' s1 : Shared} {A : Around} {fl : Fl}

theorem names_each : ∀ {ts : List Expr} {is : List Nat}, TN sc ts is → (assignEach ts env).length = is.length ∧ (assignEach ts env).findIdx? (·.1) = none
  | _, _, .nil => ⟨rfl, rfl⟩
  | _, _, .cons _ _ h => by
    obtain ⟨a, b⟩ := names_each h
    constructor
    · show (assignEach _ env).length + 1 = _
      rw [a]; rfl
    · show (((false, _) :: assignEach _ env : List (Bool × (Value → Sem Unit))).findIdx? (·.1)) = none
      rw [List.findIdx?_cons]
      simp [b]

theorem names_sound : ∀ {ts : List Expr} {is : List Nat} {vs : List V} {ys : List Value} {st : St} {s : Shared} {st' : St}, TN sc ts is → Inv g sc env h₀ P F st s → VRs s.heap F vs ys → setAll st is vs = some st' →
    wpAny (model g.prog g.w) A (assignInOrder ((assignEach ts env).map (·.2)) ys) (fun _ s' => ExtS g h₀ P F s F s' ∧ Inv g sc env h₀ P F st' s') noE s
  | _, _, [], _, st, s, st', .nil, I, r, h => by
    unfold VRs at r; subst r
    cases h
    exact wpAny_pure ⟨ExtS.refl, I⟩
  | _, _, _ :: _, _, st, s, st', .nil, I, r, h => by simp [setAll] at h
  | _, _, [], _, st, s, st', .cons _ _ _, I, r, h => by simp [setAll] at h
  | _, _, v :: vs, _, st, s, st', .cons hx hk ht, I, r, h => by
    unfold VRs at r
    obtain ⟨y, ys, rfl, r1, r2⟩ := r
    simp only [setAll] at h
    show wpAny _ A (assignInOrder (assign (.Name _ _) env :: (assignEach _ env).map (·.2)) (y :: ys)) _ _ s
    refine wpAny_bind (wpAny_holding (wpAny_assign_Name (store_sound I hx hk (l' := .val v) ⟨y, rfl, r1⟩ (fun q => by cases q) fun s2 I2 x2 => ?_)))
    exact wpAny_mono (names_sound ht I2 (VRs.mono (fun _ e => e) (fun b o e q => x2.keepF b o e q) r2) h) (fun _ s3 q => ⟨x2.trans q.1, q.2⟩) fun _ _ q => q

theorem deadExt (ti : TI g.tabs s.heap) {h' : Heap} (h : Heap.ExtBut s.heap.objs.size s.heap h') : ExtF g.tabs F s F { s with heap := h' } :=
  .ofKeep ti (fun b o e => h b o (Nat.ne_of_lt (Heap.lt_size e)) e) (Nat.le_refl _)

theorem unp_sound (G : GOk g p) (ih : IHS g p n) (hA : AOk g n A) (I : Inv g sc env h₀ P F st s) {ts : List Expr} {is : List Nat} {k : Nat} {q pos : Pos} {e : Expr} {a : Ex} {vs : List V} (ht : TN sc ts is) (h1 : TE g sc e a)
    (hs : ∀ env, EnvOf sc env → swapsWithSole [.Tuple ts k q] e pos.line env = pure false) (hw : ∀ env, EnvOf sc env → swappedStores [.Tuple ts k q] e env = pure none) (hv : ev p n st a = some (.tup vs)) (hset : setAll st is vs = some st') :
    wpAny (model g.prog g.w) A (exec (.Assign [.Tuple ts k q] e pos) env) (SRes g sc env h₀ P F s .nx st') noE s := by
  refine wpAny_Assign_stores (wpAny_mono (ih.e hA I.toInvE h1 hv) (fun y s1 r1 => ?_) fun _ _ q => q) (hs env ⟨I.kind, I.fn⟩) (hw env ⟨I.kind, I.fn⟩)
  obtain ⟨F1, x1, r1⟩ := r1
  unfold VR at r1
  obtain ⟨b, its, rfl, hb, hT, hr⟩ := r1
  have I1 := I.ext G.nt x1
  have hlen : ∀ {is : List Nat} {vs : List V} {st st' : St}, setAll st is vs = some st' → is.length = vs.length := by
    intro is
    induction is with
    | nil => intro vs st st' h; cases vs with | nil => rfl | cons _ _ => simp [setAll] at h
    | cons i is ih => intro vs st st' h; cases vs with | nil => simp [setAll] at h | cons _ _ => simp only [setAll] at h; simp [ih h]
  obtain ⟨n1, n2⟩ := names_each (env := env) ht
  show wpAny _ A (assign (.Tuple ts k q) env (.ref b)) _ _ s1
  refine wpAny_assign_Tuple hA.hd hT (by rw [n1, hlen hset, lists_of hr]) n2 fun h' hx => ?_
  have x2 : ExtF g.tabs F1 s1 F1 { s1 with heap := h' } := deadExt x1.ti hx
  have I2 := I1.ext G.nt x2
  exact wpAny_mono (names_sound ht I2 (hr.ext x2 I1.fnt) hset) (fun _ s3 q => ⟨F1, (I.extS (x1.trans x2)).trans q.1, q.2, rfl⟩) fun _ _ q => q
end
end Mine
end
section
namespace Mine
open PySem PySem.W PyProof.Rows

section
variable {g : Gx} {p : Prog} {n : Nat} {sc : Sc} {env : Env} {h₀ : Heap} {P F F' F'' F1 : Addr → Prop} {st st' : St} {s s' s'' s1 : Shared} {A : Around} {fl : Fl}

theorem TM.len : ∀ {ns : List Str} {is : List Nat}, TM sc ns is → ns.length = is.length
  | _, _, .nil => rfl
  | _, _, .cons _ _ h => by simp [TM.len h]
theorem TM.append : ∀ {ns ms : List Str} {is js : List Nat}, TM sc ns is → TM sc ms js → TM sc (ns ++ ms) (is ++ js)
  | _, _, _, _, .nil, h => h
  | _, _, _, _, .cons a b c, h => .cons a b (TM.append c h)
theorem TM.reverse : ∀ {ns : List Str} {is : List Nat}, TM sc ns is → TM sc ns.reverse is.reverse
  | _, _, .nil => .nil
  | _, _, .cons a b c => by
    rw [List.reverse_cons, List.reverse_cons]
    exact TM.append (TM.reverse c) (.cons a b .nil)

theorem setAll_len : ∀ {is : List Nat} {vs : List V} {st st' : St}, setAll st is vs = some st' → is.length = vs.length := by
  intro is
  induction is with
  | nil => intro vs st st' h; cases vs with | nil => rfl | cons _ _ => simp [setAll] at h
  | cons i is ih => intro vs st st' h; cases vs with | nil => simp [setAll] at h | cons _ _ => simp only [setAll] at h; simp [ih h]

theorem binds_sound : ∀ {ts : List Str} {is : List Nat} {vs : List V} {ys : List Value} {st : St} {s : Shared} {st' : St}, TM sc ts is → Inv g sc env h₀ P F st s → VRs s.heap F vs ys → setAll st is vs = some st' →
    wpAny (model g.prog g.w) A (assignInOrder (ts.map fun n => bindName env n) ys) (fun _ s' => ExtS g h₀ P F s F s' ∧ Inv g sc env h₀ P F st' s') noE s
  | _, _, [], _, st, s, st', .nil, I, r, h => by
    unfold VRs at r; subst r
    cases h
    exact wpAny_pure ⟨ExtS.refl, I⟩
  | _, _, _ :: _, _, st, s, st', .nil, I, r, h => by simp [setAll] at h
  | _, _, [], _, st, s, st', .cons _ _ _, I, r, h => by simp [setAll] at h
  | _, _, v :: vs, _, st, s, st', .cons hx hk ht, I, r, h => by
    unfold VRs at r
    obtain ⟨y, ys, rfl, r1, r2⟩ := r
    simp only [setAll] at h
    show wpAny _ A (assignInOrder (bindName env _ :: List.map (fun n => bindName env n) _) (y :: ys)) _ _ s
    refine wpAny_bind (wpAny_holding (wpAny_bindName (store_sound I hx hk (l' := .val v) ⟨y, rfl, r1⟩ (fun q => by cases q) fun s2 I2 x2 => ?_)))
    exact wpAny_mono (binds_sound ht I2 (VRs.mono (fun _ e => e) (fun b o e q => x2.keepF b o e q) r2) h) (fun _ s3 q => ⟨x2.trans q.1, q.2⟩) fun _ _ q => q

theorem asgs_sound (G : GOk g p) (ih : IHS g p n) (hA : AOk g n A) (I : Inv g sc env h₀ P F st s) {ts : List Expr} {is : List Nat} {names : List Str} {k k2 : Nat} {q q2 pos : Pos} {es : List Expr} {xs : List Ex} {vs : List V} (ht : TM sc names is) (h1 : TEs g sc es xs)
    (hs : ∀ env, EnvOf sc env → swapsWithSole [.Tuple ts k q] (.Tuple es k2 q2) pos.line env = pure false) (hw : ∀ env, EnvOf sc env → swappedStores [.Tuple ts k q] (.Tuple es k2 q2) env = pure (some names))
    (hl : xs.length ≤ 1000) (hv : mapO (ev p n st) xs = some vs) (hset : setAll st is.reverse vs.reverse = some st') :
    wpAny (model g.prog g.w) A (exec (.Assign [.Tuple ts k q] (.Tuple es k2 q2) pos) env) (SRes g sc env h₀ P F s .nx st') noE s := by
  refine Assign_Tuple_swapped (wpAny_mono (tup_sound G ih.toIH hA I.toInvE h1 hl hv) (fun y s1 r1 => ?_) fun _ _ q => q) (hs env ⟨I.kind, I.fn⟩) (hw env ⟨I.kind, I.fn⟩)
  obtain ⟨F1, x1, r1⟩ := r1
  unfold VR at r1
  obtain ⟨b, its, rfl, hb, hT, hr⟩ := r1
  have I1 := I.ext G.nt x1
  have e1 : names.length = its.size := by
    rw [lists_of hr, ht.len]
    have := setAll_len hset
    simpa using this
  rw [e1]
  refine unpackItems_tuple hA.hd hT fun h' hx => ?_
  have x2 : ExtF g.tabs F1 s1 F1 { s1 with heap := h' } := deadExt x1.ti hx
  have I2 := I1.ext G.nt x2
  exact wpAny_mono (binds_sound ht.reverse I2 (hr.ext x2 I1.fnt).reverse hset) (fun _ s3 q => ⟨F1, (I.extS (x1.trans x2)).trans q.1, q.2, rfl⟩) fun _ _ q => q

/-- displays of no item, one after the other -/
theorem nils_spliced {E : Value → Shared → Prop} : ∀ {es : List Expr} {s : Shared} {pos : Pos}, (∀ e ∈ es, ∃ p, e = Expr.List [] p) →
    wpAny (model g.prog g.w) A (spliced (backTo pos (starEach es env))) (fun ys s' => ∃ as : List Addr, ys = as.map Value.ref ∧ as.length = es.length ∧ as.Nodup ∧ (∀ b o, s.heap.get? b = some o → s'.heap.get? b = some o) ∧
      (∀ a ∈ as, s.heap.get? a = none ∧ PlainX s'.heap a #[]) ∧ s' = { s with heap := s'.heap }) E s
  | [], s, pos, _ => wpAny_items_nil ⟨[], rfl, rfl, List.nodup_nil, fun _ _ e => e, fun _ h => (nomatch h), rfl⟩
  | e :: r, s, pos, h => by
    obtain ⟨q, rfl⟩ := h e (List.mem_cons_self ..)
    refine wpAny_items_cons (wpAny_List_spliced (wpAny_items_nil ⟨by decide, ?_⟩)) rfl
    have hp : PlainX (s.heap.push { cls := .type "list", data := .seq (List.toArray []) }) s.heap.objs.size #[] := ⟨_, _, Heap.get?_push_size _ rfl, rfl, ⟨rfl, rfl⟩, rfl⟩
    refine wpAny_mono (nils_spliced (es := r) fun e he => h e (List.mem_cons_of_mem _ he)) (fun ys s2 r2 => ?_) fun _ _ q => q
    obtain ⟨as, rfl, h2, h3, h4, h5, h6⟩ := r2
    refine ⟨s.heap.objs.size :: as, rfl, by simp [h2], List.nodup_cons.mpr ⟨fun hm => ?_, h3⟩, fun b o e => h4 b o (Heap.get?_push_of_some _ e), fun a ha => ?_, h6⟩
    · have := (h5 _ hm).1
      obtain ⟨o, k, e, _⟩ := hp
      rw [e] at this; cases this
    · rcases List.mem_cons.mp ha with rfl | ha
      · obtain ⟨o, k, e, e2⟩ := hp
        exact ⟨dead_size _, o, k, h4 _ _ e, e2⟩
      · refine ⟨?_, (h5 a ha).2⟩
        cases q : s.heap.get? a with
        | none => rfl
        | some o => have := (h5 a ha).1; rw [Heap.get?_push_of_some _ q] at this; cases this

theorem nilsto_sound : ∀ {ts : List Str} {is : List Nat} {as : List Addr} {st : St} {s : Shared}, TM sc ts is → as.length = is.length → as.Nodup → Inv g sc env h₀ P F st s →
    (∀ a ∈ as, ¬ F a ∧ ¬ P a ∧ h₀.get? a = none ∧ PlainX s.heap a #[] ∧ ∀ (j : Nat) (z : Str) (l : Loc), sc.vars[j]? = some z → st[j]? = some l → isOwnL l = true → ¬ Slot env s.heap z (some (.ref a))) →
    wpAny (model g.prog g.w) A (assignInOrder (ts.map fun n => bindName env n) (as.map Value.ref)) (fun _ s' => ExtS g h₀ P F s F s' ∧ Inv g sc env h₀ P F (setNils st is) s') noE s
  | _, _, [], st, s, .nil, _, _, I, _ => wpAny_pure ⟨ExtS.refl, I⟩
  | _, _, _ :: _, st, s, .nil, h, _, I, _ => by simp at h
  | _, _, [], st, s, .cons _ _ _, h, _, I, _ => by simp at h
  | _, _, a :: as, st, s, .cons (i := i) hx hk ht, hlen, nd, I, ok => by
    obtain ⟨n1, n2, n3, hp, n4⟩ := ok a (List.mem_cons_self ..)
    obtain ⟨nd1, nd2⟩ := List.nodup_cons.mp nd
    show wpAny _ A (assignInOrder (bindName env _ :: List.map (fun n => bindName env n) _) (.ref a :: as.map Value.ref)) _ _ s
    refine wpAny_bind (wpAny_holding (wpAny_bindName (store_soundX I hx hk (l' := .own []) ⟨a, #[], rfl, hp, VRs.nil⟩ (fun _ b e => by cases e; exact ⟨n1, n2, fun _ => n3, fun j z l hj h1 h2 h3 => n4 j z l h1 h2 h3⟩) fun s2 I2 x2 hpl hsl hsx => ?_)))
    refine wpAny_mono (nilsto_sound ht (by simpa using hlen) nd2 I2 fun b hb => ?_) (fun _ s3 q => ⟨x2.trans q.1, q.2⟩) fun _ _ q => q
    obtain ⟨m1, m2, m3, mp, m4⟩ := ok b (List.mem_cons_of_mem _ hb)
    refine ⟨m1, m2, m3, hpl _ _ mp, fun j z l h1 h2 h3 u => ?_⟩
    by_cases hj : j = i
    · subst hj
      rw [hx] at h1; cases h1
      have := u.det hsx
      cases this
      exact nd1 hb
    · rw [List.getElem?_set, if_neg (fun q => hj q.symm)] at h2
      obtain ⟨ov, r1, _⟩ := I.vars j z l h1 h2
      have := (hsl j z ov hj h1 r1).det u
      subst this
      exact m4 j z l h1 h2 h3 r1

theorem asgso_nils (G : GOk g p) (hA : AOk g n A) (I : Inv g sc env h₀ P F st s) {ts : List Expr} {is : List Nat} {names : List Str} {k k2 : Nat} {q q2 pos : Pos} {es : List Expr} (ht : TM sc names is) (hle : es.length = is.length) (he : ∀ e ∈ es, ∃ p, e = Expr.List [] p)
    (hs : ∀ env, EnvOf sc env → swapsWithSole [.Tuple ts k q] (.Tuple es k2 q2) pos.line env = pure false) (hw : ∀ env, EnvOf sc env → swappedStores [.Tuple ts k q] (.Tuple es k2 q2) env = pure (some names))
    (hl : is.length ≤ 1000) :
    wpAny (model g.prog g.w) A (exec (.Assign [.Tuple ts k q] (.Tuple es k2 q2) pos) env) (SRes g sc env h₀ P F s .nx (setNils st is.reverse)) noE s := by
  refine Assign_Tuple_swapped (wpAny_Tuple_spliced (wpAny_mono (nils_spliced he) (fun ys s1 r1 => ?_) fun _ _ q => q)) (hs env ⟨I.kind, I.fn⟩) (hw env ⟨I.kind, I.fn⟩)
  obtain ⟨as, rfl, hlen, hnd, hkeep, hpl, hsh⟩ := r1
  have x1 : ExtF g.tabs F s F s1 := by
    rw [hsh]
    exact .ofKeep I.ti hkeep (Nat.le_refl _)
  have I1 := I.ext G.nt x1
  refine ⟨by rw [List.length_map, hlen, hle]; exact Nat.le_trans hl (by decide), ?_⟩
  have x2 : ExtF g.tabs F s1 F { s1 with heap := s1.heap.push { cls := .type "tuple", data := .seq (as.map Value.ref).toArray } } := .ofKeep I1.ti (push_keep _ _) (Nat.le_refl _)
  have I2 := I1.ext G.nt x2
  have e1 : names.length = (as.map Value.ref).toArray.size := by simp [ht.len, hlen, hle]
  rw [e1]
  refine unpackItems_tuple hA.hd ⟨_, Heap.get?_push_size _ rfl, rfl, _, rfl⟩ fun h' hx => ?_
  have x3 := deadExt (F := F) x2.ti hx
  have I3 := I2.ext G.nt x3
  have x13 := (x1.trans x2).trans x3
  rw [List.toList_toArray, ← List.map_reverse]
  refine wpAny_mono (nilsto_sound ht.reverse (by simp [hlen, hle]) (List.pairwise_reverse.mpr (hnd.imp Ne.symm)) I3 fun a ha => ?_) (fun _ s3 q => ⟨F, (I.extS x13).trans q.1, q.2, rfl⟩) fun _ _ q => q
  obtain ⟨hd, hp⟩ := hpl a (List.mem_reverse.mp ha)
  have hnt := I.ti.notNew hd
  obtain ⟨m1, m2, m3, m4⟩ := OwnNew.fresh (i := sc.vars.length) (vs := []) I x13 hd (fun q => by obtain ⟨o, r⟩ := I.fal _ q; rw [hd] at r; cases r) hnt rfl a rfl
  refine ⟨m1, m2, m3 ⟨_, rfl⟩, ?_, fun j z l h1 h2 h3 => m4 j z l (Nat.ne_of_lt (List.getElem?_eq_some_iff.mp h1).1) h1 h2 h3⟩
  obtain ⟨o, k, e, e2⟩ := hp
  exact ⟨o, k, x3.keep _ _ hnt (x2.keep _ _ hnt e), e2⟩

theorem forr_sound (G : GOk g p) (ih : IHS g p n) (hA : AOk g n A) (I : Inv g sc env h₀ P F st s) {x : Str} {i : Nat} {p' p2 p3 pos : Pos} {it : Expr} {body : List Stmt} {c : Ex} {b : List Sm} {vs : List V}
    (h1 : TE g sc it c) (hrev : sc.kinds "reversed" = some .globalImplicit) (hx : sc.vars[i]? = some x) (hk : storable sc x) (hb : TSs g sc body b) (hv : ev p n st c = some (.lst vs))
    (hl : forLoop (fun st => seq (ex p n) st b) i st vs.reverse = some (fl, st')) :
    wpAny (model g.prog g.w) A (exec (.For (.Name x p') (.Call (.Name "reversed" p2) [it] [] p3) body [] pos) env) (SRes g sc env h₀ P F s fl st') noE s := by
  refine wpAny_For (wpAny_Call_NameR (name_glob G I.toInvE hrev (by decide) (by rw [G.revT.1]; exact G.revT.2) ?_)) (fun _ => rfl)
  refine biCall (.inr ⟨_, rfl⟩) (wpAny_mono (items_sound G ih.toIH hA I.toInvE (.cons h1 .nil) (vs := [.lst vs]) (by simp [mapO, hv])) (fun ys s1 r1 => ?_) fun _ _ q => q) (h1.plain _ _) rfl
  obtain ⟨F1, x1, r1⟩ := r1
  have I1 := I.ext G.nt x1
  unfold VRs at r1
  obtain ⟨y, t, rfl, r1, rt⟩ := r1
  unfold VRs at rt; subst rt
  unfold VR at r1
  obtain ⟨l, its, rfl, hFl, hL, hr⟩ := r1
  refine call_reversed_list hL ?_
  have hd := dead_size s1.heap
  have hnt := I1.ti.notNew hd
  have ne : l ≠ s1.heap.objs.size := by obtain ⟨o, e, _⟩ := hL; exact Nat.ne_of_lt (Heap.lt_size e)
  have hlen : its.size = vs.length := lists_of hr
  have hit : (s1.heap.push (revObj l ((its.size : Int) - 1))).IsRevIter s1.heap.objs.size l ((its.size : Int) - 1) := ⟨_, Heap.get?_push_size _ rfl, rfl, rfl⟩
  refine wpAny_pyIter_revIter (s := { s1 with heap := s1.heap.push (revObj l ((its.size : Int) - 1)) }) hit ?_
  have W := Walks.listRev (prog := g.prog) (w := g.w) hA.hd s1.heap.objs.size l ne its
  have W2 : Walks g.prog g.w A s1.heap.objs.size [s1.heap.objs.size, l] [s1.heap.objs.size] its.size (fun i v => i < its.size ∧ its[its.size - 1 - i]? = some v) (fun i h => i ≤ its.size ∧ h.IsRevIter s1.heap.objs.size l ((its.size : Int) - 1 - (i : Int)) ∧ h.IsList l its) :=
    { sub := W.sub, frame := W.frame, item := fun i s Q E hi x hQ => W.item i s Q E hi x fun v h' tk hP => hQ v h' tk ⟨hi, hP⟩, done := W.done, self := W.self }
  rw [show Walks g.prog g.w A s1.heap.objs.size [s1.heap.objs.size, l] [s1.heap.objs.size] its.size = Walks g.prog g.w A s1.heap.objs.size [s1.heap.objs.size, l] [s1.heap.objs.size] vs.reverse.length by rw [List.length_reverse, hlen]] at W2
  refine codeAny_mono (loop_sound (v := .lst vs) (y := .ref l) G ih hA I1 hx hk hb hl (o := revObj l ((its.size : Int) - 1)) rfl ⟨W2, ⟨Nat.zero_le _, by simpa using hit, ?_⟩, ?_, ?_, hd, ?_, ?_, ?_, ?_, ?_, ?_⟩ rfl fun b e => by cases e; exact hFl) fun r s2 r2 => ?_
  · obtain ⟨o, e, r⟩ := hL
    exact ⟨o, Heap.get?_push_of_some _ e, r⟩
  · intro b hb
    show b < (s1.heap.push _).objs.size
    rw [Heap.size_push]
    simp only [List.mem_cons, List.not_mem_nil, or_false] at hb
    rcases hb with rfl | rfl
    · exact Nat.lt_succ_self _
    · obtain ⟨o, e, _⟩ := hL
      exact Nat.lt_succ_of_lt (Heap.lt_size e)
  · intro b hb
    simp only [List.mem_cons, List.not_mem_nil, or_false] at hb
    rcases hb with rfl | rfl
    · exact hnt
    · exact I1.fnt _ hFl
  · intro b hb
    simp only [List.mem_cons, List.not_mem_nil, or_false] at hb
    rcases hb with rfl | rfl
    · exact .inl rfl
    · obtain ⟨o, e, _⟩ := hL
      exact .inr ⟨o, e⟩
  · rintro i h q ⟨_, ⟨o, e1, e2, e3⟩, _⟩
    exact no_codeRec e1 e3 rfl q
  · rintro i h ⟨_, ⟨o, e1, e2, e3⟩, _⟩
    exact ⟨o, e1⟩
  · rintro i h ⟨_, ⟨o, e1, e2, e3⟩, _⟩
    exact ⟨o, _, e1, e3⟩
  · intro b hb
    simp only [List.mem_cons, List.not_mem_nil, or_false] at hb
    exact hb.imp id fun q => by rw [q]
  · rintro i y ⟨hi, hy⟩
    rw [hlen] at hi
    have hy' : its.toList[its.size - 1 - i]? = some y := by simpa using hy
    have hlt := (List.getElem?_eq_some_iff.mp hy').1
    have hz : vs.length - 1 - i < vs.length := by
      have := hr.length
      rw [hlen] at hlt
      omega
    obtain ⟨z, e1, e2⟩ := hr.get (i := vs.length - 1 - i) (v := vs[vs.length - 1 - i]) (by simp [hz])
    rw [hlen] at hy'
    rw [hy'] at e1; cases e1
    exact ⟨_, by rw [List.getElem?_reverse hi, List.getElem?_eq_getElem hz], e2⟩
  · cases r with
    | ok f => exact SRes.pre (I.extS x1) r2
    | error e => exact r2
end
end Mine
end
section
namespace Mine
open PySem PySem.W PyProof.Rows

section
variable {g : Gx} {p : Prog} {n : Nat} {sc : Sc} {env : Env} {h₀ : Heap} {P F F' F'' F1 : Addr → Prop} {st st' : St} {s s' s'' s1 : Shared} {A : Around} {fl : Fl}

/-- behind a call that may have written the list of one name -/
theorem Inv.lent (I : Inv g sc env h₀ P F st s) (hnt : ∀ b o, g.hg.get? b = some o → NT g.tabs b) {i : Nat} {x : Str} {l l' : Loc} {a : Addr} {its : Array Value} {vs' : List V} (hx : sc.vars[i]? = some x) (hl : st[i]? = some l) (ho : isOwnL l = true) (hs : Slot env s.heap x (some (.ref a)))
    (hl' : (∃ vs, l = .own vs ∧ l' = .own vs') ∨ (∃ vs, l = .bor vs ∧ l' = .bor vs')) (e : ExtL g.tabs F s a F' s') (hp : PlainX s'.heap a its) (hv : VRs s'.heap F' vs' its.toList) (hF : ¬ F' a) :
    Inv g sc env h₀ P F' (st.set i l') s' ∧ ExtS g h₀ P F s F' s' := by
  obtain ⟨ov, r1, r2⟩ := I.vars i x l hx hl
  obtain ⟨a2, its2, vs2, e2, r3, _⟩ := r2.alive ho
  have hov := r1.det hs
  rw [e2] at hov; cases hov
  have hna := plNT r3 I.ti
  obtain ⟨k0, old⟩ := r3.exact
  obtain ⟨k1, new⟩ := hp.exact
  let o₀ : Obj := { cls := .type "list", dict := none, data := .seq its2 k0, slots := #[] }
  let s2 : Shared := { s' with heap := s'.heap.update a fun _ => o₀ }
  have sb : Heap.SameBut a s'.heap s2.heap := Heap.SameBut.update ..
  have back : Heap.SameBut a s2.heap s'.heap := ⟨sb.1.symm, fun b hb => (sb.2 b hb).symm⟩
  have at2 : s2.heap.get? a = some o₀ := Heap.get?_update_self _ new rfl
  have nc : ∀ q, ¬ s'.heap.CodeRec (.ref a) q := fun q ⟨c, o, vs, t, q1, q2, q3, _⟩ => by
    cases q1
    rw [new] at q2; cases q2; cases q3
  have x2 : ExtF g.tabs F s F' s2 := {
    keep := fun b o hb q => by
      by_cases hba : b = a
      · subst hba; rw [old] at q; cases q; exact at2
      · exact sb.extBut b o hba (e.keep b o hb hba q)
    ti := e.ti.butN hna nc fun b o hba q => sb.extBut b o hba q
    gens := e.gens
    os := e.os
    tok := e.tok
    mono := e.mono
    new := fun b hb => (e.new b hb).imp id fun ⟨q1, q2, o, q3⟩ => ⟨q1, q2, o, sb.extBut b o (fun q => hF (q ▸ hb)) q3⟩ }
  have I2 := I.ext hnt x2
  have hv2 : VRs s2.heap F' vs' its.toList := VRs.keepF (fun b o hb q => sb.extBut b o (fun q => hF (q ▸ hb)) q) hv
  obtain ⟨I3, x3⟩ := list_mut (tk := s'.toks) I2 hx hl ho (hs.keep I.ti x2.keep) hl' hp hv2 back (Nat.le_refl _)
  exact ⟨I3, (I.extS x2).trans x3⟩

theorem putBack_id : ∀ (src : List Nat) (ls : List Loc) (st : St), (∀ j ∈ src, ∃ l, st[j]? = some l ∧ frozenLoc l = true) → putBack st src ls = st
  | [], ls, st, _ => by unfold putBack; rfl
  | j :: r, [], st, _ => by unfold putBack; rfl
  | j :: r, l :: ls, st, h => by
    obtain ⟨l0, h1, h2⟩ := h j (List.mem_cons_self ..)
    unfold putBack
    have e : back (st[j]?.getD .un) l = l0 := by
      rw [h1]
      cases l0 <;> first | rfl | cases h2
    have e2 : st.set j l0 = st := by
      obtain ⟨hj, q⟩ := List.getElem?_eq_some_iff.mp h1
      rw [← q, List.set_getElem_self]
    rw [e, e2]
    exact putBack_id r ls st fun j hj => h j (List.mem_cons_of_mem _ hj)

theorem callcS_sound (G : GOk g p) (ih : IHS g p n) (hA : AOk g n A) (I : Inv g sc env h₀ P F st s) {x : Str} {i k : Nat} {ci : CloI} {q pos spos : Pos} {e : Expr} {es : List Expr} {xs : List Ex} {src : List Nat} {vs : List V} {cs cs' : List Loc}
    (hx : sc.vars[i]? = some x) (hp : plainName x = true) (hci : g.clos[k]? = some ci) (hm : src.map (fun j => sc.vars[j]?) = ci.cap.map some) (hkd : ∀ y ∈ ci.cap, sc.kinds y = some .cell ∨ sc.kinds y = some .free) (h : TEs g sc (e :: es) xs)
    (hcl : isClo st i k = true) (hv : mapO (ev p n st) xs = some vs) (hcs : caps st src = some cs) (hfz : lentOk cs = true) (hc : callC p n k vs cs = some (.none, cs')) :
    wpAny (model g.prog g.w) A (exec (.Expr (.Call (.Name x q) (e :: es) [] pos) spos) env) (SRes g sc env h₀ P F s .nx (putBack st src cs')) noE s := by
  refine wpAny_Expr_any ?_ (by unfold interactive; rw [I.fn]; rfl) rfl
  unfold isClo at hcl
  split at hcl
  · rename_i j hst
    have := eq_of_beq hcl; subst this
    obtain ⟨ov, r1, f, rfl, r2, r3⟩ := I.vars i x _ hx hst
    cases cs with
    | nil => cases hfz
    | cons l0 cs =>
    unfold lentOk at hfz
    rw [Bool.and_eq_true] at hfz
    cases src with
    | nil => cases hcs
    | cons j0 src =>
    cases hcap : ci.cap with
    | nil => rw [hcap] at hm; cases hm
    | cons y0 cap =>
    have hy0 : sc.vars[j0]? = some y0 := by rw [hcap] at hm; simp at hm; exact hm.1
    have hj0 : st[j0]? = some l0 := by
      obtain ⟨l, q1, q2⟩ := caps_get hcs 0 (by simp)
      simp at q1 q2
      rw [q1]; exact q2
    refine wpAny_Call_NameR (name_var (i := i) I.toInvE hp r1 ?_)
    have he : starEach (e :: es) env = (false, eval e env) :: starEach es env := by cases h with | cons h1 _ => exact h1.plain _ _
    have hh := items_sound (pos := pos) G ih.toIH hA I.toInvE h hv
    rw [he] at hh ⊢
    obtain ⟨ci', o, fd, c1, c2, c3, _⟩ := id r3
    refine Calls.callWith_function (o := o) (fd := fd) (Calls.evalArgs_plain (wpAny_mono hh (fun ys s1 r4 => ?_) fun _ _ q => q))
    obtain ⟨F1, x1, r4⟩ := r4
    have I1 := I.ext G.nt x1
    refine ⟨⟨x1.keep _ _ (I.fnt f r2) c2, c3⟩, ?_⟩
    obtain ⟨ov0, t1, t2⟩ := I1.vars j0 y0 l0 hy0 hj0
    obtain ⟨a, its0, vs0, rfl, t3, _⟩ := t2.alive hfz.1
    obtain ⟨nF, nP, _⟩ := I1.own j0 y0 l0 a hy0 hj0 hfz.1 t1
    obtain ⟨c, hc1, hc2⟩ : ∃ c, env.cells.lookup y0 = some c ∧ s1.heap.IsCell c (some (.ref a)) := by
      rcases id t1 with ⟨k1, _⟩ | ⟨_, c, q1, q2⟩
      · rw [I.kind] at k1
        rcases hkd y0 (by rw [hcap]; exact List.mem_cons_self ..) with k2 | k2 <;> rw [k2] at k1 <;> cases k1
      · exact ⟨c, q1, q2⟩
    have hga : g.hg.get? a = none := by
      cases q : g.hg.get? a with
      | none => rfl
      | some o => exact absurd (I1.hgP a o q) nP
    have hcp := CapOk.of I1.toInvE hm hkd hcs
    refine wpAny_mono (ih.m hA I1.sok (r3.keep (I.fnt f r2) x1.keep) (x1.mono f r2) hci hcp hfz.1 hfz.2 (y := y0) (by rw [hcap]; rfl) hc1 hc2 nF hga r4 hc) (fun z s2 r5 => ?_) fun _ _ q => q
    obtain ⟨F2, vs', its', x2, _, hcs0, hp2, hv2, nF2⟩ := r5
    cases cs' with
    | nil => cases hcs0
    | cons l1 cs' =>
    cases hcs0
    have frz : ∀ j ∈ src, ∃ l, st[j]? = some l ∧ frozenLoc l = true := by
      intro j hj
      obtain ⟨m, hm1, hm2⟩ := List.getElem_of_mem hj
      obtain ⟨l, q1, q2⟩ := caps_get hcs (m + 1) (by simpa using hm1)
      simp [hm1, hm2] at q1 q2
      exact ⟨l, q2, List.all_eq_true.mp hfz.2 l (List.mem_of_getElem? q1)⟩
    have put : ∀ l', back l0 (.bor vs') = l' → putBack st (j0 :: src) (.bor vs' :: cs') = st.set j0 l' := by
      intro l' hl'
      unfold putBack
      rw [hj0, Option.getD_some, hl']
      refine putBack_id _ _ _ fun j hj => ?_
      obtain ⟨l, q1, q2⟩ := frz j hj
      refine ⟨l, ?_, q2⟩
      rw [List.getElem?_set, if_neg]
      · exact q1
      · intro q
        subst q
        rw [hj0] at q1; cases q1
        have h1 := hfz.1
        cases l0 <;> first | exact absurd h1 Bool.false_ne_true | exact absurd q2 Bool.false_ne_true
    have t1' := t1
    cases l0 with
    | own us =>
      obtain ⟨I3, x3⟩ := I1.lent G.nt hy0 hj0 rfl t1 (l' := .own vs') (.inl ⟨us, rfl, rfl⟩) x2 hp2 hv2 nF2
      rw [put _ rfl]
      exact ⟨F2, (I.extS x1).trans x3, I3, rfl⟩
    | bor us =>
      obtain ⟨I3, x3⟩ := I1.lent G.nt hy0 hj0 rfl t1 (l' := .bor vs') (.inr ⟨us, rfl, rfl⟩) x2 hp2 hv2 nF2
      rw [put _ rfl]
      exact ⟨F2, (I.extS x1).trans x3, I3, rfl⟩
    | un => cases hfz.1
    | val _ => cases hfz.1
    | clo _ => cases hfz.1
  · cases hcl

theorem defc_sound (G : GOk g p) (I : Inv g sc env h₀ P F st s) {x : Str} {i k : Nat} {ci : CloI} {c : Addr} {q : Str} {T : Addr} {pos : Pos} (hx : sc.vars[i]? = some x) (hk : storable sc x) (hci : g.clos[k]? = some ci) (D : DefOk g sc x ci c q T pos) :
    wpAny (model g.prog g.w) A (exec (.FunctionDef x ci.params ci.body [] none [] ci.scope none x pos) env) (SRes g sc env h₀ P F s .nx (st.set i (.clo k))) noE s := by
  obtain ⟨hcode, hqual⟩ := I.cd c q D.code
  have hq : qualnameIn env x x = ci.qual := by
    unfold qualnameIn
    rw [I.kind, if_neg, hqual, D.qual]
    intro e
    exact D.expl (eq_of_beq e)
  refine nestDef_K D.d0 D.k0 (D.ann env) ?_
  rw [hq]
  obtain ⟨cl, hcl, hcl2⟩ := closure_ok (env := env) (scope := ci.scope) D.nd fun y hy hf => by
    obtain ⟨hkd, hm⟩ := D.free y hy hf
    obtain ⟨j, hj1, hj2⟩ := List.getElem_of_mem hm
    have hst : j < st.length := by rw [I.len]; exact hj1
    obtain ⟨ov, r1, _⟩ := I.vars j y.1 st[j] (by rw [List.getElem?_eq_getElem hj1, hj2]) (List.getElem?_eq_getElem hst)
    rcases r1 with ⟨k1, _⟩ | ⟨_, c, q1, _⟩
    · rw [I.kind] at k1
      rcases hkd with k2 | k2 <;> rw [k2] at k1 <;> cases k1
    · exact ⟨c, q1⟩
  have hgs := G.gl.keeps I.base
  obtain ⟨bm, ob, b1, b2, b3, b4, b5, b6⟩ := G.bmain
  have hgT : mainGlobals ≠ T := fun e => by
    obtain ⟨o, _, _, e1, _⟩ := G.gl
    exact G.nt _ _ e1 _ D.tab e
  have hbT : bm ≠ T := fun e => G.nt _ _ b3 _ D.tab e
  have hbG : bm ≠ mainGlobals := fun e => by
    obtain ⟨o, es, ep, e1, hd, _⟩ := G.gl
    rw [e, e1] at b3; cases b3; rw [hd] at b6; cases b6
  have hB : s.heap.BuiltinsAt g.mg T := ⟨bm, ob, b1, b2, hbG, hbT, I.base _ _ b3, b4, b5, b6⟩
  have hC := D.hd.keeps I.base
  have capOk : ∀ y ∈ ci.cap, ∃ c, cl.lookup y = some c ∧ env.cells.lookup y = some c := fun y hy => by
    have hf := D.capf y hy
    have e1 := hcl2 (y, .free) hf rfl
    obtain ⟨hkd, hm⟩ := D.free _ hf rfl
    obtain ⟨j, hj1, hj2⟩ := List.getElem_of_mem hm
    have hst : j < st.length := by rw [I.len]; exact hj1
    obtain ⟨ov, r1, _⟩ := I.vars j y st[j] (by rw [List.getElem?_eq_getElem hj1, hj2]) (List.getElem?_eq_getElem hst)
    rcases r1 with ⟨k1, _⟩ | ⟨_, c, q1, _⟩
    · rw [I.kind] at k1
      rcases hkd with k2 | k2 <;> rw [k2] at k1 <;> cases k1
    · exact ⟨c, e1.trans q1, q1⟩
  have fin : ∀ (c' : Addr) (ctv doc : Value) (h' : Heap) (tk : Tok), s.toks ≤ tk → (∀ b o, NT g.tabs b → s.heap.get? b = some o → h'.get? b = some o) → TI g.tabs h' → s.heap.objs.size ≤ h'.objs.size → NT g.tabs c' → h'.CodeRec (.ref c') ci.qual →
      wpAny (model g.prog g.w) A (storeName env x (.ref h'.objs.size)) (fun _ s'' => SRes g sc env h₀ P F s .nx (st.set i (.clo k)) .next s'') noE
        { s with heap := h'.push (fnMade x ci.qual ci.params ci.body ci.scope cl doc ((g.mg "__name__").getD .none) c' ctv), toks := tk } := by
    intro c' ctv doc h' tk htk hkeep hti hsz hnc hrec
    have x1 : ExtF g.tabs F s F { s with heap := h', toks := tk } := { keep := hkeep, ti := hti, gens := rfl, os := rfl, tok := htk, mono := fun _ e => e, new := fun _ e => .inl e }
    have x2 : ExtF g.tabs F { s with heap := h', toks := tk } F { s with heap := h'.push (fnMade x ci.qual ci.params ci.body ci.scope cl doc ((g.mg "__name__").getD .none) c' ctv), toks := tk } := .ofKeep hti (push_keep _ _) (Nat.le_refl _)
    have hnf : NT g.tabs h'.objs.size := hti.notNew (dead_size h')
    have x3 := (x1.trans x2).grow (a := h'.objs.size) (by
      cases e : s.heap.get? h'.objs.size with
      | none => rfl
      | some o => exact absurd (Heap.lt_size e) (Nat.not_lt.mpr hsz)) hnf ⟨_, Heap.get?_push_size _ rfl⟩
    have I3 := I.ext G.nt x3
    refine store_sound I3 hx hk (l' := .clo k) ⟨_, rfl, .inr rfl, ?_⟩ (fun q => by cases q) fun s2 I4 x4 => ⟨_, (I.extS x3).trans x4, I4, rfl⟩
    exact ⟨ci, _, _, hci, Heap.get?_push_size _ rfl, rfl, rfl, rfl, rfl, rfl, rfl, rfl, rfl, rfl, ⟨c', rfl, hnc⟩, hrec.push _, capOk⟩
  rcases I.ti _ D.tab with e | ⟨c', e1, e2, e3⟩
  · refine wpAny_with_toks (n := s.toks) (Nat.le_refl _) (makeFunction_K (mg := g.mg) hcl I.gb hgs hcode hC e trivial rfl hgT hB fun c' ctv doc h' tk hx' hge hlt hrec htb htk => ?_)
    have hnc : NT g.tabs c' := I.ti.notNew (Heap.get?_none_of_le hge)
    refine fin c' ctv doc h' tk htk (fun b o hb q => hx' b o (hb _ D.tab) q) (fun r hr => ?_) (Nat.le_of_lt (Nat.lt_of_le_of_lt hge hlt)) hnc hrec
    by_cases hrT : r.P = T
    · have := D.uniq r hr hrT
      subst this
      refine .inr ⟨c', ?_, hrec, hnc⟩
      rw [htb]; rfl
    · rcases I.ti r hr with e | ⟨c2, f1, f2, f3⟩
      · exact .inl (hx' _ _ hrT e)
      · exact .inr ⟨c2, hx' _ _ hrT f1, CodeRec_NT f2 f3 (fun b o hb q => hx' b o (hb _ D.tab) q), f3⟩
  · refine wpAny_with_toks (n := s.toks) (Nat.le_refl _) (makeFunction_hit (mg := g.mg) (cv := .ref c') hcl I.gb hgs hcode hC e1 trivial (by simp [codeAmong, rawInt]) hB fun ctv doc h' tk hk' hsz htk => ?_)
    exact fin c' ctv doc h' tk htk (fun b o _ q => hk' b o q) (I.ti.keeps hk') hsz e3 (e2.keeps hk')
end
end Mine
end
section
namespace Mine
open PySem PySem.W PyProof.Rows

/-- a call's frame, new: its names hold what was given -/
structure Entry (s s1 : Shared) (env : Env) (cl : List (Str × Addr)) (binds : List (Str × Value)) : Prop where
  keep : ∀ b o, s.heap.get? b = some o → s1.heap.get? b = some o
  gens : s1.gens = s.gens
  os : s1.os = s.os
  tok : s.toks ≤ s1.toks
  dead : s.heap.get? env.locals = none
  ns : ∃ m, s1.heap.Ns env.locals m ∧ ∀ x v, (x, v) ∈ binds → env.kindOf x = some .local → m x = some v
  cell : ∀ n c, env.kindOf n = some .cell → env.cells.lookup n = some c → s.heap.get? c = none ∧ ∃ ov, s1.heap.IsCell c ov ∧ ∀ v, (n, v) ∈ binds → ov = some v
  has : ∀ n, env.kindOf n = some .cell → ∃ c, env.cells.lookup n = some c
  cinj : ∀ x y c, env.kindOf x = some .cell → env.cells.lookup x = some c → env.cells.lookup y = some c → y = x
  free : ∀ n c, env.kindOf n = some .free → cl.lookup n = some c → env.cells.lookup n = some c

theorem cellsFrom_has : ∀ (names : List (Str × NameKind)) (lo : Nat) (acc : List (Str × Addr)) (n : Str), ((n, NameKind.cell) ∈ names ∨ ∃ c, acc.lookup n = some c) → ∃ c, (cellsFrom lo names acc).lookup n = some c
  | [], lo, acc, n, h => by
    rcases h with h | h
    · cases h
    · exact h
  | (m, k) :: r, lo, acc, n, h => by
    unfold cellsFrom
    split
    · rename_i hk
      refine cellsFrom_has r _ _ n ?_
      rcases h with h | ⟨c, h⟩
      · rcases List.mem_cons.mp h with e | h
        · cases e
          exact .inr ⟨lo, by simp⟩
        · exact .inl h
      · refine .inr ?_
        rw [List.lookup_cons]
        split
        · exact ⟨_, rfl⟩
        · exact ⟨c, h⟩
    · rename_i hk
      refine cellsFrom_has r _ _ n ?_
      rcases h with h | h
      · rcases List.mem_cons.mp h with e | h
        · cases e
          exact absurd rfl hk
        · exact .inl h
      · exact .inr h

theorem bindL_out {kindOf : Str → Option NameKind} : ∀ {binds : List (Str × Value)} {m : Str → Option Value} {x : Str}, x ∉ binds.map (·.1) → bindL kindOf binds m x = m x
  | [], m, x, _ => rfl
  | (n, v) :: r, m, x, h => by
    simp only [List.map_cons, List.mem_cons, not_or] at h
    unfold bindL
    rw [bindL_out h.2]
    split
    · exact if_neg h.1
    · rfl
theorem bindL_in {kindOf : Str → Option NameKind} : ∀ {binds : List (Str × Value)} {m : Str → Option Value} {x : Str} {v : Value}, (binds.map (·.1)).Nodup → (x, v) ∈ binds → kindOf x = some .local → bindL kindOf binds m x = some v
  | [], m, x, v, _, h, _ => by cases h
  | (n, w) :: r, m, x, v, nd, h, hk => by
    simp only [List.map_cons, List.nodup_cons] at nd
    unfold bindL
    rcases List.mem_cons.mp h with e | h
    · cases e
      rw [bindL_out nd.1, if_pos hk, if_pos rfl]
    · exact bindL_in nd.2 h hk
theorem bindC_out {kindOf : Str → Option NameKind} : ∀ {binds : List (Str × Value)} {m : Str → Option Value} {x : Str}, x ∉ binds.map (·.1) → bindC kindOf binds m x = m x
  | [], m, x, _ => rfl
  | (n, v) :: r, m, x, h => by
    simp only [List.map_cons, List.mem_cons, not_or] at h
    unfold bindC
    rw [bindC_out h.2]
    split
    · rfl
    · exact if_neg h.1
theorem bindC_in {kindOf : Str → Option NameKind} : ∀ {binds : List (Str × Value)} {m : Str → Option Value} {x : Str} {v : Value}, (binds.map (·.1)).Nodup → (x, v) ∈ binds → kindOf x ≠ some .local → bindC kindOf binds m x = some v
  | [], m, x, v, _, h, _ => by cases h
  | (n, w) :: r, m, x, v, nd, h, hk => by
    simp only [List.map_cons, List.nodup_cons] at nd
    unfold bindC
    rcases List.mem_cons.mp h with e | h
    · cases e
      rw [bindC_out nd.1, if_neg hk, if_pos rfl]
    · exact bindC_in nd.2 h hk
theorem lookup_nodup {α : Type} : ∀ {l : List (Str × α)} {x : Str} {v : α}, (l.map (·.1)).Nodup → (x, v) ∈ l → l.lookup x = some v
  | [], _, _, _, h => by cases h
  | (n, w) :: r, x, v, nd, h => by
    simp only [List.map_cons, List.nodup_cons] at nd
    rw [List.lookup_cons]
    rcases List.mem_cons.mp h with e | h2
    · cases e; simp
    · have : (x == n) = false := by
        rw [beq_eq_false_iff_ne]
        intro e
        exact nd.1 (e ▸ List.mem_map.mpr ⟨(x, v), h2, rfl⟩)
      rw [this]
      exact lookup_nodup nd.2 h2
theorem lookup_rev {α : Type} {l : List (Str × α)} {x : Str} {v : α} (nd : (l.map (·.1)).Nodup) (h : (x, v) ∈ l) : l.reverse.lookup x = some v :=
  lookup_nodup (by rw [List.map_reverse]; exact List.pairwise_reverse.mpr (nd.imp Ne.symm)) (List.mem_reverse.mpr h)

section
variable {prog : Program} {w : World} {A : Around} {s : Shared}
theorem call_entry_cells {R : Result → Shared → Prop} {a : Addr} {o : Obj} {fd : FuncData} {body : List Stmt} {vals : List Value} {binds : List (Str × Value)}
    (hroom : A.depth < recursionLimit) (ho : s.heap.get? a = some o) (hdata : o.data = .func fd) (hlim : s.heap.NoLimit) (hcd : s.heap.CodeRec fd.code fd.qualname)
    (hbody : fd.body = .stmts body) (hbind : bindArgs fd ⟨vals, []⟩ = pure binds) (hclo : fd.closure = []) (nd : (binds.map (·.1)).Nodup)
    (hkind : ∀ x ∈ binds, fd.scope.names.lookup x.1 = some .local ∨ fd.scope.names.lookup x.1 = some .cell)
    (hco : fd.scope.isCoroutine = false) (hgen : fd.scope.isGenerator = false) (hk : fd.scope.kind = .function)
    (h : ∀ env s₁, env.scope = fd.scope → env.globals = fd.globals → env.builtins = fd.builtins → env.code = fd.code → env.qual = fd.qualname ++ ".<locals>." → Entry s s₁ env [] binds →
      wpAny (model prog w) (A.deeper env) (execs body env) (fun f s' => R (.ok (.ret (match f with | .ret v => v | _ => .none))) s') noE s₁) :
    codeAny (model prog w) A (.call (.ref a) ⟨vals, []⟩) R s := by
  refine codeAny_call_function hroom ho hdata hco hgen hbody hcd ?_
  rw [hbind, hclo]
  have hcl : ∀ n, fd.scope.names.lookup n = some .cell → ∃ c, (cellsFrom (s.heap.objs.size + 1) fd.scope.names []).lookup n = some c := fun n e => cellsFrom_has _ _ _ _ (.inl (mem_of_lookup e))
  refine wpAny_pure (wpAny_with_toks (n := s.toks) (Nat.le_refl _) (wpAny_newFunctionEnv_cells hk (fun x hx => (hkind x hx).imp id fun e => ⟨e, ?_⟩) fun env he s' x htk => ?_))
  · obtain ⟨c, e⟩ := hcl _ e
    rw [e]; rfl
  · have k1 : env.kindOf = fun n => fd.scope.names.lookup n := by rw [he]; rfl
    have k2 : env.cells = cellsFrom (s.heap.objs.size + 1) fd.scope.names [] := by rw [he]; rfl
    have k3 : env.locals = s.heap.objs.size := by rw [he]; rfl
    refine ⟨hlim.keeps x.toInCall.keep, codeAny_func (wpAny_mono (h env s' (by rw [he]; rfl) (by rw [he]; rfl) (by rw [he]; rfl) (by rw [he]; rfl) (by rw [he]; rfl) ?_) (fun _ _ q => q) fun _ _ q => q.elim)⟩
    obtain ⟨h₁, tk, hs, hkp⟩ := x.done
    refine ⟨x.toInCall.keep, by rw [hs], by rw [hs], htk, by rw [k3]; exact dead_size _, ⟨_, x.toInCall.ns, fun y v hm hl => bindL_in nd hm hl⟩, fun n c e1 e2 => ⟨?_, _, x.cell n c e2, fun v hm => bindC_in nd hm (by rw [e1]; decide)⟩, fun n e => ?_, fun y z c e1 e2 e3 => ?_, fun n c e1 e2 => by cases e2⟩
    · have := x.above n c (mem_of_lookup e2)
      rw [k3] at this
      exact Heap.get?_none_of_le (Nat.le_of_lt this)
    · rw [k2]
      rw [k1] at e
      exact hcl n e
    · exact name_of_addr x.apart (mem_of_lookup e3) (mem_of_lookup e2)

theorem call_entry_clo {R : Result → Shared → Prop} {a : Addr} {o : Obj} {fd : FuncData} {body : List Stmt} {vals : List Value} {binds : List (Str × Value)}
    (hroom : A.depth < recursionLimit) (ho : s.heap.get? a = some o) (hdata : o.data = .func fd) (hlim : s.heap.NoLimit) (hcd : s.heap.CodeRec fd.code fd.qualname)
    (hbody : fd.body = .stmts body) (hbind : bindArgs fd ⟨vals, []⟩ = pure binds) (nd : (binds.map (·.1)).Nodup)
    (hkind : ∀ x ∈ binds, fd.scope.names.lookup x.1 = some .local) (hnc : ∀ x ∈ fd.scope.names, x.2 ≠ .cell)
    (hco : fd.scope.isCoroutine = false) (hgen : fd.scope.isGenerator = false) (hk : fd.scope.kind = .function)
    (h : ∀ env s₁, env.scope = fd.scope → env.globals = fd.globals → env.builtins = fd.builtins → env.code = fd.code → env.qual = fd.qualname ++ ".<locals>." → env.cells = fd.closure → Entry s s₁ env fd.closure binds →
      wpAny (model prog w) (A.deeper env) (execs body env) (fun f s' => R (.ok (.ret (match f with | .ret v => v | _ => .none))) s') noE s₁) :
    codeAny (model prog w) A (.call (.ref a) ⟨vals, []⟩) R s := by
  refine codeAny_call_function hroom ho hdata hco hgen hbody hcd ?_
  rw [hbind]
  refine wpAny_pure (wpAny_newFunctionEnv hnc hkind (fun h' hns hsb => ?_) hk)
  have hkp : ∀ b o, s.heap.get? b = some o → h'.get? b = some o := fun b o e => hsb.extBut b o (Nat.ne_of_lt (Heap.lt_size e)) (Heap.get?_push_of_some _ e)
  have nc : ∀ n, fd.scope.names.lookup n ≠ some .cell := fun n e => hnc _ (mem_of_lookup e) rfl
  refine ⟨hlim.keeps hkp, codeAny_func (wpAny_mono (h _ _ rfl rfl rfl rfl rfl rfl ?_) (fun _ _ q => q) fun _ _ q => q.elim)⟩
  exact ⟨hkp, rfl, rfl, Nat.le_add_right _ _, dead_size _, ⟨_, hns, fun x v hm _ => lookup_rev nd hm⟩, fun n c e1 _ => absurd e1 (nc n), fun n e1 => absurd e1 (nc n), fun x y c e1 _ _ => absurd e1 (nc x), fun n c _ e2 => e2⟩
end

theorem AOk.deep {g : Gx} {p : Prog} {n : Nat} {A : Around} (G : GOk g p) (h : AOk g (n + 1) A) {env : Env} (hg : env.scope.isGenerator = false) (hc : env.scope.isCoroutine = false) (hb : env.builtins = builtinsNs) (hgl : env.globals = mainGlobals) : AOk g n (A.deeper env) := by
  obtain ⟨l, hl⟩ := h.fr
  refine ⟨h.hd, ?_, ?_, ⟨_, Around.frames_deeper hl⟩, fun s hs => ?_⟩
  · have := h.dp
    show A.depth + 1 + n + 150 < _
    omega
  · have := h.un
    show A.units + 3 + 4 * n + 200 < _
    omega
  · refine PylongRoom.of (G.nolimit.keeps hs) ?_ (SeerAt.of (M := model g.prog g.w) (G.seer.keeps hs) G.tree (Around.frames_deeper hl) hg hc hb hgl)
    have := h.dp
    show A.depth + 1 + 100 < _
    omega
end Mine
end
section
namespace Mine
open PySem PySem.W PyProof.Rows

structure BodyOk (g : Gx) (fn : Fn) (sc : Sc) (scope : Scope) (params : Arguments) (body : List Stmt) (capN : List Str) : Prop where
  kind : scope.kind = .function
  gen : scope.isGenerator = false
  co : scope.isCoroutine = false
  kinds : ∀ x, sc.kinds x = scope.names.lookup x
  len : sc.vars.length = fn.nv
  nd : sc.vars.Nodup
  np : fn.np + capN.length ≤ fn.nv
  cap : sc.vars.drop (fn.nv - capN.length) = capN
  loc : ∀ x ∈ sc.vars.take (fn.nv - capN.length), sc.kinds x = some .local ∨ sc.kinds x = some .cell
  capk : ∀ x ∈ capN, sc.kinds x = some .free
  bind : ∀ (fd : FuncData) (xs : List Value), fd.params = params → fd.defaults = .none → fd.kwdefaults = .none → xs.length = fn.np → bindArgs fd ⟨xs, []⟩ = pure ((sc.vars.take fn.np).zip xs)
  ts : TSs g sc body fn.body

structure FnsOk (g : Gx) (p : Prog) : Prop where
  f : ∀ (f : Nat) (x : Str) (fn : Fn), g.fns[f]? = some x → p.fns[f]? = some fn → ∃ a o fd sc body, g.mg x = some (.ref a) ∧ g.hg.get? a = some o ∧ o.data = .func fd ∧ fd.body = .stmts body ∧ fd.closure = [] ∧ fd.globals = mainGlobals ∧ fd.builtins = builtinsNs ∧
    fd.defaults = .none ∧ fd.kwdefaults = .none ∧ g.hg.CodeRec fd.code fd.qualname ∧ (∀ c q, sc.code = some (c, q) → fd.code = .ref c ∧ fd.qualname ++ ".<locals>." = q) ∧ BodyOk g fn sc fd.scope fd.params body []
  c : ∀ (k : Nat) (ci : CloI) (fn : Fn), g.clos[k]? = some ci → p.clos[k]? = some fn → BodyOk g fn ci.sc ci.scope ci.params ci.body ci.cap ∧ (∀ x ∈ ci.scope.names, x.2 ≠ .cell) ∧ ci.sc.code = none

section
variable {g : Gx} {p : Prog} {n : Nat} {sc : Sc} {env env0 : Env} {P F F' : Addr → Prop} {st : St} {s s1 s' : Shared} {A : Around} {fn : Fn}

theorem initSt_get {vs : List V} {cs : List Loc} {i : Nat} {l : Loc} (hl : vs.length = fn.np) (hn : fn.np + cs.length ≤ fn.nv) (h : (initSt fn vs cs)[i]? = some l) :
    (∃ v, vs[i]? = some v ∧ l = .val v) ∨ (fn.np ≤ i ∧ i < fn.nv - cs.length ∧ l = .un) ∨ (fn.nv - cs.length ≤ i ∧ cs[i - (fn.nv - cs.length)]? = some l) := by
  unfold initSt at h
  rw [List.append_assoc, List.getElem?_append] at h
  split at h
  · rename_i hi
    rw [List.getElem?_map] at h
    cases q : vs[i]? with
    | none => rw [q] at h; cases h
    | some v => rw [q] at h; cases h; exact .inl ⟨v, rfl, rfl⟩
  · rename_i hi
    rw [List.length_map, hl] at hi h
    refine .inr ?_
    rw [List.getElem?_append] at h
    split at h
    · rename_i hj
      rw [List.length_replicate] at hj
      rw [List.getElem?_replicate] at h
      have e : l = .un := by
        split at h
        · first | (cases h; done) | exact (Option.some.inj h).symm
        · first | (cases h; done) | exact (Option.some.inj h).symm
      exact .inl ⟨by omega, by omega, e⟩
    · rename_i hj
      rw [List.length_replicate] at hj h
      refine .inr ⟨by omega, ?_⟩
      have e : fn.np + (fn.nv - fn.np - cs.length) = fn.nv - cs.length := by rw [Nat.sub_right_comm, Nat.add_sub_cancel' (Nat.le_sub_of_add_le hn)]
      rw [← h, ← e, Nat.sub_sub i]

theorem zip_keys {ns : List Str} {xs : List Value} (h : xs.length = ns.length) : (ns.zip xs).map (·.1) = ns := by
  exact List.map_fst_zip (Nat.le_of_eq h.symm)

/-- the callee's first state stands for its frame -/
theorem enter_inv {scope : Scope} {params : Arguments} {body : List Stmt} {capN : List Str} (B : BodyOk g fn sc scope params body capN) {cl : List (Str × Addr)} {cs : List Loc} {vs : List V} {xs : List Value}
    (S : SOk g F s) (E : Entry s s1 env cl ((sc.vars.take fn.np).zip xs)) (hsc : env.scope = scope) (hgl : env.globals = mainGlobals) (hbl : env.builtins = builtinsNs) (hcd : ∀ c q, sc.code = some (c, q) → env.code = .ref c ∧ env.qual = q)
    (hP : ∀ a, P a → NT g.tabs a ∧ ∃ o, s.heap.get? a = some o) (hgP : ∀ b o, g.hg.get? b = some o → P b) (hv : VRs s.heap F vs xs) (hl : vs.length = fn.np) (hcs : cs.length = capN.length)
    (hcap : ∀ (j : Nat) (y : Str) (l : Loc), capN[j]? = some y → cs[j]? = some l → ∃ c ov, cl.lookup y = some c ∧ s.heap.IsCell c ov ∧ LocR g env F s.heap l ov ∧
      (isOwnL l = true → j = 0 ∧ (∃ us, l = .bor us) ∧ ∀ a, ov = some (.ref a) → ¬ F a ∧ ¬ P a)) :
    Inv g sc env s.heap P F (initSt fn vs cs) s1 := by
  have hkd : ∀ x, env.kindOf x = sc.kinds x := fun x => by rw [B.kinds]; show env.scope.names.lookup x = _; rw [hsc]
  have x1 : ExtF g.tabs F s F s1 := .ofKeep S.ti E.keep E.tok E.gens E.os
  have hnp := B.np
  have hlen := B.len
  obtain ⟨m, hm, hmv⟩ := E.ns
  have slotOk : ∀ x, (sc.kinds x = some .local ∨ sc.kinds x = some .cell) → ∃ ov, Slot env s1.heap x ov ∧ ∀ v, (x, v) ∈ (sc.vars.take fn.np).zip xs → ov = some v := by
    intro x hk
    rcases hk with hk | hk
    · exact ⟨m x, .inl ⟨by rw [hkd, hk], m, hm, rfl⟩, fun v hv => hmv x v hv (by rw [hkd, hk])⟩
    · have hk' : env.kindOf x = some .cell := by rw [hkd, hk]
      obtain ⟨c, hc⟩ := E.has x hk'
      obtain ⟨_, ov, q1, q2⟩ := E.cell x c hk' hc
      exact ⟨ov, .inr ⟨.inl hk', c, hc, q1⟩, q2⟩
  have hvn : vs.length = xs.length := (VRs.length hv).symm
  have capAt : ∀ (i : Nat) (x : Str) (l : Loc), sc.vars[i]? = some x → fn.nv - cs.length ≤ i → cs[i - (fn.nv - cs.length)]? = some l → ∃ c ov, env.kindOf x = some .free ∧ env.cells.lookup x = some c ∧ s1.heap.IsCell c ov ∧ LocR g env F s1.heap l ov ∧
      (isOwnL l = true → i = fn.nv - cs.length ∧ (∃ us, l = .bor us) ∧ ∀ a, ov = some (.ref a) → ¬ F a ∧ ¬ P a) := by
    intro i x l h1 h2 h3
    have h4 : capN[i - (fn.nv - cs.length)]? = some x := by
      rw [← B.cap, List.getElem?_drop, ← hcs, ← h1]
      congr 1
      omega
    obtain ⟨c, ov, q1, q2, q3, q4⟩ := hcap _ x l h4 h3
    have hf : env.kindOf x = some .free := by rw [hkd]; exact B.capk x (List.mem_of_getElem? h4)
    obtain ⟨o, r1, r2⟩ := q2
    exact ⟨c, ov, hf, E.free x c hf q1, ⟨o, E.keep _ _ r1, r2⟩, q3.ext S.ti x1 S.fnt, fun ho => let ⟨e1, e2, e3⟩ := q4 ho; ⟨by omega, e2, e3⟩⟩
  have own : ∀ (i : Nat) (x : Str) (l : Loc), sc.vars[i]? = some x → (initSt fn vs cs)[i]? = some l → isOwnL l = true → fn.nv - cs.length ≤ i ∧ cs[i - (fn.nv - cs.length)]? = some l := by
    intro i x l h1 h2 ho
    rcases initSt_get hl (by rw [hcs]; exact hnp) h2 with ⟨v, _, rfl⟩ | ⟨_, _, rfl⟩ | h
    · cases ho
    · cases ho
    · exact h
  have E0 : InvE g sc env F (initSt fn vs cs) s1 := {
    base := fun b o e => E.keep b o (S.base b o e)
    ti := x1.ti
    tk := Nat.le_trans S.tk E.tok
    fnt := S.fnt
    fal := fun a e => let ⟨o, q⟩ := S.fal a e; ⟨o, E.keep _ _ q⟩
    kind := hkd
    fn := by rw [hsc]; exact B.kind
    gb := hgl
    bb := hbl
    cd := hcd
    vars := fun i x l h1 h2 => by
      rcases initSt_get hl (by rw [hcs]; exact hnp) h2 with ⟨v, q, rfl⟩ | ⟨q1, q2, rfl⟩ | ⟨q1, q2⟩
      · have hi : i < fn.np := by rw [← hl]; exact (List.getElem?_eq_some_iff.mp q).1
        obtain ⟨y, e1, e2⟩ := hv.get q
        have h3 : (sc.vars.take fn.np)[i]? = some x := by rw [List.getElem?_take_of_lt hi]; exact h1
        have hm : (x, y) ∈ (sc.vars.take fn.np).zip xs := List.mem_of_getElem? (i := i) (by rw [List.getElem?_zip_eq_some]; exact ⟨h3, e1⟩)
        have h4 : (sc.vars.take (fn.nv - capN.length))[i]? = some x := by rw [List.getElem?_take_of_lt (by omega)]; exact h1
        obtain ⟨ov, r1, r2⟩ := slotOk x (B.loc x (List.mem_of_getElem? h4))
        exact ⟨ov, r1, y, r2 y hm, e2.ext x1 S.fnt⟩
      · have h4 : (sc.vars.take (fn.nv - capN.length))[i]? = some x := by rw [List.getElem?_take_of_lt (by omega)]; exact h1
        obtain ⟨ov, r1, _⟩ := slotOk x (B.loc x (List.mem_of_getElem? h4))
        exact ⟨ov, r1, trivial⟩
      · obtain ⟨c, ov, r1, r2, r3, r4, _⟩ := capAt i x l h1 q1 q2
        exact ⟨ov, .inr ⟨.inr r1, c, r2, r3⟩, r4⟩ }
  refine ⟨E0, ?_, B.nd, fun a e => (hP a e).1, fun a e => let ⟨o, q⟩ := (hP a e).2; ⟨o, E.keep _ _ q⟩, hgP, ⟨m, hm⟩, ⟨fun q => ?_, fun q => ?_, E.dead⟩, fun i x l a h1 h2 h3 h4 => ?_, fun i j x y l l' a h1 h2 h3 h4 h5 h6 h7 h8 => ?_, fun x c h1 h2 => ?_, E.cinj, fun a o _ h2 => ⟨o, E.keep _ _ h2⟩⟩
  · unfold initSt
    simp only [List.length_append, List.length_map, List.length_replicate]
    omega
  · obtain ⟨o, r⟩ := (hP _ q).2
    rw [E.dead] at r; cases r
  · obtain ⟨o, r⟩ := S.fal _ q
    rw [E.dead] at r; cases r
  · obtain ⟨q1, q2⟩ := own i x l h1 h2 h3
    obtain ⟨c, ov, r1, r2, r3, r4, r5⟩ := capAt i x l h1 q1 q2
    obtain ⟨_, ⟨us, e⟩, e2⟩ := r5 h3
    have : ov = some (.ref a) := Slot.det (.inr ⟨.inr r1, c, r2, r3⟩) h4
    obtain ⟨n1, n2⟩ := e2 a this
    exact ⟨n1, n2, fun ⟨ws, q⟩ => by rw [e] at q; cases q⟩
  · obtain ⟨q1, q2⟩ := own i x l h1 h3 h5
    obtain ⟨q3, q4⟩ := own j y l' h2 h4 h6
    obtain ⟨_, _, _, _, _, _, r5⟩ := capAt i x l h1 q1 q2
    obtain ⟨_, _, _, _, _, _, r6⟩ := capAt j y l' h2 q3 q4
    rw [(r5 h5).1, (r6 h6).1]
  · obtain ⟨q1, ov, q2, _⟩ := E.cell x c h1 h2
    refine ⟨fun q => ?_, fun q => ?_, q1, ov, q2⟩
    · obtain ⟨o, r⟩ := (hP _ q).2
      rw [q1] at r; cases r
    · obtain ⟨o, r⟩ := S.fal _ q
      rw [q1] at r; cases r
end
end Mine
end
section
namespace Mine
open PySem PySem.W PyProof.Rows

section
variable {g : Gx} {p : Prog} {n : Nat} {sc : Sc} {env env0 : Env} {h₀ : Heap} {P F F' : Addr → Prop} {st st' : St} {s s1 s' : Shared} {A : Around} {fn : Fn} {fl : Fl}

theorem entry_ext {cl : List (Str × Addr)} {binds : List (Str × Value)} (E : Entry s s1 env cl binds) (hP : ∀ b o, NT g.tabs b → s.heap.get? b = some o → P b) (x : ExtS g s.heap P F s1 F' s') (ti : TI g.tabs s'.heap) : ExtF g.tabs F s F' s' where
  keep := fun b o hb e => x.keepP b o (hP b o hb e) (E.keep b o e)
  ti := ti
  gens := x.gens.trans E.gens
  os := x.os.trans E.os
  tok := Nat.le_trans E.tok x.tok
  mono := x.mono
  new := fun a ha => (x.new a ha).imp id fun ⟨q1, q2, _, q4⟩ => ⟨q1, q2, q4⟩

theorem callF_sound (G : GOk g p) (K : FnsOk g p) (ih : IHS g p n) (hA : AOk g (n + 1) A) (S : SOk g F s) {f : Nat} {x : Str} {a : Addr} {vs : List V} {xs : List Value} {v : V}
    (hx : g.fns[f]? = some x) (ha : g.mg x = some (.ref a)) (hr : VRs s.heap F vs xs) (hv : callF p (n + 1) f vs = some v) :
    wpAny (model g.prog g.w) A (call (.ref a) xs) (Res g.tabs F s v) noE s := by
  simp only [callF, Option.bind_eq_some_iff] at hv
  obtain ⟨fn, hfn, hv⟩ := hv
  split at hv
  · rename_i hc
    simp only [Bool.and_eq_true, beq_iff_eq, decide_eq_true_eq] at hc
    obtain ⟨a', o, fd, sc, body, k1, k2, k3, k4, k5, k6, k7, k8, k9, k10, k11, B⟩ := K.f f x fn hx hfn
    rw [ha] at k1; cases k1
    have hxl : xs.length = fn.np := (VRs.length hr).trans hc.1
    have hnp := B.np
    have hlen := B.len
    have htk : (sc.vars.take fn.np).length = fn.np := by rw [List.length_take]; omega
    have hkeys : ((sc.vars.take fn.np).zip xs).map (·.1) = sc.vars.take fn.np := zip_keys (by rw [hxl, htk])
    refine wpAny_call (call_entry_cells (binds := (sc.vars.take fn.np).zip xs) (by have := hA.dp; omega) (S.base _ _ k2) k3 (G.nolimit.keeps S.base) (k10.keeps S.base) k4 (B.bind fd xs rfl k8 k9 hxl) k5 ?_ (fun y hy => ?_) B.co B.gen B.kind fun env s1 e1 e2 e3 e4 e5 E => ?_)
    · rw [hkeys]
      exact B.nd.sublist (List.take_sublist _ _)
    · have hm : y.1 ∈ sc.vars.take fn.np := by rw [← hkeys]; exact List.mem_map.mpr ⟨y, hy, rfl⟩
      rw [← B.kinds]
      exact B.loc y.1 ((List.take_sublist_take_left (by simp; omega)).subset hm)
    · have hAd : AOk g n (A.deeper env) := hA.deep G (by rw [e1]; exact B.gen) (by rw [e1]; exact B.co) (by rw [e3, k7]) (by rw [e2, k6])
      have I := enter_inv (P := fun b => NT g.tabs b ∧ ∃ o, s.heap.get? b = some o) (cs := []) B S E e1 (by rw [e2, k6]) (by rw [e3, k7]) (fun c q h => by rw [e4, e5]; exact k11 c q h) (fun a h => h) (fun b o e => ⟨G.nt b o e, o, S.base b o e⟩) hr hc.1 rfl (fun j y l h _ => by simp at h)
      have main : ∀ fl st', seq (ex p n) (initSt fn vs []) fn.body = some (fl, st') → (fl = .ret v ∨ (fl = .nx ∧ v = .none)) →
          wpAny (model g.prog g.w) (A.deeper env) (execs body env) (fun f s' => Res g.tabs F s v (match f with | .ret v => v | _ => .none) s') noE s1 := by
        intro fl st' hs hfl
        refine wpAny_mono (seq_sound G ih hAd I B.ts hs) (fun f s2 r2 => ?_) fun _ _ q => q
        obtain ⟨F2, x2, I2, r3⟩ := r2
        refine ⟨F2, entry_ext E (fun b o q e => ⟨q, o, e⟩) x2 I2.ti, ?_⟩
        rcases hfl with rfl | ⟨rfl, rfl⟩
        · obtain ⟨y, rfl, r4⟩ := r3
          exact r4
        · cases r3
          rfl
      split at hv
      · rename_i w st' hs
        cases hv
        exact main _ _ hs (.inl rfl)
      · rename_i st' hs
        cases hv
        exact main _ _ hs (.inr ⟨rfl, rfl⟩)
      · cases hv
  · cases hv

theorem LocR.toEnv {h : Heap} {l : Loc} {ov : Option Value} {k : Nat} {ci : CloI} {cl : List (Str × Addr)} (r : LocR g env0 F h l ov) (hk : cloIs k l = true) (hci : g.clos[k]? = some ci) (hcl : ∀ x ∈ ci.cap, ∃ c, cl.lookup x = some c ∧ env0.cells.lookup x = some c) (he : env.cells = cl) :
    LocR g env F h l ov := by
  cases l with
  | un => trivial
  | val v => exact r
  | own vs => exact r
  | bor vs => exact r
  | clo j =>
    have := eq_of_beq (show (j == k) = true from hk)
    subst this
    obtain ⟨f, e, r1, ci', o, fd, c1, c2, c3, r⟩ := r
    obtain ⟨r1', r2, r3, r4, r5, r6, r7, r8, r9, r10, r11⟩ := r
    rw [hci] at c1; cases c1
    refine ⟨f, e, r1, ci, o, fd, hci, c2, c3, r1', r2, r3, r4, r5, r6, r7, r8, r9, r10, fun x hx => ?_⟩
    obtain ⟨c, q1, q2⟩ := r11 x hx
    obtain ⟨c', q3, q4⟩ := hcl x hx
    rw [q2] at q4; cases q4
    exact ⟨c, q1, by rw [he]; exact q3⟩

/-- a closure's call: its body runs in a frame of its own -/
theorem clo_enter (G : GOk g p) (K : FnsOk g p) (ih : IHS g p n) (hA : AOk g (n + 1) A) (S : SOk g F s) {k : Nat} {ci : CloI} {f : Addr} {vs : List V} {xs : List Value} {cs cs' : List Loc} {v : V} (P : Addr → Prop)
    (hf : CloAt g env0 s.heap k f) (hci : g.clos[k]? = some ci) (hcp : CapOk g env0 F s.heap ci.cap cs) (hr : VRs s.heap F vs xs) (hv : callC p (n + 1) k vs cs = some (v, cs'))
    (hP : ∀ a, P a → NT g.tabs a ∧ ∃ o, s.heap.get? a = some o) (hgP : ∀ b o, g.hg.get? b = some o → P b)
    (hown : ∀ (j : Nat) (y : Str) (l : Loc) (c : Addr) (ov : Option Value), ci.cap[j]? = some y → cs[j]? = some l → isOwnL l = true → env0.cells.lookup y = some c → s.heap.IsCell c ov → j = 0 ∧ ∀ a, ov = some (.ref a) → ¬ F a ∧ ¬ P a)
    {Q : Value → Shared → Prop}
    (fin : ∀ env s1 cl binds st' F2 s2 fn y, Entry s s1 env cl binds → ExtS g s.heap P F s1 F2 s2 → Inv g ci.sc env s.heap P F2 st' s2 → VR s2.heap F2 v y → cs' = st'.drop (fn.nv - cs.length) → headOk cs cs' = true → BodyOk g fn ci.sc ci.scope ci.params ci.body ci.cap →
      cs.length = ci.cap.length → (∀ x c, x ∈ ci.cap → env0.cells.lookup x = some c → env.cells.lookup x = some c ∧ env.kindOf x = some .free) → Q y s2) :
    wpAny (model g.prog g.w) A (call (.ref f) xs) Q noE s := by
  simp only [callC, Option.bind_eq_some_iff] at hv
  obtain ⟨fn, hfn, hv⟩ := hv
  split at hv
  · rename_i hc
    simp only [Bool.and_eq_true, beq_iff_eq, decide_eq_true_eq] at hc
    obtain ⟨⟨hc1, hc2⟩, hc3⟩ := hc
    obtain ⟨B, hnc, hcode⟩ := K.c k ci fn hci hfn
    obtain ⟨ci', o, fd, c1, c2, c3, c4, c5, c6, c7, c8, c9, c10, c11, ⟨c', c12, c13⟩, c14, c15⟩ := hf
    rw [hci] at c1; cases c1
    obtain ⟨hcl, hcv⟩ := hcp
    have hxl : xs.length = fn.np := (VRs.length hr).trans hc1
    have hnp := B.np
    have hlen := B.len
    have htk : (ci.sc.vars.take fn.np).length = fn.np := by rw [List.length_take]; omega
    have hkeys : ((ci.sc.vars.take fn.np).zip xs).map (·.1) = ci.sc.vars.take fn.np := zip_keys (by rw [hxl, htk])
    refine wpAny_call (call_entry_clo (binds := (ci.sc.vars.take fn.np).zip xs) (by have := hA.dp; omega) c2 c3 (G.nolimit.keeps S.base) c14 c4 (B.bind fd xs c5 c8 c9 hxl) ?_ (fun y hy => ?_) (by rw [c6]; exact hnc) (by rw [c6]; exact B.co) (by rw [c6]; exact B.gen) (by rw [c6]; exact B.kind) fun env s1 e1 e2 e3 e4 e5 e6 E => ?_)
    · rw [hkeys]
      exact B.nd.sublist (List.take_sublist _ _)
    · have hm : y.1 ∈ ci.sc.vars.take fn.np := by rw [← hkeys]; exact List.mem_map.mpr ⟨y, hy, rfl⟩
      rw [c6, ← B.kinds]
      rcases B.loc y.1 ((List.take_sublist_take_left (by omega)).subset hm) with q | q
      · exact q
      · rw [B.kinds] at q
        exact absurd rfl (hnc _ (mem_of_lookup q))
    · have hAd : AOk g n (A.deeper env) := hA.deep G (by rw [e1, c6]; exact B.gen) (by rw [e1, c6]; exact B.co) (by rw [e3, c11]) (by rw [e2, c10])
      have hkd : ∀ x, env.kindOf x = ci.sc.kinds x := fun x => by rw [B.kinds]; show env.scope.names.lookup x = _; rw [e1, c6]
      have I := enter_inv (P := P) (cs := cs.map lend) B S E (by rw [e1, c6]) (by rw [e2, c10]) (by rw [e3, c11]) (fun c q h => by rw [hcode] at h; cases h) hP hgP hr hc1 (by rw [List.length_map]; exact hcl) (fun j y l h1 h2 => by
        rw [List.getElem?_map] at h2
        cases q : cs[j]? with
        | none => rw [q] at h2; cases h2
        | some l0 =>
          rw [q] at h2; cases h2
          obtain ⟨c, ov, r1, r2, r3⟩ := hcv j y l0 h1 q
          obtain ⟨c', r4, r5⟩ := c15 y (List.mem_of_getElem? h1)
          rw [r1] at r5; cases r5
          have r6 : LocR g env F s.heap l0 ov := r3.toEnv (List.all_eq_true.mp hc3 l0 (List.mem_of_getElem? q)) hci c15 e6
          refine ⟨c, ov, r4, r2, ?_, fun ho => ?_⟩
          · cases l0 <;> exact r6
          · have ho' : isOwnL l0 = true := by cases l0 <;> first | rfl | cases ho
            obtain ⟨q1, q2⟩ := hown j y l0 c ov h1 q ho' r1 r2
            refine ⟨q1, ?_, q2⟩
            cases l0 with
            | own us => exact ⟨us, rfl⟩
            | bor us => exact ⟨us, rfl⟩
            | un => cases ho'
            | val _ => cases ho'
            | clo _ => cases ho')
      have caps : ∀ x c, x ∈ ci.cap → env0.cells.lookup x = some c → env.cells.lookup x = some c ∧ env.kindOf x = some .free := fun x c hx hc => by
        obtain ⟨c', r4, r5⟩ := c15 x hx
        rw [hc] at r5; cases r5
        exact ⟨by rw [e6]; exact r4, by rw [hkd]; exact B.capk x hx⟩
      have main : ∀ fl st', seq (ex p n) (initSt fn vs (cs.map lend)) fn.body = some (fl, st') → (fl = .ret v ∨ (fl = .nx ∧ v = .none)) → cs' = st'.drop (fn.nv - cs.length) → headOk cs cs' = true →
          wpAny (model g.prog g.w) (A.deeper env) (execs ci.body env) (fun f s' => Q (match f with | .ret v => v | _ => .none) s') noE s1 := by
        intro fl st' hs hfl h1 h2
        refine wpAny_mono (seq_sound G ih hAd I B.ts hs) (fun f s2 r2 => ?_) fun _ _ q => q
        obtain ⟨F2, x2, I2, r3⟩ := r2
        refine fin env s1 _ _ st' F2 s2 fn _ E x2 I2 ?_ h1 h2 B hcl caps
        rcases hfl with rfl | ⟨rfl, rfl⟩
        · obtain ⟨y, rfl, r4⟩ := r3
          exact r4
        · cases r3
          rfl
      split at hv
      · rename_i w st' hs
        split at hv
        · rename_i hh
          cases hv
          exact main _ _ hs (.inl rfl) rfl hh
        · cases hv
      · rename_i st' hs
        split at hv
        · rename_i hh
          cases hv
          exact main _ _ hs (.inr ⟨rfl, rfl⟩) rfl hh
        · cases hv
      · cases hv
  · cases hv

theorem callC_sound (G : GOk g p) (K : FnsOk g p) (ih : IHS g p n) (hA : AOk g (n + 1) A) (S : SOk g F s) {k : Nat} {ci : CloI} {f : Addr} {vs : List V} {xs : List Value} {cs cs' : List Loc} {v : V}
    (hf : CloAt g env0 s.heap k f) (hci : g.clos[k]? = some ci) (hcp : CapOk g env0 F s.heap ci.cap cs) (hfz : cs.all frozenLoc = true) (hr : VRs s.heap F vs xs) (hv : callC p (n + 1) k vs cs = some (v, cs')) :
    wpAny (model g.prog g.w) A (call (.ref f) xs) (Res g.tabs F s v) noE s := by
  refine clo_enter G K ih hA S (fun b => NT g.tabs b ∧ ∃ o, s.heap.get? b = some o) hf hci hcp hr hv (fun a h => h) (fun b o e => ⟨G.nt b o e, o, S.base b o e⟩) (fun j y l c ov _ h2 h3 _ _ => ?_) fun env s1 cl binds st' F2 s2 fn y E x I hvr _ _ _ _ _ => ?_
  · have := List.all_eq_true.mp hfz l (List.mem_of_getElem? h2)
    cases l <;> first | exact absurd h3 Bool.false_ne_true | exact absurd this Bool.false_ne_true
  · exact ⟨F2, entry_ext E (fun b o q e => ⟨q, o, e⟩) x I.ti, hvr⟩

theorem callM_sound (G : GOk g p) (K : FnsOk g p) (ih : IHS g p n) (hA : AOk g (n + 1) A) (S : SOk g F s) {k : Nat} {ci : CloI} {f : Addr} {vs : List V} {xs : List Value} {l0 : Loc} {cs cs' : List Loc} {v : V} {y : Str} {c a : Addr}
    (hf : CloAt g env0 s.heap k f) (hci : g.clos[k]? = some ci) (hcp : CapOk g env0 F s.heap ci.cap (l0 :: cs)) (ho : isOwnL l0 = true) (hfz : cs.all frozenLoc = true)
    (hy : ci.cap[0]? = some y) (hc : env0.cells.lookup y = some c) (hcell : s.heap.IsCell c (some (.ref a))) (nF : ¬ F a) (hga : g.hg.get? a = none) (hr : VRs s.heap F vs xs) (hv : callC p (n + 1) k vs (l0 :: cs) = some (v, cs')) :
    wpAny (model g.prog g.w) A (call (.ref f) xs) (ResC g.tabs F s a v cs') noE s := by
  obtain ⟨c1, ov1, q1, q2, q3⟩ := hcp.2 0 y l0 hy rfl
  rw [hc] at q1; cases q1
  have hov : ov1 = some (.ref a) := by
    obtain ⟨o1, r1, r2⟩ := hcell
    obtain ⟨o2, r3, r4⟩ := q2
    rw [r1] at r3; cases r3
    rw [r2] at r4; cases r4
    rfl
  subst hov
  obtain ⟨a', its0, vs0, e0, hpl, _⟩ := q3.alive ho
  cases e0
  obtain ⟨oC, hC1, hC2⟩ := id hcell
  obtain ⟨oA, kA, hA1, _, _, hA4⟩ := id hpl
  have hca : c ≠ a := fun q => by
    subst q
    rw [hC1] at hA1; cases hA1
    rw [hC2] at hA4; cases hA4
  have hcn : NT g.tabs c := S.ti.notP hC1 fun vs q => by rw [hC2] at q; cases q
  refine clo_enter G K ih hA S (fun b => (NT g.tabs b ∧ b ≠ a) ∧ ∃ o, s.heap.get? b = some o) hf hci hcp hr hv (fun b h => ⟨h.1.1, h.2⟩) (fun b o e => ⟨⟨G.nt b o e, fun q => by rw [q, hga] at e; cases e⟩, o, S.base b o e⟩) (fun j z l c2 ov h1 h2 h3 h4 h5 => ?_) fun env s1 cl binds st' F2 s2 fn z E x I hvr hcs' hh B hlen hcaps => ?_
  · cases j with
    | succ j =>
      have h2' : cs[j]? = some l := by simpa using h2
      have := List.all_eq_true.mp hfz l (List.mem_of_getElem? h2')
      cases l <;> first | exact absurd h3 Bool.false_ne_true | exact absurd this Bool.false_ne_true
    | zero =>
      refine ⟨rfl, fun b hb => ?_⟩
      rw [hy] at h1; cases h1
      rw [hc] at h4; cases h4
      have : b = a := by
        obtain ⟨o2, r3, r4⟩ := h5
        rw [hC1] at r3; cases r3
        rw [hC2] at r4; cases r4
        cases hb; rfl
      subst this
      exact ⟨nF, fun q => q.1.2 rfl⟩
  · have hext : ExtL g.tabs F s a F2 s2 := {
      keep := fun b o hb hba e => x.keepP b o ⟨⟨hb, hba⟩, o, e⟩ (E.keep b o e)
      ti := I.ti
      gens := x.gens.trans E.gens
      os := x.os.trans E.os
      tok := Nat.le_trans E.tok x.tok
      mono := x.mono
      new := fun b hb => (x.new b hb).imp id fun ⟨r1, r2, _, r4⟩ => ⟨r1, r2, r4⟩ }
    obtain ⟨vs', cs2, hcs2⟩ : ∃ vs' cs2, cs' = .bor vs' :: cs2 := by
      cases cs' with
      | nil => simp only [headOk, ho] at hh; cases hh
      | cons l1 cs2 =>
        cases l1 with
        | bor vs' => exact ⟨vs', cs2, rfl⟩
        | own _ => simp only [headOk, ho] at hh; cases hh
        | un => simp only [headOk, ho] at hh; cases hh
        | val _ => simp only [headOk, ho] at hh; cases hh
        | clo _ => simp only [headOk, ho] at hh; cases hh
    have hget : st'[fn.nv - (cs.length + 1)]? = some (.bor vs') := by
      have : (st'.drop (fn.nv - (l0 :: cs).length))[0]? = some (.bor vs') := by rw [← hcs', hcs2]; rfl
      rw [List.getElem?_drop] at this
      simpa using this
    have hvar : ci.sc.vars[fn.nv - (cs.length + 1)]? = some y := by
      have h := B.cap
      rw [← hlen] at h
      have h2 : (ci.sc.vars.drop (fn.nv - (l0 :: cs).length))[0]? = some y := by rw [h]; exact hy
      rw [List.getElem?_drop] at h2
      simpa using h2
    obtain ⟨ov, r1, b, its, rfl, r2, r3⟩ := I.vars _ _ _ hvar hget
    obtain ⟨k1, k2⟩ := hcaps y c (List.mem_of_getElem? hy) hc
    have hcell2 : s2.heap.IsCell c (some (.ref a)) := ⟨oC, hext.keep c oC hcn hca hC1, hC2⟩
    have := Slot.det r1 (.inr ⟨.inr k2, c, k1, hcell2⟩)
    cases this
    obtain ⟨n1, _, _⟩ := I.own _ _ _ a hvar hget rfl r1
    exact ⟨F2, vs', its, hext, hvr, by rw [hcs2]; rfl, r2, r3, n1⟩
end
end Mine
end
section
namespace Mine
open PySem PySem.W PyProof.Rows

section
variable {g : Gx} {p : Prog} {n : Nat} {sc : Sc} {env env0 : Env} {h₀ : Heap} {P F F' : Addr → Prop} {st st' : St} {s s1 s' : Shared} {A : Around} {fn : Fn} {fl : Fl}

theorem bin_add {k m : Int} {v : V} (h : bin .add (.int k) (.int m) = some v) : v = .int (k + m) := by cases h; rfl

theorem ex_succ (G : GOk g p) (ih : IHS g p n) (hA : AOk g n A) (I : Inv g sc env h₀ P F st s) {a : Stmt} {m : Sm} (h : TS g sc a m) (hv : ex p (n + 1) st m = some (fl, st')) :
    wpAny (model g.prog g.w) A (exec a env) (SRes g sc env h₀ P F s fl st') noE s := by
  induction h using TS.casesOn with
  | asg h1 hx hk hs =>
    simp only [ex, Option.map_eq_some_iff] at hv
    obtain ⟨v, e1, e2⟩ := hv
    cases e2
    exact asg_sound G ih hA I h1 hx hk hs e1
  | asgo h1 hx hk hs =>
    simp only [ex] at hv
    split at hv
    · rename_i hf
      split at hv
      · rename_i vs e1
        cases hv
        exact asgo_sound G ih hA I h1 hx hk hs hf e1
      · cases hv
    · cases hv
  | asgU h1 hx hk hs =>
    simp only [ex, Option.map_eq_some_iff] at hv
    obtain ⟨v, e1, e2⟩ := hv
    cases e2
    obtain ⟨vs, rfl⟩ : ∃ vs, v = .lst vs := by
      cases h1 with
      | comp a b c d e =>
        cases n with
        | zero => simp [ev] at e1
        | succ n =>
          simp only [ev, Option.bind_eq_some_iff] at e1
          obtain ⟨_, _, _, _, _, _, e1⟩ := e1
          split at e1
          · simp only [Option.map_eq_some_iff] at e1
            obtain ⟨ws, _, rfl⟩ := e1
            exact ⟨ws, rfl⟩
          · cases e1
    exact use_sound G ih hA I h1 hx hk hs (.inl rfl) e1
  | asgoU h1 hx hk hs =>
    simp only [ex] at hv
    split at hv
    · rename_i hf
      split at hv
      · rename_i vs e1
        cases hv
        exact use_sound G ih hA I h1 hx hk hs (.inr rfl) e1
      · cases hv
    · cases hv
  | aug h1 hx hk hp =>
    simp only [ex, Option.bind_eq_some_iff] at hv
    obtain ⟨a, e1, b, e2, hv⟩ := hv
    split at hv
    · simp only [Option.map_eq_some_iff] at hv
      obtain ⟨v, e3, e4⟩ := hv
      cases e4
      rw [bin_add e3]
      exact aug_sound G ih hA I h1 hx hk hp e1 e2
    · cases hv
  | ite h1 h2 h3 =>
    simp only [ex, Option.bind_eq_some_iff] at hv
    obtain ⟨k, e1, hv⟩ := hv
    exact ite_sound G ih hA I h1 h2 h3 e1 hv
  | ret h1 =>
    simp only [ex, Option.map_eq_some_iff] at hv
    obtain ⟨v, e1, e2⟩ := hv
    cases e2
    exact ret_sound G ih hA I h1 e1
  | retn =>
    simp only [ex] at hv
    cases hv
    exact wpAny_Return_none ⟨F, ExtS.refl, I, .none, rfl, rfl⟩
  | while_ h1 h2 =>
    simp only [ex] at hv
    exact while_sound G ih hA I h1 h2 hv
  | for_ h1 hx hk hb hs =>
    simp only [ex, Option.bind_eq_some_iff] at hv
    obtain ⟨v, e1, vs, e2, hv⟩ := hv
    exact for_sound G ih hA I h1 hx hk hb hs e1 e2 hv
  | app h1 hx hp hl =>
    simp only [ex, Option.bind_eq_some_iff] at hv
    obtain ⟨vs, e1, v, e2, hv⟩ := hv
    split at hv
    · rename_i hz
      cases hv
      exact app_sound G ih hA I h1 hx hp hl e1 e2 hz
    · cases hv
  | rev hx hp hl =>
    simp only [ex, Option.bind_eq_some_iff] at hv
    obtain ⟨vs, e1, hv⟩ := hv
    split at hv
    · rename_i hz
      cases hv
      exact rev_sound I hx hp hl e1 hz
    · cases hv
  | seti h1 h2 hx hp hs =>
    simp only [ex, Option.bind_eq_some_iff] at hv
    obtain ⟨⟨vs, mk⟩, e1, hv⟩ := hv
    split at hv
    · rename_i k v e2 e3
      split at hv
      · rename_i hc
        simp only [Bool.and_eq_true, decide_eq_true_eq] at hc
        cases hv
        exact seti_sound G ih hA I h1 h2 hx hp hs e1 e2 e3 hc.1.1 hc.1.2 hc.2
      · cases hv
    · cases hv
  | augi h1 h2 hx hp =>
    simp only [ex, Option.bind_eq_some_iff] at hv
    obtain ⟨vs, e1, hv⟩ := hv
    split at hv
    · rename_i k b e2 e3
      split at hv
      · rename_i hc
        simp only [Bool.and_eq_true, decide_eq_true_eq] at hc
        split at hv
        · rename_i c e4
          simp only [Option.map_eq_some_iff] at hv
          obtain ⟨v, e5, e6⟩ := hv
          cases e6
          rw [bin_add e5]
          exact augi_sound G ih hA I h1 h2 hx hp e1 e2 e3 hc.1.1 hc.1.2 hc.2 e4
        · cases hv
      · cases hv
    · cases hv
  | unp ht h1 hs hw =>
    simp only [ex] at hv
    split at hv
    · rename_i vs e1
      simp only [Option.map_eq_some_iff] at hv
      obtain ⟨st1, e2, e3⟩ := hv
      cases e3
      exact unp_sound G ih hA I ht h1 hs hw e1 e2
    · cases hv
  | asgs ht h1 hs hw =>
    simp only [ex] at hv
    split at hv
    · rename_i hl
      simp only [Option.bind_eq_some_iff, Option.map_eq_some_iff] at hv
      obtain ⟨vs, e1, st1, e2, e3⟩ := hv
      cases e3
      exact asgs_sound G ih hA I ht h1 hs hw hl e1 e2
    · cases hv
  | asgso ht hd hle he hs hw =>
    simp only [ex] at hv
    split at hv
    · rename_i hl
      cases hv
      exact asgso_nils G hA I ht hle he hs hw hl
    · cases hv
  | forr h1 hr hx hk hb =>
    simp only [ex, Option.bind_eq_some_iff] at hv
    obtain ⟨v, e1, hv⟩ := hv
    split at hv
    · exact forr_sound G ih hA I h1 hr hx hk hb e1 hv
    · cases hv
  | callc hx hp hci hm hkd h1 =>
    simp only [ex] at hv
    split at hv
    · rename_i hcl
      simp only [Option.bind_eq_some_iff] at hv
      obtain ⟨vs, e1, cs, e2, hv⟩ := hv
      split at hv
      · rename_i hfz
        simp only [Option.bind_eq_some_iff] at hv
        obtain ⟨⟨v, cs'⟩, e3, hv⟩ := hv
        split at hv
        · rename_i e4
          cases e4
          cases hv
          exact callcS_sound G ih hA I hx hp hci hm hkd h1 hcl e1 e2 hfz e3
        · cases hv
      · cases hv
    · cases hv
  | defc hx hk hci D =>
    simp only [ex] at hv
    cases hv
    exact defc_sound G I hx hk hci D

theorem all_sound (G : GOk g p) (K : FnsOk g p) : ∀ n, IHS g p n
  | 0 => {
    e := fun _ _ _ h => by simp [ev] at h
    l := fun _ _ _ h => by simp [evL] at h
    o := fun _ _ _ h => by simp [evO] at h
    t := fun _ _ _ h => by simp [evT] at h
    f := fun _ _ _ _ _ h => by simp [callF] at h
    c := fun _ _ _ _ _ _ _ _ h => by simp [callC] at h
    w := fun _ _ _ _ h => by simp [ev] at h
    u := fun _ _ _ h _ => by simp [ev] at h
    x := fun _ _ _ h => by simp [ex] at h
    m := fun _ _ _ _ _ _ _ _ _ _ _ _ _ _ h => by simp [callC] at h }
  | n + 1 =>
    have ih := all_sound G K n
    { e := fun hA I h hv => ev_succ G ih.toIH (hA.le (Nat.le_succ n)) I h hv
      l := fun hA I h hv => evL_succ ih.toIH (hA.le (Nat.le_succ n)) I h hv
      o := fun hA I h hv => evO_succ ih.toIH (hA.le (Nat.le_succ n)) I h hv
      t := fun hA I h hv => evT_succ G ih.toIH (hA.le (Nat.le_succ n)) I h hv
      f := fun hA S hx ha hr hv => callF_sound G K ih hA S hx ha hr hv
      c := fun hA S hf _ hci hcp hfz hr hv => callC_sound G K ih hA S hf hci hcp hfz hr hv
      w := fun hA I h hf hv => new_succ G ih.toIH (hA.le (Nat.le_succ n)) I h hf hv
      u := fun hA I h hv fin => use_succ G ih.toIH (hA.le (Nat.le_succ n)) I h hv fin
      x := fun hA I h hv => ex_succ G ih (hA.le (Nat.le_succ n)) I h hv
      m := fun hA S hf _ hci hcp ho hfz hy hc hcell nF hga hr hv => callM_sound G K ih hA S hf hci hcp ho hfz hy hc hcell nF hga hr hv }
end
end Mine
end
section
namespace Mine
open PySem PySem.W PyProof.Rows

/-- the def inside a def -/
noncomputable def inAt : Nat → Stmt
  | 4 => (defBody (stAt 4)).getD 1 default
  | _ => (defBody (stAt 5)).getD 0 default
noncomputable def inb (k : Nat) : List Stmt := defBody (inAt k)
noncomputable def ins (k : Nat) : Scope := defScope (inAt k)
noncomputable def ina (k : Nat) : Arguments := defParams (inAt k)
noncomputable def scbdiv2n1n : Sc := ⟨[Str.ofString "a", Str.ofString "b", Str.ofString "n", Str.ofString "pad", Str.ofString "half_n", Str.ofString "mask", Str.ofString "b1", Str.ofString "b2", Str.ofString "q1", Str.ofString "r", Str.ofString "q2"], fun x => (fs 2).names.lookup x, none⟩
noncomputable def scbint2digits : Sc := ⟨[Str.ofString "a", Str.ofString "n", Str.ofString "a_digits", Str.ofString "inner"], fun x => (fs 4).names.lookup x, some (34, "_int2digits" ++ ".<locals>.")⟩
noncomputable def scbiint2digits : Sc := ⟨[Str.ofString "x", Str.ofString "L", Str.ofString "R", Str.ofString "mid", Str.ofString "shift", Str.ofString "upper", Str.ofString "lower", Str.ofString "a_digits", Str.ofString "inner", Str.ofString "n"], fun x => (ins 4).names.lookup x, none⟩
noncomputable def scbdigits2int : Sc := ⟨[Str.ofString "digits", Str.ofString "n", Str.ofString "inner"], fun x => (fs 5).names.lookup x, some (41, "_digits2int" ++ ".<locals>.")⟩
noncomputable def scbidigits2int : Sc := ⟨[Str.ofString "L", Str.ofString "R", Str.ofString "mid", Str.ofString "shift", Str.ofString "digits", Str.ofString "inner", Str.ofString "n"], fun x => (ins 5).names.lookup x, none⟩
noncomputable def scbdivmod_pos : Sc := ⟨[Str.ofString "a", Str.ofString "b", Str.ofString "n", Str.ofString "a_digits", Str.ofString "r", Str.ofString "q_digits", Str.ofString "a_digit", Str.ofString "q_digit", Str.ofString "q"], fun x => (fs 6).names.lookup x, none⟩
noncomputable def scbint_divmod : Sc := ⟨[Str.ofString "a", Str.ofString "b", Str.ofString "q", Str.ofString "r"], fun x => (fs 7).names.lookup x, none⟩
noncomputable def scbrgb_to_hls : Sc := ⟨[Str.ofString "r", Str.ofString "g", Str.ofString "b", Str.ofString "maxc", Str.ofString "minc", Str.ofString "sumc", Str.ofString "rangec", Str.ofString "l", Str.ofString "s", Str.ofString "rc", Str.ofString "gc", Str.ofString "bc", Str.ofString "h"], fun x => (fs 9).names.lookup x, none⟩
noncomputable def scbrgb_to_hsv : Sc := ⟨[Str.ofString "r", Str.ofString "g", Str.ofString "b", Str.ofString "maxc", Str.ofString "minc", Str.ofString "rangec", Str.ofString "v", Str.ofString "s", Str.ofString "rc", Str.ofString "gc", Str.ofString "bc", Str.ofString "h"], fun x => (fs 10).names.lookup x, none⟩
noncomputable def scbhsv_to_rgb : Sc := ⟨[Str.ofString "h", Str.ofString "s", Str.ofString "v", Str.ofString "i", Str.ofString "f", Str.ofString "p", Str.ofString "q", Str.ofString "t"], fun x => (fs 11).names.lookup x, none⟩
noncomputable def scbISTERMINAL : Sc := ⟨[Str.ofString "x"], fun x => (fs 15).names.lookup x, none⟩
noncomputable def scbISNONTERMINAL : Sc := ⟨[Str.ofString "x"], fun x => (fs 16).names.lookup x, none⟩
noncomputable def scbISEOF : Sc := ⟨[Str.ofString "x"], fun x => (fs 17).names.lookup x, none⟩
noncomputable def scblaw_number : Sc := ⟨[Str.ofString "signs", Str.ofString "run", Str.ofString "figures"], fun x => (fs 19).names.lookup x, none⟩
noncomputable def scblaw_signs : Sc := ⟨[Str.ofString "number", Str.ofString "whole", Str.ofString "rest", Str.ofString "figures", Str.ofString "signs"], fun x => (fs 20).names.lookup x, none⟩
noncomputable def scblaw : Sc := ⟨[Str.ofString "script", Str.ofString "heaps", Str.ofString "k", Str.ofString "kinds", Str.ofString "heap", Str.ofString "share", Str.ofString "value", Str.ofString "paint", Str.ofString "told", Str.ofString "light", Str.ofString "full", Str.ofString "first", Str.ofString "second", Str.ofString "stalks", Str.ofString "numbers", Str.ofString "greens", Str.ofString "row", Str.ofString "stalk", Str.ofString "kind", Str.ofString "signs", Str.ofString "heights", Str.ofString "across", Str.ofString "worth", Str.ofString "left", Str.ofString "right", Str.ofString "code", Str.ofString "sizes", Str.ofString "lefts", Str.ofString "rights", Str.ofString "j", Str.ofString "cut", Str.ofString "fallen", Str.ofString "number", Str.ofString "due", Str.ofString "figures"], fun x => (fs 21).names.lookup x, none⟩
noncomputable def ci0 : CloI := ⟨scbiint2digits, ["a_digits", "inner", "n"], ina 4, inb 4, ins 4, "_int2digits" ++ ".<locals>." ++ "inner", defPos (inAt 4)⟩
noncomputable def ci1 : CloI := ⟨scbidigits2int, ["digits", "inner", "n"], ina 5, inb 5, ins 5, "_digits2int" ++ ".<locals>." ++ "inner", defPos (inAt 5)⟩
noncomputable def fnsL : List Str := ["_div2n1n", "_int2digits", "_digits2int", "_divmod_pos", "int_divmod", "rgb_to_hls", "rgb_to_hsv", "hsv_to_rgb", "ISTERMINAL", "ISNONTERMINAL", "ISEOF", "_law_number", "_law_signs", "law"]
noncomputable def glosL : List Str := ["_DIV_LIMIT", "NT_OFFSET", "ENDMARKER"]
noncomputable def closL : List CloI := [ci0, ci1]
noncomputable def tabsL : List TabRec := [⟨30, (defPos (inAt 4)).line, (defPos (inAt 4)).col, ci0.qual⟩, ⟨37, (defPos (inAt 5)).line, (defPos (inAt 5)).col, ci1.qual⟩]

theorem blockKind_of {sc : Sc} {env : Env} (h : EnvOf sc env) : env.blockKind = .function := by
  unfold Env.blockKind
  rw [h.2]; rfl
theorem kindOf_of {sc : Sc} {env : Env} (h : EnvOf sc env) : env.kindOf = sc.kinds := funext h.1
theorem swap_comp {sc : Sc} {elt : Expr} {gens : List Comprehension} {scope : Scope} {cpos pos p' : Pos} {x : Str} {b : Bool}
    (h : (sc.kinds x == some .local && p'.line == cpos.line && !(scope.names.any fun (n, k) => n == x && (k == .local || k == .cell))) = b) : Swap sc (.ListComp elt gens scope cpos) x p' pos b := fun env h1 h2 => by
  have e1 := blockKind_of ⟨h1, h2⟩
  have e2 : env.kindOf x = sc.kinds x := h1 x
  show (pure (env.blockKind == .function && env.kindOf x == some .local && p'.line == cpos.line && !(scope.names.any fun (n, k) => n == x && (k == .local || k == .cell))) : Sem Bool) = pure b
  rw [e1, e2, ← h]
  rfl
theorem TE.comp' {g : Gx} {sc : Sc} {elt iter : Expr} {x : Str} {px : Pos} {c : Option Expr} {cs : List Expr} {scope : Scope} {pos : Pos} {a : Ex} {cond : Option Ex} {it : Ex} {cap : List Nat}
    (hc : c.toList = cs) (h1 : TE g sc iter it) (h2 : TE g (compSc scope sc.kinds x (cap.filterMap fun i => sc.vars[i]?)) elt a) (h3 : TEo g (compSc scope sc.kinds x (cap.filterMap fun i => sc.vars[i]?)) c cond) (h4 : CompOk sc scope x cap (cap.filterMap fun i => sc.vars[i]?)) (h5 : ∀ env v, foldedSetIterable iter env v = pure v) :
    TE g sc (.ListComp elt [⟨.Name x px, iter, cs, 0⟩] scope pos) (.comp a cond it cap) := hc ▸ TE.comp h1 h2 h3 h4 h5
end Mine
end
section
set_option maxRecDepth 100000
set_option linter.unusedVariables false
namespace Mine
open PySem PySem.W PyProof.Rows
variable {g : Gx}
theorem glo_get (h : g.glos = glosL) {j : Nat} {x : Str} (h2 : glosL[j]? = some x) : g.glos[j]? = some x := by rw [h]; exact h2
theorem fns_get (h : g.fns = fnsL) {j : Nat} {x : Str} (h2 : fnsL[j]? = some x) : g.fns[j]? = some x := by rw [h]; exact h2
theorem clo_get (h : g.clos = closL) {j : Nat} {x : CloI} (h2 : closL[j]? = some x) : g.clos[j]? = some x := by rw [h]; exact h2


set_option maxHeartbeats 4000000 in
theorem ts_div2n1n (hf : g.fns = fnsL) (hg : g.glos = glosL) (hc : g.clos = closL) : TSs g scbdiv2n1n (fb 2) bdiv2n1n := by
  unfold bdiv2n1n
  (repeat' first
  | exact TSs.nil
  | exact TEs.nil
  | exact TEo.none
  | apply TSs.bad
  | apply TSs.frz
  | apply TSs.cons
  | apply TEs.cons
  | apply TEo.some
  | exact TE.int
  | exact TE.flt
  | exact TE.bool
  | refine TE.glo (glo_get (by assumption) (by rfl)) (by decide +kernel) (by decide +kernel)
  | refine TE.var (by rfl) (by decide +kernel)
  | refine TE.rep ?_ ?_
  | refine TE.bin (o := .add) ?_ ?_
  | refine TE.bin (o := .sub) ?_ ?_
  | refine TE.bin (o := .mul) ?_ ?_
  | refine TE.bin (o := .fdiv) ?_ ?_
  | refine TE.bin (o := .mod) ?_ ?_
  | refine TE.bin (o := .pow) ?_ ?_
  | refine TE.bin (o := .shl) ?_ ?_
  | refine TE.bin (o := .shr) ?_ ?_
  | refine TE.bin (o := .band) ?_ ?_
  | refine TE.bin (o := .bxor) ?_ ?_
  | refine TE.bin (o := .div) ?_ ?_
  | refine TE.cmp (o := .eq) ?_ ?_ (by rfl)
  | refine TE.cmp (o := .ne) ?_ ?_ (by rfl)
  | refine TE.cmp (o := .lt) ?_ ?_ (by rfl)
  | refine TE.cmp (o := .le) ?_ ?_ (by rfl)
  | refine TE.cmp (o := .gt) ?_ ?_ (by rfl)
  | refine TE.cmp (o := .ge) ?_ ?_ (by rfl)
  | refine TE.cmp (o := .isin) ?_ ?_ (by rfl)
  | apply TE.neg
  | apply TE.inv
  | apply TE.not
  | apply TE.and
  | apply TE.or
  | apply TE.ite
  | apply TE.lst
  | apply TE.tup
  | apply TE.slc
  | apply TE.idx
  | refine TE.isb (by decide +kernel) (by decide +kernel) ?_
  | refine TE.bi (b := .len) (by decide +kernel) ?_ (by decide)
  | refine TE.bi (b := .sum) (by decide +kernel) ?_ (by decide)
  | refine TE.bi (b := .abs) (by decide +kernel) ?_ (by decide)
  | refine TE.bi (b := .max) (by decide +kernel) ?_ (by decide)
  | refine TE.bi (b := .min) (by decide +kernel) ?_ (by decide)
  | refine TE.bi (b := .int) (by decide +kernel) ?_ (by decide)
  | refine TE.bi (b := .divmod) (by decide +kernel) ?_ (by decide)
  | refine TE.bi (b := .range) (by decide +kernel) ?_ (by decide)
  | refine TE.call (fns_get (by assumption) (by rfl)) (by decide +kernel) (by decide +kernel) ?_
  | refine TE.callc (by rfl) (by decide +kernel) (clo_get (by assumption) (by rfl)) (by rfl) (by decide +kernel) ?_
  | refine TE.bitlen ?_ (fun _ => rfl) (by rfl)
  | refine TE.comp' (c := none) rfl ?_ ?_ ?_ ⟨by rfl, (by decide +kernel), (by decide +kernel), (by decide +kernel), (by decide +kernel), (by decide +kernel), (by decide +kernel), (by decide +kernel)⟩ (fun _ _ => rfl)
  | refine TE.comp' (c := some _) rfl ?_ ?_ ?_ ⟨by rfl, (by decide +kernel), (by decide +kernel), (by decide +kernel), (by decide +kernel), (by decide +kernel), (by decide +kernel), (by decide +kernel)⟩ (fun _ _ => rfl)
  | refine TS.asgU ?_ (by rfl) (by first | exact Or.inl (by decide +kernel) | exact Or.inr (by decide +kernel)) (swap_comp (by decide +kernel))
  | refine TS.asgoU ?_ (by rfl) (by first | exact Or.inl (by decide +kernel) | exact Or.inr (by decide +kernel)) (swap_comp (by decide +kernel))
  | refine TS.asg ?_ (by rfl) (by first | exact Or.inl (by decide +kernel) | exact Or.inr (by decide +kernel)) (by first | exact fun _ _ _ => rfl | exact swap_comp (by decide +kernel))
  | refine TS.asgo ?_ (by rfl) (by first | exact Or.inl (by decide +kernel) | exact Or.inr (by decide +kernel)) (by first | exact fun _ _ _ => rfl | exact swap_comp (by decide +kernel))
  | refine TS.aug ?_ (by rfl) (by first | exact Or.inl (by decide +kernel) | exact Or.inr (by decide +kernel)) (by decide +kernel)
  | apply TS.ite
  | apply TS.ret
  | exact TS.retn
  | apply TS.while_
  | refine TS.for_ ?_ (by rfl) (by first | exact Or.inl (by decide +kernel) | exact Or.inr (by decide +kernel)) ?_ (fun _ _ => rfl)
  | refine TS.forr ?_ (by decide +kernel) (by rfl) (by first | exact Or.inl (by decide +kernel) | exact Or.inr (by decide +kernel)) ?_
  | refine TS.app ?_ (by rfl) (by decide +kernel) (by rfl)
  | refine TS.rev (by rfl) (by decide +kernel) (by rfl)
  | refine TS.seti ?_ ?_ (by rfl) (by decide +kernel) (fun _ => rfl)
  | refine TS.augi ?_ ?_ (by rfl) (by decide +kernel)
  | refine TS.callc (by rfl) (by decide +kernel) (clo_get (by assumption) (by rfl)) (by rfl) (by decide +kernel) ?_
  | refine TS.unp ?_ ?_ (fun _ _ => rfl) (fun _ _ => rfl)
  | refine TS.unp ?_ ?_ (fun _ _ => rfl) (fun env h => by have e1 := blockKind_of h; have e2 := kindOf_of h; unfold swappedStores; rw [e1, e2]; rfl)
  | refine TS.asgs (names := _) ?_ ?_ (fun _ _ => rfl) (fun env h => by have e1 := blockKind_of h; have e2 := kindOf_of h; unfold swappedStores; rw [e1, e2]; rfl)
  | refine TS.asgso (names := _) ?_ (by decide) (by rfl) (by intro e he; simp only [List.mem_cons, List.not_mem_nil, or_false] at he; first | (rcases he with rfl | rfl | rfl <;> exact ⟨_, rfl⟩) | (rcases he with rfl | rfl <;> exact ⟨_, rfl⟩)) (fun _ _ => rfl) (fun env h => by have e1 := blockKind_of h; have e2 := kindOf_of h; unfold swappedStores; rw [e1, e2]; rfl)
  | refine TN.cons (by rfl) (by first | exact Or.inl (by decide +kernel) | exact Or.inr (by decide +kernel)) ?_
  | exact TN.nil
  | refine TM.cons (by rfl) (by first | exact Or.inl (by decide +kernel) | exact Or.inr (by decide +kernel)) ?_
  | exact TM.nil)

set_option maxHeartbeats 4000000 in
theorem ts_divmod_pos (hf : g.fns = fnsL) (hg : g.glos = glosL) (hc : g.clos = closL) : TSs g scbdivmod_pos (fb 6) bdivmod_pos := by
  unfold bdivmod_pos
  (repeat' first
  | exact TSs.nil
  | exact TEs.nil
  | exact TEo.none
  | apply TSs.bad
  | apply TSs.frz
  | apply TSs.cons
  | apply TEs.cons
  | apply TEo.some
  | exact TE.int
  | exact TE.flt
  | exact TE.bool
  | refine TE.glo (glo_get (by assumption) (by rfl)) (by decide +kernel) (by decide +kernel)
  | refine TE.var (by rfl) (by decide +kernel)
  | refine TE.rep ?_ ?_
  | refine TE.bin (o := .add) ?_ ?_
  | refine TE.bin (o := .sub) ?_ ?_
  | refine TE.bin (o := .mul) ?_ ?_
  | refine TE.bin (o := .fdiv) ?_ ?_
  | refine TE.bin (o := .mod) ?_ ?_
  | refine TE.bin (o := .pow) ?_ ?_
  | refine TE.bin (o := .shl) ?_ ?_
  | refine TE.bin (o := .shr) ?_ ?_
  | refine TE.bin (o := .band) ?_ ?_
  | refine TE.bin (o := .bxor) ?_ ?_
  | refine TE.bin (o := .div) ?_ ?_
  | refine TE.cmp (o := .eq) ?_ ?_ (by rfl)
  | refine TE.cmp (o := .ne) ?_ ?_ (by rfl)
  | refine TE.cmp (o := .lt) ?_ ?_ (by rfl)
  | refine TE.cmp (o := .le) ?_ ?_ (by rfl)
  | refine TE.cmp (o := .gt) ?_ ?_ (by rfl)
  | refine TE.cmp (o := .ge) ?_ ?_ (by rfl)
  | refine TE.cmp (o := .isin) ?_ ?_ (by rfl)
  | apply TE.neg
  | apply TE.inv
  | apply TE.not
  | apply TE.and
  | apply TE.or
  | apply TE.ite
  | apply TE.lst
  | apply TE.tup
  | apply TE.slc
  | apply TE.idx
  | refine TE.isb (by decide +kernel) (by decide +kernel) ?_
  | refine TE.bi (b := .len) (by decide +kernel) ?_ (by decide)
  | refine TE.bi (b := .sum) (by decide +kernel) ?_ (by decide)
  | refine TE.bi (b := .abs) (by decide +kernel) ?_ (by decide)
  | refine TE.bi (b := .max) (by decide +kernel) ?_ (by decide)
  | refine TE.bi (b := .min) (by decide +kernel) ?_ (by decide)
  | refine TE.bi (b := .int) (by decide +kernel) ?_ (by decide)
  | refine TE.bi (b := .divmod) (by decide +kernel) ?_ (by decide)
  | refine TE.bi (b := .range) (by decide +kernel) ?_ (by decide)
  | refine TE.call (fns_get (by assumption) (by rfl)) (by decide +kernel) (by decide +kernel) ?_
  | refine TE.callc (by rfl) (by decide +kernel) (clo_get (by assumption) (by rfl)) (by rfl) (by decide +kernel) ?_
  | refine TE.bitlen ?_ (fun _ => rfl) (by rfl)
  | refine TE.comp' (c := none) rfl ?_ ?_ ?_ ⟨by rfl, (by decide +kernel), (by decide +kernel), (by decide +kernel), (by decide +kernel), (by decide +kernel), (by decide +kernel), (by decide +kernel)⟩ (fun _ _ => rfl)
  | refine TE.comp' (c := some _) rfl ?_ ?_ ?_ ⟨by rfl, (by decide +kernel), (by decide +kernel), (by decide +kernel), (by decide +kernel), (by decide +kernel), (by decide +kernel), (by decide +kernel)⟩ (fun _ _ => rfl)
  | refine TS.asgU ?_ (by rfl) (by first | exact Or.inl (by decide +kernel) | exact Or.inr (by decide +kernel)) (swap_comp (by decide +kernel))
  | refine TS.asgoU ?_ (by rfl) (by first | exact Or.inl (by decide +kernel) | exact Or.inr (by decide +kernel)) (swap_comp (by decide +kernel))
  | refine TS.asg ?_ (by rfl) (by first | exact Or.inl (by decide +kernel) | exact Or.inr (by decide +kernel)) (by first | exact fun _ _ _ => rfl | exact swap_comp (by decide +kernel))
  | refine TS.asgo ?_ (by rfl) (by first | exact Or.inl (by decide +kernel) | exact Or.inr (by decide +kernel)) (by first | exact fun _ _ _ => rfl | exact swap_comp (by decide +kernel))
  | refine TS.aug ?_ (by rfl) (by first | exact Or.inl (by decide +kernel) | exact Or.inr (by decide +kernel)) (by decide +kernel)
  | apply TS.ite
  | apply TS.ret
  | exact TS.retn
  | apply TS.while_
  | refine TS.for_ ?_ (by rfl) (by first | exact Or.inl (by decide +kernel) | exact Or.inr (by decide +kernel)) ?_ (fun _ _ => rfl)
  | refine TS.forr ?_ (by decide +kernel) (by rfl) (by first | exact Or.inl (by decide +kernel) | exact Or.inr (by decide +kernel)) ?_
  | refine TS.app ?_ (by rfl) (by decide +kernel) (by rfl)
  | refine TS.rev (by rfl) (by decide +kernel) (by rfl)
  | refine TS.seti ?_ ?_ (by rfl) (by decide +kernel) (fun _ => rfl)
  | refine TS.augi ?_ ?_ (by rfl) (by decide +kernel)
  | refine TS.callc (by rfl) (by decide +kernel) (clo_get (by assumption) (by rfl)) (by rfl) (by decide +kernel) ?_
  | refine TS.unp ?_ ?_ (fun _ _ => rfl) (fun _ _ => rfl)
  | refine TS.unp ?_ ?_ (fun _ _ => rfl) (fun env h => by have e1 := blockKind_of h; have e2 := kindOf_of h; unfold swappedStores; rw [e1, e2]; rfl)
  | refine TS.asgs (names := _) ?_ ?_ (fun _ _ => rfl) (fun env h => by have e1 := blockKind_of h; have e2 := kindOf_of h; unfold swappedStores; rw [e1, e2]; rfl)
  | refine TS.asgso (names := _) ?_ (by decide) (by rfl) (by intro e he; simp only [List.mem_cons, List.not_mem_nil, or_false] at he; first | (rcases he with rfl | rfl | rfl <;> exact ⟨_, rfl⟩) | (rcases he with rfl | rfl <;> exact ⟨_, rfl⟩)) (fun _ _ => rfl) (fun env h => by have e1 := blockKind_of h; have e2 := kindOf_of h; unfold swappedStores; rw [e1, e2]; rfl)
  | refine TN.cons (by rfl) (by first | exact Or.inl (by decide +kernel) | exact Or.inr (by decide +kernel)) ?_
  | exact TN.nil
  | refine TM.cons (by rfl) (by first | exact Or.inl (by decide +kernel) | exact Or.inr (by decide +kernel)) ?_
  | exact TM.nil)

set_option maxHeartbeats 4000000 in
theorem ts_int_divmod (hf : g.fns = fnsL) (hg : g.glos = glosL) (hc : g.clos = closL) : TSs g scbint_divmod (fb 7) bint_divmod := by
  unfold bint_divmod
  (repeat' first
  | exact TSs.nil
  | exact TEs.nil
  | exact TEo.none
  | apply TSs.bad
  | apply TSs.frz
  | apply TSs.cons
  | apply TEs.cons
  | apply TEo.some
  | exact TE.int
  | exact TE.flt
  | exact TE.bool
  | refine TE.glo (glo_get (by assumption) (by rfl)) (by decide +kernel) (by decide +kernel)
  | refine TE.var (by rfl) (by decide +kernel)
  | refine TE.rep ?_ ?_
  | refine TE.bin (o := .add) ?_ ?_
  | refine TE.bin (o := .sub) ?_ ?_
  | refine TE.bin (o := .mul) ?_ ?_
  | refine TE.bin (o := .fdiv) ?_ ?_
  | refine TE.bin (o := .mod) ?_ ?_
  | refine TE.bin (o := .pow) ?_ ?_
  | refine TE.bin (o := .shl) ?_ ?_
  | refine TE.bin (o := .shr) ?_ ?_
  | refine TE.bin (o := .band) ?_ ?_
  | refine TE.bin (o := .bxor) ?_ ?_
  | refine TE.bin (o := .div) ?_ ?_
  | refine TE.cmp (o := .eq) ?_ ?_ (by rfl)
  | refine TE.cmp (o := .ne) ?_ ?_ (by rfl)
  | refine TE.cmp (o := .lt) ?_ ?_ (by rfl)
  | refine TE.cmp (o := .le) ?_ ?_ (by rfl)
  | refine TE.cmp (o := .gt) ?_ ?_ (by rfl)
  | refine TE.cmp (o := .ge) ?_ ?_ (by rfl)
  | refine TE.cmp (o := .isin) ?_ ?_ (by rfl)
  | apply TE.neg
  | apply TE.inv
  | apply TE.not
  | apply TE.and
  | apply TE.or
  | apply TE.ite
  | apply TE.lst
  | apply TE.tup
  | apply TE.slc
  | apply TE.idx
  | refine TE.isb (by decide +kernel) (by decide +kernel) ?_
  | refine TE.bi (b := .len) (by decide +kernel) ?_ (by decide)
  | refine TE.bi (b := .sum) (by decide +kernel) ?_ (by decide)
  | refine TE.bi (b := .abs) (by decide +kernel) ?_ (by decide)
  | refine TE.bi (b := .max) (by decide +kernel) ?_ (by decide)
  | refine TE.bi (b := .min) (by decide +kernel) ?_ (by decide)
  | refine TE.bi (b := .int) (by decide +kernel) ?_ (by decide)
  | refine TE.bi (b := .divmod) (by decide +kernel) ?_ (by decide)
  | refine TE.bi (b := .range) (by decide +kernel) ?_ (by decide)
  | refine TE.call (fns_get (by assumption) (by rfl)) (by decide +kernel) (by decide +kernel) ?_
  | refine TE.callc (by rfl) (by decide +kernel) (clo_get (by assumption) (by rfl)) (by rfl) (by decide +kernel) ?_
  | refine TE.bitlen ?_ (fun _ => rfl) (by rfl)
  | refine TE.comp' (c := none) rfl ?_ ?_ ?_ ⟨by rfl, (by decide +kernel), (by decide +kernel), (by decide +kernel), (by decide +kernel), (by decide +kernel), (by decide +kernel), (by decide +kernel)⟩ (fun _ _ => rfl)
  | refine TE.comp' (c := some _) rfl ?_ ?_ ?_ ⟨by rfl, (by decide +kernel), (by decide +kernel), (by decide +kernel), (by decide +kernel), (by decide +kernel), (by decide +kernel), (by decide +kernel)⟩ (fun _ _ => rfl)
  | refine TS.asgU ?_ (by rfl) (by first | exact Or.inl (by decide +kernel) | exact Or.inr (by decide +kernel)) (swap_comp (by decide +kernel))
  | refine TS.asgoU ?_ (by rfl) (by first | exact Or.inl (by decide +kernel) | exact Or.inr (by decide +kernel)) (swap_comp (by decide +kernel))
  | refine TS.asg ?_ (by rfl) (by first | exact Or.inl (by decide +kernel) | exact Or.inr (by decide +kernel)) (by first | exact fun _ _ _ => rfl | exact swap_comp (by decide +kernel))
  | refine TS.asgo ?_ (by rfl) (by first | exact Or.inl (by decide +kernel) | exact Or.inr (by decide +kernel)) (by first | exact fun _ _ _ => rfl | exact swap_comp (by decide +kernel))
  | refine TS.aug ?_ (by rfl) (by first | exact Or.inl (by decide +kernel) | exact Or.inr (by decide +kernel)) (by decide +kernel)
  | apply TS.ite
  | apply TS.ret
  | exact TS.retn
  | apply TS.while_
  | refine TS.for_ ?_ (by rfl) (by first | exact Or.inl (by decide +kernel) | exact Or.inr (by decide +kernel)) ?_ (fun _ _ => rfl)
  | refine TS.forr ?_ (by decide +kernel) (by rfl) (by first | exact Or.inl (by decide +kernel) | exact Or.inr (by decide +kernel)) ?_
  | refine TS.app ?_ (by rfl) (by decide +kernel) (by rfl)
  | refine TS.rev (by rfl) (by decide +kernel) (by rfl)
  | refine TS.seti ?_ ?_ (by rfl) (by decide +kernel) (fun _ => rfl)
  | refine TS.augi ?_ ?_ (by rfl) (by decide +kernel)
  | refine TS.callc (by rfl) (by decide +kernel) (clo_get (by assumption) (by rfl)) (by rfl) (by decide +kernel) ?_
  | refine TS.unp ?_ ?_ (fun _ _ => rfl) (fun _ _ => rfl)
  | refine TS.unp ?_ ?_ (fun _ _ => rfl) (fun env h => by have e1 := blockKind_of h; have e2 := kindOf_of h; unfold swappedStores; rw [e1, e2]; rfl)
  | refine TS.asgs (names := _) ?_ ?_ (fun _ _ => rfl) (fun env h => by have e1 := blockKind_of h; have e2 := kindOf_of h; unfold swappedStores; rw [e1, e2]; rfl)
  | refine TS.asgso (names := _) ?_ (by decide) (by rfl) (by intro e he; simp only [List.mem_cons, List.not_mem_nil, or_false] at he; first | (rcases he with rfl | rfl | rfl <;> exact ⟨_, rfl⟩) | (rcases he with rfl | rfl <;> exact ⟨_, rfl⟩)) (fun _ _ => rfl) (fun env h => by have e1 := blockKind_of h; have e2 := kindOf_of h; unfold swappedStores; rw [e1, e2]; rfl)
  | refine TN.cons (by rfl) (by first | exact Or.inl (by decide +kernel) | exact Or.inr (by decide +kernel)) ?_
  | exact TN.nil
  | refine TM.cons (by rfl) (by first | exact Or.inl (by decide +kernel) | exact Or.inr (by decide +kernel)) ?_
  | exact TM.nil)

set_option maxHeartbeats 4000000 in
theorem ts_rgb_to_hls (hf : g.fns = fnsL) (hg : g.glos = glosL) (hc : g.clos = closL) : TSs g scbrgb_to_hls (fb 9) brgb_to_hls := by
  unfold brgb_to_hls
  (repeat' first
  | exact TSs.nil
  | exact TEs.nil
  | exact TEo.none
  | apply TSs.bad
  | apply TSs.frz
  | apply TSs.cons
  | apply TEs.cons
  | apply TEo.some
  | exact TE.int
  | exact TE.flt
  | exact TE.bool
  | refine TE.glo (glo_get (by assumption) (by rfl)) (by decide +kernel) (by decide +kernel)
  | refine TE.var (by rfl) (by decide +kernel)
  | refine TE.rep ?_ ?_
  | refine TE.bin (o := .add) ?_ ?_
  | refine TE.bin (o := .sub) ?_ ?_
  | refine TE.bin (o := .mul) ?_ ?_
  | refine TE.bin (o := .fdiv) ?_ ?_
  | refine TE.bin (o := .mod) ?_ ?_
  | refine TE.bin (o := .pow) ?_ ?_
  | refine TE.bin (o := .shl) ?_ ?_
  | refine TE.bin (o := .shr) ?_ ?_
  | refine TE.bin (o := .band) ?_ ?_
  | refine TE.bin (o := .bxor) ?_ ?_
  | refine TE.bin (o := .div) ?_ ?_
  | refine TE.cmp (o := .eq) ?_ ?_ (by rfl)
  | refine TE.cmp (o := .ne) ?_ ?_ (by rfl)
  | refine TE.cmp (o := .lt) ?_ ?_ (by rfl)
  | refine TE.cmp (o := .le) ?_ ?_ (by rfl)
  | refine TE.cmp (o := .gt) ?_ ?_ (by rfl)
  | refine TE.cmp (o := .ge) ?_ ?_ (by rfl)
  | refine TE.cmp (o := .isin) ?_ ?_ (by rfl)
  | apply TE.neg
  | apply TE.inv
  | apply TE.not
  | apply TE.and
  | apply TE.or
  | apply TE.ite
  | apply TE.lst
  | apply TE.tup
  | apply TE.slc
  | apply TE.idx
  | refine TE.isb (by decide +kernel) (by decide +kernel) ?_
  | refine TE.bi (b := .len) (by decide +kernel) ?_ (by decide)
  | refine TE.bi (b := .sum) (by decide +kernel) ?_ (by decide)
  | refine TE.bi (b := .abs) (by decide +kernel) ?_ (by decide)
  | refine TE.bi (b := .max) (by decide +kernel) ?_ (by decide)
  | refine TE.bi (b := .min) (by decide +kernel) ?_ (by decide)
  | refine TE.bi (b := .int) (by decide +kernel) ?_ (by decide)
  | refine TE.bi (b := .divmod) (by decide +kernel) ?_ (by decide)
  | refine TE.bi (b := .range) (by decide +kernel) ?_ (by decide)
  | refine TE.call (fns_get (by assumption) (by rfl)) (by decide +kernel) (by decide +kernel) ?_
  | refine TE.callc (by rfl) (by decide +kernel) (clo_get (by assumption) (by rfl)) (by rfl) (by decide +kernel) ?_
  | refine TE.bitlen ?_ (fun _ => rfl) (by rfl)
  | refine TE.comp' (c := none) rfl ?_ ?_ ?_ ⟨by rfl, (by decide +kernel), (by decide +kernel), (by decide +kernel), (by decide +kernel), (by decide +kernel), (by decide +kernel), (by decide +kernel)⟩ (fun _ _ => rfl)
  | refine TE.comp' (c := some _) rfl ?_ ?_ ?_ ⟨by rfl, (by decide +kernel), (by decide +kernel), (by decide +kernel), (by decide +kernel), (by decide +kernel), (by decide +kernel), (by decide +kernel)⟩ (fun _ _ => rfl)
  | refine TS.asgU ?_ (by rfl) (by first | exact Or.inl (by decide +kernel) | exact Or.inr (by decide +kernel)) (swap_comp (by decide +kernel))
  | refine TS.asgoU ?_ (by rfl) (by first | exact Or.inl (by decide +kernel) | exact Or.inr (by decide +kernel)) (swap_comp (by decide +kernel))
  | refine TS.asg ?_ (by rfl) (by first | exact Or.inl (by decide +kernel) | exact Or.inr (by decide +kernel)) (by first | exact fun _ _ _ => rfl | exact swap_comp (by decide +kernel))
  | refine TS.asgo ?_ (by rfl) (by first | exact Or.inl (by decide +kernel) | exact Or.inr (by decide +kernel)) (by first | exact fun _ _ _ => rfl | exact swap_comp (by decide +kernel))
  | refine TS.aug ?_ (by rfl) (by first | exact Or.inl (by decide +kernel) | exact Or.inr (by decide +kernel)) (by decide +kernel)
  | apply TS.ite
  | apply TS.ret
  | exact TS.retn
  | apply TS.while_
  | refine TS.for_ ?_ (by rfl) (by first | exact Or.inl (by decide +kernel) | exact Or.inr (by decide +kernel)) ?_ (fun _ _ => rfl)
  | refine TS.forr ?_ (by decide +kernel) (by rfl) (by first | exact Or.inl (by decide +kernel) | exact Or.inr (by decide +kernel)) ?_
  | refine TS.app ?_ (by rfl) (by decide +kernel) (by rfl)
  | refine TS.rev (by rfl) (by decide +kernel) (by rfl)
  | refine TS.seti ?_ ?_ (by rfl) (by decide +kernel) (fun _ => rfl)
  | refine TS.augi ?_ ?_ (by rfl) (by decide +kernel)
  | refine TS.callc (by rfl) (by decide +kernel) (clo_get (by assumption) (by rfl)) (by rfl) (by decide +kernel) ?_
  | refine TS.unp ?_ ?_ (fun _ _ => rfl) (fun _ _ => rfl)
  | refine TS.unp ?_ ?_ (fun _ _ => rfl) (fun env h => by have e1 := blockKind_of h; have e2 := kindOf_of h; unfold swappedStores; rw [e1, e2]; rfl)
  | refine TS.asgs (names := _) ?_ ?_ (fun _ _ => rfl) (fun env h => by have e1 := blockKind_of h; have e2 := kindOf_of h; unfold swappedStores; rw [e1, e2]; rfl)
  | refine TS.asgso (names := _) ?_ (by decide) (by rfl) (by intro e he; simp only [List.mem_cons, List.not_mem_nil, or_false] at he; first | (rcases he with rfl | rfl | rfl <;> exact ⟨_, rfl⟩) | (rcases he with rfl | rfl <;> exact ⟨_, rfl⟩)) (fun _ _ => rfl) (fun env h => by have e1 := blockKind_of h; have e2 := kindOf_of h; unfold swappedStores; rw [e1, e2]; rfl)
  | refine TN.cons (by rfl) (by first | exact Or.inl (by decide +kernel) | exact Or.inr (by decide +kernel)) ?_
  | exact TN.nil
  | refine TM.cons (by rfl) (by first | exact Or.inl (by decide +kernel) | exact Or.inr (by decide +kernel)) ?_
  | exact TM.nil)

set_option maxHeartbeats 4000000 in
theorem ts_rgb_to_hsv (hf : g.fns = fnsL) (hg : g.glos = glosL) (hc : g.clos = closL) : TSs g scbrgb_to_hsv (fb 10) brgb_to_hsv := by
  unfold brgb_to_hsv
  (repeat' first
  | exact TSs.nil
  | exact TEs.nil
  | exact TEo.none
  | apply TSs.bad
  | apply TSs.frz
  | apply TSs.cons
  | apply TEs.cons
  | apply TEo.some
  | exact TE.int
  | exact TE.flt
  | exact TE.bool
  | refine TE.glo (glo_get (by assumption) (by rfl)) (by decide +kernel) (by decide +kernel)
  | refine TE.var (by rfl) (by decide +kernel)
  | refine TE.rep ?_ ?_
  | refine TE.bin (o := .add) ?_ ?_
  | refine TE.bin (o := .sub) ?_ ?_
  | refine TE.bin (o := .mul) ?_ ?_
  | refine TE.bin (o := .fdiv) ?_ ?_
  | refine TE.bin (o := .mod) ?_ ?_
  | refine TE.bin (o := .pow) ?_ ?_
  | refine TE.bin (o := .shl) ?_ ?_
  | refine TE.bin (o := .shr) ?_ ?_
  | refine TE.bin (o := .band) ?_ ?_
  | refine TE.bin (o := .bxor) ?_ ?_
  | refine TE.bin (o := .div) ?_ ?_
  | refine TE.cmp (o := .eq) ?_ ?_ (by rfl)
  | refine TE.cmp (o := .ne) ?_ ?_ (by rfl)
  | refine TE.cmp (o := .lt) ?_ ?_ (by rfl)
  | refine TE.cmp (o := .le) ?_ ?_ (by rfl)
  | refine TE.cmp (o := .gt) ?_ ?_ (by rfl)
  | refine TE.cmp (o := .ge) ?_ ?_ (by rfl)
  | refine TE.cmp (o := .isin) ?_ ?_ (by rfl)
  | apply TE.neg
  | apply TE.inv
  | apply TE.not
  | apply TE.and
  | apply TE.or
  | apply TE.ite
  | apply TE.lst
  | apply TE.tup
  | apply TE.slc
  | apply TE.idx
  | refine TE.isb (by decide +kernel) (by decide +kernel) ?_
  | refine TE.bi (b := .len) (by decide +kernel) ?_ (by decide)
  | refine TE.bi (b := .sum) (by decide +kernel) ?_ (by decide)
  | refine TE.bi (b := .abs) (by decide +kernel) ?_ (by decide)
  | refine TE.bi (b := .max) (by decide +kernel) ?_ (by decide)
  | refine TE.bi (b := .min) (by decide +kernel) ?_ (by decide)
  | refine TE.bi (b := .int) (by decide +kernel) ?_ (by decide)
  | refine TE.bi (b := .divmod) (by decide +kernel) ?_ (by decide)
  | refine TE.bi (b := .range) (by decide +kernel) ?_ (by decide)
  | refine TE.call (fns_get (by assumption) (by rfl)) (by decide +kernel) (by decide +kernel) ?_
  | refine TE.callc (by rfl) (by decide +kernel) (clo_get (by assumption) (by rfl)) (by rfl) (by decide +kernel) ?_
  | refine TE.bitlen ?_ (fun _ => rfl) (by rfl)
  | refine TE.comp' (c := none) rfl ?_ ?_ ?_ ⟨by rfl, (by decide +kernel), (by decide +kernel), (by decide +kernel), (by decide +kernel), (by decide +kernel), (by decide +kernel), (by decide +kernel)⟩ (fun _ _ => rfl)
  | refine TE.comp' (c := some _) rfl ?_ ?_ ?_ ⟨by rfl, (by decide +kernel), (by decide +kernel), (by decide +kernel), (by decide +kernel), (by decide +kernel), (by decide +kernel), (by decide +kernel)⟩ (fun _ _ => rfl)
  | refine TS.asgU ?_ (by rfl) (by first | exact Or.inl (by decide +kernel) | exact Or.inr (by decide +kernel)) (swap_comp (by decide +kernel))
  | refine TS.asgoU ?_ (by rfl) (by first | exact Or.inl (by decide +kernel) | exact Or.inr (by decide +kernel)) (swap_comp (by decide +kernel))
  | refine TS.asg ?_ (by rfl) (by first | exact Or.inl (by decide +kernel) | exact Or.inr (by decide +kernel)) (by first | exact fun _ _ _ => rfl | exact swap_comp (by decide +kernel))
  | refine TS.asgo ?_ (by rfl) (by first | exact Or.inl (by decide +kernel) | exact Or.inr (by decide +kernel)) (by first | exact fun _ _ _ => rfl | exact swap_comp (by decide +kernel))
  | refine TS.aug ?_ (by rfl) (by first | exact Or.inl (by decide +kernel) | exact Or.inr (by decide +kernel)) (by decide +kernel)
  | apply TS.ite
  | apply TS.ret
  | exact TS.retn
  | apply TS.while_
  | refine TS.for_ ?_ (by rfl) (by first | exact Or.inl (by decide +kernel) | exact Or.inr (by decide +kernel)) ?_ (fun _ _ => rfl)
  | refine TS.forr ?_ (by decide +kernel) (by rfl) (by first | exact Or.inl (by decide +kernel) | exact Or.inr (by decide +kernel)) ?_
  | refine TS.app ?_ (by rfl) (by decide +kernel) (by rfl)
  | refine TS.rev (by rfl) (by decide +kernel) (by rfl)
  | refine TS.seti ?_ ?_ (by rfl) (by decide +kernel) (fun _ => rfl)
  | refine TS.augi ?_ ?_ (by rfl) (by decide +kernel)
  | refine TS.callc (by rfl) (by decide +kernel) (clo_get (by assumption) (by rfl)) (by rfl) (by decide +kernel) ?_
  | refine TS.unp ?_ ?_ (fun _ _ => rfl) (fun _ _ => rfl)
  | refine TS.unp ?_ ?_ (fun _ _ => rfl) (fun env h => by have e1 := blockKind_of h; have e2 := kindOf_of h; unfold swappedStores; rw [e1, e2]; rfl)
  | refine TS.asgs (names := _) ?_ ?_ (fun _ _ => rfl) (fun env h => by have e1 := blockKind_of h; have e2 := kindOf_of h; unfold swappedStores; rw [e1, e2]; rfl)
  | refine TS.asgso (names := _) ?_ (by decide) (by rfl) (by intro e he; simp only [List.mem_cons, List.not_mem_nil, or_false] at he; first | (rcases he with rfl | rfl | rfl <;> exact ⟨_, rfl⟩) | (rcases he with rfl | rfl <;> exact ⟨_, rfl⟩)) (fun _ _ => rfl) (fun env h => by have e1 := blockKind_of h; have e2 := kindOf_of h; unfold swappedStores; rw [e1, e2]; rfl)
  | refine TN.cons (by rfl) (by first | exact Or.inl (by decide +kernel) | exact Or.inr (by decide +kernel)) ?_
  | exact TN.nil
  | refine TM.cons (by rfl) (by first | exact Or.inl (by decide +kernel) | exact Or.inr (by decide +kernel)) ?_
  | exact TM.nil)

set_option maxHeartbeats 4000000 in
theorem ts_hsv_to_rgb (hf : g.fns = fnsL) (hg : g.glos = glosL) (hc : g.clos = closL) : TSs g scbhsv_to_rgb (fb 11) bhsv_to_rgb := by
  unfold bhsv_to_rgb
  (repeat' first
  | exact TSs.nil
  | exact TEs.nil
  | exact TEo.none
  | apply TSs.bad
  | apply TSs.frz
  | apply TSs.cons
  | apply TEs.cons
  | apply TEo.some
  | exact TE.int
  | exact TE.flt
  | exact TE.bool
  | refine TE.glo (glo_get (by assumption) (by rfl)) (by decide +kernel) (by decide +kernel)
  | refine TE.var (by rfl) (by decide +kernel)
  | refine TE.rep ?_ ?_
  | refine TE.bin (o := .add) ?_ ?_
  | refine TE.bin (o := .sub) ?_ ?_
  | refine TE.bin (o := .mul) ?_ ?_
  | refine TE.bin (o := .fdiv) ?_ ?_
  | refine TE.bin (o := .mod) ?_ ?_
  | refine TE.bin (o := .pow) ?_ ?_
  | refine TE.bin (o := .shl) ?_ ?_
  | refine TE.bin (o := .shr) ?_ ?_
  | refine TE.bin (o := .band) ?_ ?_
  | refine TE.bin (o := .bxor) ?_ ?_
  | refine TE.bin (o := .div) ?_ ?_
  | refine TE.cmp (o := .eq) ?_ ?_ (by rfl)
  | refine TE.cmp (o := .ne) ?_ ?_ (by rfl)
  | refine TE.cmp (o := .lt) ?_ ?_ (by rfl)
  | refine TE.cmp (o := .le) ?_ ?_ (by rfl)
  | refine TE.cmp (o := .gt) ?_ ?_ (by rfl)
  | refine TE.cmp (o := .ge) ?_ ?_ (by rfl)
  | refine TE.cmp (o := .isin) ?_ ?_ (by rfl)
  | apply TE.neg
  | apply TE.inv
  | apply TE.not
  | apply TE.and
  | apply TE.or
  | apply TE.ite
  | apply TE.lst
  | apply TE.tup
  | apply TE.slc
  | apply TE.idx
  | refine TE.isb (by decide +kernel) (by decide +kernel) ?_
  | refine TE.bi (b := .len) (by decide +kernel) ?_ (by decide)
  | refine TE.bi (b := .sum) (by decide +kernel) ?_ (by decide)
  | refine TE.bi (b := .abs) (by decide +kernel) ?_ (by decide)
  | refine TE.bi (b := .max) (by decide +kernel) ?_ (by decide)
  | refine TE.bi (b := .min) (by decide +kernel) ?_ (by decide)
  | refine TE.bi (b := .int) (by decide +kernel) ?_ (by decide)
  | refine TE.bi (b := .divmod) (by decide +kernel) ?_ (by decide)
  | refine TE.bi (b := .range) (by decide +kernel) ?_ (by decide)
  | refine TE.call (fns_get (by assumption) (by rfl)) (by decide +kernel) (by decide +kernel) ?_
  | refine TE.callc (by rfl) (by decide +kernel) (clo_get (by assumption) (by rfl)) (by rfl) (by decide +kernel) ?_
  | refine TE.bitlen ?_ (fun _ => rfl) (by rfl)
  | refine TE.comp' (c := none) rfl ?_ ?_ ?_ ⟨by rfl, (by decide +kernel), (by decide +kernel), (by decide +kernel), (by decide +kernel), (by decide +kernel), (by decide +kernel), (by decide +kernel)⟩ (fun _ _ => rfl)
  | refine TE.comp' (c := some _) rfl ?_ ?_ ?_ ⟨by rfl, (by decide +kernel), (by decide +kernel), (by decide +kernel), (by decide +kernel), (by decide +kernel), (by decide +kernel), (by decide +kernel)⟩ (fun _ _ => rfl)
  | refine TS.asgU ?_ (by rfl) (by first | exact Or.inl (by decide +kernel) | exact Or.inr (by decide +kernel)) (swap_comp (by decide +kernel))
  | refine TS.asgoU ?_ (by rfl) (by first | exact Or.inl (by decide +kernel) | exact Or.inr (by decide +kernel)) (swap_comp (by decide +kernel))
  | refine TS.asg ?_ (by rfl) (by first | exact Or.inl (by decide +kernel) | exact Or.inr (by decide +kernel)) (by first | exact fun _ _ _ => rfl | exact swap_comp (by decide +kernel))
  | refine TS.asgo ?_ (by rfl) (by first | exact Or.inl (by decide +kernel) | exact Or.inr (by decide +kernel)) (by first | exact fun _ _ _ => rfl | exact swap_comp (by decide +kernel))
  | refine TS.aug ?_ (by rfl) (by first | exact Or.inl (by decide +kernel) | exact Or.inr (by decide +kernel)) (by decide +kernel)
  | apply TS.ite
  | apply TS.ret
  | exact TS.retn
  | apply TS.while_
  | refine TS.for_ ?_ (by rfl) (by first | exact Or.inl (by decide +kernel) | exact Or.inr (by decide +kernel)) ?_ (fun _ _ => rfl)
  | refine TS.forr ?_ (by decide +kernel) (by rfl) (by first | exact Or.inl (by decide +kernel) | exact Or.inr (by decide +kernel)) ?_
  | refine TS.app ?_ (by rfl) (by decide +kernel) (by rfl)
  | refine TS.rev (by rfl) (by decide +kernel) (by rfl)
  | refine TS.seti ?_ ?_ (by rfl) (by decide +kernel) (fun _ => rfl)
  | refine TS.augi ?_ ?_ (by rfl) (by decide +kernel)
  | refine TS.callc (by rfl) (by decide +kernel) (clo_get (by assumption) (by rfl)) (by rfl) (by decide +kernel) ?_
  | refine TS.unp ?_ ?_ (fun _ _ => rfl) (fun _ _ => rfl)
  | refine TS.unp ?_ ?_ (fun _ _ => rfl) (fun env h => by have e1 := blockKind_of h; have e2 := kindOf_of h; unfold swappedStores; rw [e1, e2]; rfl)
  | refine TS.asgs (names := _) ?_ ?_ (fun _ _ => rfl) (fun env h => by have e1 := blockKind_of h; have e2 := kindOf_of h; unfold swappedStores; rw [e1, e2]; rfl)
  | refine TS.asgso (names := _) ?_ (by decide) (by rfl) (by intro e he; simp only [List.mem_cons, List.not_mem_nil, or_false] at he; first | (rcases he with rfl | rfl | rfl <;> exact ⟨_, rfl⟩) | (rcases he with rfl | rfl <;> exact ⟨_, rfl⟩)) (fun _ _ => rfl) (fun env h => by have e1 := blockKind_of h; have e2 := kindOf_of h; unfold swappedStores; rw [e1, e2]; rfl)
  | refine TN.cons (by rfl) (by first | exact Or.inl (by decide +kernel) | exact Or.inr (by decide +kernel)) ?_
  | exact TN.nil
  | refine TM.cons (by rfl) (by first | exact Or.inl (by decide +kernel) | exact Or.inr (by decide +kernel)) ?_
  | exact TM.nil)

set_option maxHeartbeats 4000000 in
theorem ts_ISTERMINAL (hf : g.fns = fnsL) (hg : g.glos = glosL) (hc : g.clos = closL) : TSs g scbISTERMINAL (fb 15) bISTERMINAL := by
  unfold bISTERMINAL
  (repeat' first
  | exact TSs.nil
  | exact TEs.nil
  | exact TEo.none
  | apply TSs.bad
  | apply TSs.frz
  | apply TSs.cons
  | apply TEs.cons
  | apply TEo.some
  | exact TE.int
  | exact TE.flt
  | exact TE.bool
  | refine TE.glo (glo_get (by assumption) (by rfl)) (by decide +kernel) (by decide +kernel)
  | refine TE.var (by rfl) (by decide +kernel)
  | refine TE.rep ?_ ?_
  | refine TE.bin (o := .add) ?_ ?_
  | refine TE.bin (o := .sub) ?_ ?_
  | refine TE.bin (o := .mul) ?_ ?_
  | refine TE.bin (o := .fdiv) ?_ ?_
  | refine TE.bin (o := .mod) ?_ ?_
  | refine TE.bin (o := .pow) ?_ ?_
  | refine TE.bin (o := .shl) ?_ ?_
  | refine TE.bin (o := .shr) ?_ ?_
  | refine TE.bin (o := .band) ?_ ?_
  | refine TE.bin (o := .bxor) ?_ ?_
  | refine TE.bin (o := .div) ?_ ?_
  | refine TE.cmp (o := .eq) ?_ ?_ (by rfl)
  | refine TE.cmp (o := .ne) ?_ ?_ (by rfl)
  | refine TE.cmp (o := .lt) ?_ ?_ (by rfl)
  | refine TE.cmp (o := .le) ?_ ?_ (by rfl)
  | refine TE.cmp (o := .gt) ?_ ?_ (by rfl)
  | refine TE.cmp (o := .ge) ?_ ?_ (by rfl)
  | refine TE.cmp (o := .isin) ?_ ?_ (by rfl)
  | apply TE.neg
  | apply TE.inv
  | apply TE.not
  | apply TE.and
  | apply TE.or
  | apply TE.ite
  | apply TE.lst
  | apply TE.tup
  | apply TE.slc
  | apply TE.idx
  | refine TE.isb (by decide +kernel) (by decide +kernel) ?_
  | refine TE.bi (b := .len) (by decide +kernel) ?_ (by decide)
  | refine TE.bi (b := .sum) (by decide +kernel) ?_ (by decide)
  | refine TE.bi (b := .abs) (by decide +kernel) ?_ (by decide)
  | refine TE.bi (b := .max) (by decide +kernel) ?_ (by decide)
  | refine TE.bi (b := .min) (by decide +kernel) ?_ (by decide)
  | refine TE.bi (b := .int) (by decide +kernel) ?_ (by decide)
  | refine TE.bi (b := .divmod) (by decide +kernel) ?_ (by decide)
  | refine TE.bi (b := .range) (by decide +kernel) ?_ (by decide)
  | refine TE.call (fns_get (by assumption) (by rfl)) (by decide +kernel) (by decide +kernel) ?_
  | refine TE.callc (by rfl) (by decide +kernel) (clo_get (by assumption) (by rfl)) (by rfl) (by decide +kernel) ?_
  | refine TE.bitlen ?_ (fun _ => rfl) (by rfl)
  | refine TE.comp' (c := none) rfl ?_ ?_ ?_ ⟨by rfl, (by decide +kernel), (by decide +kernel), (by decide +kernel), (by decide +kernel), (by decide +kernel), (by decide +kernel), (by decide +kernel)⟩ (fun _ _ => rfl)
  | refine TE.comp' (c := some _) rfl ?_ ?_ ?_ ⟨by rfl, (by decide +kernel), (by decide +kernel), (by decide +kernel), (by decide +kernel), (by decide +kernel), (by decide +kernel), (by decide +kernel)⟩ (fun _ _ => rfl)
  | refine TS.asgU ?_ (by rfl) (by first | exact Or.inl (by decide +kernel) | exact Or.inr (by decide +kernel)) (swap_comp (by decide +kernel))
  | refine TS.asgoU ?_ (by rfl) (by first | exact Or.inl (by decide +kernel) | exact Or.inr (by decide +kernel)) (swap_comp (by decide +kernel))
  | refine TS.asg ?_ (by rfl) (by first | exact Or.inl (by decide +kernel) | exact Or.inr (by decide +kernel)) (by first | exact fun _ _ _ => rfl | exact swap_comp (by decide +kernel))
  | refine TS.asgo ?_ (by rfl) (by first | exact Or.inl (by decide +kernel) | exact Or.inr (by decide +kernel)) (by first | exact fun _ _ _ => rfl | exact swap_comp (by decide +kernel))
  | refine TS.aug ?_ (by rfl) (by first | exact Or.inl (by decide +kernel) | exact Or.inr (by decide +kernel)) (by decide +kernel)
  | apply TS.ite
  | apply TS.ret
  | exact TS.retn
  | apply TS.while_
  | refine TS.for_ ?_ (by rfl) (by first | exact Or.inl (by decide +kernel) | exact Or.inr (by decide +kernel)) ?_ (fun _ _ => rfl)
  | refine TS.forr ?_ (by decide +kernel) (by rfl) (by first | exact Or.inl (by decide +kernel) | exact Or.inr (by decide +kernel)) ?_
  | refine TS.app ?_ (by rfl) (by decide +kernel) (by rfl)
  | refine TS.rev (by rfl) (by decide +kernel) (by rfl)
  | refine TS.seti ?_ ?_ (by rfl) (by decide +kernel) (fun _ => rfl)
  | refine TS.augi ?_ ?_ (by rfl) (by decide +kernel)
  | refine TS.callc (by rfl) (by decide +kernel) (clo_get (by assumption) (by rfl)) (by rfl) (by decide +kernel) ?_
  | refine TS.unp ?_ ?_ (fun _ _ => rfl) (fun _ _ => rfl)
  | refine TS.unp ?_ ?_ (fun _ _ => rfl) (fun env h => by have e1 := blockKind_of h; have e2 := kindOf_of h; unfold swappedStores; rw [e1, e2]; rfl)
  | refine TS.asgs (names := _) ?_ ?_ (fun _ _ => rfl) (fun env h => by have e1 := blockKind_of h; have e2 := kindOf_of h; unfold swappedStores; rw [e1, e2]; rfl)
  | refine TS.asgso (names := _) ?_ (by decide) (by rfl) (by intro e he; simp only [List.mem_cons, List.not_mem_nil, or_false] at he; first | (rcases he with rfl | rfl | rfl <;> exact ⟨_, rfl⟩) | (rcases he with rfl | rfl <;> exact ⟨_, rfl⟩)) (fun _ _ => rfl) (fun env h => by have e1 := blockKind_of h; have e2 := kindOf_of h; unfold swappedStores; rw [e1, e2]; rfl)
  | refine TN.cons (by rfl) (by first | exact Or.inl (by decide +kernel) | exact Or.inr (by decide +kernel)) ?_
  | exact TN.nil
  | refine TM.cons (by rfl) (by first | exact Or.inl (by decide +kernel) | exact Or.inr (by decide +kernel)) ?_
  | exact TM.nil)

set_option maxHeartbeats 4000000 in
theorem ts_ISNONTERMINAL (hf : g.fns = fnsL) (hg : g.glos = glosL) (hc : g.clos = closL) : TSs g scbISNONTERMINAL (fb 16) bISNONTERMINAL := by
  unfold bISNONTERMINAL
  (repeat' first
  | exact TSs.nil
  | exact TEs.nil
  | exact TEo.none
  | apply TSs.bad
  | apply TSs.frz
  | apply TSs.cons
  | apply TEs.cons
  | apply TEo.some
  | exact TE.int
  | exact TE.flt
  | exact TE.bool
  | refine TE.glo (glo_get (by assumption) (by rfl)) (by decide +kernel) (by decide +kernel)
  | refine TE.var (by rfl) (by decide +kernel)
  | refine TE.rep ?_ ?_
  | refine TE.bin (o := .add) ?_ ?_
  | refine TE.bin (o := .sub) ?_ ?_
  | refine TE.bin (o := .mul) ?_ ?_
  | refine TE.bin (o := .fdiv) ?_ ?_
  | refine TE.bin (o := .mod) ?_ ?_
  | refine TE.bin (o := .pow) ?_ ?_
  | refine TE.bin (o := .shl) ?_ ?_
  | refine TE.bin (o := .shr) ?_ ?_
  | refine TE.bin (o := .band) ?_ ?_
  | refine TE.bin (o := .bxor) ?_ ?_
  | refine TE.bin (o := .div) ?_ ?_
  | refine TE.cmp (o := .eq) ?_ ?_ (by rfl)
  | refine TE.cmp (o := .ne) ?_ ?_ (by rfl)
  | refine TE.cmp (o := .lt) ?_ ?_ (by rfl)
  | refine TE.cmp (o := .le) ?_ ?_ (by rfl)
  | refine TE.cmp (o := .gt) ?_ ?_ (by rfl)
  | refine TE.cmp (o := .ge) ?_ ?_ (by rfl)
  | refine TE.cmp (o := .isin) ?_ ?_ (by rfl)
  | apply TE.neg
  | apply TE.inv
  | apply TE.not
  | apply TE.and
  | apply TE.or
  | apply TE.ite
  | apply TE.lst
  | apply TE.tup
  | apply TE.slc
  | apply TE.idx
  | refine TE.isb (by decide +kernel) (by decide +kernel) ?_
  | refine TE.bi (b := .len) (by decide +kernel) ?_ (by decide)
  | refine TE.bi (b := .sum) (by decide +kernel) ?_ (by decide)
  | refine TE.bi (b := .abs) (by decide +kernel) ?_ (by decide)
  | refine TE.bi (b := .max) (by decide +kernel) ?_ (by decide)
  | refine TE.bi (b := .min) (by decide +kernel) ?_ (by decide)
  | refine TE.bi (b := .int) (by decide +kernel) ?_ (by decide)
  | refine TE.bi (b := .divmod) (by decide +kernel) ?_ (by decide)
  | refine TE.bi (b := .range) (by decide +kernel) ?_ (by decide)
  | refine TE.call (fns_get (by assumption) (by rfl)) (by decide +kernel) (by decide +kernel) ?_
  | refine TE.callc (by rfl) (by decide +kernel) (clo_get (by assumption) (by rfl)) (by rfl) (by decide +kernel) ?_
  | refine TE.bitlen ?_ (fun _ => rfl) (by rfl)
  | refine TE.comp' (c := none) rfl ?_ ?_ ?_ ⟨by rfl, (by decide +kernel), (by decide +kernel), (by decide +kernel), (by decide +kernel), (by decide +kernel), (by decide +kernel), (by decide +kernel)⟩ (fun _ _ => rfl)
  | refine TE.comp' (c := some _) rfl ?_ ?_ ?_ ⟨by rfl, (by decide +kernel), (by decide +kernel), (by decide +kernel), (by decide +kernel), (by decide +kernel), (by decide +kernel), (by decide +kernel)⟩ (fun _ _ => rfl)
  | refine TS.asgU ?_ (by rfl) (by first | exact Or.inl (by decide +kernel) | exact Or.inr (by decide +kernel)) (swap_comp (by decide +kernel))
  | refine TS.asgoU ?_ (by rfl) (by first | exact Or.inl (by decide +kernel) | exact Or.inr (by decide +kernel)) (swap_comp (by decide +kernel))
  | refine TS.asg ?_ (by rfl) (by first | exact Or.inl (by decide +kernel) | exact Or.inr (by decide +kernel)) (by first | exact fun _ _ _ => rfl | exact swap_comp (by decide +kernel))
  | refine TS.asgo ?_ (by rfl) (by first | exact Or.inl (by decide +kernel) | exact Or.inr (by decide +kernel)) (by first | exact fun _ _ _ => rfl | exact swap_comp (by decide +kernel))
  | refine TS.aug ?_ (by rfl) (by first | exact Or.inl (by decide +kernel) | exact Or.inr (by decide +kernel)) (by decide +kernel)
  | apply TS.ite
  | apply TS.ret
  | exact TS.retn
  | apply TS.while_
  | refine TS.for_ ?_ (by rfl) (by first | exact Or.inl (by decide +kernel) | exact Or.inr (by decide +kernel)) ?_ (fun _ _ => rfl)
  | refine TS.forr ?_ (by decide +kernel) (by rfl) (by first | exact Or.inl (by decide +kernel) | exact Or.inr (by decide +kernel)) ?_
  | refine TS.app ?_ (by rfl) (by decide +kernel) (by rfl)
  | refine TS.rev (by rfl) (by decide +kernel) (by rfl)
  | refine TS.seti ?_ ?_ (by rfl) (by decide +kernel) (fun _ => rfl)
  | refine TS.augi ?_ ?_ (by rfl) (by decide +kernel)
  | refine TS.callc (by rfl) (by decide +kernel) (clo_get (by assumption) (by rfl)) (by rfl) (by decide +kernel) ?_
  | refine TS.unp ?_ ?_ (fun _ _ => rfl) (fun _ _ => rfl)
  | refine TS.unp ?_ ?_ (fun _ _ => rfl) (fun env h => by have e1 := blockKind_of h; have e2 := kindOf_of h; unfold swappedStores; rw [e1, e2]; rfl)
  | refine TS.asgs (names := _) ?_ ?_ (fun _ _ => rfl) (fun env h => by have e1 := blockKind_of h; have e2 := kindOf_of h; unfold swappedStores; rw [e1, e2]; rfl)
  | refine TS.asgso (names := _) ?_ (by decide) (by rfl) (by intro e he; simp only [List.mem_cons, List.not_mem_nil, or_false] at he; first | (rcases he with rfl | rfl | rfl <;> exact ⟨_, rfl⟩) | (rcases he with rfl | rfl <;> exact ⟨_, rfl⟩)) (fun _ _ => rfl) (fun env h => by have e1 := blockKind_of h; have e2 := kindOf_of h; unfold swappedStores; rw [e1, e2]; rfl)
  | refine TN.cons (by rfl) (by first | exact Or.inl (by decide +kernel) | exact Or.inr (by decide +kernel)) ?_
  | exact TN.nil
  | refine TM.cons (by rfl) (by first | exact Or.inl (by decide +kernel) | exact Or.inr (by decide +kernel)) ?_
  | exact TM.nil)

set_option maxHeartbeats 4000000 in
theorem ts_ISEOF (hf : g.fns = fnsL) (hg : g.glos = glosL) (hc : g.clos = closL) : TSs g scbISEOF (fb 17) bISEOF := by
  unfold bISEOF
  (repeat' first
  | exact TSs.nil
  | exact TEs.nil
  | exact TEo.none
  | apply TSs.bad
  | apply TSs.frz
  | apply TSs.cons
  | apply TEs.cons
  | apply TEo.some
  | exact TE.int
  | exact TE.flt
  | exact TE.bool
  | refine TE.glo (glo_get (by assumption) (by rfl)) (by decide +kernel) (by decide +kernel)
  | refine TE.var (by rfl) (by decide +kernel)
  | refine TE.rep ?_ ?_
  | refine TE.bin (o := .add) ?_ ?_
  | refine TE.bin (o := .sub) ?_ ?_
  | refine TE.bin (o := .mul) ?_ ?_
  | refine TE.bin (o := .fdiv) ?_ ?_
  | refine TE.bin (o := .mod) ?_ ?_
  | refine TE.bin (o := .pow) ?_ ?_
  | refine TE.bin (o := .shl) ?_ ?_
  | refine TE.bin (o := .shr) ?_ ?_
  | refine TE.bin (o := .band) ?_ ?_
  | refine TE.bin (o := .bxor) ?_ ?_
  | refine TE.bin (o := .div) ?_ ?_
  | refine TE.cmp (o := .eq) ?_ ?_ (by rfl)
  | refine TE.cmp (o := .ne) ?_ ?_ (by rfl)
  | refine TE.cmp (o := .lt) ?_ ?_ (by rfl)
  | refine TE.cmp (o := .le) ?_ ?_ (by rfl)
  | refine TE.cmp (o := .gt) ?_ ?_ (by rfl)
  | refine TE.cmp (o := .ge) ?_ ?_ (by rfl)
  | refine TE.cmp (o := .isin) ?_ ?_ (by rfl)
  | apply TE.neg
  | apply TE.inv
  | apply TE.not
  | apply TE.and
  | apply TE.or
  | apply TE.ite
  | apply TE.lst
  | apply TE.tup
  | apply TE.slc
  | apply TE.idx
  | refine TE.isb (by decide +kernel) (by decide +kernel) ?_
  | refine TE.bi (b := .len) (by decide +kernel) ?_ (by decide)
  | refine TE.bi (b := .sum) (by decide +kernel) ?_ (by decide)
  | refine TE.bi (b := .abs) (by decide +kernel) ?_ (by decide)
  | refine TE.bi (b := .max) (by decide +kernel) ?_ (by decide)
  | refine TE.bi (b := .min) (by decide +kernel) ?_ (by decide)
  | refine TE.bi (b := .int) (by decide +kernel) ?_ (by decide)
  | refine TE.bi (b := .divmod) (by decide +kernel) ?_ (by decide)
  | refine TE.bi (b := .range) (by decide +kernel) ?_ (by decide)
  | refine TE.call (fns_get (by assumption) (by rfl)) (by decide +kernel) (by decide +kernel) ?_
  | refine TE.callc (by rfl) (by decide +kernel) (clo_get (by assumption) (by rfl)) (by rfl) (by decide +kernel) ?_
  | refine TE.bitlen ?_ (fun _ => rfl) (by rfl)
  | refine TE.comp' (c := none) rfl ?_ ?_ ?_ ⟨by rfl, (by decide +kernel), (by decide +kernel), (by decide +kernel), (by decide +kernel), (by decide +kernel), (by decide +kernel), (by decide +kernel)⟩ (fun _ _ => rfl)
  | refine TE.comp' (c := some _) rfl ?_ ?_ ?_ ⟨by rfl, (by decide +kernel), (by decide +kernel), (by decide +kernel), (by decide +kernel), (by decide +kernel), (by decide +kernel), (by decide +kernel)⟩ (fun _ _ => rfl)
  | refine TS.asgU ?_ (by rfl) (by first | exact Or.inl (by decide +kernel) | exact Or.inr (by decide +kernel)) (swap_comp (by decide +kernel))
  | refine TS.asgoU ?_ (by rfl) (by first | exact Or.inl (by decide +kernel) | exact Or.inr (by decide +kernel)) (swap_comp (by decide +kernel))
  | refine TS.asg ?_ (by rfl) (by first | exact Or.inl (by decide +kernel) | exact Or.inr (by decide +kernel)) (by first | exact fun _ _ _ => rfl | exact swap_comp (by decide +kernel))
  | refine TS.asgo ?_ (by rfl) (by first | exact Or.inl (by decide +kernel) | exact Or.inr (by decide +kernel)) (by first | exact fun _ _ _ => rfl | exact swap_comp (by decide +kernel))
  | refine TS.aug ?_ (by rfl) (by first | exact Or.inl (by decide +kernel) | exact Or.inr (by decide +kernel)) (by decide +kernel)
  | apply TS.ite
  | apply TS.ret
  | exact TS.retn
  | apply TS.while_
  | refine TS.for_ ?_ (by rfl) (by first | exact Or.inl (by decide +kernel) | exact Or.inr (by decide +kernel)) ?_ (fun _ _ => rfl)
  | refine TS.forr ?_ (by decide +kernel) (by rfl) (by first | exact Or.inl (by decide +kernel) | exact Or.inr (by decide +kernel)) ?_
  | refine TS.app ?_ (by rfl) (by decide +kernel) (by rfl)
  | refine TS.rev (by rfl) (by decide +kernel) (by rfl)
  | refine TS.seti ?_ ?_ (by rfl) (by decide +kernel) (fun _ => rfl)
  | refine TS.augi ?_ ?_ (by rfl) (by decide +kernel)
  | refine TS.callc (by rfl) (by decide +kernel) (clo_get (by assumption) (by rfl)) (by rfl) (by decide +kernel) ?_
  | refine TS.unp ?_ ?_ (fun _ _ => rfl) (fun _ _ => rfl)
  | refine TS.unp ?_ ?_ (fun _ _ => rfl) (fun env h => by have e1 := blockKind_of h; have e2 := kindOf_of h; unfold swappedStores; rw [e1, e2]; rfl)
  | refine TS.asgs (names := _) ?_ ?_ (fun _ _ => rfl) (fun env h => by have e1 := blockKind_of h; have e2 := kindOf_of h; unfold swappedStores; rw [e1, e2]; rfl)
  | refine TS.asgso (names := _) ?_ (by decide) (by rfl) (by intro e he; simp only [List.mem_cons, List.not_mem_nil, or_false] at he; first | (rcases he with rfl | rfl | rfl <;> exact ⟨_, rfl⟩) | (rcases he with rfl | rfl <;> exact ⟨_, rfl⟩)) (fun _ _ => rfl) (fun env h => by have e1 := blockKind_of h; have e2 := kindOf_of h; unfold swappedStores; rw [e1, e2]; rfl)
  | refine TN.cons (by rfl) (by first | exact Or.inl (by decide +kernel) | exact Or.inr (by decide +kernel)) ?_
  | exact TN.nil
  | refine TM.cons (by rfl) (by first | exact Or.inl (by decide +kernel) | exact Or.inr (by decide +kernel)) ?_
  | exact TM.nil)

set_option maxHeartbeats 4000000 in
theorem ts_law_number (hf : g.fns = fnsL) (hg : g.glos = glosL) (hc : g.clos = closL) : TSs g scblaw_number (fb 19) blaw_number := by
  unfold blaw_number
  (repeat' first
  | exact TSs.nil
  | exact TEs.nil
  | exact TEo.none
  | apply TSs.bad
  | apply TSs.frz
  | apply TSs.cons
  | apply TEs.cons
  | apply TEo.some
  | exact TE.int
  | exact TE.flt
  | exact TE.bool
  | refine TE.glo (glo_get (by assumption) (by rfl)) (by decide +kernel) (by decide +kernel)
  | refine TE.var (by rfl) (by decide +kernel)
  | refine TE.rep ?_ ?_
  | refine TE.bin (o := .add) ?_ ?_
  | refine TE.bin (o := .sub) ?_ ?_
  | refine TE.bin (o := .mul) ?_ ?_
  | refine TE.bin (o := .fdiv) ?_ ?_
  | refine TE.bin (o := .mod) ?_ ?_
  | refine TE.bin (o := .pow) ?_ ?_
  | refine TE.bin (o := .shl) ?_ ?_
  | refine TE.bin (o := .shr) ?_ ?_
  | refine TE.bin (o := .band) ?_ ?_
  | refine TE.bin (o := .bxor) ?_ ?_
  | refine TE.bin (o := .div) ?_ ?_
  | refine TE.cmp (o := .eq) ?_ ?_ (by rfl)
  | refine TE.cmp (o := .ne) ?_ ?_ (by rfl)
  | refine TE.cmp (o := .lt) ?_ ?_ (by rfl)
  | refine TE.cmp (o := .le) ?_ ?_ (by rfl)
  | refine TE.cmp (o := .gt) ?_ ?_ (by rfl)
  | refine TE.cmp (o := .ge) ?_ ?_ (by rfl)
  | refine TE.cmp (o := .isin) ?_ ?_ (by rfl)
  | apply TE.neg
  | apply TE.inv
  | apply TE.not
  | apply TE.and
  | apply TE.or
  | apply TE.ite
  | apply TE.lst
  | apply TE.tup
  | apply TE.slc
  | apply TE.idx
  | refine TE.isb (by decide +kernel) (by decide +kernel) ?_
  | refine TE.bi (b := .len) (by decide +kernel) ?_ (by decide)
  | refine TE.bi (b := .sum) (by decide +kernel) ?_ (by decide)
  | refine TE.bi (b := .abs) (by decide +kernel) ?_ (by decide)
  | refine TE.bi (b := .max) (by decide +kernel) ?_ (by decide)
  | refine TE.bi (b := .min) (by decide +kernel) ?_ (by decide)
  | refine TE.bi (b := .int) (by decide +kernel) ?_ (by decide)
  | refine TE.bi (b := .divmod) (by decide +kernel) ?_ (by decide)
  | refine TE.bi (b := .range) (by decide +kernel) ?_ (by decide)
  | refine TE.call (fns_get (by assumption) (by rfl)) (by decide +kernel) (by decide +kernel) ?_
  | refine TE.callc (by rfl) (by decide +kernel) (clo_get (by assumption) (by rfl)) (by rfl) (by decide +kernel) ?_
  | refine TE.bitlen ?_ (fun _ => rfl) (by rfl)
  | refine TE.comp' (c := none) rfl ?_ ?_ ?_ ⟨by rfl, (by decide +kernel), (by decide +kernel), (by decide +kernel), (by decide +kernel), (by decide +kernel), (by decide +kernel), (by decide +kernel)⟩ (fun _ _ => rfl)
  | refine TE.comp' (c := some _) rfl ?_ ?_ ?_ ⟨by rfl, (by decide +kernel), (by decide +kernel), (by decide +kernel), (by decide +kernel), (by decide +kernel), (by decide +kernel), (by decide +kernel)⟩ (fun _ _ => rfl)
  | refine TS.asgU ?_ (by rfl) (by first | exact Or.inl (by decide +kernel) | exact Or.inr (by decide +kernel)) (swap_comp (by decide +kernel))
  | refine TS.asgoU ?_ (by rfl) (by first | exact Or.inl (by decide +kernel) | exact Or.inr (by decide +kernel)) (swap_comp (by decide +kernel))
  | refine TS.asg ?_ (by rfl) (by first | exact Or.inl (by decide +kernel) | exact Or.inr (by decide +kernel)) (by first | exact fun _ _ _ => rfl | exact swap_comp (by decide +kernel))
  | refine TS.asgo ?_ (by rfl) (by first | exact Or.inl (by decide +kernel) | exact Or.inr (by decide +kernel)) (by first | exact fun _ _ _ => rfl | exact swap_comp (by decide +kernel))
  | refine TS.aug ?_ (by rfl) (by first | exact Or.inl (by decide +kernel) | exact Or.inr (by decide +kernel)) (by decide +kernel)
  | apply TS.ite
  | apply TS.ret
  | exact TS.retn
  | apply TS.while_
  | refine TS.for_ ?_ (by rfl) (by first | exact Or.inl (by decide +kernel) | exact Or.inr (by decide +kernel)) ?_ (fun _ _ => rfl)
  | refine TS.forr ?_ (by decide +kernel) (by rfl) (by first | exact Or.inl (by decide +kernel) | exact Or.inr (by decide +kernel)) ?_
  | refine TS.app ?_ (by rfl) (by decide +kernel) (by rfl)
  | refine TS.rev (by rfl) (by decide +kernel) (by rfl)
  | refine TS.seti ?_ ?_ (by rfl) (by decide +kernel) (fun _ => rfl)
  | refine TS.augi ?_ ?_ (by rfl) (by decide +kernel)
  | refine TS.callc (by rfl) (by decide +kernel) (clo_get (by assumption) (by rfl)) (by rfl) (by decide +kernel) ?_
  | refine TS.unp ?_ ?_ (fun _ _ => rfl) (fun _ _ => rfl)
  | refine TS.unp ?_ ?_ (fun _ _ => rfl) (fun env h => by have e1 := blockKind_of h; have e2 := kindOf_of h; unfold swappedStores; rw [e1, e2]; rfl)
  | refine TS.asgs (names := _) ?_ ?_ (fun _ _ => rfl) (fun env h => by have e1 := blockKind_of h; have e2 := kindOf_of h; unfold swappedStores; rw [e1, e2]; rfl)
  | refine TS.asgso (names := _) ?_ (by decide) (by rfl) (by intro e he; simp only [List.mem_cons, List.not_mem_nil, or_false] at he; first | (rcases he with rfl | rfl | rfl <;> exact ⟨_, rfl⟩) | (rcases he with rfl | rfl <;> exact ⟨_, rfl⟩)) (fun _ _ => rfl) (fun env h => by have e1 := blockKind_of h; have e2 := kindOf_of h; unfold swappedStores; rw [e1, e2]; rfl)
  | refine TN.cons (by rfl) (by first | exact Or.inl (by decide +kernel) | exact Or.inr (by decide +kernel)) ?_
  | exact TN.nil
  | refine TM.cons (by rfl) (by first | exact Or.inl (by decide +kernel) | exact Or.inr (by decide +kernel)) ?_
  | exact TM.nil)

set_option maxHeartbeats 4000000 in
theorem ts_law_signs (hf : g.fns = fnsL) (hg : g.glos = glosL) (hc : g.clos = closL) : TSs g scblaw_signs (fb 20) blaw_signs := by
  unfold blaw_signs
  (repeat' first
  | exact TSs.nil
  | exact TEs.nil
  | exact TEo.none
  | apply TSs.bad
  | apply TSs.frz
  | apply TSs.cons
  | apply TEs.cons
  | apply TEo.some
  | exact TE.int
  | exact TE.flt
  | exact TE.bool
  | refine TE.glo (glo_get (by assumption) (by rfl)) (by decide +kernel) (by decide +kernel)
  | refine TE.var (by rfl) (by decide +kernel)
  | refine TE.rep ?_ ?_
  | refine TE.bin (o := .add) ?_ ?_
  | refine TE.bin (o := .sub) ?_ ?_
  | refine TE.bin (o := .mul) ?_ ?_
  | refine TE.bin (o := .fdiv) ?_ ?_
  | refine TE.bin (o := .mod) ?_ ?_
  | refine TE.bin (o := .pow) ?_ ?_
  | refine TE.bin (o := .shl) ?_ ?_
  | refine TE.bin (o := .shr) ?_ ?_
  | refine TE.bin (o := .band) ?_ ?_
  | refine TE.bin (o := .bxor) ?_ ?_
  | refine TE.bin (o := .div) ?_ ?_
  | refine TE.cmp (o := .eq) ?_ ?_ (by rfl)
  | refine TE.cmp (o := .ne) ?_ ?_ (by rfl)
  | refine TE.cmp (o := .lt) ?_ ?_ (by rfl)
  | refine TE.cmp (o := .le) ?_ ?_ (by rfl)
  | refine TE.cmp (o := .gt) ?_ ?_ (by rfl)
  | refine TE.cmp (o := .ge) ?_ ?_ (by rfl)
  | refine TE.cmp (o := .isin) ?_ ?_ (by rfl)
  | apply TE.neg
  | apply TE.inv
  | apply TE.not
  | apply TE.and
  | apply TE.or
  | apply TE.ite
  | apply TE.lst
  | apply TE.tup
  | apply TE.slc
  | apply TE.idx
  | refine TE.isb (by decide +kernel) (by decide +kernel) ?_
  | refine TE.bi (b := .len) (by decide +kernel) ?_ (by decide)
  | refine TE.bi (b := .sum) (by decide +kernel) ?_ (by decide)
  | refine TE.bi (b := .abs) (by decide +kernel) ?_ (by decide)
  | refine TE.bi (b := .max) (by decide +kernel) ?_ (by decide)
  | refine TE.bi (b := .min) (by decide +kernel) ?_ (by decide)
  | refine TE.bi (b := .int) (by decide +kernel) ?_ (by decide)
  | refine TE.bi (b := .divmod) (by decide +kernel) ?_ (by decide)
  | refine TE.bi (b := .range) (by decide +kernel) ?_ (by decide)
  | refine TE.call (fns_get (by assumption) (by rfl)) (by decide +kernel) (by decide +kernel) ?_
  | refine TE.callc (by rfl) (by decide +kernel) (clo_get (by assumption) (by rfl)) (by rfl) (by decide +kernel) ?_
  | refine TE.bitlen ?_ (fun _ => rfl) (by rfl)
  | refine TE.comp' (c := none) rfl ?_ ?_ ?_ ⟨by rfl, (by decide +kernel), (by decide +kernel), (by decide +kernel), (by decide +kernel), (by decide +kernel), (by decide +kernel), (by decide +kernel)⟩ (fun _ _ => rfl)
  | refine TE.comp' (c := some _) rfl ?_ ?_ ?_ ⟨by rfl, (by decide +kernel), (by decide +kernel), (by decide +kernel), (by decide +kernel), (by decide +kernel), (by decide +kernel), (by decide +kernel)⟩ (fun _ _ => rfl)
  | refine TS.asgU ?_ (by rfl) (by first | exact Or.inl (by decide +kernel) | exact Or.inr (by decide +kernel)) (swap_comp (by decide +kernel))
  | refine TS.asgoU ?_ (by rfl) (by first | exact Or.inl (by decide +kernel) | exact Or.inr (by decide +kernel)) (swap_comp (by decide +kernel))
  | refine TS.asg ?_ (by rfl) (by first | exact Or.inl (by decide +kernel) | exact Or.inr (by decide +kernel)) (by first | exact fun _ _ _ => rfl | exact swap_comp (by decide +kernel))
  | refine TS.asgo ?_ (by rfl) (by first | exact Or.inl (by decide +kernel) | exact Or.inr (by decide +kernel)) (by first | exact fun _ _ _ => rfl | exact swap_comp (by decide +kernel))
  | refine TS.aug ?_ (by rfl) (by first | exact Or.inl (by decide +kernel) | exact Or.inr (by decide +kernel)) (by decide +kernel)
  | apply TS.ite
  | apply TS.ret
  | exact TS.retn
  | apply TS.while_
  | refine TS.for_ ?_ (by rfl) (by first | exact Or.inl (by decide +kernel) | exact Or.inr (by decide +kernel)) ?_ (fun _ _ => rfl)
  | refine TS.forr ?_ (by decide +kernel) (by rfl) (by first | exact Or.inl (by decide +kernel) | exact Or.inr (by decide +kernel)) ?_
  | refine TS.app ?_ (by rfl) (by decide +kernel) (by rfl)
  | refine TS.rev (by rfl) (by decide +kernel) (by rfl)
  | refine TS.seti ?_ ?_ (by rfl) (by decide +kernel) (fun _ => rfl)
  | refine TS.augi ?_ ?_ (by rfl) (by decide +kernel)
  | refine TS.callc (by rfl) (by decide +kernel) (clo_get (by assumption) (by rfl)) (by rfl) (by decide +kernel) ?_
  | refine TS.unp ?_ ?_ (fun _ _ => rfl) (fun _ _ => rfl)
  | refine TS.unp ?_ ?_ (fun _ _ => rfl) (fun env h => by have e1 := blockKind_of h; have e2 := kindOf_of h; unfold swappedStores; rw [e1, e2]; rfl)
  | refine TS.asgs (names := _) ?_ ?_ (fun _ _ => rfl) (fun env h => by have e1 := blockKind_of h; have e2 := kindOf_of h; unfold swappedStores; rw [e1, e2]; rfl)
  | refine TS.asgso (names := _) ?_ (by decide) (by rfl) (by intro e he; simp only [List.mem_cons, List.not_mem_nil, or_false] at he; first | (rcases he with rfl | rfl | rfl <;> exact ⟨_, rfl⟩) | (rcases he with rfl | rfl <;> exact ⟨_, rfl⟩)) (fun _ _ => rfl) (fun env h => by have e1 := blockKind_of h; have e2 := kindOf_of h; unfold swappedStores; rw [e1, e2]; rfl)
  | refine TN.cons (by rfl) (by first | exact Or.inl (by decide +kernel) | exact Or.inr (by decide +kernel)) ?_
  | exact TN.nil
  | refine TM.cons (by rfl) (by first | exact Or.inl (by decide +kernel) | exact Or.inr (by decide +kernel)) ?_
  | exact TM.nil)

set_option maxHeartbeats 8000000 in
theorem ts_law (hf : g.fns = fnsL) (hg : g.glos = glosL) (hc : g.clos = closL) : TSs g scblaw (fb 21) blaw := by
  unfold blaw
  (repeat' first
  | exact TSs.nil
  | exact TEs.nil
  | exact TEo.none
  | apply TSs.bad
  | apply TSs.frz
  | apply TSs.cons
  | apply TEs.cons
  | apply TEo.some
  | exact TE.int
  | exact TE.flt
  | exact TE.bool
  | refine TE.glo (glo_get (by assumption) (by rfl)) (by decide +kernel) (by decide +kernel)
  | refine TE.var (by rfl) (by decide +kernel)
  | refine TE.rep ?_ ?_
  | refine TE.bin (o := .add) ?_ ?_
  | refine TE.bin (o := .sub) ?_ ?_
  | refine TE.bin (o := .mul) ?_ ?_
  | refine TE.bin (o := .fdiv) ?_ ?_
  | refine TE.bin (o := .mod) ?_ ?_
  | refine TE.bin (o := .pow) ?_ ?_
  | refine TE.bin (o := .shl) ?_ ?_
  | refine TE.bin (o := .shr) ?_ ?_
  | refine TE.bin (o := .band) ?_ ?_
  | refine TE.bin (o := .bxor) ?_ ?_
  | refine TE.bin (o := .div) ?_ ?_
  | refine TE.cmp (o := .eq) ?_ ?_ (by rfl)
  | refine TE.cmp (o := .ne) ?_ ?_ (by rfl)
  | refine TE.cmp (o := .lt) ?_ ?_ (by rfl)
  | refine TE.cmp (o := .le) ?_ ?_ (by rfl)
  | refine TE.cmp (o := .gt) ?_ ?_ (by rfl)
  | refine TE.cmp (o := .ge) ?_ ?_ (by rfl)
  | refine TE.cmp (o := .isin) ?_ ?_ (by rfl)
  | apply TE.neg
  | apply TE.inv
  | apply TE.not
  | apply TE.and
  | apply TE.or
  | apply TE.ite
  | apply TE.lst
  | apply TE.tup
  | apply TE.slc
  | apply TE.idx
  | refine TE.isb (by decide +kernel) (by decide +kernel) ?_
  | refine TE.bi (b := .len) (by decide +kernel) ?_ (by decide)
  | refine TE.bi (b := .sum) (by decide +kernel) ?_ (by decide)
  | refine TE.bi (b := .abs) (by decide +kernel) ?_ (by decide)
  | refine TE.bi (b := .max) (by decide +kernel) ?_ (by decide)
  | refine TE.bi (b := .min) (by decide +kernel) ?_ (by decide)
  | refine TE.bi (b := .int) (by decide +kernel) ?_ (by decide)
  | refine TE.bi (b := .divmod) (by decide +kernel) ?_ (by decide)
  | refine TE.bi (b := .range) (by decide +kernel) ?_ (by decide)
  | refine TE.call (fns_get (by assumption) (by rfl)) (by decide +kernel) (by decide +kernel) ?_
  | refine TE.callc (by rfl) (by decide +kernel) (clo_get (by assumption) (by rfl)) (by rfl) (by decide +kernel) ?_
  | refine TE.bitlen ?_ (fun _ => rfl) (by rfl)
  | refine TE.comp' (c := none) rfl ?_ ?_ ?_ ⟨by rfl, (by decide +kernel), (by decide +kernel), (by decide +kernel), (by decide +kernel), (by decide +kernel), (by decide +kernel), (by decide +kernel)⟩ (fun _ _ => rfl)
  | refine TE.comp' (c := some _) rfl ?_ ?_ ?_ ⟨by rfl, (by decide +kernel), (by decide +kernel), (by decide +kernel), (by decide +kernel), (by decide +kernel), (by decide +kernel), (by decide +kernel)⟩ (fun _ _ => rfl)
  | refine TS.asgU ?_ (by rfl) (by first | exact Or.inl (by decide +kernel) | exact Or.inr (by decide +kernel)) (swap_comp (by decide +kernel))
  | refine TS.asgoU ?_ (by rfl) (by first | exact Or.inl (by decide +kernel) | exact Or.inr (by decide +kernel)) (swap_comp (by decide +kernel))
  | refine TS.asg ?_ (by rfl) (by first | exact Or.inl (by decide +kernel) | exact Or.inr (by decide +kernel)) (by first | exact fun _ _ _ => rfl | exact swap_comp (by decide +kernel))
  | refine TS.asgo ?_ (by rfl) (by first | exact Or.inl (by decide +kernel) | exact Or.inr (by decide +kernel)) (by first | exact fun _ _ _ => rfl | exact swap_comp (by decide +kernel))
  | refine TS.aug ?_ (by rfl) (by first | exact Or.inl (by decide +kernel) | exact Or.inr (by decide +kernel)) (by decide +kernel)
  | apply TS.ite
  | apply TS.ret
  | exact TS.retn
  | apply TS.while_
  | refine TS.for_ ?_ (by rfl) (by first | exact Or.inl (by decide +kernel) | exact Or.inr (by decide +kernel)) ?_ (fun _ _ => rfl)
  | refine TS.forr ?_ (by decide +kernel) (by rfl) (by first | exact Or.inl (by decide +kernel) | exact Or.inr (by decide +kernel)) ?_
  | refine TS.app ?_ (by rfl) (by decide +kernel) (by rfl)
  | refine TS.rev (by rfl) (by decide +kernel) (by rfl)
  | refine TS.seti ?_ ?_ (by rfl) (by decide +kernel) (fun _ => rfl)
  | refine TS.augi ?_ ?_ (by rfl) (by decide +kernel)
  | refine TS.callc (by rfl) (by decide +kernel) (clo_get (by assumption) (by rfl)) (by rfl) (by decide +kernel) ?_
  | refine TS.unp ?_ ?_ (fun _ _ => rfl) (fun _ _ => rfl)
  | refine TS.unp ?_ ?_ (fun _ _ => rfl) (fun env h => by have e1 := blockKind_of h; have e2 := kindOf_of h; unfold swappedStores; rw [e1, e2]; rfl)
  | refine TS.asgs (names := _) ?_ ?_ (fun _ _ => rfl) (fun env h => by have e1 := blockKind_of h; have e2 := kindOf_of h; unfold swappedStores; rw [e1, e2]; rfl)
  | refine TS.asgso (names := _) ?_ (by decide) (by rfl) (by intro e he; simp only [List.mem_cons, List.not_mem_nil, or_false] at he; first | (rcases he with rfl | rfl | rfl <;> exact ⟨_, rfl⟩) | (rcases he with rfl | rfl <;> exact ⟨_, rfl⟩)) (fun _ _ => rfl) (fun env h => by have e1 := blockKind_of h; have e2 := kindOf_of h; unfold swappedStores; rw [e1, e2]; rfl)
  | refine TN.cons (by rfl) (by first | exact Or.inl (by decide +kernel) | exact Or.inr (by decide +kernel)) ?_
  | exact TN.nil
  | refine TM.cons (by rfl) (by first | exact Or.inl (by decide +kernel) | exact Or.inr (by decide +kernel)) ?_
  | exact TM.nil)

theorem def0 (ht : g.tabs = tabsL) (hd : CodeHd g.hg 34 30) : DefOk g scbint2digits "inner" ci0 34 ("_int2digits" ++ ".<locals>.") 30 (defPos (inAt 4)) where
  code := rfl
  qual := by decide +kernel
  expl := by decide +kernel
  tab := by rw [ht]; exact .head _
  uniq := by rw [ht]; intro q hq e; rcases List.mem_cons.mp hq with rfl | hq; · rfl
             rcases List.mem_cons.mp hq with rfl | hq; · cases e
             cases hq
  hd := hd
  d0 := by rfl
  k0 := by rfl
  ann := fun _ => by rfl
  free := by decide +kernel
  capf := by decide +kernel
  nd := by decide +kernel
theorem def1 (ht : g.tabs = tabsL) (hd : CodeHd g.hg 41 37) : DefOk g scbdigits2int "inner" ci1 41 ("_digits2int" ++ ".<locals>.") 37 (defPos (inAt 5)) where
  code := rfl
  qual := by decide +kernel
  expl := by decide +kernel
  tab := by rw [ht]; exact .tail _ (.head _)
  uniq := by rw [ht]; intro q hq e; rcases List.mem_cons.mp hq with rfl | hq; · cases e
             rcases List.mem_cons.mp hq with rfl | hq; · rfl
             cases hq
  hd := hd
  d0 := by rfl
  k0 := by rfl
  ann := fun _ => by rfl
  free := by decide +kernel
  capf := by decide +kernel
  nd := by decide +kernel
set_option maxHeartbeats 4000000 in
theorem ts_int2digits (hf : g.fns = fnsL) (hg : g.glos = glosL) (hc : g.clos = closL) (D : DefOk g scbint2digits "inner" ci0 34 ("_int2digits" ++ ".<locals>.") 30 (defPos (inAt 4))) : TSs g scbint2digits (fb 4) bint2digits := by
  unfold bint2digits
  refine TSs.cons ?_ (TSs.cons (TS.defc (ci := ci0) (by rfl) (by first | exact Or.inl (by decide +kernel) | exact Or.inr (by decide +kernel)) (clo_get (by assumption) (by rfl)) D) ?_)
  all_goals (repeat' first
  | exact TSs.nil
  | exact TEs.nil
  | exact TEo.none
  | apply TSs.bad
  | apply TSs.frz
  | apply TSs.cons
  | apply TEs.cons
  | apply TEo.some
  | exact TE.int
  | exact TE.flt
  | exact TE.bool
  | refine TE.glo (glo_get (by assumption) (by rfl)) (by decide +kernel) (by decide +kernel)
  | refine TE.var (by rfl) (by decide +kernel)
  | refine TE.rep ?_ ?_
  | refine TE.bin (o := .add) ?_ ?_
  | refine TE.bin (o := .sub) ?_ ?_
  | refine TE.bin (o := .mul) ?_ ?_
  | refine TE.bin (o := .fdiv) ?_ ?_
  | refine TE.bin (o := .mod) ?_ ?_
  | refine TE.bin (o := .pow) ?_ ?_
  | refine TE.bin (o := .shl) ?_ ?_
  | refine TE.bin (o := .shr) ?_ ?_
  | refine TE.bin (o := .band) ?_ ?_
  | refine TE.bin (o := .bxor) ?_ ?_
  | refine TE.bin (o := .div) ?_ ?_
  | refine TE.cmp (o := .eq) ?_ ?_ (by rfl)
  | refine TE.cmp (o := .ne) ?_ ?_ (by rfl)
  | refine TE.cmp (o := .lt) ?_ ?_ (by rfl)
  | refine TE.cmp (o := .le) ?_ ?_ (by rfl)
  | refine TE.cmp (o := .gt) ?_ ?_ (by rfl)
  | refine TE.cmp (o := .ge) ?_ ?_ (by rfl)
  | refine TE.cmp (o := .isin) ?_ ?_ (by rfl)
  | apply TE.neg
  | apply TE.inv
  | apply TE.not
  | apply TE.and
  | apply TE.or
  | apply TE.ite
  | apply TE.lst
  | apply TE.tup
  | apply TE.slc
  | apply TE.idx
  | refine TE.isb (by decide +kernel) (by decide +kernel) ?_
  | refine TE.bi (b := .len) (by decide +kernel) ?_ (by decide)
  | refine TE.bi (b := .sum) (by decide +kernel) ?_ (by decide)
  | refine TE.bi (b := .abs) (by decide +kernel) ?_ (by decide)
  | refine TE.bi (b := .max) (by decide +kernel) ?_ (by decide)
  | refine TE.bi (b := .min) (by decide +kernel) ?_ (by decide)
  | refine TE.bi (b := .int) (by decide +kernel) ?_ (by decide)
  | refine TE.bi (b := .divmod) (by decide +kernel) ?_ (by decide)
  | refine TE.bi (b := .range) (by decide +kernel) ?_ (by decide)
  | refine TE.call (fns_get (by assumption) (by rfl)) (by decide +kernel) (by decide +kernel) ?_
  | refine TE.callc (by rfl) (by decide +kernel) (clo_get (by assumption) (by rfl)) (by rfl) (by decide +kernel) ?_
  | refine TE.bitlen ?_ (fun _ => rfl) (by rfl)
  | refine TE.comp' (c := none) rfl ?_ ?_ ?_ ⟨by rfl, (by decide +kernel), (by decide +kernel), (by decide +kernel), (by decide +kernel), (by decide +kernel), (by decide +kernel), (by decide +kernel)⟩ (fun _ _ => rfl)
  | refine TE.comp' (c := some _) rfl ?_ ?_ ?_ ⟨by rfl, (by decide +kernel), (by decide +kernel), (by decide +kernel), (by decide +kernel), (by decide +kernel), (by decide +kernel), (by decide +kernel)⟩ (fun _ _ => rfl)
  | refine TS.asgU ?_ (by rfl) (by first | exact Or.inl (by decide +kernel) | exact Or.inr (by decide +kernel)) (swap_comp (by decide +kernel))
  | refine TS.asgoU ?_ (by rfl) (by first | exact Or.inl (by decide +kernel) | exact Or.inr (by decide +kernel)) (swap_comp (by decide +kernel))
  | refine TS.asg ?_ (by rfl) (by first | exact Or.inl (by decide +kernel) | exact Or.inr (by decide +kernel)) (by first | exact fun _ _ _ => rfl | exact swap_comp (by decide +kernel))
  | refine TS.asgo ?_ (by rfl) (by first | exact Or.inl (by decide +kernel) | exact Or.inr (by decide +kernel)) (by first | exact fun _ _ _ => rfl | exact swap_comp (by decide +kernel))
  | refine TS.aug ?_ (by rfl) (by first | exact Or.inl (by decide +kernel) | exact Or.inr (by decide +kernel)) (by decide +kernel)
  | apply TS.ite
  | apply TS.ret
  | exact TS.retn
  | apply TS.while_
  | refine TS.for_ ?_ (by rfl) (by first | exact Or.inl (by decide +kernel) | exact Or.inr (by decide +kernel)) ?_ (fun _ _ => rfl)
  | refine TS.forr ?_ (by decide +kernel) (by rfl) (by first | exact Or.inl (by decide +kernel) | exact Or.inr (by decide +kernel)) ?_
  | refine TS.app ?_ (by rfl) (by decide +kernel) (by rfl)
  | refine TS.rev (by rfl) (by decide +kernel) (by rfl)
  | refine TS.seti ?_ ?_ (by rfl) (by decide +kernel) (fun _ => rfl)
  | refine TS.augi ?_ ?_ (by rfl) (by decide +kernel)
  | refine TS.callc (by rfl) (by decide +kernel) (clo_get (by assumption) (by rfl)) (by rfl) (by decide +kernel) ?_
  | refine TS.unp ?_ ?_ (fun _ _ => rfl) (fun _ _ => rfl)
  | refine TS.unp ?_ ?_ (fun _ _ => rfl) (fun env h => by have e1 := blockKind_of h; have e2 := kindOf_of h; unfold swappedStores; rw [e1, e2]; rfl)
  | refine TS.asgs (names := _) ?_ ?_ (fun _ _ => rfl) (fun env h => by have e1 := blockKind_of h; have e2 := kindOf_of h; unfold swappedStores; rw [e1, e2]; rfl)
  | refine TS.asgso (names := _) ?_ (by decide) (by rfl) (by intro e he; simp only [List.mem_cons, List.not_mem_nil, or_false] at he; first | (rcases he with rfl | rfl | rfl <;> exact ⟨_, rfl⟩) | (rcases he with rfl | rfl <;> exact ⟨_, rfl⟩)) (fun _ _ => rfl) (fun env h => by have e1 := blockKind_of h; have e2 := kindOf_of h; unfold swappedStores; rw [e1, e2]; rfl)
  | refine TN.cons (by rfl) (by first | exact Or.inl (by decide +kernel) | exact Or.inr (by decide +kernel)) ?_
  | exact TN.nil
  | refine TM.cons (by rfl) (by first | exact Or.inl (by decide +kernel) | exact Or.inr (by decide +kernel)) ?_
  | exact TM.nil)
set_option maxHeartbeats 4000000 in
theorem ts_digits2int (hf : g.fns = fnsL) (hg : g.glos = glosL) (hc : g.clos = closL) (D : DefOk g scbdigits2int "inner" ci1 41 ("_digits2int" ++ ".<locals>.") 37 (defPos (inAt 5))) : TSs g scbdigits2int (fb 5) bdigits2int := by
  unfold bdigits2int
  refine TSs.cons (TS.defc (ci := ci1) (by rfl) (by first | exact Or.inl (by decide +kernel) | exact Or.inr (by decide +kernel)) (clo_get (by assumption) (by rfl)) D) ?_
  all_goals (repeat' first
  | exact TSs.nil
  | exact TEs.nil
  | exact TEo.none
  | apply TSs.bad
  | apply TSs.frz
  | apply TSs.cons
  | apply TEs.cons
  | apply TEo.some
  | exact TE.int
  | exact TE.flt
  | exact TE.bool
  | refine TE.glo (glo_get (by assumption) (by rfl)) (by decide +kernel) (by decide +kernel)
  | refine TE.var (by rfl) (by decide +kernel)
  | refine TE.rep ?_ ?_
  | refine TE.bin (o := .add) ?_ ?_
  | refine TE.bin (o := .sub) ?_ ?_
  | refine TE.bin (o := .mul) ?_ ?_
  | refine TE.bin (o := .fdiv) ?_ ?_
  | refine TE.bin (o := .mod) ?_ ?_
  | refine TE.bin (o := .pow) ?_ ?_
  | refine TE.bin (o := .shl) ?_ ?_
  | refine TE.bin (o := .shr) ?_ ?_
  | refine TE.bin (o := .band) ?_ ?_
  | refine TE.bin (o := .bxor) ?_ ?_
  | refine TE.bin (o := .div) ?_ ?_
  | refine TE.cmp (o := .eq) ?_ ?_ (by rfl)
  | refine TE.cmp (o := .ne) ?_ ?_ (by rfl)
  | refine TE.cmp (o := .lt) ?_ ?_ (by rfl)
  | refine TE.cmp (o := .le) ?_ ?_ (by rfl)
  | refine TE.cmp (o := .gt) ?_ ?_ (by rfl)
  | refine TE.cmp (o := .ge) ?_ ?_ (by rfl)
  | refine TE.cmp (o := .isin) ?_ ?_ (by rfl)
  | apply TE.neg
  | apply TE.inv
  | apply TE.not
  | apply TE.and
  | apply TE.or
  | apply TE.ite
  | apply TE.lst
  | apply TE.tup
  | apply TE.slc
  | apply TE.idx
  | refine TE.isb (by decide +kernel) (by decide +kernel) ?_
  | refine TE.bi (b := .len) (by decide +kernel) ?_ (by decide)
  | refine TE.bi (b := .sum) (by decide +kernel) ?_ (by decide)
  | refine TE.bi (b := .abs) (by decide +kernel) ?_ (by decide)
  | refine TE.bi (b := .max) (by decide +kernel) ?_ (by decide)
  | refine TE.bi (b := .min) (by decide +kernel) ?_ (by decide)
  | refine TE.bi (b := .int) (by decide +kernel) ?_ (by decide)
  | refine TE.bi (b := .divmod) (by decide +kernel) ?_ (by decide)
  | refine TE.bi (b := .range) (by decide +kernel) ?_ (by decide)
  | refine TE.call (fns_get (by assumption) (by rfl)) (by decide +kernel) (by decide +kernel) ?_
  | refine TE.callc (by rfl) (by decide +kernel) (clo_get (by assumption) (by rfl)) (by rfl) (by decide +kernel) ?_
  | refine TE.bitlen ?_ (fun _ => rfl) (by rfl)
  | refine TE.comp' (c := none) rfl ?_ ?_ ?_ ⟨by rfl, (by decide +kernel), (by decide +kernel), (by decide +kernel), (by decide +kernel), (by decide +kernel), (by decide +kernel), (by decide +kernel)⟩ (fun _ _ => rfl)
  | refine TE.comp' (c := some _) rfl ?_ ?_ ?_ ⟨by rfl, (by decide +kernel), (by decide +kernel), (by decide +kernel), (by decide +kernel), (by decide +kernel), (by decide +kernel), (by decide +kernel)⟩ (fun _ _ => rfl)
  | refine TS.asgU ?_ (by rfl) (by first | exact Or.inl (by decide +kernel) | exact Or.inr (by decide +kernel)) (swap_comp (by decide +kernel))
  | refine TS.asgoU ?_ (by rfl) (by first | exact Or.inl (by decide +kernel) | exact Or.inr (by decide +kernel)) (swap_comp (by decide +kernel))
  | refine TS.asg ?_ (by rfl) (by first | exact Or.inl (by decide +kernel) | exact Or.inr (by decide +kernel)) (by first | exact fun _ _ _ => rfl | exact swap_comp (by decide +kernel))
  | refine TS.asgo ?_ (by rfl) (by first | exact Or.inl (by decide +kernel) | exact Or.inr (by decide +kernel)) (by first | exact fun _ _ _ => rfl | exact swap_comp (by decide +kernel))
  | refine TS.aug ?_ (by rfl) (by first | exact Or.inl (by decide +kernel) | exact Or.inr (by decide +kernel)) (by decide +kernel)
  | apply TS.ite
  | apply TS.ret
  | exact TS.retn
  | apply TS.while_
  | refine TS.for_ ?_ (by rfl) (by first | exact Or.inl (by decide +kernel) | exact Or.inr (by decide +kernel)) ?_ (fun _ _ => rfl)
  | refine TS.forr ?_ (by decide +kernel) (by rfl) (by first | exact Or.inl (by decide +kernel) | exact Or.inr (by decide +kernel)) ?_
  | refine TS.app ?_ (by rfl) (by decide +kernel) (by rfl)
  | refine TS.rev (by rfl) (by decide +kernel) (by rfl)
  | refine TS.seti ?_ ?_ (by rfl) (by decide +kernel) (fun _ => rfl)
  | refine TS.augi ?_ ?_ (by rfl) (by decide +kernel)
  | refine TS.callc (by rfl) (by decide +kernel) (clo_get (by assumption) (by rfl)) (by rfl) (by decide +kernel) ?_
  | refine TS.unp ?_ ?_ (fun _ _ => rfl) (fun _ _ => rfl)
  | refine TS.unp ?_ ?_ (fun _ _ => rfl) (fun env h => by have e1 := blockKind_of h; have e2 := kindOf_of h; unfold swappedStores; rw [e1, e2]; rfl)
  | refine TS.asgs (names := _) ?_ ?_ (fun _ _ => rfl) (fun env h => by have e1 := blockKind_of h; have e2 := kindOf_of h; unfold swappedStores; rw [e1, e2]; rfl)
  | refine TS.asgso (names := _) ?_ (by decide) (by rfl) (by intro e he; simp only [List.mem_cons, List.not_mem_nil, or_false] at he; first | (rcases he with rfl | rfl | rfl <;> exact ⟨_, rfl⟩) | (rcases he with rfl | rfl <;> exact ⟨_, rfl⟩)) (fun _ _ => rfl) (fun env h => by have e1 := blockKind_of h; have e2 := kindOf_of h; unfold swappedStores; rw [e1, e2]; rfl)
  | refine TN.cons (by rfl) (by first | exact Or.inl (by decide +kernel) | exact Or.inr (by decide +kernel)) ?_
  | exact TN.nil
  | refine TM.cons (by rfl) (by first | exact Or.inl (by decide +kernel) | exact Or.inr (by decide +kernel)) ?_
  | exact TM.nil)

set_option maxHeartbeats 4000000 in
theorem ts_iint2digits (hf : g.fns = fnsL) (hg : g.glos = glosL) (hc : g.clos = closL) : TSs g scbiint2digits (inb 4) biint2digits := by
  unfold biint2digits
  (repeat' first
  | exact TSs.nil
  | exact TEs.nil
  | exact TEo.none
  | apply TSs.bad
  | apply TSs.frz
  | apply TSs.cons
  | apply TEs.cons
  | apply TEo.some
  | exact TE.int
  | exact TE.flt
  | exact TE.bool
  | refine TE.glo (glo_get (by assumption) (by rfl)) (by decide +kernel) (by decide +kernel)
  | refine TE.var (by rfl) (by decide +kernel)
  | refine TE.rep ?_ ?_
  | refine TE.bin (o := .add) ?_ ?_
  | refine TE.bin (o := .sub) ?_ ?_
  | refine TE.bin (o := .mul) ?_ ?_
  | refine TE.bin (o := .fdiv) ?_ ?_
  | refine TE.bin (o := .mod) ?_ ?_
  | refine TE.bin (o := .pow) ?_ ?_
  | refine TE.bin (o := .shl) ?_ ?_
  | refine TE.bin (o := .shr) ?_ ?_
  | refine TE.bin (o := .band) ?_ ?_
  | refine TE.bin (o := .bxor) ?_ ?_
  | refine TE.bin (o := .div) ?_ ?_
  | refine TE.cmp (o := .eq) ?_ ?_ (by rfl)
  | refine TE.cmp (o := .ne) ?_ ?_ (by rfl)
  | refine TE.cmp (o := .lt) ?_ ?_ (by rfl)
  | refine TE.cmp (o := .le) ?_ ?_ (by rfl)
  | refine TE.cmp (o := .gt) ?_ ?_ (by rfl)
  | refine TE.cmp (o := .ge) ?_ ?_ (by rfl)
  | refine TE.cmp (o := .isin) ?_ ?_ (by rfl)
  | apply TE.neg
  | apply TE.inv
  | apply TE.not
  | apply TE.and
  | apply TE.or
  | apply TE.ite
  | apply TE.lst
  | apply TE.tup
  | apply TE.slc
  | apply TE.idx
  | refine TE.isb (by decide +kernel) (by decide +kernel) ?_
  | refine TE.bi (b := .len) (by decide +kernel) ?_ (by decide)
  | refine TE.bi (b := .sum) (by decide +kernel) ?_ (by decide)
  | refine TE.bi (b := .abs) (by decide +kernel) ?_ (by decide)
  | refine TE.bi (b := .max) (by decide +kernel) ?_ (by decide)
  | refine TE.bi (b := .min) (by decide +kernel) ?_ (by decide)
  | refine TE.bi (b := .int) (by decide +kernel) ?_ (by decide)
  | refine TE.bi (b := .divmod) (by decide +kernel) ?_ (by decide)
  | refine TE.bi (b := .range) (by decide +kernel) ?_ (by decide)
  | refine TE.call (fns_get (by assumption) (by rfl)) (by decide +kernel) (by decide +kernel) ?_
  | refine TE.callc (by rfl) (by decide +kernel) (clo_get (by assumption) (by rfl)) (by rfl) (by decide +kernel) ?_
  | refine TE.bitlen ?_ (fun _ => rfl) (by rfl)
  | refine TE.comp' (c := none) rfl ?_ ?_ ?_ ⟨by rfl, (by decide +kernel), (by decide +kernel), (by decide +kernel), (by decide +kernel), (by decide +kernel), (by decide +kernel), (by decide +kernel)⟩ (fun _ _ => rfl)
  | refine TE.comp' (c := some _) rfl ?_ ?_ ?_ ⟨by rfl, (by decide +kernel), (by decide +kernel), (by decide +kernel), (by decide +kernel), (by decide +kernel), (by decide +kernel), (by decide +kernel)⟩ (fun _ _ => rfl)
  | refine TS.asgU ?_ (by rfl) (by first | exact Or.inl (by decide +kernel) | exact Or.inr (by decide +kernel)) (swap_comp (by decide +kernel))
  | refine TS.asgoU ?_ (by rfl) (by first | exact Or.inl (by decide +kernel) | exact Or.inr (by decide +kernel)) (swap_comp (by decide +kernel))
  | refine TS.asg ?_ (by rfl) (by first | exact Or.inl (by decide +kernel) | exact Or.inr (by decide +kernel)) (by first | exact fun _ _ _ => rfl | exact swap_comp (by decide +kernel))
  | refine TS.asgo ?_ (by rfl) (by first | exact Or.inl (by decide +kernel) | exact Or.inr (by decide +kernel)) (by first | exact fun _ _ _ => rfl | exact swap_comp (by decide +kernel))
  | refine TS.aug ?_ (by rfl) (by first | exact Or.inl (by decide +kernel) | exact Or.inr (by decide +kernel)) (by decide +kernel)
  | apply TS.ite
  | apply TS.ret
  | exact TS.retn
  | apply TS.while_
  | refine TS.for_ ?_ (by rfl) (by first | exact Or.inl (by decide +kernel) | exact Or.inr (by decide +kernel)) ?_ (fun _ _ => rfl)
  | refine TS.forr ?_ (by decide +kernel) (by rfl) (by first | exact Or.inl (by decide +kernel) | exact Or.inr (by decide +kernel)) ?_
  | refine TS.app ?_ (by rfl) (by decide +kernel) (by rfl)
  | refine TS.rev (by rfl) (by decide +kernel) (by rfl)
  | refine TS.seti ?_ ?_ (by rfl) (by decide +kernel) (fun _ => rfl)
  | refine TS.augi ?_ ?_ (by rfl) (by decide +kernel)
  | refine TS.callc (by rfl) (by decide +kernel) (clo_get (by assumption) (by rfl)) (by rfl) (by decide +kernel) ?_
  | refine TS.unp ?_ ?_ (fun _ _ => rfl) (fun _ _ => rfl)
  | refine TS.unp ?_ ?_ (fun _ _ => rfl) (fun env h => by have e1 := blockKind_of h; have e2 := kindOf_of h; unfold swappedStores; rw [e1, e2]; rfl)
  | refine TS.asgs (names := _) ?_ ?_ (fun _ _ => rfl) (fun env h => by have e1 := blockKind_of h; have e2 := kindOf_of h; unfold swappedStores; rw [e1, e2]; rfl)
  | refine TS.asgso (names := _) ?_ (by decide) (by rfl) (by intro e he; simp only [List.mem_cons, List.not_mem_nil, or_false] at he; first | (rcases he with rfl | rfl | rfl <;> exact ⟨_, rfl⟩) | (rcases he with rfl | rfl <;> exact ⟨_, rfl⟩)) (fun _ _ => rfl) (fun env h => by have e1 := blockKind_of h; have e2 := kindOf_of h; unfold swappedStores; rw [e1, e2]; rfl)
  | refine TN.cons (by rfl) (by first | exact Or.inl (by decide +kernel) | exact Or.inr (by decide +kernel)) ?_
  | exact TN.nil
  | refine TM.cons (by rfl) (by first | exact Or.inl (by decide +kernel) | exact Or.inr (by decide +kernel)) ?_
  | exact TM.nil)

set_option maxHeartbeats 4000000 in
theorem ts_idigits2int (hf : g.fns = fnsL) (hg : g.glos = glosL) (hc : g.clos = closL) : TSs g scbidigits2int (inb 5) bidigits2int := by
  unfold bidigits2int
  (repeat' first
  | exact TSs.nil
  | exact TEs.nil
  | exact TEo.none
  | apply TSs.bad
  | apply TSs.frz
  | apply TSs.cons
  | apply TEs.cons
  | apply TEo.some
  | exact TE.int
  | exact TE.flt
  | exact TE.bool
  | refine TE.glo (glo_get (by assumption) (by rfl)) (by decide +kernel) (by decide +kernel)
  | refine TE.var (by rfl) (by decide +kernel)
  | refine TE.rep ?_ ?_
  | refine TE.bin (o := .add) ?_ ?_
  | refine TE.bin (o := .sub) ?_ ?_
  | refine TE.bin (o := .mul) ?_ ?_
  | refine TE.bin (o := .fdiv) ?_ ?_
  | refine TE.bin (o := .mod) ?_ ?_
  | refine TE.bin (o := .pow) ?_ ?_
  | refine TE.bin (o := .shl) ?_ ?_
  | refine TE.bin (o := .shr) ?_ ?_
  | refine TE.bin (o := .band) ?_ ?_
  | refine TE.bin (o := .bxor) ?_ ?_
  | refine TE.bin (o := .div) ?_ ?_
  | refine TE.cmp (o := .eq) ?_ ?_ (by rfl)
  | refine TE.cmp (o := .ne) ?_ ?_ (by rfl)
  | refine TE.cmp (o := .lt) ?_ ?_ (by rfl)
  | refine TE.cmp (o := .le) ?_ ?_ (by rfl)
  | refine TE.cmp (o := .gt) ?_ ?_ (by rfl)
  | refine TE.cmp (o := .ge) ?_ ?_ (by rfl)
  | refine TE.cmp (o := .isin) ?_ ?_ (by rfl)
  | apply TE.neg
  | apply TE.inv
  | apply TE.not
  | apply TE.and
  | apply TE.or
  | apply TE.ite
  | apply TE.lst
  | apply TE.tup
  | apply TE.slc
  | apply TE.idx
  | refine TE.isb (by decide +kernel) (by decide +kernel) ?_
  | refine TE.bi (b := .len) (by decide +kernel) ?_ (by decide)
  | refine TE.bi (b := .sum) (by decide +kernel) ?_ (by decide)
  | refine TE.bi (b := .abs) (by decide +kernel) ?_ (by decide)
  | refine TE.bi (b := .max) (by decide +kernel) ?_ (by decide)
  | refine TE.bi (b := .min) (by decide +kernel) ?_ (by decide)
  | refine TE.bi (b := .int) (by decide +kernel) ?_ (by decide)
  | refine TE.bi (b := .divmod) (by decide +kernel) ?_ (by decide)
  | refine TE.bi (b := .range) (by decide +kernel) ?_ (by decide)
  | refine TE.call (fns_get (by assumption) (by rfl)) (by decide +kernel) (by decide +kernel) ?_
  | refine TE.callc (by rfl) (by decide +kernel) (clo_get (by assumption) (by rfl)) (by rfl) (by decide +kernel) ?_
  | refine TE.bitlen ?_ (fun _ => rfl) (by rfl)
  | refine TE.comp' (c := none) rfl ?_ ?_ ?_ ⟨by rfl, (by decide +kernel), (by decide +kernel), (by decide +kernel), (by decide +kernel), (by decide +kernel), (by decide +kernel), (by decide +kernel)⟩ (fun _ _ => rfl)
  | refine TE.comp' (c := some _) rfl ?_ ?_ ?_ ⟨by rfl, (by decide +kernel), (by decide +kernel), (by decide +kernel), (by decide +kernel), (by decide +kernel), (by decide +kernel), (by decide +kernel)⟩ (fun _ _ => rfl)
  | refine TS.asgU ?_ (by rfl) (by first | exact Or.inl (by decide +kernel) | exact Or.inr (by decide +kernel)) (swap_comp (by decide +kernel))
  | refine TS.asgoU ?_ (by rfl) (by first | exact Or.inl (by decide +kernel) | exact Or.inr (by decide +kernel)) (swap_comp (by decide +kernel))
  | refine TS.asg ?_ (by rfl) (by first | exact Or.inl (by decide +kernel) | exact Or.inr (by decide +kernel)) (by first | exact fun _ _ _ => rfl | exact swap_comp (by decide +kernel))
  | refine TS.asgo ?_ (by rfl) (by first | exact Or.inl (by decide +kernel) | exact Or.inr (by decide +kernel)) (by first | exact fun _ _ _ => rfl | exact swap_comp (by decide +kernel))
  | refine TS.aug ?_ (by rfl) (by first | exact Or.inl (by decide +kernel) | exact Or.inr (by decide +kernel)) (by decide +kernel)
  | apply TS.ite
  | apply TS.ret
  | exact TS.retn
  | apply TS.while_
  | refine TS.for_ ?_ (by rfl) (by first | exact Or.inl (by decide +kernel) | exact Or.inr (by decide +kernel)) ?_ (fun _ _ => rfl)
  | refine TS.forr ?_ (by decide +kernel) (by rfl) (by first | exact Or.inl (by decide +kernel) | exact Or.inr (by decide +kernel)) ?_
  | refine TS.app ?_ (by rfl) (by decide +kernel) (by rfl)
  | refine TS.rev (by rfl) (by decide +kernel) (by rfl)
  | refine TS.seti ?_ ?_ (by rfl) (by decide +kernel) (fun _ => rfl)
  | refine TS.augi ?_ ?_ (by rfl) (by decide +kernel)
  | refine TS.callc (by rfl) (by decide +kernel) (clo_get (by assumption) (by rfl)) (by rfl) (by decide +kernel) ?_
  | refine TS.unp ?_ ?_ (fun _ _ => rfl) (fun _ _ => rfl)
  | refine TS.unp ?_ ?_ (fun _ _ => rfl) (fun env h => by have e1 := blockKind_of h; have e2 := kindOf_of h; unfold swappedStores; rw [e1, e2]; rfl)
  | refine TS.asgs (names := _) ?_ ?_ (fun _ _ => rfl) (fun env h => by have e1 := blockKind_of h; have e2 := kindOf_of h; unfold swappedStores; rw [e1, e2]; rfl)
  | refine TS.asgso (names := _) ?_ (by decide) (by rfl) (by intro e he; simp only [List.mem_cons, List.not_mem_nil, or_false] at he; first | (rcases he with rfl | rfl | rfl <;> exact ⟨_, rfl⟩) | (rcases he with rfl | rfl <;> exact ⟨_, rfl⟩)) (fun _ _ => rfl) (fun env h => by have e1 := blockKind_of h; have e2 := kindOf_of h; unfold swappedStores; rw [e1, e2]; rfl)
  | refine TN.cons (by rfl) (by first | exact Or.inl (by decide +kernel) | exact Or.inr (by decide +kernel)) ?_
  | exact TN.nil
  | refine TM.cons (by rfl) (by first | exact Or.inl (by decide +kernel) | exact Or.inr (by decide +kernel)) ?_
  | exact TM.nil)

end Mine
end
section
set_option maxRecDepth 100000
namespace Mine
open PySem PySem.W PyProof.Rows
variable {g : Gx}
theorem one_of {xs : List Value} (h : xs.length = 1) : ∃ a, xs = [a] := List.length_eq_one_iff.mp h
theorem two_of : ∀ {xs : List Value}, xs.length = 2 → ∃ a b, xs = [a, b]
  | [], h => by cases h
  | a :: _, h => let ⟨b, e⟩ := one_of (Nat.succ.inj h); ⟨a, b, congrArg (a :: ·) e⟩
theorem three_of : ∀ {xs : List Value}, xs.length = 3 → ∃ a b c, xs = [a, b, c]
  | [], h => by cases h
  | a :: _, h => let ⟨b, c, e⟩ := two_of (Nat.succ.inj h); ⟨a, b, c, congrArg (a :: ·) e⟩

theorem ok_div2n1n (hf : g.fns = fnsL) (hg : g.glos = glosL) (hc : g.clos = closL) : BodyOk g ⟨3, 11, bdiv2n1n⟩ scbdiv2n1n (fs 2) (fa 2) (fb 2) [] where
  kind := by rfl
  gen := by rfl
  co := by rfl
  kinds := fun _ => rfl
  len := by rfl
  nd := by decide +kernel
  np := by decide
  cap := by rfl
  loc := by decide +kernel
  capk := by decide +kernel
  bind := fun fd xs h1 h2 h3 hl => by
    obtain ⟨a, b, c, rfl⟩ := three_of hl
    unfold bindArgs
    rw [h1, h2, h3]
    rfl
  ts := ts_div2n1n hf hg hc

theorem ok_int2digits (hf : g.fns = fnsL) (hg : g.glos = glosL) (hc : g.clos = closL) (hd : CodeHd g.hg 34 30) (ht : g.tabs = tabsL) : BodyOk g ⟨2, 4, bint2digits⟩ scbint2digits (fs 4) (fa 4) (fb 4) [] where
  kind := by rfl
  gen := by rfl
  co := by rfl
  kinds := fun _ => rfl
  len := by rfl
  nd := by decide +kernel
  np := by decide
  cap := by rfl
  loc := by decide +kernel
  capk := by decide +kernel
  bind := fun fd xs h1 h2 h3 hl => by
    obtain ⟨a, b, rfl⟩ := two_of hl
    unfold bindArgs
    rw [h1, h2, h3]
    rfl
  ts := ts_int2digits hf hg hc (def0 ht hd)

theorem ok_iint2digits (hf : g.fns = fnsL) (hg : g.glos = glosL) (hc : g.clos = closL) : BodyOk g ⟨3, 10, biint2digits⟩ scbiint2digits (ins 4) (ina 4) (inb 4) ["a_digits", "inner", "n"] where
  kind := by rfl
  gen := by rfl
  co := by rfl
  kinds := fun _ => rfl
  len := by rfl
  nd := by decide +kernel
  np := by decide
  cap := by rfl
  loc := by decide +kernel
  capk := by decide +kernel
  bind := fun fd xs h1 h2 h3 hl => by
    obtain ⟨a, b, c, rfl⟩ := three_of hl
    unfold bindArgs
    rw [h1, h2, h3]
    rfl
  ts := ts_iint2digits hf hg hc

theorem ok_digits2int (hf : g.fns = fnsL) (hg : g.glos = glosL) (hc : g.clos = closL) (hd : CodeHd g.hg 41 37) (ht : g.tabs = tabsL) : BodyOk g ⟨2, 3, bdigits2int⟩ scbdigits2int (fs 5) (fa 5) (fb 5) [] where
  kind := by rfl
  gen := by rfl
  co := by rfl
  kinds := fun _ => rfl
  len := by rfl
  nd := by decide +kernel
  np := by decide
  cap := by rfl
  loc := by decide +kernel
  capk := by decide +kernel
  bind := fun fd xs h1 h2 h3 hl => by
    obtain ⟨a, b, rfl⟩ := two_of hl
    unfold bindArgs
    rw [h1, h2, h3]
    rfl
  ts := ts_digits2int hf hg hc (def1 ht hd)

theorem ok_idigits2int (hf : g.fns = fnsL) (hg : g.glos = glosL) (hc : g.clos = closL) : BodyOk g ⟨2, 7, bidigits2int⟩ scbidigits2int (ins 5) (ina 5) (inb 5) ["digits", "inner", "n"] where
  kind := by rfl
  gen := by rfl
  co := by rfl
  kinds := fun _ => rfl
  len := by rfl
  nd := by decide +kernel
  np := by decide
  cap := by rfl
  loc := by decide +kernel
  capk := by decide +kernel
  bind := fun fd xs h1 h2 h3 hl => by
    obtain ⟨a, b, rfl⟩ := two_of hl
    unfold bindArgs
    rw [h1, h2, h3]
    rfl
  ts := ts_idigits2int hf hg hc

theorem ok_divmod_pos (hf : g.fns = fnsL) (hg : g.glos = glosL) (hc : g.clos = closL) : BodyOk g ⟨2, 9, bdivmod_pos⟩ scbdivmod_pos (fs 6) (fa 6) (fb 6) [] where
  kind := by rfl
  gen := by rfl
  co := by rfl
  kinds := fun _ => rfl
  len := by rfl
  nd := by decide +kernel
  np := by decide
  cap := by rfl
  loc := by decide +kernel
  capk := by decide +kernel
  bind := fun fd xs h1 h2 h3 hl => by
    obtain ⟨a, b, rfl⟩ := two_of hl
    unfold bindArgs
    rw [h1, h2, h3]
    rfl
  ts := ts_divmod_pos hf hg hc

theorem ok_int_divmod (hf : g.fns = fnsL) (hg : g.glos = glosL) (hc : g.clos = closL) : BodyOk g ⟨2, 4, bint_divmod⟩ scbint_divmod (fs 7) (fa 7) (fb 7) [] where
  kind := by rfl
  gen := by rfl
  co := by rfl
  kinds := fun _ => rfl
  len := by rfl
  nd := by decide +kernel
  np := by decide
  cap := by rfl
  loc := by decide +kernel
  capk := by decide +kernel
  bind := fun fd xs h1 h2 h3 hl => by
    obtain ⟨a, b, rfl⟩ := two_of hl
    unfold bindArgs
    rw [h1, h2, h3]
    rfl
  ts := ts_int_divmod hf hg hc

theorem ok_rgb_to_hls (hf : g.fns = fnsL) (hg : g.glos = glosL) (hc : g.clos = closL) : BodyOk g ⟨3, 13, brgb_to_hls⟩ scbrgb_to_hls (fs 9) (fa 9) (fb 9) [] where
  kind := by rfl
  gen := by rfl
  co := by rfl
  kinds := fun _ => rfl
  len := by rfl
  nd := by decide +kernel
  np := by decide
  cap := by rfl
  loc := by decide +kernel
  capk := by decide +kernel
  bind := fun fd xs h1 h2 h3 hl => by
    obtain ⟨a, b, c, rfl⟩ := three_of hl
    unfold bindArgs
    rw [h1, h2, h3]
    rfl
  ts := ts_rgb_to_hls hf hg hc

theorem ok_rgb_to_hsv (hf : g.fns = fnsL) (hg : g.glos = glosL) (hc : g.clos = closL) : BodyOk g ⟨3, 12, brgb_to_hsv⟩ scbrgb_to_hsv (fs 10) (fa 10) (fb 10) [] where
  kind := by rfl
  gen := by rfl
  co := by rfl
  kinds := fun _ => rfl
  len := by rfl
  nd := by decide +kernel
  np := by decide
  cap := by rfl
  loc := by decide +kernel
  capk := by decide +kernel
  bind := fun fd xs h1 h2 h3 hl => by
    obtain ⟨a, b, c, rfl⟩ := three_of hl
    unfold bindArgs
    rw [h1, h2, h3]
    rfl
  ts := ts_rgb_to_hsv hf hg hc

theorem ok_hsv_to_rgb (hf : g.fns = fnsL) (hg : g.glos = glosL) (hc : g.clos = closL) : BodyOk g ⟨3, 8, bhsv_to_rgb⟩ scbhsv_to_rgb (fs 11) (fa 11) (fb 11) [] where
  kind := by rfl
  gen := by rfl
  co := by rfl
  kinds := fun _ => rfl
  len := by rfl
  nd := by decide +kernel
  np := by decide
  cap := by rfl
  loc := by decide +kernel
  capk := by decide +kernel
  bind := fun fd xs h1 h2 h3 hl => by
    obtain ⟨a, b, c, rfl⟩ := three_of hl
    unfold bindArgs
    rw [h1, h2, h3]
    rfl
  ts := ts_hsv_to_rgb hf hg hc

theorem ok_ISTERMINAL (hf : g.fns = fnsL) (hg : g.glos = glosL) (hc : g.clos = closL) : BodyOk g ⟨1, 1, bISTERMINAL⟩ scbISTERMINAL (fs 15) (fa 15) (fb 15) [] where
  kind := by rfl
  gen := by rfl
  co := by rfl
  kinds := fun _ => rfl
  len := by rfl
  nd := by decide +kernel
  np := by decide
  cap := by rfl
  loc := by decide +kernel
  capk := by decide +kernel
  bind := fun fd xs h1 h2 h3 hl => by
    obtain ⟨a, rfl⟩ := one_of hl
    unfold bindArgs
    rw [h1, h2, h3]
    rfl
  ts := ts_ISTERMINAL hf hg hc

theorem ok_ISNONTERMINAL (hf : g.fns = fnsL) (hg : g.glos = glosL) (hc : g.clos = closL) : BodyOk g ⟨1, 1, bISNONTERMINAL⟩ scbISNONTERMINAL (fs 16) (fa 16) (fb 16) [] where
  kind := by rfl
  gen := by rfl
  co := by rfl
  kinds := fun _ => rfl
  len := by rfl
  nd := by decide +kernel
  np := by decide
  cap := by rfl
  loc := by decide +kernel
  capk := by decide +kernel
  bind := fun fd xs h1 h2 h3 hl => by
    obtain ⟨a, rfl⟩ := one_of hl
    unfold bindArgs
    rw [h1, h2, h3]
    rfl
  ts := ts_ISNONTERMINAL hf hg hc

theorem ok_ISEOF (hf : g.fns = fnsL) (hg : g.glos = glosL) (hc : g.clos = closL) : BodyOk g ⟨1, 1, bISEOF⟩ scbISEOF (fs 17) (fa 17) (fb 17) [] where
  kind := by rfl
  gen := by rfl
  co := by rfl
  kinds := fun _ => rfl
  len := by rfl
  nd := by decide +kernel
  np := by decide
  cap := by rfl
  loc := by decide +kernel
  capk := by decide +kernel
  bind := fun fd xs h1 h2 h3 hl => by
    obtain ⟨a, rfl⟩ := one_of hl
    unfold bindArgs
    rw [h1, h2, h3]
    rfl
  ts := ts_ISEOF hf hg hc

theorem ok_law_number (hf : g.fns = fnsL) (hg : g.glos = glosL) (hc : g.clos = closL) : BodyOk g ⟨1, 3, blaw_number⟩ scblaw_number (fs 19) (fa 19) (fb 19) [] where
  kind := by rfl
  gen := by rfl
  co := by rfl
  kinds := fun _ => rfl
  len := by rfl
  nd := by decide +kernel
  np := by decide
  cap := by rfl
  loc := by decide +kernel
  capk := by decide +kernel
  bind := fun fd xs h1 h2 h3 hl => by
    obtain ⟨a, rfl⟩ := one_of hl
    unfold bindArgs
    rw [h1, h2, h3]
    rfl
  ts := ts_law_number hf hg hc

theorem ok_law_signs (hf : g.fns = fnsL) (hg : g.glos = glosL) (hc : g.clos = closL) : BodyOk g ⟨1, 5, blaw_signs⟩ scblaw_signs (fs 20) (fa 20) (fb 20) [] where
  kind := by rfl
  gen := by rfl
  co := by rfl
  kinds := fun _ => rfl
  len := by rfl
  nd := by decide +kernel
  np := by decide
  cap := by rfl
  loc := by decide +kernel
  capk := by decide +kernel
  bind := fun fd xs h1 h2 h3 hl => by
    obtain ⟨a, rfl⟩ := one_of hl
    unfold bindArgs
    rw [h1, h2, h3]
    rfl
  ts := ts_law_signs hf hg hc

theorem ok_law (hf : g.fns = fnsL) (hg : g.glos = glosL) (hc : g.clos = closL) : BodyOk g ⟨1, 35, blaw⟩ scblaw (fs 21) (fa 21) (fb 21) [] where
  kind := by rfl
  gen := by rfl
  co := by rfl
  kinds := fun _ => rfl
  len := by rfl
  nd := by decide +kernel
  np := by decide
  cap := by rfl
  loc := by decide +kernel
  capk := by decide +kernel
  bind := fun fd xs h1 h2 h3 hl => by
    obtain ⟨a, rfl⟩ := one_of hl
    unfold bindArgs
    rw [h1, h2, h3]
    rfl
  ts := ts_law hf hg hc

end Mine
end
section
set_option maxRecDepth 100000
namespace Mine
open PySem PySem.W PyProof.Rows

theorem recs_view : recsOf vw = [rc "_div2n1n" 2, rc "_div3n2n" 3, rc "_int2digits" 4, rc "_digits2int" 5, rc "_divmod_pos" 6, rc "int_divmod" 7, rc "rgb_to_hls" 9, rc "rgb_to_hsv" 10, rc "hsv_to_rgb" 11, rc "ISTERMINAL" 15, rc "ISNONTERMINAL" 16, rc "ISEOF" 17, rc "_law_number" 19, rc "_law_signs" 20, rc "law" 21] := by kernel_rfl

noncomputable abbrev gx (w : World) (s₁ : Shared) (mg mb : Str → Option Value) : Gx := ⟨PySem.Challenge.rw_rs0122_01.row.prog, w, ghostOf s₁.heap tabs2, mg, mb, tabsL, fnsL, glosL, closL⟩

theorem CodeRec.ghost {h : Heap} {tabs : List (Addr × Addr)} (hT : TabsAt tabs h) {cv : Value} {q : Str} (x : h.CodeRec cv q) : (ghostOf h tabs).CodeRec cv q := by
  obtain ⟨c, o, vs, t, e, g1, g2, g3⟩ := x
  refine ⟨c, o, vs, t, e, ghost_get hT g1 fun q => ?_, g2, g3⟩
  rw [q] at g2
  cases g2
  cases g3

section
variable {w : World} {s₁ : Shared} {mg mb : Str → Option Value} {loose : List Str} {mean : ExcName → Option Value}

theorem fnAt_code {h : Heap} {mg : Str → Option Value} {x : Str} {c a : Addr} {o : Obj} {fd : FuncData} (F : FnAt h x c) (G : h.Ns mainGlobals mg) (hm : mg x = some (.ref a)) (ho : h.get? a = some o) (hd : o.data = .func fd) : fd.code = .ref c := by
  obtain ⟨om, es, ep, a', o', fd', f1, f2, f3, f4, f5, f6⟩ := F
  obtain ⟨o2, es2, ep2, e1, e2, e3, e4⟩ := G
  rw [f1] at e1
  cases e1
  rw [f2] at e2
  cases e2
  rw [e4, hm] at f3
  cases f3
  rw [ho] at f4
  cases f4
  rw [hd] at f5
  cases f5
  exact f6

theorem fn_at (T : Top vw loose mean mg mb s₁.heap) (hT : TabsAt tabs2 s₁.heap) {x : Str} {k : Nat} (hm : rc x k ∈ recsOf vw) :
    ∃ a o pm code doc, mg x = some (.ref a) ∧ s₁.heap.get? a = some o ∧ (ghostOf s₁.heap tabs2).get? a = some o ∧ o.data = .func (Calls.docDef x (fa k) (fb k) (fs k) pm code doc) ∧ (ghostOf s₁.heap tabs2).CodeRec code x := by
  obtain ⟨a, o, pm, code, doc, h1, h2, h3, h4⟩ := T.fn _ hm
  refine ⟨a, o, pm, code, doc, h1, h2, ghost_get hT h2 fun q => ?_, h3, CodeRec.ghost hT h4⟩
  rw [q] at h3
  cases h3

theorem fn_ok (T : Top vw loose mean mg mb s₁.heap) (hT : TabsAt tabs2 s₁.heap) {x : Str} {k : Nat} {fn : Fn} (sc : Sc) (hm : rc x k ∈ recsOf vw) (hc : sc.code = none) (B : BodyOk (gx w s₁ mg mb) fn sc (fs k) (fa k) (fb k) []) :
    ∃ a o fd sc body, (gx w s₁ mg mb).mg x = some (.ref a) ∧ (gx w s₁ mg mb).hg.get? a = some o ∧ o.data = .func fd ∧ fd.body = .stmts body ∧ fd.closure = [] ∧ fd.globals = mainGlobals ∧ fd.builtins = builtinsNs ∧
    fd.defaults = .none ∧ fd.kwdefaults = .none ∧ (gx w s₁ mg mb).hg.CodeRec fd.code fd.qualname ∧ (∀ c q, sc.code = some (c, q) → fd.code = .ref c ∧ fd.qualname ++ ".<locals>." = q) ∧ BodyOk (gx w s₁ mg mb) fn sc fd.scope fd.params body [] := by
  obtain ⟨a, o, pm, code, doc, h1, h2, h3, h4, h5⟩ := fn_at T hT hm
  exact ⟨a, o, _, sc, fb k, h1, h3, h4, rfl, rfl, rfl, rfl, rfl, rfl, h5, fun c q e => (by rw [hc] at e; cases e), B⟩
theorem fn_okC (T : Top vw loose mean mg mb s₁.heap) (hT : TabsAt tabs2 s₁.heap) {x : Str} {k : Nat} {fn : Fn} (sc : Sc) {c : Addr} (KX : FnAt s₁.heap x c) (hm : rc x k ∈ recsOf vw) (hc : sc.code = some (c, x ++ ".<locals>."))
    (B : BodyOk (gx w s₁ mg mb) fn sc (fs k) (fa k) (fb k) []) :
    ∃ a o fd sc body, (gx w s₁ mg mb).mg x = some (.ref a) ∧ (gx w s₁ mg mb).hg.get? a = some o ∧ o.data = .func fd ∧ fd.body = .stmts body ∧ fd.closure = [] ∧ fd.globals = mainGlobals ∧ fd.builtins = builtinsNs ∧
    fd.defaults = .none ∧ fd.kwdefaults = .none ∧ (gx w s₁ mg mb).hg.CodeRec fd.code fd.qualname ∧ (∀ c q, sc.code = some (c, q) → fd.code = .ref c ∧ fd.qualname ++ ".<locals>." = q) ∧ BodyOk (gx w s₁ mg mb) fn sc fd.scope fd.params body [] := by
  obtain ⟨a, o, pm, code, doc, h1, h2, h3, h4, h5⟩ := fn_at T hT hm
  have hcode := fnAt_code KX T.g h1 h2 h4
  exact ⟨a, o, _, sc, fb k, h1, h3, h4, rfl, rfl, rfl, rfl, rfl, rfl, h5, fun c' q e => (by rw [hc] at e; cases e; exact ⟨hcode, rfl⟩), B⟩

theorem fns_ok (T : Top vw loose mean mg mb s₁.heap) (hT : TabsAt tabs2 s₁.heap) (KX : HeadOk s₁.heap) : FnsOk (gx w s₁ mg mb) prog where
  f := fun f x fn h1 h2 => by
    have hd0 : CodeHd (gx w s₁ mg mb).hg 34 30 := by have := ghost_code hT; exact this.2.1
    have hd1 : CodeHd (gx w s₁ mg mb).hg 41 37 := by have := ghost_code hT; exact this.1
    match f, h1, h2 with
    | 0, h1, h2 => cases h1; cases h2; exact fn_ok T hT scbdiv2n1n (by rw [recs_view]; exact List.mem_of_getElem? (i := 0) rfl) rfl (ok_div2n1n rfl rfl rfl)
    | 1, h1, h2 => cases h1; cases h2; exact fn_okC T hT scbint2digits KX.f0 (by rw [recs_view]; exact List.mem_of_getElem? (i := 2) rfl) rfl (ok_int2digits rfl rfl rfl hd0 rfl)
    | 2, h1, h2 => cases h1; cases h2; exact fn_okC T hT scbdigits2int KX.f1 (by rw [recs_view]; exact List.mem_of_getElem? (i := 3) rfl) rfl (ok_digits2int rfl rfl rfl hd1 rfl)
    | 3, h1, h2 => cases h1; cases h2; exact fn_ok T hT scbdivmod_pos (by rw [recs_view]; exact List.mem_of_getElem? (i := 4) rfl) rfl (ok_divmod_pos rfl rfl rfl)
    | 4, h1, h2 => cases h1; cases h2; exact fn_ok T hT scbint_divmod (by rw [recs_view]; exact List.mem_of_getElem? (i := 5) rfl) rfl (ok_int_divmod rfl rfl rfl)
    | 5, h1, h2 => cases h1; cases h2; exact fn_ok T hT scbrgb_to_hls (by rw [recs_view]; exact List.mem_of_getElem? (i := 6) rfl) rfl (ok_rgb_to_hls rfl rfl rfl)
    | 6, h1, h2 => cases h1; cases h2; exact fn_ok T hT scbrgb_to_hsv (by rw [recs_view]; exact List.mem_of_getElem? (i := 7) rfl) rfl (ok_rgb_to_hsv rfl rfl rfl)
    | 7, h1, h2 => cases h1; cases h2; exact fn_ok T hT scbhsv_to_rgb (by rw [recs_view]; exact List.mem_of_getElem? (i := 8) rfl) rfl (ok_hsv_to_rgb rfl rfl rfl)
    | 8, h1, h2 => cases h1; cases h2; exact fn_ok T hT scbISTERMINAL (by rw [recs_view]; exact List.mem_of_getElem? (i := 9) rfl) rfl (ok_ISTERMINAL rfl rfl rfl)
    | 9, h1, h2 => cases h1; cases h2; exact fn_ok T hT scbISNONTERMINAL (by rw [recs_view]; exact List.mem_of_getElem? (i := 10) rfl) rfl (ok_ISNONTERMINAL rfl rfl rfl)
    | 10, h1, h2 => cases h1; cases h2; exact fn_ok T hT scbISEOF (by rw [recs_view]; exact List.mem_of_getElem? (i := 11) rfl) rfl (ok_ISEOF rfl rfl rfl)
    | 11, h1, h2 => cases h1; cases h2; exact fn_ok T hT scblaw_number (by rw [recs_view]; exact List.mem_of_getElem? (i := 12) rfl) rfl (ok_law_number rfl rfl rfl)
    | 12, h1, h2 => cases h1; cases h2; exact fn_ok T hT scblaw_signs (by rw [recs_view]; exact List.mem_of_getElem? (i := 13) rfl) rfl (ok_law_signs rfl rfl rfl)
    | 13, h1, h2 => cases h1; cases h2; exact fn_ok T hT scblaw (by rw [recs_view]; exact List.mem_of_getElem? (i := 14) rfl) rfl (ok_law rfl rfl rfl)
    | _ + 14, h1, h2 => simp [prog] at h2
  c := fun k ci fn h1 h2 => by
    match k, h1, h2 with
    | 0, h1, h2 => cases h1; cases h2; exact ⟨ok_iint2digits rfl rfl rfl, by decide +kernel, rfl⟩
    | 1, h1, h2 => cases h1; cases h2; exact ⟨ok_idigits2int rfl rfl rfl, by decide +kernel, rfl⟩
    | _ + 2, h1, h2 => simp [prog] at h2

theorem glo_at (T : Top vw loose mean mg mb s₁.heap) {x : Str} {i : Int} (h : valOf vw x = some (.int i)) : ∃ t, mg x = some (.int i t) := by
  obtain ⟨v, e1, e2⟩ := T.const _ _ h
  cases e2 default with
  | int _ t => exact ⟨t, e1⟩

theorem free_at (T : Top vw (looseW vw []) mean mg mb s₁.heap) {x : Str} (h : (!startupNames.contains x && !(looseW vw []).contains x && !((recsOf vw).map (·.name)).contains x && !((litsOf vw).map (·.1)).contains x && !((clssOf vw (looseW vw [])).map (·.name)).contains x) = true) : mg x = none := by
  simp only [Bool.and_eq_true, Bool.not_eq_true', List.contains_eq_mem, decide_eq_false_iff_not] at h
  exact T.free x h.1.1.1.1 h.1.1.1.2 h.1.1.2 h.1.2 h.2

theorem seer_ghost (hT : TabsAt tabs2 s₁.heap) (N : s₁.heap.NoSeer) : (ghostOf s₁.heap tabs2).NoSeer where
  statics := let ⟨mc, a, b⟩ := N.statics; ⟨mc, ghost_ns hT a, b⟩
  mods := let ⟨mc, a, b⟩ := N.mods; ⟨mc, ghost_ns hT a, b⟩
  imp := let ⟨mc, a, b⟩ := N.imp; ⟨mc, ghost_ns hT a, b⟩
  main := let ⟨mg, bm, ob, a, b, c, d, e⟩ := N.main; ⟨mg, bm, ob, ghost_ns hT a, b, ghost_get hT c (fun q => by rw [q] at d; cases d), d, e⟩

theorem booked_of (X : NbAt s₁.heap) (hT : TabsAt tabs2 s₁.heap) (N : s₁.heap.NoLimit) : NoneBooked (ghostOf s₁.heap tabs2) := by
  obtain ⟨mc, hns, _⟩ := N
  refine ⟨mc, ghost_ns hT hns, ?_⟩
  obtain ⟨o, es, ep, e1, e2, e3, e4⟩ := hns
  obtain ⟨o', es', ep', f1, f2, f3⟩ := X
  rw [e1] at f1
  cases f1
  rw [e2] at f2
  cases f2
  rw [← e4]
  exact f3

theorem g_ok (T : Top vw (looseW vw []) mean mg mb s₁.heap) (hT : TabsAt tabs2 s₁.heap) (KX : HeadOk s₁.heap) : GOk (gx w s₁ mg mb) prog where
  nolimit := let ⟨mc, a, r⟩ := T.nolimit; ⟨mc, ghost_ns hT a, r⟩
  booked := booked_of KX.nb hT T.nolimit
  gl := ghost_ns hT T.g
  bl := ghost_ns hT T.b
  seer := seer_ghost hT (T.seer (by kernel_rfl))
  tree := by rfl
  nt := fun b o e q hq h => by
    have hn : ∀ P, P ∈ tabs2.map (·.2) → (ghostOf s₁.heap tabs2).get? P = none := fun P hP => hideAll_none _ hP
    have e' : (ghostOf s₁.heap tabs2).get? b = some o := e
    rw [h] at e'
    have : q.P ∈ tabs2.map (·.2) := by
      have hq' : q ∈ tabsL := hq
      unfold tabsL at hq'
      rcases List.mem_cons.mp hq' with rfl | hq'
      · decide
      · rcases List.mem_cons.mp hq' with rfl | hq'
        · decide
        · cases hq'
    rw [hn _ this] at e'
    cases e'
  bi := fun b => by
    have h2 : bname b ≠ "__name__" := by cases b <;> decide +kernel
    refine ⟨free_at T (by cases b <;> kernel_rfl), ?_⟩
    show mb _ = _
    rw [T.builtins _ h2]
    cases b <;> kernel_rfl
  boolT := ⟨free_at T (by kernel_rfl), by show mb _ = _; rw [T.builtins _ (by decide +kernel)]; kernel_rfl⟩
  revT := ⟨free_at T (by kernel_rfl), by show mb _ = _; rw [T.builtins _ (by decide +kernel)]; kernel_rfl⟩
  bmain := let ⟨bm, ob, a1, a2, a3, a4, r⟩ := T.bmain; ⟨bm, ob, a1, a2, ghost_get hT a3 (fun q => by rw [q] at a4; cases a4), a4, r⟩
  fnv := fun f x h => by
    obtain ⟨fn, hfn⟩ : ∃ fn, prog.fns[f]? = some fn := by
      have hlt : f < fnsL.length := (List.getElem?_eq_some_iff.mp (show fnsL[f]? = some x from h)).1
      exact ⟨prog.fns[f]'hlt, List.getElem?_eq_getElem (show f < prog.fns.length from hlt)⟩
    obtain ⟨a, o, fd, _, _, k1, k2, k3, _⟩ := (fns_ok (w := w) T hT KX).f f x fn h hfn
    exact ⟨a, o, fd, k1, k2, k3⟩
  glo := fun j x i h1 h2 => by
    match j, h1, h2 with
    | 0, h1, h2 => cases h1; cases h2; exact glo_at T (by kernel_rfl)
    | 1, h1, h2 => cases h1; cases h2; exact glo_at T (by kernel_rfl)
    | 2, h1, h2 => cases h1; cases h2; exact glo_at T (by kernel_rfl)
    | _ + 3, h1, h2 => simp [prog] at h2
end
end Mine
end
section
namespace Mine
open PySem PySem.W PyProof.Rows

section
variable {prog : Program} {w : World} {A : Around} {s : Shared}
/-- a call of one argument, a local: the frame's own store has drawn a token -/
theorem call_entry_one {R : Result → Shared → Prop} {a : Addr} {o : Obj} {fd : FuncData} {body : List Stmt} {n : Str} {v : Value}
    (hroom : A.depth < recursionLimit) (ho : s.heap.get? a = some o) (hdata : o.data = .func fd) (hlim : s.heap.NoLimit) (hcd : s.heap.CodeRec fd.code fd.qualname)
    (hbody : fd.body = .stmts body) (hbind : bindArgs fd ⟨[v], []⟩ = pure [(n, v)]) (hclo : fd.closure = []) (hl : fd.scope.names.lookup n = some .local)
    (hco : fd.scope.isCoroutine = false) (hgen : fd.scope.isGenerator = false) (hk : fd.scope.kind = .function)
    (h : ∀ env s₁, env.scope = fd.scope → env.globals = fd.globals → env.builtins = fd.builtins → env.code = fd.code → env.qual = fd.qualname ++ ".<locals>." → Entry { s with toks := s.toks + 1 } s₁ env [] [(n, v)] →
      wpAny (model prog w) (A.deeper env) (execs body env) (fun f s' => R (.ok (.ret (match f with | .ret v => v | _ => .none))) s') noE s₁) :
    codeAny (model prog w) A (.call (.ref a) ⟨[v], []⟩) R s := by
  refine codeAny_call_function hroom ho hdata hco hgen hbody hcd ?_
  rw [hbind, hclo]
  have hcl : ∀ n, fd.scope.names.lookup n = some .cell → ∃ c, (cellsFrom (s.heap.objs.size + 1) fd.scope.names []).lookup n = some c := fun n e => cellsFrom_has _ _ _ _ (.inl (mem_of_lookup e))
  refine wpAny_pure ?_
  simp only [newFunctionEnv, Option.isSome_none, Bool.false_eq_true, if_false]
  refine wpAny_bind (wpAny_alloc ?_)
  refine wpAny_bind (wpAny_layCells _ (fun name kind cells => by cases hkc : kind == NameKind.cell <;> simp [hkc]) _ _ _ _ ?_)
  have ok := cellsFrom_ok fd.scope.names (s.heap.push { cls := .type "frame", data := .dict #[] }) (s.heap.objs.size + 1) [] ⟨fun _ _ hm => (nomatch hm), List.Pairwise.nil⟩ (by rw [Heap.size_push]; exact Nat.le_refl _)
  rw [Heap.size_push] at ok
  rw [show ({ s with heap := s.heap.push { cls := .type "frame", data := .dict #[] } } : Shared).heap.objs.size = s.heap.objs.size + 1 from Heap.size_push ..]
  have kp : ∀ b o, s.heap.get? b = some o → (pushCells (s.heap.push { cls := .type "frame", data := .dict #[] }) fd.scope.names).get? b = some o := fun b o e => pushCells_keeps _ _ b o (Heap.get?_push_of_some _ e)
  have ns0 : (pushCells (s.heap.push { cls := .type "frame", data := .dict #[] }) fd.scope.names).Ns s.heap.objs.size (fun _ => none) := (Heap.Ns.new s.heap (.type "frame")).keeps (pushCells_keeps _ _)
  rw [List.forIn_cons]
  refine wpAny_bind (wpAny_bind (wpAny_bind (wpAny_storeName_local (name := n) hl ns0 (fun h' hn hs => wpAny_pure ?_) (by show (fd.scope.kind == .class || (fd.scope.kind == .module && _)) = false; rw [hk]; rfl))))
  dsimp only
  rw [List.forIn_nil]
  refine wpAny_pure (wpAny_pure ?_)
  have kp2 : ∀ b o, s.heap.get? b = some o → h'.get? b = some o := fun b o e => hs.extBut b o (Nat.ne_of_lt (Heap.lt_size e)) (kp b o e)
  refine ⟨hlim.keeps kp2, codeAny_func (wpAny_mono (h _ _ rfl rfl rfl rfl rfl ?_) (fun _ _ q => q) fun _ _ q => q.elim)⟩
  exact {
    keep := kp2
    gens := rfl
    os := rfl
    tok := Nat.le_refl _
    dead := dead_size s.heap
    ns := ⟨_, hn, fun x v' hm _ => by
      rcases List.mem_cons.mp hm with e | hm
      · cases e; exact if_pos rfl
      · cases hm⟩
    cell := fun m c e1 e2 => by
      obtain ⟨q1, q2⟩ := ok.empty m c (mem_of_lookup e2)
      have e1' : fd.scope.names.lookup m = some .cell := e1
      refine ⟨Heap.get?_none_of_le (Nat.le_of_lt q2), none, q1.sameBut hs (Nat.ne_of_gt q2), fun v' hm => ?_⟩
      rcases List.mem_cons.mp hm with e | hm
      · cases e
        rw [hl] at e1'; cases e1'
      · cases hm
    has := fun m e => hcl m e
    cinj := fun y z c e1 e2 e3 => name_of_addr ok.apart (mem_of_lookup e3) (mem_of_lookup e2)
    free := fun m c e1 e2 => by cases e2 }
end

theorem ints_VRs {h : Heap} {F : Addr → Prop} {vs : List Value} {ns : List Int} (x : IntsAre vs ns) : VRs h F (ns.map V.int) vs := by
  induction x with
  | nil => exact VRs.nil
  | cons n t _ ih => exact VRs.cons ⟨t, rfl⟩ ih

theorem callerDeep {g : Gx} {p : Prog} (G : GOk g p) {n : Nat} (hn : n ≤ 400) {env : Env} (hg : env.scope.isGenerator = false) (hc : env.scope.isCoroutine = false) (hb : env.builtins = builtinsNs) (hgl : env.globals = mainGlobals) : AOk g n (callerA.deeper env) where
  hd := rfl
  dp := by show 1 + 300 + 1 + n + 150 < 1000; omega
  un := by show 4 + 3 + 4 * n + 200 < 9900; omega
  fr := ⟨[env], rfl⟩
  pr := fun s hs => PylongRoom.of (G.nolimit.keeps hs) (by show 1 + 300 + 1 + 100 < 1000; decide) (SeerAt.of (M := model g.prog g.w) (G.seer.keeps hs) G.tree (Around.frames_deeper (A := callerA) (outer := []) rfl) hg hc hb hgl)

theorem callF_ret {p : Prog} {n f : Nat} {fn : Fn} {vs : List V} (hfn : p.fns[f]? = some fn) (hv : callF p (n + 1) f vs = some (.bool true)) : ∃ st', seq (ex p n) (initSt fn vs []) fn.body = some (.ret (.bool true), st') := by
  simp only [callF, Option.bind_eq_some_iff] at hv
  obtain ⟨fn', h1, hv⟩ := hv
  rw [hfn] at h1
  cases h1
  split at hv
  · split at hv
    · rename_i v st' hs
      cases hv
      exact ⟨st', hs⟩
    · cases hv
    · cases hv
  · cases hv

/-- the law's call from the caller's own level -/
theorem law_call {w : World} {s₁ : Shared} {mg mb : Str → Option Value} {mean : ExcName → Option Value} (T : Top vw (looseW vw []) mean mg mb s₁.heap) (hT : TabsAt tabs2 s₁.heap) (KX : HeadOk s₁.heap) {f : Addr} (hmg : mg "law" = some (.ref f))
    {l : Addr} {its : List Value} {ns : List Int} (hL : s₁.heap.IsList l its.toArray) (hI : IntsAre its ns) {n : Nat} (hn : n ≤ 400) (hv : callF prog (n + 1) 13 [.lst (ns.map V.int)] = some (.bool true)) {R : Result → Shared → Prop}
    (fin : ∀ s', (∀ b o, NT tabsL b → s₁.heap.get? b = some o → s'.heap.get? b = some o) → TI tabsL s'.heap → s'.os = s₁.os → s'.gens = s₁.gens → R (.ok (.ret (.bool true))) s') :
    codeAny (model PySem.Challenge.rw_rs0122_01.row.prog w) callerA (.call (.ref f) ⟨[.ref l], []⟩) R s₁ := by
  have G : GOk (gx w s₁ mg mb) prog := g_ok T hT KX
  have K : FnsOk (gx w s₁ mg mb) prog := fns_ok T hT KX
  have ih := all_sound G K n
  obtain ⟨a', o, pm, code, doc, k1, k2, k3, k4, k5⟩ := fn_at T hT (x := "law") (k := 21) (by rw [recs_view]; exact List.mem_of_getElem? (i := 14) rfl)
  rw [hmg] at k1; cases k1
  have B : BodyOk (gx w s₁ mg mb) ⟨1, 35, blaw⟩ scblaw (fs 21) (fa 21) (fb 21) [] := ok_law rfl rfl rfl
  have base : ∀ b o, (ghostOf s₁.heap tabs2).get? b = some o → s₁.heap.get? b = some o := fun b o e => of_hideAll _ e
  have hti : TI tabsL s₁.heap := fun q hq => by
    unfold tabsL at hq
    rcases List.mem_cons.mp hq with rfl | hq
    · exact .inl (hT (34, 30) (.tail _ (.head _))).2
    · rcases List.mem_cons.mp hq with rfl | hq
      · exact .inl (hT (41, 37) (.head _)).2
      · cases hq
  have hln : NT tabsL l := by
    obtain ⟨o, e1, e2, n, e3⟩ := id hL
    exact hti.notP e1 fun vs q => by rw [e3] at q; cases q
  have S : SOk (gx w s₁ mg mb) (fun b => b = l) { s₁ with toks := s₁.toks + 1 } := ⟨base, hti, Nat.le_add_left _ _, fun a e => e ▸ hln, fun a e => (by obtain ⟨o, e1, _⟩ := id hL; exact ⟨o, e ▸ e1⟩)⟩
  have hvr : VRs s₁.heap (fun b => b = l) [.lst (ns.map V.int)] [.ref l] := VRs.cons (by unfold VR; exact ⟨l, its.toArray, rfl, rfl, hL, by simpa using ints_VRs hI⟩) VRs.nil
  have hbind : bindArgs (Calls.docDef "law" (fa 21) (fb 21) (fs 21) pm code doc) ⟨[Value.ref l], []⟩ = pure [(("script" : Str), Value.ref l)] := B.bind _ [.ref l] rfl rfl rfl rfl
  refine call_entry_one (fd := Calls.docDef "law" (fa 21) (fb 21) (fs 21) pm code doc) (body := fb 21) (n := "script") (by show 1 + 300 < 1000; decide) k2 k4 T.nolimit (k5.keeps base) rfl hbind rfl (show (fs 21).names.lookup ("script" : Str) = some NameKind.local by decide +kernel) B.co B.gen B.kind fun env s1 e1 e2 e3 e4 e5 E => ?_
  have hAd : AOk (gx w s₁ mg mb) n (callerA.deeper env) := callerDeep G hn (by rw [e1]; exact B.gen) (by rw [e1]; exact B.co) e3 e2
  have I := enter_inv (P := fun b => NT tabsL b ∧ ∃ o, s₁.heap.get? b = some o) (cs := []) B S E e1 e2 e3 (fun c q h => by cases h) (fun a h => h) (fun b o e => ⟨G.nt b o e, o, base b o e⟩) hvr rfl rfl (fun j y l h _ => by simp at h)
  obtain ⟨st', hs⟩ := callF_ret (show prog.fns[13]? = some ⟨1, 35, blaw⟩ from rfl) hv
  refine wpAny_mono (seq_sound G ih hAd I B.ts hs) (fun f s2 r2 => ?_) fun _ _ q => q
  obtain ⟨F2, x2, I2, y, rfl, r3⟩ := r2
  obtain rfl : y = .bool true := r3
  exact fin s2 (fun b o hb e => x2.keepP b o ⟨hb, o, e⟩ (E.keep b o e)) I2.ti (x2.os.trans E.os) (x2.gens.trans E.gens)
end Mine
end
section
namespace Mine
open PySem

/-- the evaluator's seven functions at one fuel -/
structure R where
  ev : St → Ex → Option V
  evL : St → Ex → Option V
  evO : St → Option Ex → Option (Option Int)
  evT : St → Ex → Option Bool
  callF : Nat → List V → Option V
  callC : Nat → List V → List Loc → Option (V × List Loc)
  ex : St → Sm → Option (Fl × St)

section
variable (p : Prog) (r : R)
noncomputable def fGlo (g : Nat) : Option V := (p.glos[g]?).map V.int
noncomputable def fBin (st : St) (o : Bop) (a b : Ex) : Option V := (r.evL st a).bind fun a => (r.evL st b).bind fun b => bin o a b
noncomputable def fNeg (st : St) (e : Ex) : Option V := match r.ev st e with | some (.int i) => some (.int (-i)) | _ => none
noncomputable def fInv (st : St) (e : Ex) : Option V := match r.ev st e with | some (.int i) => some (.int (Builtin.bitNot i)) | _ => none
noncomputable def fNot (st : St) (e : Ex) : Option V := ((r.ev st e).bind truth).map fun b => .bool (!b)
noncomputable def fAnd (st : St) (a b : Ex) : Option V := match r.ev st a with
  | some (.bool true) => r.ev st b
  | some (.bool false) => some (.bool false)
  | _ => none
noncomputable def fOr (st : St) (a b : Ex) : Option V := match r.ev st a with
  | some (.bool true) => some (.bool true)
  | some (.bool false) => r.ev st b
  | _ => none
noncomputable def fCmp (st : St) (o : Cop) (a b : Ex) : Option V := (r.evL st a).bind fun a => (r.evL st b).bind fun b => (cmp o a b).map V.bool
noncomputable def fIte (st : St) (t a b : Ex) : Option V := (r.evT st t).bind fun c => if c then r.ev st a else r.ev st b
noncomputable def fLst (st : St) (es : List Ex) : Option V := if es.length ≤ 1000 then (mapO (r.ev st) es).map V.lst else none
noncomputable def fTup (st : St) (es : List Ex) : Option V := if es.length ≤ 1000 then (mapO (r.ev st) es).map V.tup else none
noncomputable def fRep (st : St) (es : List Ex) (k : Ex) : Option V := (mapO (r.ev st) es).bind fun vs => match r.ev st k with
  | some (.int i) => if small i && decide (es.length * i.toNat ≤ 1000) && decide (es.length ≤ 1000) then some (.lst (List.replicate i.toNat vs).flatten) else none
  | _ => none
noncomputable def fIdx (st : St) (e i : Ex) : Option V := (r.evL st e).bind fun a => match a, r.ev st i with
  | .lst vs, some (.int k) => if small k then idx vs k else none
  | .tup vs, some (.int k) => if small k then idx vs k else none
  | _, _ => none
noncomputable def fSlc (st : St) (e : Ex) (lo hi : Option Ex) : Option V := (r.evL st e).bind fun a => match a, r.evO st lo, r.evO st hi with
  | .lst vs, some l, some h => if vs.length ≤ 1000 then some (.lst (slc vs l h)) else none
  | _, _, _ => none
noncomputable def fComp (st : St) (elt : Ex) (cond : Option Ex) (iter : Ex) (cap : List Nat) : Option V := (r.evL st iter).bind fun a => (items a).bind fun vs => (caps st cap).bind fun cs =>
  if vs.length ≤ 1000 && cs.all isVal then (compL (fun v => (match cond with | some c => r.evT (Loc.val v :: cs) c | none => some true)) (fun v => r.ev (Loc.val v :: cs) elt) vs).map V.lst else none
noncomputable def fBi (st : St) (b : Bi) (args : List Ex) : Option V := (mapO (r.evL st) args).bind fun vs => builtin b vs
noncomputable def fCall (st : St) (f : Nat) (args : List Ex) : Option V := (mapO (r.ev st) args).bind fun vs => r.callF f vs
noncomputable def fCallc (st : St) (x k : Nat) (args : List Ex) (src : List Nat) : Option V := if isClo st x k then (mapO (r.ev st) args).bind fun vs => (caps st src).bind fun cs => if cs.all frozenLoc then (r.callC k vs cs).map (·.1) else none else none
noncomputable def fBitlen (st : St) (e : Ex) : Option V := match r.ev st e with | some (.int i) => some (.int (Builtin.Int.intBits i)) | _ => none

noncomputable def sEv (st : St) : Ex → Option V
  | .int i => some (.int i)
  | .flt u => some (.flt u)
  | .bool b => some (.bool b)
  | .var x => getV st x
  | .glo g => fGlo p g
  | .bin o a b => fBin r st o a b
  | .neg e => fNeg r st e
  | .inv e => fInv r st e
  | .not e => fNot r st e
  | .and a b => fAnd r st a b
  | .or a b => fOr r st a b
  | .cmp o a b => fCmp r st o a b
  | .ite t a b => fIte r st t a b
  | .lst es => fLst r st es
  | .tup es => fTup r st es
  | .rep es k => fRep r st es k
  | .idx e i => fIdx r st e i
  | .slc e lo hi => fSlc r st e lo hi
  | .comp elt cond iter cap => fComp r st elt cond iter cap
  | .bi b args => fBi r st b args
  | .call f args => fCall r st f args
  | .callc x k args src => fCallc r st x k args src
  | .bitlen e => fBitlen r st e
noncomputable def sEvL (st : St) : Ex → Option V
  | .var x => getL st x
  | e => r.ev st e
noncomputable def sEvO (st : St) : Option Ex → Option (Option Int)
  | none => some none
  | some e => match r.ev st e with | some (.int i) => if small i then some (some i) else none | _ => none
noncomputable def sTnot (st : St) (e : Ex) : Option Bool := (r.evT st e).map (!·)
noncomputable def sTand (st : St) (a b : Ex) : Option Bool := (r.evT st a).bind fun c => if c then r.evT st b else some false
noncomputable def sTor (st : St) (a b : Ex) : Option Bool := (r.evT st a).bind fun c => if c then some true else r.evT st b
noncomputable def sTcmp (st : St) (o : Cop) (a b : Ex) : Option Bool := (r.evL st a).bind fun a => (r.evL st b).bind fun b => cmp o a b
noncomputable def sTe (st : St) (e : Ex) : Option Bool := (r.evL st e).bind truth
noncomputable def sEvT (st : St) : Ex → Option Bool
  | .not e => sTnot r st e
  | .and a b => sTand r st a b
  | .or a b => sTor r st a b
  | .cmp o a b => sTcmp r st o a b
  | .ite _ _ _ => none
  | e => sTe r st e
noncomputable def sRun (fn : Fn) (st : St) : Option V := match seq r.ex st fn.body with
  | some (.ret v, _) => some v
  | some (.nx, _) => some .none
  | none => none
noncomputable def sCallF (f : Nat) (vs : List V) : Option V := (p.fns[f]?).bind fun fn => if vs.length == fn.np && decide (fn.np ≤ fn.nv) then sRun r fn (initSt fn vs []) else none
noncomputable def sRunC (fn : Fn) (cs : List Loc) (st : St) : Option (V × List Loc) := match seq r.ex st fn.body with
  | some (.ret v, st) => if headOk cs (st.drop (fn.nv - cs.length)) then some (v, st.drop (fn.nv - cs.length)) else none
  | some (.nx, st) => if headOk cs (st.drop (fn.nv - cs.length)) then some (.none, st.drop (fn.nv - cs.length)) else none
  | none => none
noncomputable def sCallC (k : Nat) (vs : List V) (cs : List Loc) : Option (V × List Loc) := (p.clos[k]?).bind fun fn => if vs.length == fn.np && decide (fn.np + cs.length ≤ fn.nv) && cs.all (cloIs k) then sRunC r fn cs (initSt fn vs (cs.map lend)) else none

noncomputable def xAsg (st : St) (x : Nat) (e : Ex) : Option (Fl × St) := (r.ev st e).map fun v => (.nx, st.set x (.val v))
noncomputable def xAsgo (st : St) (x : Nat) (e : Ex) : Option (Fl × St) := if isFresh e then (match r.ev st e with | some (.lst vs) => some (.nx, st.set x (.own vs)) | _ => none) else none
noncomputable def xAsgs (st : St) (xs : List Nat) (es : List Ex) : Option (Fl × St) := if es.length ≤ 1000 then (mapO (r.ev st) es).bind fun vs => (setAll st xs.reverse vs.reverse).map fun st' => (.nx, st') else none
noncomputable def xAsgso (st : St) (xs : List Nat) : Option (Fl × St) := if xs.length ≤ 1000 then some (.nx, setNils st xs.reverse) else none
noncomputable def xUnp (st : St) (xs : List Nat) (e : Ex) : Option (Fl × St) := match r.ev st e with | some (.tup vs) => (setAll st xs vs).map fun st' => (.nx, st') | _ => none
noncomputable def xAug (st : St) (x : Nat) (o : Bop) (e : Ex) : Option (Fl × St) := (getV st x).bind fun a => (r.ev st e).bind fun b => match a, b with
  | .int _, .int _ => (bin o a b).map fun v => (.nx, st.set x (.val v))
  | _, _ => none
noncomputable def xAugi (st : St) (x : Nat) (i : Ex) (o : Bop) (e : Ex) : Option (Fl × St) := (getO st x).bind fun vs => match r.ev st i, r.ev st e with
  | some (.int k), some (.int b) => if decide (0 ≤ k) && decide (k < vs.length) && small k then
      (match vs[k.toNat]? with
      | some (.int a) => (bin o (.int a) (.int b)).map fun v => (.nx, st.set x (.own (vs.set k.toNat v)))
      | _ => none) else none
  | _, _ => none
noncomputable def xSeti (st : St) (x : Nat) (i e : Ex) : Option (Fl × St) := (getB st x).bind fun b => match r.ev st i, r.ev st e with
  | some (.int k), some v => if decide (0 ≤ k) && decide (k < b.1.length) && small k then some (.nx, st.set x (b.2 (b.1.set k.toNat v))) else none
  | _, _ => none
noncomputable def xApp (st : St) (x : Nat) (e : Ex) : Option (Fl × St) := (getO st x).bind fun vs => (r.ev st e).bind fun v => if vs.length ≤ 100000 then some (.nx, st.set x (.own (vs ++ [v]))) else none
noncomputable def xRev (st : St) (x : Nat) : Option (Fl × St) := (getO st x).bind fun vs => if vs.length ≤ 100000 then some (.nx, st.set x (.own vs.reverse)) else none
noncomputable def xFor (st : St) (x : Nat) (it : Ex) (body : List Sm) : Option (Fl × St) := (r.ev st it).bind fun a => (items a).bind fun vs => forLoop (fun st => seq r.ex st body) x st vs
noncomputable def xForr (st : St) (x : Nat) (it : Ex) (body : List Sm) : Option (Fl × St) := (r.ev st it).bind fun a => match a with
  | .lst vs => forLoop (fun st => seq r.ex st body) x st vs.reverse
  | _ => none
noncomputable def xWhile (st : St) (t : Ex) (body : List Sm) : Option (Fl × St) := whileLoop (fun st => r.evT st t) (fun st => seq r.ex st body) 100 st
noncomputable def xIte (st : St) (t : Ex) (a b : List Sm) : Option (Fl × St) := (r.evT st t).bind fun c => if c then seq r.ex st a else seq r.ex st b
noncomputable def xRet (st : St) (e : Ex) : Option (Fl × St) := (r.ev st e).map fun v => (.ret v, st)
noncomputable def xCallc (st : St) (x k : Nat) (args : List Ex) (src : List Nat) : Option (Fl × St) := if isClo st x k then (mapO (r.ev st) args).bind fun vs => (caps st src).bind fun cs => if lentOk cs then (r.callC k vs cs).bind fun r => (match r.1 with
  | .none => some (.nx, putBack st src r.2)
  | _ => none) else none else none
noncomputable def xFrz (st : St) (x : Nat) : Option (Fl × St) := match st[x]? with
  | some (.own vs) => some (.nx, st.set x (.val (.lst vs)))
  | _ => none
noncomputable def sEx (st : St) : Sm → Option (Fl × St)
  | .asg x e => xAsg r st x e
  | .asgo x e => xAsgo r st x e
  | .asgs xs es => xAsgs r st xs es
  | .asgso xs => xAsgso st xs
  | .unp xs e => xUnp r st xs e
  | .aug x o e => xAug r st x o e
  | .augi x i o e => xAugi r st x i o e
  | .seti x i e => xSeti r st x i e
  | .app x e => xApp r st x e
  | .rev x => xRev st x
  | .for_ x it body => xFor r st x it body
  | .forr x it body => xForr r st x it body
  | .while_ t body => xWhile r st t body
  | .ite t a b => xIte r st t a b
  | .ret e => xRet r st e
  | .retn => some (.ret .none, st)
  | .callc x k args src => xCallc r st x k args src
  | .defc x k => some (.nx, st.set x (.clo k))
  | .frz x => xFrz st x
  | .bad => none
end
noncomputable def stepR (p : Prog) (r : R) : R := ⟨sEv p r, sEvL r, sEvO r, sEvT r, sCallF p r, sCallC p r, sEx r⟩
noncomputable def baseR : R := ⟨fun _ _ => none, fun _ _ => none, fun _ _ => none, fun _ _ => none, fun _ _ => none, fun _ _ _ => none, fun _ _ => none⟩
noncomputable def fe (p : Prog) (n : Nat) : R := Nat.rec (motive := fun _ => R) baseR (fun _ r => stepR p r) n

theorem evL_var {p : Prog} {n : Nat} {st : St} {x : Nat} : evL p (n + 1) st (.var x) = getL st x := by rw [evL]; rfl
theorem R.ext7 {a b : R} (h1 : ∀ st e, a.ev st e = b.ev st e) (h2 : ∀ st e, a.evL st e = b.evL st e) (h3 : ∀ st e, a.evO st e = b.evO st e) (h4 : ∀ st e, a.evT st e = b.evT st e) (h5 : ∀ f vs, a.callF f vs = b.callF f vs)
    (h6 : ∀ k vs cs, a.callC k vs cs = b.callC k vs cs) (h7 : ∀ st m, a.ex st m = b.ex st m) : a = b := by
  obtain ⟨a1, a2, a3, a4, a5, a6, a7⟩ := a
  obtain ⟨b1, b2, b3, b4, b5, b6, b7⟩ := b
  simp only [R.mk.injEq]
  exact ⟨funext fun st => funext fun e => h1 st e, funext fun st => funext fun e => h2 st e, funext fun st => funext fun e => h3 st e, funext fun st => funext fun e => h4 st e, funext fun st => funext fun e => h5 st e, funext fun k => funext fun vs => funext fun cs => h6 k vs cs, funext fun st => funext fun e => h7 st e⟩
theorem fe_eq (p : Prog) : ∀ n, fe p n = ⟨ev p n, evL p n, evO p n, evT p n, callF p n, callC p n, ex p n⟩
  | 0 => by
    refine R.ext7 (fun st e => ?_) (fun st e => ?_) (fun st e => ?_) (fun st e => ?_) (fun st e => ?_) (fun k vs cs => ?_) fun st m => ?_
    · rfl
    · rfl
    · rfl
    · rfl
    · rfl
    · rfl
    · rfl
  | n + 1 => by
    have ih := fe_eq p n
    have h0 : fe p (n + 1) = stepR p (fe p n) := rfl
    rw [h0, ih]
    refine R.ext7 (fun st e => ?_) (fun st e => ?_) (fun st e => ?_) (fun st e => ?_) (fun st e => ?_) (fun k vs cs => ?_) fun st m => ?_
    · show sEv p _ st e = ev p (n + 1) st e
      cases e <;> kernel_rfl
    · show sEvL _ st e = evL p (n + 1) st e
      cases e <;> kernel_rfl
    · show sEvO _ st e = evO p (n + 1) st e
      cases e <;> kernel_rfl
    · show sEvT _ st e = evT p (n + 1) st e
      cases e <;> kernel_rfl
    · show sCallF p _ st e = callF p (n + 1) st e
      kernel_rfl
    · show sCallC p _ k vs cs = callC p (n + 1) k vs cs
      kernel_rfl
    · show sEx _ st m = ex p (n + 1) st m
      cases m <;> kernel_rfl
end Mine
end
section
namespace Mine
open PySem
noncomputable def bAdd : List Sm := [.augi 1 (.bin .mod (.var 2) (.int 7)) .add (.idx (.var 0) (.var 2))]
noncomputable def bTurn : List Sm := [.asgs [5, 6] [(.bin .div (.bin .mod (.bin .fdiv (.var 4) (.int 128)) (.int 5)) (.int 4)), (.bin .div (.bin .add (.int 1) (.bin .mod (.bin .fdiv (.var 4) (.int 640)) (.int 4))) (.int 4))], .asg 7 (.call 7 [(.bin .div (.bin .mod (.var 4) (.int 128)) (.int 64)), (.var 5), (.var 6)]), .asg 8 (.call 6 [(.idx (.var 7) (.int 0)), (.idx (.var 7) (.int 1)), (.idx (.var 7) (.int 2))]), .ite (.cmp .ne (.var 8) (.tup [(.ite (.cmp .gt (.var 5) (.int 0)) (.bin .div (.bin .mod (.var 4) (.int 64)) (.int 64)) (.flt 0)), (.var 5), (.var 6)])) [.ret (.bool false)] [], .asg 9 (.bin .div (.bin .mul (.var 6) (.bin .sub (.int 2) (.var 5))) (.int 2)), .asg 10 (.ite (.cmp .gt (.var 5) (.int 0)) (.bin .div (.bin .mul (.var 5) (.var 6)) (.bi .min [(.bin .mul (.int 2) (.var 9)), (.bin .sub (.int 2) (.bin .mul (.int 2) (.var 9)))])) (.flt 0)), .ite (.cmp .ne (.call 5 [(.idx (.var 7) (.int 0)), (.idx (.var 7) (.int 1)), (.idx (.var 7) (.int 2))]) (.tup [(.idx (.var 8) (.int 0)), (.var 9), (.var 10)])) [.ret (.bool false)] [], .app 3 (.bin .sub (.bin .mod (.bi .int [(.bin .add (.bin .mul (.idx (.var 8) (.int 0)) (.int 3)) (.flt 4602678819172646912))]) (.int 3)) (.int 1))]
noncomputable def bKind : List Sm := [.app 17 (.bin .mul (.var 18) (.bi .abs [(.idx (.bin .add (.lst [(.int 1)]) (.var 17)) (.neg (.int 1)))]))]
noncomputable def bRow : List Sm := [.asgo 17 (.lst []), .for_ 18 (.var 16) bKind, .asg 19 (.comp (.var 0) (some (.cmp .ne (.var 0) (.int 0))) (.var 17) []), .ite (.cmp .ne (.call 12 [(.call 11 [(.var 19)])]) (.var 19)) [.ret (.bool false)] [], .frz 17, .app 13 (.var 17), .asg 20 (.bi .range [(.bin .add (.bi .len [(.var 17)]) (.int 1))]), .app 14 (.comp (.call 11 [(.slc (.var 1) none (some (.var 0)))]) none (.var 20) [19]), .app 15 (.comp (.call 2 [(.call 1 [(.bi .max [(.int 0), (.bin .sub (.var 0) (.bi .len [(.var 1)]))]), (.int 1)]), (.int 2)]) none (.var 20) [19])]
noncomputable def bCut : List Sm := [.asg 31 (.bin .sub (.var 25) (.bin .mul (.bin .sub (.idx (.var 26) (.var 29)) (.var 30)) (.idx (.var 22) (.var 29)))), .ite (.and (.cmp .ge (.idx (.idx (.var 13) (.var 29)) (.var 30)) (.int 0)) (.not (.idx (.var 24) (.var 31)))) [.asg 27 (.bool true)] [], .ite (.and (.cmp .le (.idx (.idx (.var 13) (.var 29)) (.var 30)) (.int 0)) (.not (.idx (.var 23) (.var 31)))) [.asg 28 (.bool true)] []]
noncomputable def bJ : List Sm := [.for_ 30 (.bi .range [(.idx (.var 26) (.var 29))]) bCut]
noncomputable def bCode : List Sm := [.asg 26 (.lst [(.bin .fdiv (.var 25) (.idx (.var 22) (.int 0))), (.bin .mod (.bin .fdiv (.var 25) (.idx (.var 22) (.int 1))) (.idx (.var 21) (.int 1))), (.bin .mod (.var 25) (.idx (.var 21) (.int 2)))]), .unp [27, 28] (.tup [(.bool false), (.bool false)]), .for_ 29 (.bi .range [(.int 3)]) bJ, .app 23 (.var 27), .app 24 (.var 28), .asg 32 (.bin .add (.bin .add (.idx (.idx (.var 14) (.int 0)) (.idx (.var 26) (.int 0))) (.idx (.idx (.var 14) (.int 1)) (.idx (.var 26) (.int 1)))) (.idx (.idx (.var 14) (.int 2)) (.idx (.var 26) (.int 2)))), .asg 8 (.lst [(.call 8 [(.bin .add (.glo 1) (.var 32))]), (.call 10 [(.var 32)]), (.call 9 [(.bin .add (.glo 1) (.var 32))])]), .asg 33 (.lst [(.and (.var 28) (.not (.var 27))), (.cmp .eq (.var 27) (.var 28)), (.or (.var 27) (.not (.var 28)))]), .ite (.or (.cmp .ne (.var 8) (.var 33)) (.cmp .ne (.comp (.bi .isbool [(.var 0)]) none (.var 8) []) (.lst [(.bool true), (.bool true), (.bool true)]))) [.ret (.bool false)] [], .ite (.cmp .eq (.var 27) (.var 28)) [.asg 34 (.call 1 [(.bin .add (.bin .add (.idx (.idx (.var 15) (.int 0)) (.idx (.var 26) (.int 0))) (.idx (.idx (.var 15) (.int 1)) (.idx (.var 26) (.int 1)))) (.idx (.idx (.var 15) (.int 2)) (.idx (.var 26) (.int 2)))), (.int 2)]), .ite (.cmp .ne (.var 27) (.cmp .isin (.int 1) (.comp (.bin .mod (.var 0) (.int 2)) none (.var 34) []))) [.ret (.bool false)] []] []]
theorem blaw_parts : blaw = [.asgo 1 (.lst [(.int 2283), (.int 43), (.int 828), (.int 1760), (.int 267), (.int 1266), (.int 2053)]),
  .for_ 2 (.bi .range [(.bi .len [(.var 0)])]) bAdd,
  .asgo 3 (.lst []),
  .frz 1,
  .for_ 4 (.var 1) bTurn,
  .asg 11 (.bin .add (.int 1) (.bin .mod (.bi .sum [(.var 1)]) (.int 3))),
  .asg 12 (.bin .add (.int 1) (.bin .mod (.bin .fdiv (.bi .sum [(.var 1)]) (.int 3)) (.int 3))),
  .asgso [13, 14, 15],
  .for_ 16 (.lst [(.slc (.var 3) none (some (.var 11))), (.slc (.var 3) (some (.var 11)) (some (.bin .add (.var 11) (.var 12)))), (.slc (.var 3) (some (.bin .add (.var 11) (.var 12))) none)]) bRow,
  .asg 21 (.comp (.bin .add (.bi .len [(.var 0)]) (.int 1)) none (.var 13) []),
  .asg 22 (.lst [(.bin .mul (.idx (.var 21) (.int 1)) (.idx (.var 21) (.int 2))), (.idx (.var 21) (.int 2)), (.int 1)]),
  .asgso [23, 24],
  .for_ 25 (.bi .range [(.bin .mul (.idx (.var 21) (.int 0)) (.idx (.var 22) (.int 0)))]) bCode,
  .ret (.bool true)] := rfl
end Mine
end
section
namespace Mine
open PySem

/-- a comprehension's condition -/
noncomputable def cndF (p : Prog) (n : Nat) (cs : List Loc) (cond : Option Ex) (v : V) : Option Bool := match cond with
  | some c => evT p n (Loc.val v :: cs) c
  | none => some true

section
variable {p : Prog} {n : Nat} {st st' : St} {e a b i t : Ex} {es : List Ex} {u v w : V} {x k : Nat} {vs ws us : List V} {c d : Bool} {o : Bop} {q : Cop} {l : Loc}
theorem e_int {z : Int} : ev p (n + 1) st (.int z) = some (V.int z) := by simp [ev]
theorem e_flt {z : UInt64} : ev p (n + 1) st (.flt z) = some (V.flt z) := by simp [ev]
theorem e_bool : ev p (n + 1) st (.bool c) = some (V.bool c) := by simp [ev]
theorem e_var (h : getV st x = some v) : ev p (n + 1) st (Ex.var x) = some v := by simp [ev, h]
theorem e_glo {z : Int} (h : p.glos[x]? = some z) : ev p (n + 1) st (Ex.glo x) = some (V.int z) := by simp [ev, h]
theorem e_bin (h1 : evL p n st a = some u) (h2 : evL p n st b = some v) (h3 : bin o u v = some w) : ev p (n + 1) st (Ex.bin o a b) = some w := by simp [ev, h1, h2, h3]
theorem e_neg {z : Int} (h : ev p n st e = some (V.int z)) : ev p (n + 1) st (Ex.neg e) = some (V.int (-z)) := by simp [ev, h]
theorem e_not (h : ev p n st e = some (V.bool c)) : ev p (n + 1) st (Ex.not e) = some (V.bool (!c)) := by simp [ev, h, truth]
theorem e_and (h1 : ev p n st a = some (V.bool c)) (h2 : ev p n st b = some (V.bool d)) : ev p (n + 1) st (Ex.and a b) = some (V.bool (c && d)) := by cases c <;> simp [ev, h1, h2]
theorem e_or (h1 : ev p n st a = some (V.bool c)) (h2 : ev p n st b = some (V.bool d)) : ev p (n + 1) st (Ex.or a b) = some (V.bool (c || d)) := by cases c <;> simp [ev, h1, h2]
theorem e_cmp (h1 : evL p n st a = some u) (h2 : evL p n st b = some v) (h3 : cmp q u v = some c) : ev p (n + 1) st (Ex.cmp q a b) = some (V.bool c) := by simp [ev, h1, h2, h3]
theorem e_idx {z : Int} (h1 : evL p n st e = some (V.lst vs)) (h2 : ev p n st i = some (V.int z)) (h3 : small z = true) (h4 : idx vs z = some v) : ev p (n + 1) st (Ex.idx e i) = some v := by simp [ev, h1, h2, h3, h4]
theorem e_idxT {z : Int} (h1 : evL p n st e = some (V.tup vs)) (h2 : ev p n st i = some (V.int z)) (h3 : small z = true) (h4 : idx vs z = some v) : ev p (n + 1) st (Ex.idx e i) = some v := by simp [ev, h1, h2, h3, h4]
theorem e_lst (h : mapO (ev p n st) es = some vs) (hl : es.length ≤ 1000) : ev p (n + 1) st (.lst es) = some (V.lst vs) := by simp [ev, h, hl]
theorem e_tup (h : mapO (ev p n st) es = some vs) (hl : es.length ≤ 1000) : ev p (n + 1) st (.tup es) = some (V.tup vs) := by simp [ev, h, hl]
theorem e_bi {f : Bi} (h : mapO (evL p n st) es = some vs) (h2 : builtin f vs = some v) : ev p (n + 1) st (Ex.bi f es) = some v := by simp [ev, h, h2]
theorem e_call {f : Nat} (h : mapO (ev p n st) es = some vs) (h2 : callF p n f vs = some v) : ev p (n + 1) st (Ex.call f es) = some v := by simp [ev, h, h2]
theorem e_slc {lo hi : Option Ex} {y z : Option Int} (h1 : evL p n st e = some (V.lst vs)) (h2 : evO p n st lo = some y) (h3 : evO p n st hi = some z) (hl : vs.length ≤ 1000) : ev p (n + 1) st (Ex.slc e lo hi) = some (V.lst (slc vs y z)) := by simp [ev, h1, h2, h3, hl]
theorem o_none : evO p (n + 1) st none = some none := by simp [evO]
theorem o_some {z : Int} (h : ev p n st e = some (V.int z)) (hs : small z = true) : evO p (n + 1) st (some e) = some (some z) := by simp [evO, h, hs]
theorem e_comp {it : Ex} {cap : List Nat} {cs : List Loc} {cond : Option Ex} (h1 : evL p n st it = some u) (h2 : items u = some vs) (h3 : caps st cap = some cs) (hl : vs.length ≤ 1000) (hc : cs.all isVal = true)
    (h4 : compL (cndF p n cs cond) (fun v => ev p n (Loc.val v :: cs) e) vs = some ws) : ev p (n + 1) st (Ex.comp e cond it cap) = some (V.lst ws) := by
  have h0 : ev p (n + 1) st (Ex.comp e cond it cap) = (evL p n st it).bind fun a => (items a).bind fun vs => (caps st cap).bind fun cs =>
        if vs.length ≤ 1000 && cs.all isVal then (compL (cndF p n cs cond) (fun v => ev p n (Loc.val v :: cs) e) vs).map V.lst else none := by rw [ev]; rfl
  rw [h0, h1, Option.bind_some, h2, Option.bind_some, h3, Option.bind_some, if_pos (by rw [hc, decide_eq_true hl]; rfl)]
  exact congrArg (Option.map V.lst) h4
theorem l_var (h : getL st x = some v) : evL p (n + 1) st (Ex.var x) = some v := by simp [evL, isVar, h]
theorem l_of (hx : isVar e = none) (h : ev p n st e = some v) : evL p (n + 1) st e = some v := by simp [evL, hx, h]
theorem t_not (h : evT p n st e = some c) : evT p (n + 1) st (Ex.not e) = some (!c) := by simp [evT, h]
theorem t_and (h1 : evT p n st a = some c) (h2 : evT p n st b = some d) : evT p (n + 1) st (Ex.and a b) = some (c && d) := by cases c <;> simp [evT, h1, h2]
theorem t_or (h1 : evT p n st a = some c) (h2 : evT p n st b = some d) : evT p (n + 1) st (Ex.or a b) = some (c || d) := by cases c <;> simp [evT, h1, h2]
theorem t_cmp (h1 : evL p n st a = some u) (h2 : evL p n st b = some v) (h3 : cmp q u v = some c) : evT p (n + 1) st (Ex.cmp q a b) = some c := by simp [evT, h1, h2, h3]
theorem t_idx (h1 : evL p n st (Ex.idx e i) = some (V.bool c)) : evT p (n + 1) st (Ex.idx e i) = some c := by simp [evT, h1, truth]
theorem m_nil {f : Ex → Option V} : mapO f [] = some [] := rfl
theorem m_cons {f : Ex → Option V} (h1 : f e = some v) (h2 : mapO f es = some vs) : mapO f (e :: es) = some (v :: vs) := by simp [mapO, h1, h2]
-- names
theorem gv (h : st[x]? = some (.val v)) : getV st x = some v := by simp [getV, h]
theorem gl_v (h : st[x]? = some (.val v)) : getL st x = some v := by simp [getL, h]
theorem gl_o (h : st[x]? = some (Loc.own vs)) : getL st x = some (V.lst vs) := by simp [getL, h]
theorem go (h : st[x]? = some (Loc.own vs)) : getO st x = some vs := by simp [getO, h]
theorem gn {j : Nat} (h : x ≠ j) (h2 : st[j]? = some l) {m : Loc} : (st.set x m)[j]? = some l := by rw [List.getElem?_set_ne h, h2]
theorem ge {m : Loc} (h : x < st.length) : (st.set x m)[x]? = some m := by rw [List.getElem?_set_self h]
theorem ls {m : Loc} (h : k < st.length) : k < (st.set x m).length := by rw [List.length_set]; exact h
-- statements
variable {r : List Sm} {R : Fl × St} {s1 s2 : List Sm} {F : St → Sm → Option (Fl × St)}
theorem q_cons {m : Sm} (h : ex p n st m = some (Fl.nx, st')) (h2 : seq (ex p n) st' r = some R) : seq (ex p n) st (m :: r) = some R := by simp [seq, h, h2]
theorem q_nil : seq F st [] = some (Fl.nx, st) := rfl
theorem x_asg (h : ev p n st e = some v) : ex p (n + 1) st (.asg x e) = some (Fl.nx, st.set x (.val v)) := by simp [ex, h]
theorem x_asgo (hf : isFresh e = true) (h : ev p n st e = some (V.lst vs)) : ex p (n + 1) st (.asgo x e) = some (Fl.nx, st.set x (.own vs)) := by simp [ex, h, hf]
theorem x_app (h1 : getO st x = some vs) (h2 : ev p n st e = some v) (hl : vs.length ≤ 100000) : ex p (n + 1) st (.app x e) = some (Fl.nx, st.set x (.own (vs ++ [v]))) := by simp [ex, h1, h2, hl]
theorem x_iteT (h1 : evT p n st t = some true) (h2 : seq (ex p n) st s1 = some R) : ex p (n + 1) st (Sm.ite t s1 s2) = some R := by simp [ex, h1, h2]
theorem x_iteF (h1 : evT p n st t = some false) (h2 : seq (ex p n) st s2 = some R) : ex p (n + 1) st (Sm.ite t s1 s2) = some R := by simp [ex, h1, h2]
theorem x_for {body : List Sm} (h1 : ev p n st e = some v) (h2 : items v = some vs) (h3 : forLoop (fun st => seq (ex p n) st body) x st vs = some R) : ex p (n + 1) st (.for_ x e body) = some R := by simp [ex, h1, h2, h3]
theorem x_frz (h : st[x]? = some (Loc.own vs)) : ex p (n + 1) st (.frz x) = some (Fl.nx, st.set x (.val (.lst vs))) := by simp [ex, h]
theorem x_ret (h : ev p n st e = some v) : ex p (n + 1) st (.ret e) = some (Fl.ret v, st) := by simp [ex, h]
theorem x_unp {xs : List Nat} (h : ev p n st e = some (V.tup vs)) (h2 : setAll st xs vs = some st') : ex p (n + 1) st (.unp xs e) = some (Fl.nx, st') := by simp [ex, h, h2]
-- reckoning
theorem b_mul {y z : Int} (h1 : small y = true) (h2 : small z = true) : bin .mul (.int y) (.int z) = some (V.int (y * z)) := by simp [bin, binII, h1, h2]
end

theorem loop_nil {f : St → Option (Fl × St)} {x : Nat} {st : St} : forLoop f x st [] = some (Fl.nx, st) := rfl
theorem loop_cons {f : St → Option (Fl × St)} {x : Nat} {st st' : St} {v : V} {vs : List V} {R : Fl × St} (h : f (st.set x (.val v)) = some (Fl.nx, st')) (h2 : forLoop f x st' vs = some R) : forLoop f x st (v :: vs) = some R := by simp [forLoop, h, h2]
theorem loop_inv {f : St → Option (Fl × St)} {x : Nat} (I : Nat → St → Prop) : ∀ (vs : List V) (k : Nat) {st : St}, (∀ (i : Nat) (v : V) (st : St), vs[i]? = some v → I (k + i) st → ∃ st', f (st.set x (.val v)) = some (Fl.nx, st') ∧ I (k + i + 1) st') → I k st → ∃ st', forLoop f x st vs = some (Fl.nx, st') ∧ I (k + vs.length) st'
  | [], k, st, _, h => ⟨st, rfl, h⟩
  | v :: vs, k, st, hs, h => by
    obtain ⟨st1, h1, h2⟩ := hs 0 v st rfl h
    obtain ⟨st2, h3, h4⟩ := loop_inv I vs (k + 1) (st := st1) (fun i w st hi hI => by
      obtain ⟨st', q1, q2⟩ := hs (i + 1) w st hi (by rw [show k + (i + 1) = k + 1 + i by omega]; exact hI)
      exact ⟨st', q1, by rw [show k + 1 + i + 1 = k + (i + 1) + 1 by omega]; exact q2⟩) h2
    exact ⟨st2, loop_cons h1 h3, by rw [List.length_cons, show k + (vs.length + 1) = k + 1 + vs.length by omega]; exact h4⟩

/-- all names but those in D hold what they held -/
noncomputable def Agr (D : List Nat) (st st' : St) : Prop := st'.length = st.length ∧ ∀ i, i ∉ D → st'[i]? = st[i]?
theorem Agr.refl {D : List Nat} {st : St} : Agr D st st := ⟨rfl, fun _ _ => rfl⟩
theorem Agr.trans {D : List Nat} {a b c : St} (x : Agr D a b) (y : Agr D b c) : Agr D a c := ⟨y.1.trans x.1, fun i h => (y.2 i h).trans (x.2 i h)⟩
theorem Agr.set {D : List Nat} {a b : St} {i : Nat} {l : Loc} (x : Agr D a b) (h : i ∈ D) : Agr D a (b.set i l) :=
  ⟨by rw [List.length_set]; exact x.1, fun j hj => by
                                                            have hn : i ≠ j := fun q => by subst q; exact hj h
                                                            rw [List.getElem?_set_ne hn]; exact x.2 j hj⟩
theorem Agr.get {D : List Nat} {a b : St} {i : Nat} {l : Loc} (x : Agr D a b) (h : i ∉ D) (g : a[i]? = some l) : b[i]? = some l := (x.2 i h).trans g


/-- the turn of the innermost loop -/
theorem cut_step {p : Prog} (n : Nat) {st : St} (hl : st.length = 35) {code j cut size w s : Int} {sz wo L R sts stk : List V} {l r : Bool}
    (h25 : st[25]? = some (Loc.val (V.int code))) (h26 : st[26]? = some (Loc.val (V.lst sz))) (h29 : st[29]? = some (Loc.val (V.int j))) (h30 : st[30]? = some (Loc.val (V.int cut))) (h22 : st[22]? = some (Loc.val (V.lst wo)))
    (h13 : st[13]? = some (Loc.own sts)) (h24 : st[24]? = some (Loc.own R)) (h23 : st[23]? = some (Loc.own L)) (hj : small j = true) (hc : small cut = true) (hz : idx sz j = some (V.int size)) (hw : idx wo j = some (V.int w))
    (hk : idx sts j = some (V.lst stk)) (hs : idx stk cut = some (V.int s)) (hm1 : small (size - cut) = true) (hm2 : small w = true) (hf : small (code - (size - cut) * w) = true)
    (hR : idx R (code - (size - cut) * w) = some (V.bool r)) (hL : idx L (code - (size - cut) * w) = some (V.bool l)) :
    ∃ st', seq (ex p (n + 20)) st bCut = some (Fl.nx, st') ∧ Agr [27, 28, 31] st st' ∧
      st'[27]? = (if decide (0 ≤ s) && !r then some (Loc.val (V.bool true)) else st[27]?) ∧ st'[28]? = (if decide (s ≤ 0) && !l then some (Loc.val (V.bool true)) else st[28]?) := by
  have e1 : ev p (n + 19) st (Ex.bin Bop.sub (Ex.var 25) (Ex.bin Bop.mul (Ex.bin Bop.sub (Ex.idx (Ex.var 26) (Ex.var 29)) (Ex.var 30)) (Ex.idx (Ex.var 22) (Ex.var 29)))) = some (V.int (code - (size - cut) * w)) :=
    e_bin (l_var (gl_v h25)) (l_of rfl (e_bin (l_of rfl (e_bin (l_of rfl (e_idx (l_var (gl_v h26)) (e_var (gv h29)) hj hz)) (l_var (gl_v h30)) rfl)) (l_of rfl (e_idx (l_var (gl_v h22)) (e_var (gv h29)) hj hw)) (b_mul hm1 hm2))) rfl
  have x1 := x_asg (x := 31) e1
  have hlt : ∀ {m : Nat}, m < 35 → m < st.length := fun h => by omega
  generalize hg1 : st.set 31 (.val (.int (code - (size - cut) * w))) = st1 at x1
  have a1 : Agr [27, 28, 31] st st1 := hg1 ▸ Agr.refl.set (by decide)
  have l31 : st1[31]? = some (Loc.val (V.int (code - (size - cut) * w))) := by rw [← hg1]; exact ge (hlt (by decide))
  have test : ∀ {st2 : St} (q : Cop) (T : Nat) (LL : List V) (b c : Bool), Agr [27, 28, 31] st st2 → st2[31]? = some (Loc.val (V.int (code - (size - cut) * w))) → st[T]? = some (Loc.own LL) → T ∉ [27, 28, 31] → cmp q (.int s) (.int 0) = some c → idx LL (code - (size - cut) * w) = some (V.bool b) →
      evT p (n + 19) st2 (Ex.and (Ex.cmp q (Ex.idx (Ex.idx (Ex.var 13) (Ex.var 29)) (Ex.var 30)) (.int 0)) (Ex.not (Ex.idx (Ex.var T) (Ex.var 31)))) = some (c && !b) := by
    intro st2 q T LL b c a h31 hT hT2 hc2 hb
    exact t_and (t_cmp (l_of rfl (e_idx (l_of rfl (e_idx (l_var (gl_o (a.get (by decide) h13))) (e_var (gv (a.get (by decide) h29))) hj hk)) (e_var (gv (a.get (by decide) h30))) hc hs)) (l_of rfl e_int) hc2)
      (t_not (t_idx (l_of rfl (e_idx (l_var (gl_o (a.get hT2 hT))) (e_var (gv h31)) hf hb))))
  obtain ⟨st2, x2, a2, l31', l27, l28⟩ : ∃ st2, ex p (n + 20) st1 (Sm.ite (Ex.and (Ex.cmp Cop.ge (Ex.idx (Ex.idx (Ex.var 13) (Ex.var 29)) (Ex.var 30)) (.int 0)) (Ex.not (Ex.idx (Ex.var 24) (Ex.var 31)))) [.asg 27 (.bool true)] []) = some (Fl.nx, st2) ∧ Agr [27, 28, 31] st st2 ∧
      st2[31]? = some (Loc.val (V.int (code - (size - cut) * w))) ∧ st2[27]? = (if decide (0 ≤ s) && !r then some (Loc.val (V.bool true)) else st[27]?) ∧ st2[28]? = st[28]? := by
    have t1 := test .ge 24 R r (decide (0 ≤ s)) a1 l31 h24 (by decide) rfl hR
    have g27 : st1[27]? = st[27]? := by rw [← hg1]; exact List.getElem?_set_ne (by decide)
    have g28 : st1[28]? = st[28]? := by rw [← hg1]; exact List.getElem?_set_ne (by decide)
    cases hb : decide (0 ≤ s) && !r with
    | true =>
      rw [hb] at t1
      exact ⟨_, x_iteT t1 (q_cons (x_asg e_bool) q_nil), a1.set (by decide), gn (by decide) l31, ge (by rw [a1.1]; exact hlt (by decide)), by rw [List.getElem?_set_ne (by decide)]; exact g28⟩
    | false =>
      rw [hb] at t1
      exact ⟨_, x_iteF t1 q_nil, a1, l31, g27, g28⟩
  obtain ⟨st3, x3, a3, m27, m28⟩ : ∃ st3, ex p (n + 20) st2 (Sm.ite (Ex.and (Ex.cmp Cop.le (Ex.idx (Ex.idx (Ex.var 13) (Ex.var 29)) (Ex.var 30)) (.int 0)) (Ex.not (Ex.idx (Ex.var 23) (Ex.var 31)))) [.asg 28 (.bool true)] []) = some (Fl.nx, st3) ∧ Agr [27, 28, 31] st st3 ∧
      st3[27]? = st2[27]? ∧ st3[28]? = (if decide (s ≤ 0) && !l then some (Loc.val (V.bool true)) else st2[28]?) := by
    have t1 := test .le 23 L l (decide (s ≤ 0)) a2 l31' h23 (by decide) rfl hL
    cases hb : decide (s ≤ 0) && !l with
    | true =>
      rw [hb] at t1
      exact ⟨_, x_iteT t1 (q_cons (x_asg e_bool) q_nil), a2.set (by decide), List.getElem?_set_ne (by decide), ge (by rw [a2.1]; exact hlt (by decide))⟩
    | false =>
      rw [hb] at t1
      exact ⟨_, x_iteF t1 q_nil, a2, rfl, rfl⟩
  exact ⟨st3, q_cons x1 (q_cons x2 (q_cons x3 q_nil)), a3, m27.trans l27, m28.trans (by rw [l28])⟩
end Mine
end
section
namespace Mine
open PySem

theorem small_of {z : Int} (h1 : -1000000 ≤ z) (h2 : z ≤ 1000000) : small z = true := by
  unfold small
  rw [decide_eq_true_eq]
  have : (1000000 : Nat) < 2 ^ 60 := by decide
  omega
theorem idx_nat {vs : List V} {k : Nat} : idx vs (k : Int) = vs[k]? := by
  unfold idx
  rw [if_neg (by omega)]
  rfl
noncomputable def lstI (l : List Int) : V := .lst (l.map V.int)
theorem get_int {l : List Int} {k : Nat} (h : k < l.length) : (l.map V.int)[k]? = some (V.int (l[k]?.getD 0)) := by
  rw [List.getElem?_map, List.getElem?_eq_getElem h]; rfl
noncomputable def tab (f : Nat → Bool) (c : Nat) : List V := (List.range c).map fun x => V.bool (f x)
theorem tab_get {f : Nat → Bool} {c x : Nat} (h : x < c) : (tab f c)[x]? = some (V.bool (f x)) := by
  unfold tab
  rw [List.getElem?_map, List.getElem?_range h]; rfl
theorem tab_succ {f : Nat → Bool} {c : Nat} : tab f (c + 1) = tab f c ++ [.bool (f c)] := by
  unfold tab
  rw [List.range_succ, List.map_append]; rfl
theorem any_succ {f : Nat → Bool} {k : Nat} : (List.range (k + 1)).any f = ((List.range k).any f || f k) := by
  rw [List.range_succ, List.any_append]
  simp
noncomputable def rngV (n : Nat) : List V := (List.range n).map fun (i : Nat) => V.int i
theorem rng_get {n i : Nat} {v : V} (h : (rngV n)[i]? = some v) : i < n ∧ v = .int i := by
  unfold rngV at h
  rw [List.getElem?_map] at h
  by_cases hi : i < n
  · rw [List.getElem?_range hi] at h
    exact ⟨hi, (Option.some.inj h).symm⟩
  · rw [List.getElem?_eq_none (by rw [List.length_range]; omega)] at h
    cases h
theorem rng_len {n : Nat} : (rngV n).length = n := by unfold rngV; rw [List.length_map, List.length_range]
theorem items_rng {n : Nat} (h : small (n : Int) = true) : items (.rng n) = some (rngV n) := by
  show (if small (n : Int) then some ((List.range (n : Int).toNat).map fun (i : Nat) => V.int i) else none) = _
  rw [if_pos h]
  rfl

/-- the innermost loop: all cuts of one stalk -/
theorem cut_loop {p : Prog} (n : Nat) {st : St} (hl : st.length = 35) {code j size w : Nat} {sz wo L R sts : List V} {stk : List Int} {l0 r0 : Bool} {rr ll : Nat → Bool}
    (h25 : st[25]? = some (Loc.val (V.int code))) (h26 : st[26]? = some (Loc.val (V.lst sz))) (h29 : st[29]? = some (Loc.val (V.int j))) (h22 : st[22]? = some (Loc.val (V.lst wo)))
    (h13 : st[13]? = some (Loc.own sts)) (h24 : st[24]? = some (Loc.own R)) (h23 : st[23]? = some (Loc.own L)) (h27 : st[27]? = some (Loc.val (V.bool l0))) (h28 : st[28]? = some (Loc.val (V.bool r0)))
    (hj : j < 3) (hz : sz[j]? = some (V.int size)) (hw : wo[j]? = some (V.int w)) (hk : sts[j]? = some (lstI stk)) (hsl : size ≤ stk.length) (hb1 : size ≤ 5) (hb2 : w ≤ 36) (hb3 : code ≤ 1000) (hcd : size * w ≤ code)
    (hR : ∀ x, x < size → R[code - (size - x) * w]? = some (V.bool (rr x))) (hL : ∀ x, x < size → L[code - (size - x) * w]? = some (V.bool (ll x))) :
    ∃ st', forLoop (fun st => seq (ex p (n + 20)) st bCut) 30 st (rngV size) = some (Fl.nx, st') ∧ Agr [27, 28, 30, 31] st st' ∧
      st'[27]? = some (Loc.val (V.bool (l0 || (List.range size).any fun x => decide (0 ≤ stk[x]?.getD 0) && !rr x))) ∧ st'[28]? = some (Loc.val (V.bool (r0 || (List.range size).any fun x => decide (stk[x]?.getD 0 ≤ 0) && !ll x))) := by
  have key := loop_inv (f := fun st => seq (ex p (n + 20)) st bCut) (x := 30) (fun k s => Agr [27, 28, 30, 31] st s ∧
    s[27]? = some (Loc.val (V.bool (l0 || (List.range k).any fun x => decide (0 ≤ stk[x]?.getD 0) && !rr x))) ∧ s[28]? = some (Loc.val (V.bool (r0 || (List.range k).any fun x => decide (stk[x]?.getD 0 ≤ 0) && !ll x)))) (rngV size) 0 (st := st)
    (fun i v s hi ⟨a, b1, b2⟩ => by
      obtain ⟨hlt, rfl⟩ := rng_get hi
      rw [Nat.zero_add] at b1 b2 ⊢
      have a' : Agr [27, 28, 30, 31] st (s.set 30 (.val (.int i))) := a.set (by decide)
      have hfw : (size - i) * w ≤ code := Nat.le_trans (Nat.mul_le_mul_right w (Nat.sub_le _ _)) hcd
      have hcast : ((code : Int) - ((size : Int) - (i : Int)) * (w : Int)) = ((code - (size - i) * w : Nat) : Int) := by
        rw [Int.natCast_sub hfw, Int.natCast_mul, Int.natCast_sub (Nat.le_of_lt hlt)]
      have hsm : ((size - i) * w : Nat) ≤ 1000 := Nat.le_trans hfw hb3
      obtain ⟨s', q1, q2, q3, q4⟩ := cut_step (p := p) n (st := s.set 30 (.val (.int i))) (a'.1.trans hl) (code := code) (j := j) (cut := i) (size := size) (w := w) (s := stk[i]?.getD 0) (r := rr i) (l := ll i)
        (a'.get (by decide) h25) (a'.get (by decide) h26) (a'.get (by decide) h29) (ge (by rw [a.1, hl]; decide)) (a'.get (by decide) h22) (a'.get (by decide) h13) (a'.get (by decide) h24) (a'.get (by decide) h23)
        (small_of (by omega) (by omega)) (small_of (by omega) (by omega)) (by rw [idx_nat]; exact hz) (by rw [idx_nat]; exact hw) (by rw [idx_nat]; exact hk) (by rw [idx_nat]; exact get_int (by omega))
        (small_of (by omega) (by omega)) (small_of (by omega) (by omega)) (by rw [hcast]; exact small_of (by omega) (by omega)) (by rw [hcast, idx_nat]; exact hR i hlt) (by rw [hcast, idx_nat]; exact hL i hlt)
      refine ⟨s', q1, ⟨q2.1.trans a'.1, fun x hx => ?_⟩, ?_, ?_⟩
      · have h1 : x ∉ [27, 28, 31] := fun h => hx (by
          simp only [List.mem_cons, List.not_mem_nil, or_false] at h ⊢
          omega)
        exact (q2.2 x h1).trans (a'.2 x hx)
      · rw [q3, any_succ, List.getElem?_set_ne (by decide), b1]
        cases decide (0 ≤ stk[i]?.getD 0) && !rr i <;> simp
      · rw [q4, any_succ, List.getElem?_set_ne (by decide), b2]
        cases decide (stk[i]?.getD 0 ≤ 0) && !ll i <;> simp)
    ⟨Agr.refl, by rw [h27]; simp, by rw [h28]; simp⟩
  rw [Nat.zero_add, rng_len] at key
  exact key
end Mine
end
section
namespace Mine
open PySem

/-- the three stalks' lists -/
structure Gm where
  K : Nat → List Int
  N : Nat → List Int
  G : Nat → List Int
noncomputable def Gm.A (m : Gm) (j : Nat) : Nat := (m.K j).length + 1
noncomputable def Gm.w (m : Gm) : Nat → Nat
  | 0 => m.A 1 * m.A 2
  | 1 => m.A 2
  | _ => 1
/-- what stands fast while the codes are gone through -/
structure SF (m : Gm) (st : St) : Prop where
  len : st.length = 35
  s13 : st[13]? = some (Loc.own [lstI (m.K 0), lstI (m.K 1), lstI (m.K 2)])
  s14 : st[14]? = some (Loc.own [lstI (m.N 0), lstI (m.N 1), lstI (m.N 2)])
  s15 : st[15]? = some (Loc.own [lstI (m.G 0), lstI (m.G 1), lstI (m.G 2)])
  s21 : st[21]? = some (Loc.val (V.lst [V.int (m.A 0), V.int (m.A 1), V.int (m.A 2)]))
  s22 : st[22]? = some (Loc.val (V.lst [V.int (m.w 0), V.int (m.w 1), V.int (m.w 2)]))
theorem SF.agr {m : Gm} {D : List Nat} {st st' : St} (S : SF m st) (a : Agr D st st') (h13 : 13 ∉ D) (h14 : 14 ∉ D) (h15 : 15 ∉ D) (h21 : 21 ∉ D) (h22 : 22 ∉ D) : SF m st' :=
  ⟨a.1.trans S.len, a.get h13 S.s13, a.get h14 S.s14, a.get h15 S.s15, a.get h21 S.s21, a.get h22 S.s22⟩

structure GmOk (m : Gm) : Prop where
  k : ∀ j, j < 3 → (m.K j).length ≤ 5
  n : ∀ j, j < 3 → (m.N j).length = m.A j
  g : ∀ j, j < 3 → (m.G j).length = m.A j

theorem three {α : Type} {a b c : α} {P : Nat → α → Prop} (h0 : P 0 a) (h1 : P 1 b) (h2 : P 2 c) : ∀ (i : Nat) (x : α), [a, b, c][i]? = some x → P i x := by
  intro i x h
  match i, h with
  | 0, h => cases h; exact h0
  | 1, h => cases h; exact h1
  | 2, h => cases h; exact h2

/-- the turn of the loop over the stalks -/
theorem stalk_step {p : Prog} (n : Nat) {m : Gm} (O : GmOk m) {st : St} (S : SF m st) {code : Nat} {a : Nat → Nat} {L R : List V} {l0 r0 : Bool} {rr ll : Nat → Bool} {j : Nat} (hj : j < 3)
    (h25 : st[25]? = some (Loc.val (V.int code))) (h26 : st[26]? = some (Loc.val (V.lst [V.int (a 0), V.int (a 1), V.int (a 2)]))) (h24 : st[24]? = some (Loc.own R)) (h23 : st[23]? = some (Loc.own L)) (h27 : st[27]? = some (Loc.val (V.bool l0))) (h28 : st[28]? = some (Loc.val (V.bool r0)))
    (ha : a j < m.A j) (hw : m.w j ≤ 36) (hc : code ≤ 1000) (hcd : a j * m.w j ≤ code)
    (hR : ∀ x, x < a j → R[code - (a j - x) * m.w j]? = some (V.bool (rr x))) (hL : ∀ x, x < a j → L[code - (a j - x) * m.w j]? = some (V.bool (ll x))) :
    ∃ st', seq (ex p (n + 22)) (st.set 29 (Loc.val (V.int j))) bJ = some (Fl.nx, st') ∧ Agr [27, 28, 29, 30, 31] st st' ∧
      st'[27]? = some (Loc.val (V.bool (l0 || (List.range (a j)).any fun x => decide (0 ≤ (m.K j)[x]?.getD 0) && !rr x))) ∧ st'[28]? = some (Loc.val (V.bool (r0 || (List.range (a j)).any fun x => decide ((m.K j)[x]?.getD 0 ≤ 0) && !ll x))) := by
  have hk := O.k j hj
  have hA : a j ≤ (m.K j).length := by unfold Gm.A at ha; omega
  have j3 : j = 0 ∨ j = 1 ∨ j = 2 := by omega
  have hz : [V.int (a 0), V.int (a 1), V.int (a 2)][j]? = some (V.int (a j)) := by rcases j3 with rfl | rfl | rfl <;> rfl
  have hw' : [V.int (m.w 0), V.int (m.w 1), V.int (m.w 2)][j]? = some (V.int (m.w j)) := by rcases j3 with rfl | rfl | rfl <;> rfl
  have hkk : [lstI (m.K 0), lstI (m.K 1), lstI (m.K 2)][j]? = some (lstI (m.K j)) := by rcases j3 with rfl | rfl | rfl <;> rfl
  obtain ⟨st', q1, q2, q3, q4⟩ := cut_loop (p := p) (n + 1) (st := st.set 29 (Loc.val (V.int j))) (by rw [List.length_set]; exact S.len) (code := code) (j := j) (size := a j) (w := m.w j) (l0 := l0) (r0 := r0) (rr := rr) (ll := ll)
    (gn (by decide) h25) (gn (by decide) h26) (ge (by rw [S.len]; decide)) (gn (by decide) S.s22) (gn (by decide) S.s13) (gn (by decide) h24) (gn (by decide) h23) (gn (by decide) h27) (gn (by decide) h28)
    hj hz hw' hkk hA (by omega) hw hc hcd hR hL
  have e1 : ev p (n + 21) (st.set 29 (Loc.val (V.int j))) (Ex.bi Bi.range [Ex.idx (Ex.var 26) (Ex.var 29)]) = some (V.rng (a j)) :=
    e_bi (m_cons (l_of rfl (e_idx (l_var (gl_v (gn (by decide) h26))) (e_var (gv (ge (by rw [S.len]; decide)))) (small_of (by omega) (by omega)) (by rw [idx_nat]; exact hz))) m_nil) (by
      show (if small ((a j : Nat) : Int) then some (V.rng ((a j : Nat) : Int)) else none) = _
      rw [if_pos (small_of (by omega) (by omega))])
  refine ⟨st', q_cons (x_for e1 (items_rng (small_of (by omega) (by omega))) q1) q_nil, ⟨q2.1.trans (by rw [List.length_set]), fun i hi => ?_⟩, q3, q4⟩
  have h1 : i ∉ [27, 28, 30, 31] := fun h => hi (by
    simp only [List.mem_cons, List.not_mem_nil, or_false] at h ⊢
    omega)
  have h2 : 29 ≠ i := fun h => hi (by subst h; decide)
  exact (q2.2 i h1).trans (List.getElem?_set_ne h2)
end Mine
end
section
namespace Mine
open PySem

theorem compL_map {p : Prog} {n : Nat} {cs : List Loc} {f : V → Option V} {g : V → V} : ∀ {vs : List V}, (∀ v ∈ vs, f v = some (g v)) → compL (cndF p n cs none) f vs = some (vs.map g)
  | [], _ => rfl
  | v :: vs, h => by
    have h1 := h v (List.mem_cons_self ..)
    have h2 := compL_map (p := p) (n := n) (cs := cs) (vs := vs) fun v hv => h v (List.mem_cons_of_mem _ hv)
    simp only [compL, h1, h2, cndF, List.map_cons]
theorem allInts_map : ∀ {l : List Int}, allInts (l.map V.int) = some l
  | [] => rfl
  | x :: l => by simp only [List.map_cons, allInts, allInts_map, Option.map_some]
theorem c_of {p : Prog} {n f : Nat} {fn : Fn} {vs : List V} {v : V} {st : St} (h : p.fns[f]? = some fn) (hl : (vs.length == fn.np && decide (fn.np ≤ fn.nv)) = true) (hs : seq (ex p n) (initSt fn vs []) fn.body = some (Fl.ret v, st)) : callF p (n + 1) f vs = some v := by
  simp only [callF, h, Option.bind_some, hl, if_true, hs]
theorem q_ret {p : Prog} {n : Nat} {e : Ex} {r : List Sm} {v : V} {st : St} (h : ev p n st e = some v) : seq (ex p (n + 1)) st (Sm.ret e :: r) = some (Fl.ret v, st) := by simp [seq, ex, h]
theorem is_term (n : Nat) (x : Int) : callF prog (n + 6) 8 [V.int x] = some (V.bool (decide (x < 256))) :=
  c_of (fn := ⟨1, 1, bISTERMINAL⟩) rfl rfl (q_ret (e_cmp (q := Cop.lt) (u := V.int x) (v := V.int 256) (l_var rfl) (l_of rfl (e_glo rfl)) rfl))
theorem is_non (n : Nat) (x : Int) : callF prog (n + 6) 9 [V.int x] = some (V.bool (decide (256 ≤ x))) :=
  c_of (fn := ⟨1, 1, bISNONTERMINAL⟩) rfl rfl (q_ret (e_cmp (q := Cop.ge) (u := V.int x) (v := V.int 256) (l_var rfl) (l_of rfl (e_glo rfl)) rfl))
theorem is_eof (n : Nat) (x : Int) : callF prog (n + 6) 10 [V.int x] = some (V.bool (x == 0)) :=
  c_of (fn := ⟨1, 1, bISEOF⟩) rfl rfl (q_ret (e_cmp (q := Cop.eq) (u := V.int x) (v := V.int 0) (l_var rfl) (l_of rfl (e_glo rfl)) rfl))
theorem fdiv_nat (a b : Nat) : (a : Int).fdiv b = ((a / b : Nat) : Int) := by rw [Int.fdiv_eq_ediv_of_nonneg _ (Int.natCast_nonneg b)]; rfl
theorem fmod_nat (a b : Nat) : (a : Int).fmod b = ((a % b : Nat) : Int) := by rw [Int.fmod_eq_emod_of_nonneg _ (Int.natCast_nonneg b)]; rfl
theorem b_fdiv {a b : Nat} (h : 1 ≤ b) : bin Bop.fdiv (V.int a) (V.int b) = some (V.int ((a / b : Nat) : Int)) := by
  have h1 : ((b : Int) == 0) = false := by rw [beq_eq_false_iff_ne]; omega
  show (if ((b : Int) == 0) = true then none else some (V.int ((a : Int).fdiv b))) = _
  rw [h1, if_neg Bool.false_ne_true, fdiv_nat]
theorem b_mod {a b : Nat} (h : 1 ≤ b) : bin Bop.mod (V.int a) (V.int b) = some (V.int ((a % b : Nat) : Int)) := by
  have h1 : ((b : Int) == 0) = false := by rw [beq_eq_false_iff_ne]; omega
  show (if ((b : Int) == 0) = true then none else some (V.int ((a : Int).fmod b))) = _
  rw [h1, if_neg Bool.false_ne_true, fmod_nat]

noncomputable def at_ (l : List Int) (k : Nat) : Int := l[k]?.getD 0

/-- an entry of one of three lists of ints, by a place that a list of three gives -/
theorem ev_two {p : Prog} (n : Nat) {st : St} {x j : Nat} {l0 l1 l2 l : List Int} {a : Nat → Nat} (hx : st[x]? = some (Loc.own [lstI l0, lstI l1, lstI l2])) (h26 : st[26]? = some (Loc.val (V.lst [V.int (a 0), V.int (a 1), V.int (a 2)])))
    (hj : j < 3) (hl : [lstI l0, lstI l1, lstI l2][j]? = some (lstI l)) (ha : a j < l.length) (hb : a j ≤ 1000) :
    evL p (n + 5) st (Ex.idx (Ex.idx (Ex.var x) (Ex.int j)) (Ex.idx (Ex.var 26) (Ex.int j))) = some (V.int (at_ l (a j))) := by
  have hz : [V.int (a 0), V.int (a 1), V.int (a 2)][j]? = some (V.int (a j)) := by
    have : j = 0 ∨ j = 1 ∨ j = 2 := by omega
    rcases this with rfl | rfl | rfl <;> rfl
  exact l_of rfl (e_idx (z := (a j : Nat)) (l_of rfl (e_idx (z := (j : Nat)) (l_var (gl_o hx)) e_int (small_of (by omega) (by omega)) (by rw [idx_nat]; exact hl))) (e_idx (z := (j : Nat)) (l_var (gl_v h26)) e_int (small_of (by omega) (by omega)) (by rw [idx_nat]; exact hz)) (small_of (by omega) (by omega)) (by rw [idx_nat]; exact get_int ha))
theorem ev_sum3 {p : Prog} (n : Nat) {st : St} {x : Nat} {l0 l1 l2 : List Int} {a : Nat → Nat} (hx : st[x]? = some (Loc.own [lstI l0, lstI l1, lstI l2])) (h26 : st[26]? = some (Loc.val (V.lst [V.int (a 0), V.int (a 1), V.int (a 2)])))
    (h0 : a 0 < l0.length) (h1 : a 1 < l1.length) (h2 : a 2 < l2.length) (b0 : a 0 ≤ 1000) (b1 : a 1 ≤ 1000) (b2 : a 2 ≤ 1000) :
    ev p (n + 9) st (Ex.bin Bop.add (Ex.bin Bop.add (Ex.idx (Ex.idx (Ex.var x) (Ex.int 0)) (Ex.idx (Ex.var 26) (Ex.int 0))) (Ex.idx (Ex.idx (Ex.var x) (Ex.int 1)) (Ex.idx (Ex.var 26) (Ex.int 1)))) (Ex.idx (Ex.idx (Ex.var x) (Ex.int 2)) (Ex.idx (Ex.var 26) (Ex.int 2)))) =
      some (V.int (at_ l0 (a 0) + at_ l1 (a 1) + at_ l2 (a 2))) :=
  e_bin (l_of rfl (e_bin (ev_two (j := 0) (n + 1) hx h26 (by decide) rfl h0 b0) (ev_two (j := 1) (n + 1) hx h26 (by decide) rfl h1 b1) rfl)) (ev_two (j := 2) (n + 3) hx h26 (by decide) rfl h2 b2) rfl

theorem cmp_ne3 {x y z x' y' z' : Bool} (hx : x = x') (hy : y = y') (hz : z = z') : cmp Cop.ne (V.lst [V.bool x, V.bool y, V.bool z]) (V.lst [V.bool x', V.bool y', V.bool z']) = some false := by
  subst hx hy hz
  cases x <;> cases y <;> cases z <;> rfl

/-- may a cut of the stalk j win? -/
noncomputable def cutW (m : Gm) (W : Nat → Bool) (sg : Int → Bool) (c j aj : Nat) : Bool := (List.range aj).any fun x => sg (at_ (m.K j) x) && !W (c - (aj - x) * m.w j)

theorem code_step (n : Nat) {m : Gm} (O : GmOk m) {st : St} (S : SF m st) {c : Nat} {a : Nat → Nat} {Lw Rw : Nat → Bool} {figs : List Int}
    (h23 : st[23]? = some (Loc.own (tab Lw c))) (h24 : st[24]? = some (Loc.own (tab Rw c))) (ha0 : a 0 = c / (m.A 1 * m.A 2)) (ha1 : a 1 = c / m.A 2 % m.A 1) (ha2 : a 2 = c % m.A 2)
    (hlt : ∀ j, j < 3 → a j < m.A j) (hc : c ≤ 1000) (hcd : ∀ j, j < 3 → a j * m.w j ≤ c) (hw : ∀ j, j < 3 → m.w j ≤ 36 ∧ 1 ≤ m.w j)
    (hLw : Lw c = (cutW m Rw (fun s => decide (0 ≤ s)) c 0 (a 0) || cutW m Rw (fun s => decide (0 ≤ s)) c 1 (a 1) || cutW m Rw (fun s => decide (0 ≤ s)) c 2 (a 2)))
    (hRw : Rw c = (cutW m Lw (fun s => decide (s ≤ 0)) c 0 (a 0) || cutW m Lw (fun s => decide (s ≤ 0)) c 1 (a 1) || cutW m Lw (fun s => decide (s ≤ 0)) c 2 (a 2)))
    {num gs : Int} (hnum : num = at_ (m.N 0) (a 0) + at_ (m.N 1) (a 1) + at_ (m.N 2) (a 2)) (hgs : gs = at_ (m.G 0) (a 0) + at_ (m.G 1) (a 1) + at_ (m.G 2) (a 2))
    (t1 : decide (num < 0) = (Rw c && !Lw c)) (t2 : decide (num = 0) = (Lw c == Rw c)) (t3 : decide (0 ≤ num) = (Lw c || !Rw c))
    (hfig : Lw c = Rw c → callF prog (n + 21) 1 [V.int gs, V.int 2] = some (lstI figs) ∧ figs.length ≤ 1000 ∧ Lw c = (figs.map fun d => d.fmod 2).contains 1) :
    ∃ st', seq (ex prog (n + 24)) (st.set 25 (Loc.val (V.int c))) bCode = some (Fl.nx, st') ∧ SF m st' ∧ st'[23]? = some (Loc.own (tab Lw (c + 1))) ∧ st'[24]? = some (Loc.own (tab Rw (c + 1))) := by
  have hl := S.len
  have hA : ∀ j, j < 3 → m.A j ≤ 6 ∧ 1 ≤ m.A j := fun j hj => by have := O.k j hj; unfold Gm.A; omega
  -- sizes
  have S0 : SF m (st.set 25 (Loc.val (V.int c))) := S.agr (Agr.refl.set (D := [25]) (by decide)) (by decide) (by decide) (by decide) (by decide) (by decide)
  have l25 : (st.set 25 (Loc.val (V.int c)))[25]? = some (Loc.val (V.int c)) := ge (by omega)
  generalize hst0 : st.set 25 (Loc.val (V.int c)) = st0 at S0 l25
  have g23 : st0[23]? = some (Loc.own (tab Lw c)) := hst0 ▸ gn (by decide) h23
  have g24 : st0[24]? = some (Loc.own (tab Rw c)) := hst0 ▸ gn (by decide) h24
  have eS : ev prog (n + 23) st0 (Ex.lst [Ex.bin Bop.fdiv (Ex.var 25) (Ex.idx (Ex.var 22) (Ex.int 0)), Ex.bin Bop.mod (Ex.bin Bop.fdiv (Ex.var 25) (Ex.idx (Ex.var 22) (Ex.int 1))) (Ex.idx (Ex.var 21) (Ex.int 1)), Ex.bin Bop.mod (Ex.var 25) (Ex.idx (Ex.var 21) (Ex.int 2))]) =
      some (V.lst [V.int (a 0), V.int (a 1), V.int (a 2)]) := by
    have sm : ∀ k : Nat, k < 3 → small (k : Int) = true := fun k hk => small_of (by omega) (by omega)
    refine e_lst (m_cons (e_bin (l_var (gl_v l25)) (l_of rfl (e_idx (z := (0 : Nat)) (l_var (gl_v S0.s22)) e_int (sm 0 (by decide)) (by rw [idx_nat]; rfl))) ?_) (m_cons (e_bin (l_of rfl (e_bin (l_var (gl_v l25)) (l_of rfl (e_idx (z := (1 : Nat)) (l_var (gl_v S0.s22)) e_int (sm 1 (by decide)) (by rw [idx_nat]; rfl))) (b_fdiv (hw 1 (by decide)).2)))
      (l_of rfl (e_idx (z := (1 : Nat)) (l_var (gl_v S0.s21)) e_int (sm 1 (by decide)) (by rw [idx_nat]; rfl))) ?_) (m_cons (e_bin (l_var (gl_v l25)) (l_of rfl (e_idx (z := (2 : Nat)) (l_var (gl_v S0.s21)) e_int (sm 2 (by decide)) (by rw [idx_nat]; rfl))) ?_) m_nil))) (by decide)
    · rw [b_fdiv (hw 0 (by decide)).2, ha0]; rfl
    · rw [b_mod (hA 1 (by decide)).2, ha1]; rfl
    · rw [b_mod (hA 2 (by decide)).2, ha2]
  have x1 := x_asg (x := 26) eS
  have S1 : SF m (st0.set 26 (Loc.val (V.lst [V.int (a 0), V.int (a 1), V.int (a 2)]))) := S0.agr (Agr.refl.set (D := [26]) (by decide)) (by decide) (by decide) (by decide) (by decide) (by decide)
  have m26 : (st0.set 26 (Loc.val (V.lst [V.int (a 0), V.int (a 1), V.int (a 2)])))[26]? = some (Loc.val (V.lst [V.int (a 0), V.int (a 1), V.int (a 2)])) := ge (by rw [S0.len]; decide)
  have m25 := gn (m := Loc.val (V.lst [V.int (a 0), V.int (a 1), V.int (a 2)])) (show 26 ≠ 25 by decide) l25
  have m23 := gn (m := Loc.val (V.lst [V.int (a 0), V.int (a 1), V.int (a 2)])) (show 26 ≠ 23 by decide) g23
  have m24 := gn (m := Loc.val (V.lst [V.int (a 0), V.int (a 1), V.int (a 2)])) (show 26 ≠ 24 by decide) g24
  generalize st0.set 26 (Loc.val (V.lst [V.int (a 0), V.int (a 1), V.int (a 2)])) = st1 at x1 S1 m26 m25 m23 m24
  have x2 : ex prog (n + 24) st1 (Sm.unp [27, 28] (Ex.tup [Ex.bool false, Ex.bool false])) = some (Fl.nx, (st1.set 27 (Loc.val (V.bool false))).set 28 (Loc.val (V.bool false))) :=
    x_unp (e_tup (m_cons e_bool (m_cons e_bool m_nil)) (by decide)) rfl
  have A2 : Agr [27, 28] st1 ((st1.set 27 (Loc.val (V.bool false))).set 28 (Loc.val (V.bool false))) := (Agr.refl.set (by decide)).set (by decide)
  have k27 : ((st1.set 27 (Loc.val (V.bool false))).set 28 (Loc.val (V.bool false)))[27]? = some (Loc.val (V.bool false)) := gn (by decide) (ge (by rw [S1.len]; decide))
  have k28 : ((st1.set 27 (Loc.val (V.bool false))).set 28 (Loc.val (V.bool false)))[28]? = some (Loc.val (V.bool false)) := ge (by rw [List.length_set, S1.len]; decide)
  generalize (st1.set 27 (Loc.val (V.bool false))).set 28 (Loc.val (V.bool false)) = st2 at x2 A2 k27 k28
  have S2 := S1.agr A2 (by decide) (by decide) (by decide) (by decide) (by decide)
  have fall : ∀ j x, j < 3 → x < a j → c - (a j - x) * m.w j < c := fun j x hj hx => by
    have h1 := hcd j hj
    have h2 := (hw j hj).2
    have h3 : 1 ≤ (a j - x) * m.w j := Nat.mul_pos (by omega) h2
    have h4 : (a j - x) * m.w j ≤ a j * m.w j := Nat.mul_le_mul_right _ (Nat.sub_le _ _)
    omega
  have step : ∀ (j : Nat) (hj : j < 3) {s : St} {l0 r0 : Bool}, Agr [27, 28, 29, 30, 31] st2 s → s[27]? = some (Loc.val (V.bool l0)) → s[28]? = some (Loc.val (V.bool r0)) →
      ∃ s', seq (ex prog (n + 23)) (s.set 29 (Loc.val (V.int j))) bJ = some (Fl.nx, s') ∧ Agr [27, 28, 29, 30, 31] st2 s' ∧ s'[27]? = some (Loc.val (V.bool (l0 || cutW m Rw (fun s => decide (0 ≤ s)) c j (a j)))) ∧
        s'[28]? = some (Loc.val (V.bool (r0 || cutW m Lw (fun s => decide (s ≤ 0)) c j (a j)))) := by
    intro j hj s l0 r0 A h27 h28
    obtain ⟨s', q1, q2, q3, q4⟩ := stalk_step (p := prog) (n + 1) O (S2.agr A (by decide) (by decide) (by decide) (by decide) (by decide)) (code := c) (a := a) (L := tab Lw c) (R := tab Rw c) (rr := fun x => Rw (c - (a j - x) * m.w j)) (ll := fun x => Lw (c - (a j - x) * m.w j)) hj
      (A.get (by decide) (A2.get (by decide) m25)) (A.get (by decide) (A2.get (by decide) m26)) (A.get (by decide) (A2.get (by decide) m24)) (A.get (by decide) (A2.get (by decide) m23)) h27 h28 (hlt j hj) (hw j hj).1 hc (hcd j hj)
      (fun x hx => tab_get (fall j x hj hx)) (fun x hx => tab_get (fall j x hj hx))
    exact ⟨s', q1, A.trans q2, q3, q4⟩
  obtain ⟨s3, y1, B1, u1, v1⟩ := step 0 (by decide) Agr.refl k27 k28
  obtain ⟨s4, y2, B2, u2, v2⟩ := step 1 (by decide) B1 u1 v1
  obtain ⟨s5, y3, B3, u3, v3⟩ := step 2 (by decide) B2 u2 v2
  have x3 : ex prog (n + 24) st2 (Sm.for_ 29 (Ex.bi Bi.range [Ex.int 3]) bJ) = some (Fl.nx, s5) :=
    x_for (e_bi (m_cons (l_of rfl e_int) m_nil) (show builtin Bi.range [V.int 3] = some (V.rng 3) from rfl)) (show items (V.rng 3) = some [V.int ((0 : Nat) : Int), V.int ((1 : Nat) : Int), V.int ((2 : Nat) : Int)] from rfl) (loop_cons y1 (loop_cons y2 (loop_cons y3 loop_nil)))
  rw [Bool.false_or, ← hLw] at u3
  rw [Bool.false_or, ← hRw] at v3
  have S5 := S2.agr B3 (by decide) (by decide) (by decide) (by decide) (by decide)
  have n23 := B3.get (by decide) (A2.get (by decide) m23)
  have n24 := B3.get (by decide) (A2.get (by decide) m24)
  have n26 := B3.get (by decide) (A2.get (by decide) m26)
  have tl : ∀ f : Nat → Bool, (tab f c).length ≤ 100000 := fun f => by unfold tab; rw [List.length_map, List.length_range]; omega
  have x4 := x_app (p := prog) (n := n + 23) (x := 23) (go n23) (e_var (n := n + 22) (gv u3)) (tl _)
  rw [← tab_succ] at x4
  have S6 := S5.agr (Agr.refl.set (D := [23]) (i := 23) (l := Loc.own (tab Lw (c + 1))) (by decide)) (by decide) (by decide) (by decide) (by decide) (by decide)
  have p23 : (s5.set 23 (Loc.own (tab Lw (c + 1))))[23]? = some (Loc.own (tab Lw (c + 1))) := ge (by rw [S5.len]; decide)
  have p24 := gn (m := Loc.own (tab Lw (c + 1))) (show 23 ≠ 24 by decide) n24
  have p26 := gn (m := Loc.own (tab Lw (c + 1))) (show 23 ≠ 26 by decide) n26
  have p27 := gn (m := Loc.own (tab Lw (c + 1))) (show 23 ≠ 27 by decide) u3
  have p28 := gn (m := Loc.own (tab Lw (c + 1))) (show 23 ≠ 28 by decide) v3
  generalize s5.set 23 (Loc.own (tab Lw (c + 1))) = s6 at x4 S6 p23 p24 p26 p27 p28
  have x5 := x_app (p := prog) (n := n + 23) (x := 24) (go p24) (e_var (n := n + 22) (gv p28)) (tl _)
  rw [← tab_succ] at x5
  have S7 := S6.agr (Agr.refl.set (D := [24]) (i := 24) (l := Loc.own (tab Rw (c + 1))) (by decide)) (by decide) (by decide) (by decide) (by decide) (by decide)
  have q24 : (s6.set 24 (Loc.own (tab Rw (c + 1))))[24]? = some (Loc.own (tab Rw (c + 1))) := ge (by rw [S6.len]; decide)
  have q23 := gn (m := Loc.own (tab Rw (c + 1))) (show 24 ≠ 23 by decide) p23
  have q26 := gn (m := Loc.own (tab Rw (c + 1))) (show 24 ≠ 26 by decide) p26
  have q27 := gn (m := Loc.own (tab Rw (c + 1))) (show 24 ≠ 27 by decide) p27
  have q28 := gn (m := Loc.own (tab Rw (c + 1))) (show 24 ≠ 28 by decide) p28
  generalize s6.set 24 (Loc.own (tab Rw (c + 1))) = s7 at x5 S7 q23 q24 q26 q27 q28
  have hln : ∀ j, j < 3 → a j < (m.N j).length := fun j hj => by rw [O.n j hj]; exact hlt j hj
  have hlg : ∀ j, j < 3 → a j < (m.G j).length := fun j hj => by rw [O.g j hj]; exact hlt j hj
  have hab : ∀ j, j < 3 → a j ≤ 1000 := fun j hj => by have := hlt j hj; have := hA j hj; omega
  have eN := ev_sum3 (p := prog) (n + 14) S7.s14 q26 (hln 0 (by decide)) (hln 1 (by decide)) (hln 2 (by decide)) (hab 0 (by decide)) (hab 1 (by decide)) (hab 2 (by decide))
  rw [← hnum] at eN
  have x6 := x_asg (x := 32) eN
  have S8 := S7.agr (Agr.refl.set (D := [32]) (i := 32) (l := Loc.val (V.int num)) (by decide)) (by decide) (by decide) (by decide) (by decide) (by decide)
  have r32 : (s7.set 32 (Loc.val (V.int num)))[32]? = some (Loc.val (V.int num)) := ge (by rw [S7.len]; decide)
  have r23 := gn (m := Loc.val (V.int num)) (show 32 ≠ 23 by decide) q23
  have r24 := gn (m := Loc.val (V.int num)) (show 32 ≠ 24 by decide) q24
  have r26 := gn (m := Loc.val (V.int num)) (show 32 ≠ 26 by decide) q26
  have r27 := gn (m := Loc.val (V.int num)) (show 32 ≠ 27 by decide) q27
  have r28 := gn (m := Loc.val (V.int num)) (show 32 ≠ 28 by decide) q28
  generalize s7.set 32 (Loc.val (V.int num)) = s8 at x6 S8 r32 r23 r24 r26 r27 r28
  have eT : ev prog (n + 23) s8 (Ex.lst [Ex.call 8 [Ex.bin Bop.add (Ex.glo 1) (Ex.var 32)], Ex.call 10 [Ex.var 32], Ex.call 9 [Ex.bin Bop.add (Ex.glo 1) (Ex.var 32)]]) = some (V.lst [V.bool (decide (256 + num < 256)), V.bool (num == 0), V.bool (decide (256 ≤ 256 + num))]) :=
    e_lst (m_cons (e_call (m_cons (e_bin (u := V.int 256) (l_of rfl (e_glo rfl)) (l_var (gl_v r32)) rfl) m_nil) (is_term (n + 15) (256 + num))) (m_cons (e_call (m_cons (e_var (gv r32)) m_nil) (is_eof (n + 15) num))
      (m_cons (e_call (m_cons (e_bin (u := V.int 256) (l_of rfl (e_glo rfl)) (l_var (gl_v r32)) rfl) m_nil) (is_non (n + 15) (256 + num))) m_nil))) (by decide)
  have x7 := x_asg (x := 8) eT
  have S9 := S8.agr (Agr.refl.set (D := [8]) (i := 8) (l := Loc.val (V.lst [V.bool (decide (256 + num < 256)), V.bool (num == 0), V.bool (decide (256 ≤ 256 + num))])) (by decide)) (by decide) (by decide) (by decide) (by decide) (by decide)
  have w8 : (s8.set 8 (Loc.val (V.lst [V.bool (decide (256 + num < 256)), V.bool (num == 0), V.bool (decide (256 ≤ 256 + num))])))[8]? = _ := ge (by rw [S8.len]; decide)
  have w23 := gn (m := Loc.val (V.lst [V.bool (decide (256 + num < 256)), V.bool (num == 0), V.bool (decide (256 ≤ 256 + num))])) (show 8 ≠ 23 by decide) r23
  have w24 := gn (m := Loc.val (V.lst [V.bool (decide (256 + num < 256)), V.bool (num == 0), V.bool (decide (256 ≤ 256 + num))])) (show 8 ≠ 24 by decide) r24
  have w26 := gn (m := Loc.val (V.lst [V.bool (decide (256 + num < 256)), V.bool (num == 0), V.bool (decide (256 ≤ 256 + num))])) (show 8 ≠ 26 by decide) r26
  have w27 := gn (m := Loc.val (V.lst [V.bool (decide (256 + num < 256)), V.bool (num == 0), V.bool (decide (256 ≤ 256 + num))])) (show 8 ≠ 27 by decide) r27
  have w28 := gn (m := Loc.val (V.lst [V.bool (decide (256 + num < 256)), V.bool (num == 0), V.bool (decide (256 ≤ 256 + num))])) (show 8 ≠ 28 by decide) r28
  generalize s8.set 8 (Loc.val (V.lst [V.bool (decide (256 + num < 256)), V.bool (num == 0), V.bool (decide (256 ≤ 256 + num))])) = s9 at x7 S9 w8 w23 w24 w26 w27 w28
  have eD : ev prog (n + 23) s9 (Ex.lst [Ex.and (Ex.var 28) (Ex.not (Ex.var 27)), Ex.cmp Cop.eq (Ex.var 27) (Ex.var 28), Ex.or (Ex.var 27) (Ex.not (Ex.var 28))]) = some (V.lst [V.bool (Rw c && !Lw c), V.bool (Lw c == Rw c), V.bool (Lw c || !Rw c)]) :=
    e_lst (m_cons (e_and (e_var (gv w28)) (e_not (e_var (gv w27)))) (m_cons (e_cmp (u := V.bool (Lw c)) (v := V.bool (Rw c)) (l_var (gl_v w27)) (l_var (gl_v w28)) rfl) (m_cons (e_or (e_var (gv w27)) (e_not (e_var (gv w28)))) m_nil))) (by decide)
  have x8 := x_asg (x := 33) eD
  have S10 := S9.agr (Agr.refl.set (D := [33]) (i := 33) (l := Loc.val (V.lst [V.bool (Rw c && !Lw c), V.bool (Lw c == Rw c), V.bool (Lw c || !Rw c)])) (by decide)) (by decide) (by decide) (by decide) (by decide) (by decide)
  have z33 : (s9.set 33 (Loc.val (V.lst [V.bool (Rw c && !Lw c), V.bool (Lw c == Rw c), V.bool (Lw c || !Rw c)])))[33]? = _ := ge (by rw [S9.len]; decide)
  have z8 := gn (m := Loc.val (V.lst [V.bool (Rw c && !Lw c), V.bool (Lw c == Rw c), V.bool (Lw c || !Rw c)])) (show 33 ≠ 8 by decide) w8
  have z23 := gn (m := Loc.val (V.lst [V.bool (Rw c && !Lw c), V.bool (Lw c == Rw c), V.bool (Lw c || !Rw c)])) (show 33 ≠ 23 by decide) w23
  have z24 := gn (m := Loc.val (V.lst [V.bool (Rw c && !Lw c), V.bool (Lw c == Rw c), V.bool (Lw c || !Rw c)])) (show 33 ≠ 24 by decide) w24
  have z26 := gn (m := Loc.val (V.lst [V.bool (Rw c && !Lw c), V.bool (Lw c == Rw c), V.bool (Lw c || !Rw c)])) (show 33 ≠ 26 by decide) w26
  have z27 := gn (m := Loc.val (V.lst [V.bool (Rw c && !Lw c), V.bool (Lw c == Rw c), V.bool (Lw c || !Rw c)])) (show 33 ≠ 27 by decide) w27
  have z28 := gn (m := Loc.val (V.lst [V.bool (Rw c && !Lw c), V.bool (Lw c == Rw c), V.bool (Lw c || !Rw c)])) (show 33 ≠ 28 by decide) w28
  generalize s9.set 33 (Loc.val (V.lst [V.bool (Rw c && !Lw c), V.bool (Lw c == Rw c), V.bool (Lw c || !Rw c)])) = s10 at x8 S10 z33 z8 z23 z24 z26 z27 z28
  have hne : cmp Cop.ne (V.lst [V.bool (decide (256 + num < 256)), V.bool (num == 0), V.bool (decide (256 ≤ 256 + num))]) (V.lst [V.bool (Rw c && !Lw c), V.bool (Lw c == Rw c), V.bool (Lw c || !Rw c)]) = some false := by
    refine cmp_ne3 ?_ ?_ ?_
    · rw [← t1]; exact decide_eq_decide.mpr (by omega)
    · rw [← t2]; exact Bool.eq_iff_iff.mpr (by simp)
    · rw [← t3]; exact decide_eq_decide.mpr (by omega)
  have eI : evL prog (n + 21) s10 (Ex.comp (Ex.bi Bi.isbool [Ex.var 0]) none (Ex.var 8) []) = some (V.lst [V.bool true, V.bool true, V.bool true]) := by
    refine l_of rfl (e_comp (cs := []) (l_var (gl_v z8)) rfl rfl (by simp) rfl (compL_map (g := fun _ => V.bool true) fun v hv => ?_))
    have : ∃ b, v = V.bool b := by
      simp only [List.mem_cons, List.not_mem_nil, or_false] at hv
      rcases hv with rfl | rfl | rfl <;> exact ⟨_, rfl⟩
    obtain ⟨b, rfl⟩ := this
    exact e_bi (m_cons (l_var (gl_v rfl)) m_nil) rfl
  have x9 : ex prog (n + 24) s10 (Sm.ite (Ex.or (Ex.cmp Cop.ne (Ex.var 8) (Ex.var 33)) (Ex.cmp Cop.ne (Ex.comp (Ex.bi Bi.isbool [Ex.var 0]) none (Ex.var 8) []) (Ex.lst [Ex.bool true, Ex.bool true, Ex.bool true]))) [Sm.ret (Ex.bool false)] []) = some (Fl.nx, s10) := by
    refine x_iteF (t_or (c := false) (d := false) (t_cmp (l_var (gl_v z8)) (l_var (gl_v z33)) hne) (t_cmp eI (l_of rfl (e_lst (m_cons e_bool (m_cons e_bool (m_cons e_bool m_nil))) (by decide))) rfl)) q_nil
  have eE : evT prog (n + 23) s10 (Ex.cmp Cop.eq (Ex.var 27) (Ex.var 28)) = some (Lw c == Rw c) := t_cmp (u := V.bool (Lw c)) (v := V.bool (Rw c)) (l_var (gl_v z27)) (l_var (gl_v z28)) rfl
  obtain ⟨s11, x10, S11, f23, f24⟩ : ∃ s11, ex prog (n + 24) s10 (Sm.ite (Ex.cmp Cop.eq (Ex.var 27) (Ex.var 28)) [Sm.asg 34 (Ex.call 1 [Ex.bin Bop.add (Ex.bin Bop.add (Ex.idx (Ex.idx (Ex.var 15) (Ex.int 0)) (Ex.idx (Ex.var 26) (Ex.int 0))) (Ex.idx (Ex.idx (Ex.var 15) (Ex.int 1)) (Ex.idx (Ex.var 26) (Ex.int 1)))) (Ex.idx (Ex.idx (Ex.var 15) (Ex.int 2)) (Ex.idx (Ex.var 26) (Ex.int 2))), Ex.int 2]),
      Sm.ite (Ex.cmp Cop.ne (Ex.var 27) (Ex.cmp Cop.isin (Ex.int 1) (Ex.comp (Ex.bin Bop.mod (Ex.var 0) (Ex.int 2)) none (Ex.var 34) []))) [Sm.ret (Ex.bool false)] []] []) = some (Fl.nx, s11) ∧ SF m s11 ∧ s11[23]? = some (Loc.own (tab Lw (c + 1))) ∧ s11[24]? = some (Loc.own (tab Rw (c + 1))) := by
    by_cases h : Lw c = Rw c
    · obtain ⟨g1, g2, g3⟩ := hfig h
      have hb : (Lw c == Rw c) = true := by rw [h]; exact beq_self_eq_true _
      rw [hb] at eE
      have eG := ev_sum3 (p := prog) (n + 12) S10.s15 z26 (hlg 0 (by decide)) (hlg 1 (by decide)) (hlg 2 (by decide)) (hab 0 (by decide)) (hab 1 (by decide)) (hab 2 (by decide))
      rw [← hgs] at eG
      have y1 := x_asg (x := 34) (e_call (m_cons eG (m_cons e_int m_nil)) g1)
      have T : SF m (s10.set 34 (Loc.val (lstI figs))) := S10.agr (Agr.refl.set (D := [34]) (by decide)) (by decide) (by decide) (by decide) (by decide) (by decide)
      have k34 : (s10.set 34 (Loc.val (lstI figs)))[34]? = some (Loc.val (V.lst (figs.map V.int))) := ge (by rw [S10.len]; decide)
      have k27 := gn (m := Loc.val (lstI figs)) (show 34 ≠ 27 by decide) z27
      have k23 := gn (m := Loc.val (lstI figs)) (show 34 ≠ 23 by decide) z23
      have k24 := gn (m := Loc.val (lstI figs)) (show 34 ≠ 24 by decide) z24
      generalize s10.set 34 (Loc.val (lstI figs)) = s11 at y1 T k34 k27 k23 k24
      have eC : evL prog (n + 19) s11 (Ex.comp (Ex.bin Bop.mod (Ex.var 0) (Ex.int 2)) none (Ex.var 34) []) = some (V.lst ((figs.map fun d => d.fmod 2).map V.int)) := by
        rw [List.map_map]
        refine l_of rfl (e_comp (cs := []) (l_var (gl_v k34)) rfl rfl (by rw [List.length_map]; exact g2) rfl ?_)
        have := compL_map (p := prog) (n := n + 17) (cs := []) (f := fun v => ev prog (n + 17) (Loc.val v :: []) (Ex.bin Bop.mod (Ex.var 0) (Ex.int 2))) (g := fun v => match v with | V.int d => V.int (d.fmod 2) | v => v) (vs := figs.map V.int) (fun v hv => by
          obtain ⟨d, _, rfl⟩ := List.mem_map.mp hv
          exact e_bin (u := V.int d) (v := V.int 2) (l_var (gl_v rfl)) (l_of rfl e_int) rfl)
        rw [this, List.map_map]
        rfl
      have eF : evT prog (n + 22) s11 (Ex.cmp Cop.ne (Ex.var 27) (Ex.cmp Cop.isin (Ex.int 1) (Ex.comp (Ex.bin Bop.mod (Ex.var 0) (Ex.int 2)) none (Ex.var 34) []))) = some false :=
        t_cmp (u := V.bool (Lw c)) (v := V.bool (Lw c)) (l_var (gl_v k27)) (l_of rfl (e_cmp (u := V.int 1) (l_of rfl e_int) eC (by
          show (allInts ((figs.map fun d => d.fmod 2).map V.int)).map (fun ns => ns.contains 1) = _
          rw [allInts_map, g3]; rfl))) (by cases Lw c <;> rfl)
      exact ⟨s11, x_iteT eE (q_cons y1 (q_cons (x_iteF eF q_nil) q_nil)), T, k23, k24⟩
    · have hb : (Lw c == Rw c) = false := by rw [beq_eq_false_iff_ne]; exact h
      rw [hb] at eE
      exact ⟨s10, x_iteF eE q_nil, S10, z23, z24⟩
  exact ⟨s11, q_cons x1 (q_cons x2 (q_cons x3 (q_cons x4 (q_cons x5 (q_cons x6 (q_cons x7 (q_cons x8 (q_cons x9 (q_cons x10 q_nil))))))))), S11, f23, f24⟩
end Mine
end
section
namespace Mine
open PySem

/-- one stalk: K its edges, N the numbers of its heights, q how many edges stand below the first green one -/
structure Stk (K N : List Int) (q : Nat) : Prop where
  len : K.length ≤ 5
  cut : ∀ h x, x < h → h ≤ K.length → (x < q ∧ at_ K x = 1 ∧ at_ N x < at_ N h) ∨ (x < q ∧ at_ K x = -1 ∧ at_ N h < at_ N x) ∨ (q ≤ x ∧ at_ K x = 0 ∧ at_ N x = at_ N h)
  opt : ∀ h, h ≤ q → h ≤ K.length → ∃ d : Int, (d = 1 ∨ d = 2 ∨ d = 4 ∨ d = 8 ∨ d = 16) ∧ d ∣ at_ N h ∧
    (d ≠ 16 ∨ 0 < at_ N h → ∃ x, x < h ∧ at_ K x = 1 ∧ at_ N h - d ≤ at_ N x) ∧ (d ≠ 16 ∨ at_ N h < 0 → ∃ x, x < h ∧ at_ K x = -1 ∧ at_ N x ≤ at_ N h + d)

noncomputable def upd (a : Nat → Nat) (j x : Nat) : Nat → Nat := fun i => if i = j then x else a i
theorem upd_same {a : Nat → Nat} {j x : Nat} : upd a j x j = x := if_pos rfl
theorem upd_ne {a : Nat → Nat} {j x i : Nat} (h : i ≠ j) : upd a j x i = a i := if_neg h

section
variable (N : Nat → List Int) (q : Nat → Nat) (a : Nat → Nat)
noncomputable def numP : Int := at_ (N 0) (a 0) + at_ (N 1) (a 1) + at_ (N 2) (a 2)
noncomputable def nimP : Nat := (a 0 - q 0) ^^^ (a 1 - q 1) ^^^ (a 2 - q 2)
noncomputable def LwP : Prop := 0 < numP N a ∨ (numP N a = 0 ∧ nimP q a ≠ 0)
noncomputable def RwP : Prop := numP N a < 0 ∨ (numP N a = 0 ∧ nimP q a ≠ 0)
end

theorem num_upd {N : Nat → List Int} {a : Nat → Nat} {j x : Nat} (hj : j < 3) : numP N (upd a j x) = numP N a - at_ (N j) (a j) + at_ (N j) x := by
  have : j = 0 ∨ j = 1 ∨ j = 2 := by omega
  unfold numP
  rcases this with rfl | rfl | rfl
  · rw [upd_same, upd_ne (by decide), upd_ne (by decide)]; omega
  · rw [upd_same, upd_ne (by decide), upd_ne (by decide)]; omega
  · rw [upd_same, upd_ne (by decide), upd_ne (by decide)]; omega

theorem nim_lose : ∀ g h k y : Fin 6, g.1 ^^^ h.1 ^^^ k.1 = 0 → y.1 < g.1 → y.1 ^^^ h.1 ^^^ k.1 ≠ 0 := by decide +kernel
theorem nim_win : ∀ g h k : Fin 6, g.1 ^^^ h.1 ^^^ k.1 ≠ 0 → (∃ y : Fin 6, y.1 < g.1 ∧ y.1 ^^^ h.1 ^^^ k.1 = 0) ∨ (∃ y : Fin 6, y.1 < h.1 ∧ g.1 ^^^ y.1 ^^^ k.1 = 0) ∨ (∃ y : Fin 6, y.1 < k.1 ∧ g.1 ^^^ h.1 ^^^ y.1 = 0) := by decide +kernel
theorem xor_rot (g h k : Nat) : g ^^^ h ^^^ k = h ^^^ g ^^^ k := by rw [Nat.xor_comm g h]
theorem xor_rot2 (g h k : Nat) : g ^^^ h ^^^ k = k ^^^ h ^^^ g := by rw [Nat.xor_assoc, Nat.xor_comm, Nat.xor_comm h k]

section
variable {K N : Nat → List Int} {q a : Nat → Nat}

/-- a green cut of a position whose nim-sum is nought leaves one whose is not -/
theorem green_lose (hs : ∀ j, j < 3 → Stk (K j) (N j) (q j)) (ha : ∀ j, j < 3 → a j ≤ (K j).length) {j x : Nat} (hj : j < 3) (hx : x < a j) (hq : q j ≤ x) (h0 : nimP q a = 0) : nimP q (upd a j x) ≠ 0 := by
  have b : ∀ i, i < 3 → a i - q i < 6 := fun i hi => by have := (hs i hi).len; have := ha i hi; omega
  have j3 : j = 0 ∨ j = 1 ∨ j = 2 := by omega
  have key : ∀ (g h k y : Nat), g < 6 → h < 6 → k < 6 → g ^^^ h ^^^ k = 0 → y < g → y ^^^ h ^^^ k ≠ 0 := fun g h k y hg hh hk e hy => nim_lose ⟨g, hg⟩ ⟨h, hh⟩ ⟨k, hk⟩ ⟨y, by omega⟩ e hy
  unfold nimP at h0 ⊢
  rcases j3 with rfl | rfl | rfl
  · rw [upd_same, upd_ne (by decide), upd_ne (by decide)]
    exact key _ _ _ _ (b 0 (by decide)) (b 1 (by decide)) (b 2 (by decide)) h0 (by omega)
  · rw [upd_same, upd_ne (by decide), upd_ne (by decide), xor_rot]
    rw [xor_rot] at h0
    exact key _ _ _ _ (b 1 (by decide)) (b 0 (by decide)) (b 2 (by decide)) h0 (by omega)
  · rw [upd_same, upd_ne (by decide), upd_ne (by decide), xor_rot2]
    rw [xor_rot2] at h0
    exact key _ _ _ _ (b 2 (by decide)) (b 1 (by decide)) (b 0 (by decide)) h0 (by omega)
/-- from a nim-sum that is not nought a green cut leads to nought -/
theorem green_win (hs : ∀ j, j < 3 → Stk (K j) (N j) (q j)) (ha : ∀ j, j < 3 → a j ≤ (K j).length) (h0 : nimP q a ≠ 0) : ∃ j x, j < 3 ∧ x < a j ∧ q j ≤ x ∧ nimP q (upd a j x) = 0 := by
  have b : ∀ i, i < 3 → a i - q i < 6 := fun i hi => by have := (hs i hi).len; have := ha i hi; omega
  unfold nimP at h0
  rcases nim_win ⟨_, b 0 (by decide)⟩ ⟨_, b 1 (by decide)⟩ ⟨_, b 2 (by decide)⟩ h0 with ⟨y, h1, h2⟩ | ⟨y, h1, h2⟩ | ⟨y, h1, h2⟩
  · have h1' : y.1 < a 0 - q 0 := h1
    refine ⟨0, q 0 + y.1, by decide, by omega, by omega, ?_⟩
    unfold nimP
    rw [upd_same, upd_ne (by decide), upd_ne (by decide), Nat.add_sub_cancel_left]
    exact h2
  · have h1' : y.1 < a 1 - q 1 := h1
    refine ⟨1, q 1 + y.1, by decide, by omega, by omega, ?_⟩
    unfold nimP
    rw [upd_same, upd_ne (by decide), upd_ne (by decide), Nat.add_sub_cancel_left]
    exact h2
  · have h1' : y.1 < a 2 - q 2 := h1
    refine ⟨2, q 2 + y.1, by decide, by omega, by omega, ?_⟩
    unfold nimP
    rw [upd_same, upd_ne (by decide), upd_ne (by decide), Nat.add_sub_cancel_left]
    exact h2
theorem nim_zero (h : ∀ j, j < 3 → a j ≤ q j) : nimP q a = 0 := by
  unfold nimP
  rw [show a 0 - q 0 = 0 from Nat.sub_eq_zero_of_le (h 0 (by decide)), show a 1 - q 1 = 0 from Nat.sub_eq_zero_of_le (h 1 (by decide)), show a 2 - q 2 = 0 from Nat.sub_eq_zero_of_le (h 2 (by decide))]
  rfl

theorem pow_dvd {d e : Int} (hd : d = 1 ∨ d = 2 ∨ d = 4 ∨ d = 8 ∨ d = 16) (he : e = 1 ∨ e = 2 ∨ e = 4 ∨ e = 8 ∨ e = 16) (h : d ≤ e) : d ∣ e := by
  rcases hd with rfl | rfl | rfl | rfl | rfl <;> rcases he with rfl | rfl | rfl | rfl | rfl <;> first | omega | decide

theorem pos16 {d : Int} (hd : d = 1 ∨ d = 2 ∨ d = 4 ∨ d = 8 ∨ d = 16) : 1 ≤ d := by omega
theorem ne16 {d e f : Int} (he : e = 1 ∨ e = 2 ∨ e = 4 ∨ e = 8 ∨ e = 16) (hf : f = 1 ∨ f = 2 ∨ f = 4 ∨ f = 8 ∨ f = 16) (h1 : d ≤ e) (h2 : d ≤ f) (h : ¬ (d = 16 ∧ e = 16 ∧ f = 16)) : d ≠ 16 := by omega
theorem le3 {d e f : Int} (h0 : ¬ (d ≤ e ∧ d ≤ f)) (h1 : ¬ (e ≤ d ∧ e ≤ f)) : f ≤ d ∧ f ≤ e := by omega

/-- all stalks below their green edges, the sum above nought: Left has a cut that leaves it at nought or above -/
theorem blue_cut (hs : ∀ j, j < 3 → Stk (K j) (N j) (q j)) (ha : ∀ j, j < 3 → a j ≤ (K j).length) (hq : ∀ j, j < 3 → a j ≤ q j) (h0 : 0 < numP N a) : ∃ j x, j < 3 ∧ x < a j ∧ at_ (K j) x = 1 ∧ 0 ≤ numP N a - at_ (N j) (a j) + at_ (N j) x := by
  have ho : ∀ j, j < 3 → ∃ d : Int, (d = 1 ∨ d = 2 ∨ d = 4 ∨ d = 8 ∨ d = 16) ∧ d ∣ at_ (N j) (a j) ∧ (d ≠ 16 ∨ 0 < at_ (N j) (a j) → ∃ x, x < a j ∧ at_ (K j) x = 1 ∧ at_ (N j) (a j) - d ≤ at_ (N j) x) := fun j hj => by
    obtain ⟨d, h1, h2, h3, _⟩ := (hs j hj).opt (a j) (hq j hj) (ha j hj)
    exact ⟨d, h1, h2, h3⟩
  obtain ⟨d0, p0, v0, o0⟩ := ho 0 (by decide)
  obtain ⟨d1, p1, v1, o1⟩ := ho 1 (by decide)
  obtain ⟨d2, p2, v2, o2⟩ := ho 2 (by decide)
  have fin : ∀ (d : Int), 1 ≤ d → d ∣ at_ (N 0) (a 0) → d ∣ at_ (N 1) (a 1) → d ∣ at_ (N 2) (a 2) → d ≤ numP N a := fun d hd w0 w1 w2 => by
    refine Int.le_of_dvd h0 ?_
    unfold numP
    exact Int.dvd_add (Int.dvd_add w0 w1) w2
  have use : ∀ (j : Nat) (d : Int), j < 3 → d ≤ numP N a → (∃ x, x < a j ∧ at_ (K j) x = 1 ∧ at_ (N j) (a j) - d ≤ at_ (N j) x) → ∃ j x, j < 3 ∧ x < a j ∧ at_ (K j) x = 1 ∧ 0 ≤ numP N a - at_ (N j) (a j) + at_ (N j) x :=
    fun j d hj hd ⟨x, e1, e2, e3⟩ => ⟨j, x, hj, e1, e2, by omega⟩
  by_cases all : d0 = 16 ∧ d1 = 16 ∧ d2 = 16
  · obtain ⟨rfl, rfl, rfl⟩ := all
    have hd := fin 16 (by decide) v0 v1 v2
    have : 0 < at_ (N 0) (a 0) ∨ 0 < at_ (N 1) (a 1) ∨ 0 < at_ (N 2) (a 2) := by unfold numP at h0; omega
    rcases this with h | h | h
    · exact use 0 16 (by decide) hd (o0 (.inr h))
    · exact use 1 16 (by decide) hd (o1 (.inr h))
    · exact use 2 16 (by decide) hd (o2 (.inr h))
  · by_cases c0 : d0 ≤ d1 ∧ d0 ≤ d2
    · have hd := fin d0 (pos16 p0) v0 (Int.dvd_trans (pow_dvd p0 p1 c0.1) v1) (Int.dvd_trans (pow_dvd p0 p2 c0.2) v2)
      exact use 0 d0 (by decide) hd (o0 (.inl (ne16 p1 p2 c0.1 c0.2 all)))
    · by_cases c1 : d1 ≤ d0 ∧ d1 ≤ d2
      · have hd := fin d1 (pos16 p1) (Int.dvd_trans (pow_dvd p1 p0 c1.1) v0) v1 (Int.dvd_trans (pow_dvd p1 p2 c1.2) v2)
        exact use 1 d1 (by decide) hd (o1 (.inl (ne16 p0 p2 c1.1 c1.2 fun h => all ⟨h.2.1, h.1, h.2.2⟩)))
      · have hd := fin d2 (pos16 p2) (Int.dvd_trans (pow_dvd p2 p0 (le3 c0 c1).1) v0) (Int.dvd_trans (pow_dvd p2 p1 (le3 c0 c1).2) v1) v2
        exact use 2 d2 (by decide) hd (o2 (.inl (ne16 p0 p1 (le3 c0 c1).1 (le3 c0 c1).2 fun h => all ⟨h.2.1, h.2.2, h.1⟩)))
theorem red_cut (hs : ∀ j, j < 3 → Stk (K j) (N j) (q j)) (ha : ∀ j, j < 3 → a j ≤ (K j).length) (hq : ∀ j, j < 3 → a j ≤ q j) (h0 : numP N a < 0) : ∃ j x, j < 3 ∧ x < a j ∧ at_ (K j) x = -1 ∧ numP N a - at_ (N j) (a j) + at_ (N j) x ≤ 0 := by
  have ho : ∀ j, j < 3 → ∃ d : Int, (d = 1 ∨ d = 2 ∨ d = 4 ∨ d = 8 ∨ d = 16) ∧ d ∣ at_ (N j) (a j) ∧ (d ≠ 16 ∨ at_ (N j) (a j) < 0 → ∃ x, x < a j ∧ at_ (K j) x = -1 ∧ at_ (N j) x ≤ at_ (N j) (a j) + d) := fun j hj => by
    obtain ⟨d, h1, h2, _, h3⟩ := (hs j hj).opt (a j) (hq j hj) (ha j hj)
    exact ⟨d, h1, h2, h3⟩
  obtain ⟨d0, p0, v0, o0⟩ := ho 0 (by decide)
  obtain ⟨d1, p1, v1, o1⟩ := ho 1 (by decide)
  obtain ⟨d2, p2, v2, o2⟩ := ho 2 (by decide)
  have fin : ∀ (d : Int), 1 ≤ d → d ∣ at_ (N 0) (a 0) → d ∣ at_ (N 1) (a 1) → d ∣ at_ (N 2) (a 2) → d ≤ - numP N a := fun d hd w0 w1 w2 => by
    refine Int.le_of_dvd (by omega) (Int.dvd_neg.mpr ?_)
    unfold numP
    exact Int.dvd_add (Int.dvd_add w0 w1) w2
  have use : ∀ (j : Nat) (d : Int), j < 3 → d ≤ - numP N a → (∃ x, x < a j ∧ at_ (K j) x = -1 ∧ at_ (N j) x ≤ at_ (N j) (a j) + d) → ∃ j x, j < 3 ∧ x < a j ∧ at_ (K j) x = -1 ∧ numP N a - at_ (N j) (a j) + at_ (N j) x ≤ 0 :=
    fun j d hj hd ⟨x, e1, e2, e3⟩ => ⟨j, x, hj, e1, e2, by omega⟩
  by_cases all : d0 = 16 ∧ d1 = 16 ∧ d2 = 16
  · obtain ⟨rfl, rfl, rfl⟩ := all
    have hd := fin 16 (by decide) v0 v1 v2
    have : at_ (N 0) (a 0) < 0 ∨ at_ (N 1) (a 1) < 0 ∨ at_ (N 2) (a 2) < 0 := by unfold numP at h0; omega
    rcases this with h | h | h
    · exact use 0 16 (by decide) hd (o0 (.inr h))
    · exact use 1 16 (by decide) hd (o1 (.inr h))
    · exact use 2 16 (by decide) hd (o2 (.inr h))
  · by_cases c0 : d0 ≤ d1 ∧ d0 ≤ d2
    · have hd := fin d0 (pos16 p0) v0 (Int.dvd_trans (pow_dvd p0 p1 c0.1) v1) (Int.dvd_trans (pow_dvd p0 p2 c0.2) v2)
      exact use 0 d0 (by decide) hd (o0 (.inl (ne16 p1 p2 c0.1 c0.2 all)))
    · by_cases c1 : d1 ≤ d0 ∧ d1 ≤ d2
      · have hd := fin d1 (pos16 p1) (Int.dvd_trans (pow_dvd p1 p0 c1.1) v0) v1 (Int.dvd_trans (pow_dvd p1 p2 c1.2) v2)
        exact use 1 d1 (by decide) hd (o1 (.inl (ne16 p0 p2 c1.1 c1.2 fun h => all ⟨h.2.1, h.1, h.2.2⟩)))
      · have hd := fin d2 (pos16 p2) (Int.dvd_trans (pow_dvd p2 p0 (le3 c0 c1).1) v0) (Int.dvd_trans (pow_dvd p2 p1 (le3 c0 c1).2) v1) v2
        exact use 2 d2 (by decide) hd (o2 (.inl (ne16 p0 p1 (le3 c0 c1).1 (le3 c0 c1).2 fun h => all ⟨h.2.1, h.2.2, h.1⟩)))

/-- Left, to begin, wins just where a cut of his leads to a position that Right, to begin, loses -/
theorem left_wins (hs : ∀ j, j < 3 → Stk (K j) (N j) (q j)) (ha : ∀ j, j < 3 → a j ≤ (K j).length) : LwP N q a ↔ ∃ j x, j < 3 ∧ x < a j ∧ 0 ≤ at_ (K j) x ∧ ¬ RwP N q (upd a j x) := by
  constructor
  · intro h
    by_cases hg : ∃ j, j < 3 ∧ q j < a j
    · -- a green edge stands
      have top : 0 < numP N a → ∃ j x, j < 3 ∧ x < a j ∧ 0 ≤ at_ (K j) x ∧ ¬ RwP N q (upd a j x) := fun h0 => by
        obtain ⟨j, hj, hq⟩ := hg
        rcases (hs j hj).cut (a j) (a j - 1) (by omega) (ha j hj) with ⟨e, _⟩ | ⟨e, _⟩ | ⟨_, e2, e3⟩
        · omega
        · omega
        · refine ⟨j, a j - 1, hj, by omega, by omega, ?_⟩
          unfold RwP
          rw [num_upd hj, e3]
          omega
      rcases h with h | ⟨h1, h2⟩
      · exact top h
      · obtain ⟨j, x, hj, hx, hq, e⟩ := green_win hs ha h2
        rcases (hs j hj).cut (a j) x hx (ha j hj) with ⟨e1, _⟩ | ⟨e1, _⟩ | ⟨_, e2, e3⟩
        · omega
        · omega
        · refine ⟨j, x, hj, hx, by omega, ?_⟩
          unfold RwP
          rw [num_upd hj, e3, e]
          omega
    · have hq : ∀ j, j < 3 → a j ≤ q j := fun j hj => Nat.le_of_not_lt fun hlt => hg ⟨j, hj, hlt⟩
      rcases h with h | ⟨_, h2⟩
      · obtain ⟨j, x, hj, hx, e1, e2⟩ := blue_cut hs ha hq h
        refine ⟨j, x, hj, hx, by omega, ?_⟩
        unfold RwP
        rw [num_upd hj]
        have hz : nimP q (upd a j x) = 0 := nim_zero fun i hi => by
          by_cases hij : i = j
          · subst hij; rw [upd_same]; have := hq i hi; omega
          · rw [upd_ne hij]; exact hq i hi
        rw [hz]
        omega
      · exact absurd (nim_zero hq) h2
  · rintro ⟨j, x, hj, hx, hk, hr⟩
    refine Classical.byContradiction fun hl => hr ?_
    unfold LwP at hl
    unfold RwP
    rw [num_upd hj]
    rcases (hs j hj).cut (a j) x hx (ha j hj) with ⟨_, _, e⟩ | ⟨_, e, _⟩ | ⟨e1, _, e3⟩
    · left; omega
    · omega
    · by_cases h0 : numP N a = 0
      · have hz : nimP q a = 0 := Classical.byContradiction fun hz => hl (.inr ⟨h0, hz⟩)
        exact .inr ⟨by omega, green_lose hs ha hj hx e1 hz⟩
      · left; omega
theorem right_wins (hs : ∀ j, j < 3 → Stk (K j) (N j) (q j)) (ha : ∀ j, j < 3 → a j ≤ (K j).length) : RwP N q a ↔ ∃ j x, j < 3 ∧ x < a j ∧ at_ (K j) x ≤ 0 ∧ ¬ LwP N q (upd a j x) := by
  constructor
  · intro h
    by_cases hg : ∃ j, j < 3 ∧ q j < a j
    · have top : numP N a < 0 → ∃ j x, j < 3 ∧ x < a j ∧ at_ (K j) x ≤ 0 ∧ ¬ LwP N q (upd a j x) := fun h0 => by
        obtain ⟨j, hj, hq⟩ := hg
        rcases (hs j hj).cut (a j) (a j - 1) (by omega) (ha j hj) with ⟨e, _⟩ | ⟨e, _⟩ | ⟨_, e2, e3⟩
        · omega
        · omega
        · refine ⟨j, a j - 1, hj, by omega, by omega, ?_⟩
          unfold LwP
          rw [num_upd hj, e3]
          omega
      rcases h with h | ⟨h1, h2⟩
      · exact top h
      · obtain ⟨j, x, hj, hx, hq, e⟩ := green_win hs ha h2
        rcases (hs j hj).cut (a j) x hx (ha j hj) with ⟨e1, _⟩ | ⟨e1, _⟩ | ⟨_, e2, e3⟩
        · omega
        · omega
        · refine ⟨j, x, hj, hx, by omega, ?_⟩
          unfold LwP
          rw [num_upd hj, e3, e]
          omega
    · have hq : ∀ j, j < 3 → a j ≤ q j := fun j hj => Nat.le_of_not_lt fun hlt => hg ⟨j, hj, hlt⟩
      rcases h with h | ⟨_, h2⟩
      · obtain ⟨j, x, hj, hx, e1, e2⟩ := red_cut hs ha hq h
        refine ⟨j, x, hj, hx, by omega, ?_⟩
        unfold LwP
        rw [num_upd hj]
        have hz : nimP q (upd a j x) = 0 := nim_zero fun i hi => by
          by_cases hij : i = j
          · subst hij; rw [upd_same]; have := hq i hi; omega
          · rw [upd_ne hij]; exact hq i hi
        rw [hz]
        omega
      · exact absurd (nim_zero hq) h2
  · rintro ⟨j, x, hj, hx, hk, hr⟩
    refine Classical.byContradiction fun hl => hr ?_
    unfold RwP at hl
    unfold LwP
    rw [num_upd hj]
    rcases (hs j hj).cut (a j) x hx (ha j hj) with ⟨_, e, _⟩ | ⟨_, _, e⟩ | ⟨e1, _, e3⟩
    · omega
    · left; omega
    · by_cases h0 : numP N a = 0
      · have hz : nimP q a = 0 := Classical.byContradiction fun hz => hl (.inr ⟨h0, hz⟩)
        exact .inr ⟨by omega, green_lose hs ha hj hx e1 hz⟩
      · left; omega
end
end Mine
end
section
namespace Mine
open PySem

noncomputable def dig (m : Gm) (c : Nat) : Nat → Nat
  | 0 => c / (m.A 1 * m.A 2)
  | 1 => c / m.A 2 % m.A 1
  | 2 => c % m.A 2
  | _ => 0
theorem enc_div {A B x y z : Nat} (hy : y < A) (hz : z < B) : (x * (A * B) + y * B + z) / (A * B) = x ∧ (x * (A * B) + y * B + z) / B % A = y ∧ (x * (A * B) + y * B + z) % B = z := by
  have h1 : y * B + z < A * B := by
    have : (y + 1) * B ≤ A * B := Nat.mul_le_mul_right _ hy
    rw [Nat.add_mul] at this
    omega
  have hB : 0 < B := by omega
  have hAB : 0 < A * B := by omega
  refine ⟨?_, ?_, ?_⟩
  · rw [Nat.add_assoc, Nat.mul_comm x (A * B), Nat.mul_add_div hAB, Nat.div_eq_of_lt h1, Nat.add_zero]
  · have e : x * (A * B) + y * B + z = B * (x * A + y) + z := by
      rw [Nat.mul_add, Nat.mul_comm B (x * A), Nat.mul_assoc, Nat.mul_comm B y]
    rw [e, Nat.mul_add_div hB, Nat.div_eq_of_lt hz, Nat.add_zero, Nat.mul_comm x A, Nat.mul_add_mod, Nat.mod_eq_of_lt hy]
  · have e : x * (A * B) + y * B + z = B * (x * A + y) + z := by
      rw [Nat.mul_add, Nat.mul_comm B (x * A), Nat.mul_assoc, Nat.mul_comm B y]
    rw [e, Nat.mul_add_mod, Nat.mod_eq_of_lt hz]
theorem code_enc {A B c : Nat} : c = c / (A * B) * (A * B) + c / B % A * B + c % B := by
  have h1 := Nat.div_add_mod c B
  have h2 := Nat.div_add_mod (c / B) A
  have h3 : c / B / A = c / (A * B) := by rw [Nat.div_div_eq_div_mul, Nat.mul_comm]
  rw [h3] at h2
  have : c / (A * B) * (A * B) + c / B % A * B = B * (c / B) := by
    rw [← h2, Nat.mul_add, Nat.mul_comm B (A * (c / (A * B))), Nat.mul_comm A (c / (A * B)), Nat.mul_assoc, Nat.mul_comm B (_ % _)]
    rw [show (c / (A * B) * A + c / B % A) % A = c / B % A from by rw [Nat.mul_comm, Nat.mul_add_mod, Nat.mod_mod]]
  omega

theorem dig_upd {m : Gm} {c j x : Nat} (hj : j < 3) (hx : x < dig m c j) (h1 : 0 < m.A 1) (h2 : 0 < m.A 2) : dig m (c - (dig m c j - x) * m.w j) = upd (dig m c) j x := by
  have hc := code_enc (A := m.A 1) (B := m.A 2) (c := c)
  have b1 : c / m.A 2 % m.A 1 < m.A 1 := Nat.mod_lt _ h1
  have b2 : c % m.A 2 < m.A 2 := Nat.mod_lt _ h2
  have fin : ∀ (c' y0 y1 y2 : Nat), c' = y0 * (m.A 1 * m.A 2) + y1 * m.A 2 + y2 → y1 < m.A 1 → y2 < m.A 2 → dig m c' 0 = y0 ∧ dig m c' 1 = y1 ∧ dig m c' 2 = y2 := fun c' y0 y1 y2 e g1 g2 => by
    obtain ⟨e1, e2, e3⟩ := enc_div (x := y0) g1 g2
    rw [← e] at e1 e2 e3
    exact ⟨e1, e2, e3⟩
  have all : ∀ (c' : Nat), dig m c' 0 = upd (dig m c) j x 0 → dig m c' 1 = upd (dig m c) j x 1 → dig m c' 2 = upd (dig m c) j x 2 → dig m c' = upd (dig m c) j x := fun c' e0 e1 e2 => by
    funext i
    match i with
    | 0 => exact e0
    | 1 => exact e1
    | 2 => exact e2
    | i + 3 => rw [upd_ne (by omega)]; rfl
  have j3 : j = 0 ∨ j = 1 ∨ j = 2 := by omega
  rcases j3 with rfl | rfl | rfl
  · have hx' : x < c / (m.A 1 * m.A 2) := hx
    have e : c - (dig m c 0 - x) * m.w 0 = x * (m.A 1 * m.A 2) + c / m.A 2 % m.A 1 * m.A 2 + c % m.A 2 := by
      show c - (c / (m.A 1 * m.A 2) - x) * (m.A 1 * m.A 2) = _
      rw [Nat.sub_mul]
      have : x * (m.A 1 * m.A 2) ≤ c / (m.A 1 * m.A 2) * (m.A 1 * m.A 2) := Nat.mul_le_mul_right _ (Nat.le_of_lt hx')
      omega
    obtain ⟨f0, f1, f2⟩ := fin _ _ _ _ e b1 b2
    exact all _ (f0.trans upd_same.symm) (f1.trans (upd_ne (a := dig m c) (i := 1) (j := 0) (by decide)).symm) (f2.trans (upd_ne (a := dig m c) (i := 2) (j := 0) (by decide)).symm)
  · have hx' : x < c / m.A 2 % m.A 1 := hx
    have e : c - (dig m c 1 - x) * m.w 1 = c / (m.A 1 * m.A 2) * (m.A 1 * m.A 2) + x * m.A 2 + c % m.A 2 := by
      show c - (c / m.A 2 % m.A 1 - x) * m.A 2 = _
      rw [Nat.sub_mul]
      have : x * m.A 2 ≤ c / m.A 2 % m.A 1 * m.A 2 := Nat.mul_le_mul_right _ (Nat.le_of_lt hx')
      omega
    obtain ⟨f0, f1, f2⟩ := fin _ _ _ _ e (by omega) b2
    exact all _ (f0.trans (upd_ne (a := dig m c) (i := 0) (j := 1) (by decide)).symm) (f1.trans upd_same.symm) (f2.trans (upd_ne (a := dig m c) (i := 2) (j := 1) (by decide)).symm)
  · have hx' : x < c % m.A 2 := hx
    have e : c - (dig m c 2 - x) * m.w 2 = c / (m.A 1 * m.A 2) * (m.A 1 * m.A 2) + c / m.A 2 % m.A 1 * m.A 2 + x := by
      show c - (c % m.A 2 - x) * 1 = _
      omega
    obtain ⟨f0, f1, f2⟩ := fin _ _ _ _ e b1 (by omega)
    exact all _ (f0.trans (upd_ne (a := dig m c) (i := 0) (j := 2) (by decide)).symm) (f1.trans (upd_ne (a := dig m c) (i := 1) (j := 2) (by decide)).symm) (f2.trans upd_same.symm)

open Classical in
noncomputable def dB (p : Prop) : Bool := decide p
theorem dB_true {p : Prop} : dB p = true ↔ p := by unfold dB; simp
theorem dB_false {p : Prop} : dB p = false ↔ ¬ p := by unfold dB; simp

noncomputable def spr (g : Nat) : Int := at_ [0, 1, 4, 5, 16, 17] g

theorem cutW_true {m : Gm} {W : Nat → Bool} {sg : Int → Bool} {c j aj : Nat} : cutW m W sg c j aj = true ↔ ∃ x, x < aj ∧ sg (at_ (m.K j) x) = true ∧ W (c - (aj - x) * m.w j) = false := by
  unfold cutW
  rw [List.any_eq_true]
  constructor
  · rintro ⟨x, h1, h2⟩
    rw [Bool.and_eq_true, Bool.not_eq_true'] at h2
    exact ⟨x, List.mem_range.mp h1, h2.1, h2.2⟩
  · rintro ⟨x, h1, h2, h3⟩
    exact ⟨x, List.mem_range.mpr h1, by rw [h2, h3]; rfl⟩

/-- the law from its loop over the codes to its end -/
theorem codes_end (n : Nat) {m : Gm} (O : GmOk m) {q : Nat → Nat} (hs : ∀ j, j < 3 → Stk (m.K j) (m.N j) (q j)) (hG : ∀ j, j < 3 → ∀ h, h ≤ (m.K j).length → at_ (m.G j) h = spr (h - q j))
    (hdig : ∀ g0 g1 g2, g0 < 6 → g1 < 6 → g2 < 6 → ∃ figs, callF prog (n + 21) 1 [V.int (spr g0 + spr g1 + spr g2), V.int 2] = some (lstI figs) ∧ figs.length ≤ 1000 ∧ ((figs.map fun d => d.fmod 2).contains 1 = true ↔ g0 ^^^ g1 ^^^ g2 ≠ 0))
    {st : St} (S : SF m st) (h23 : st[23]? = some (Loc.own [])) (h24 : st[24]? = some (Loc.own [])) :
    ∃ st', seq (ex prog (n + 25)) st [Sm.for_ 25 (Ex.bi Bi.range [Ex.bin Bop.mul (Ex.idx (Ex.var 21) (Ex.int 0)) (Ex.idx (Ex.var 22) (Ex.int 0))]) bCode, Sm.ret (Ex.bool true)] = some (Fl.ret (V.bool true), st') := by
  have hA : ∀ j, j < 3 → m.A j ≤ 6 ∧ 1 ≤ m.A j := fun j hj => by have := O.k j hj; unfold Gm.A; omega
  have hw0 : m.w 0 ≤ 36 ∧ 1 ≤ m.w 0 := ⟨Nat.mul_le_mul (hA 1 (by decide)).1 (hA 2 (by decide)).1, Nat.mul_pos (hA 1 (by decide)).2 (hA 2 (by decide)).2⟩
  have hw : ∀ j, j < 3 → m.w j ≤ 36 ∧ 1 ≤ m.w j := fun j hj => by
    have j3 : j = 0 ∨ j = 1 ∨ j = 2 := by omega
    rcases j3 with rfl | rfl | rfl
    · exact hw0
    · have := hA 2 (by decide); show m.A 2 ≤ 36 ∧ 1 ≤ m.A 2; omega
    · show 1 ≤ 36 ∧ 1 ≤ 1; decide
  have htot : m.A 0 * m.w 0 ≤ 216 := Nat.mul_le_mul (hA 0 (by decide)).1 hw0.1
  have e1 : ev prog (n + 24) st (Ex.bi Bi.range [Ex.bin Bop.mul (Ex.idx (Ex.var 21) (Ex.int 0)) (Ex.idx (Ex.var 22) (Ex.int 0))]) = some (V.rng ((m.A 0 * m.w 0 : Nat) : Int)) := by
    refine e_bi (m_cons (l_of rfl (e_bin (l_of rfl (e_idx (z := (0 : Nat)) (l_var (gl_v S.s21)) e_int (small_of (by omega) (by omega)) (by rw [idx_nat]; rfl))) (l_of rfl (e_idx (z := (0 : Nat)) (l_var (gl_v S.s22)) e_int (small_of (by omega) (by omega)) (by rw [idx_nat]; rfl))) (b_mul (small_of (by omega) (by have := (hA 0 (by decide)).1; omega)) (small_of (by omega) (by omega))))) m_nil) ?_
    show (if small (((m.A 0 : Nat) : Int) * ((m.w 0 : Nat) : Int)) then some (V.rng (((m.A 0 : Nat) : Int) * ((m.w 0 : Nat) : Int))) else none) = _
    rw [← Int.natCast_mul, if_pos (small_of (by omega) (by omega))]
  have hdl : ∀ c, c < m.A 0 * m.w 0 → ∀ j, j < 3 → dig m c j < m.A j := fun c hc j hj => by
    have j3 : j = 0 ∨ j = 1 ∨ j = 2 := by omega
    rcases j3 with rfl | rfl | rfl
    · exact (Nat.div_lt_iff_lt_mul hw0.2).mpr hc
    · exact Nat.mod_lt _ (hA 1 (by decide)).2
    · exact Nat.mod_lt _ (hA 2 (by decide)).2
  have hcd : ∀ c j, j < 3 → dig m c j * m.w j ≤ c := fun c j hj => by
    have hc := code_enc (A := m.A 1) (B := m.A 2) (c := c)
    have j3 : j = 0 ∨ j = 1 ∨ j = 2 := by omega
    rcases j3 with rfl | rfl | rfl
    · exact Nat.div_mul_le_self _ _
    · show c / m.A 2 % m.A 1 * m.A 2 ≤ c
      omega
    · show c % m.A 2 * 1 ≤ c
      omega
  have hup : ∀ c j x, j < 3 → x < dig m c j → dig m (c - (dig m c j - x) * m.w j) = upd (dig m c) j x := fun c j x hj hx => dig_upd hj hx (hA 1 (by decide)).2 (hA 2 (by decide)).2
  -- the tables
  have main := loop_inv (f := fun st => seq (ex prog (n + 24)) st bCode) (x := 25) (fun k s => SF m s ∧ s[23]? = some (Loc.own (tab (fun c => dB (LwP m.N q (dig m c))) k)) ∧ s[24]? = some (Loc.own (tab (fun c => dB (RwP m.N q (dig m c))) k))) (rngV (m.A 0 * m.w 0)) 0 (st := st)
    (fun i v s hi ⟨S, b1, b2⟩ => by
      obtain ⟨hlt, rfl⟩ := rng_get hi
      rw [Nat.zero_add] at b1 b2 ⊢
      have hda : ∀ j, j < 3 → dig m i j ≤ (m.K j).length := fun j hj => by have := hdl i hlt j hj; unfold Gm.A at this; omega
      have hL := left_wins (K := m.K) (N := m.N) (q := q) (a := dig m i) hs hda
      have hR := right_wins (K := m.K) (N := m.N) (q := q) (a := dig m i) hs hda
      have h6 : ∀ j, j < 3 → dig m i j - q j < 6 := fun j hj => by have := hda j hj; have := O.k j hj; omega
      obtain ⟨figs, g1, g2, g3⟩ := hdig _ _ _ (h6 0 (by decide)) (h6 1 (by decide)) (h6 2 (by decide))
      have cutL : ∀ {W : Nat → Bool} {P : (Nat → Nat) → Prop} {sg : Int → Bool} {T : Int → Prop}, (∀ c, W c = dB (P (dig m c))) → (∀ z, sg z = true ↔ T z) →
          ((cutW m W sg i 0 (dig m i 0) || cutW m W sg i 1 (dig m i 1) || cutW m W sg i 2 (dig m i 2)) = true ↔ ∃ j x, j < 3 ∧ x < dig m i j ∧ T (at_ (m.K j) x) ∧ ¬ P (upd (dig m i) j x)) := by
        intro W P sg T hW hT
        have one : ∀ j, j < 3 → (cutW m W sg i j (dig m i j) = true ↔ ∃ x, x < dig m i j ∧ T (at_ (m.K j) x) ∧ ¬ P (upd (dig m i) j x)) := fun j hj => by
          rw [cutW_true]
          constructor
          · rintro ⟨x, k1, k2, k3⟩
            rw [hW, dB_false, hup i j x hj k1] at k3
            exact ⟨x, k1, (hT _).mp k2, k3⟩
          · rintro ⟨x, k1, k2, k3⟩
            exact ⟨x, k1, (hT _).mpr k2, by rw [hW, dB_false, hup i j x hj k1]; exact k3⟩
        rw [Bool.or_eq_true, Bool.or_eq_true, one 0 (by decide), one 1 (by decide), one 2 (by decide)]
        constructor
        · rintro ((⟨x, k⟩ | ⟨x, k⟩) | ⟨x, k⟩)
          · exact ⟨0, x, by decide, k⟩
          · exact ⟨1, x, by decide, k⟩
          · exact ⟨2, x, by decide, k⟩
        · rintro ⟨j, x, hj, k⟩
          have j3 : j = 0 ∨ j = 1 ∨ j = 2 := by omega
          rcases j3 with rfl | rfl | rfl
          · exact .inl (.inl ⟨x, k⟩)
          · exact .inl (.inr ⟨x, k⟩)
          · exact .inr ⟨x, k⟩
      refine code_step (n := n) O S (c := i) (a := dig m i) (Lw := fun c => dB (LwP m.N q (dig m c))) (Rw := fun c => dB (RwP m.N q (dig m c))) (figs := figs) b1 b2 rfl rfl rfl (hdl i hlt) (by omega) (hcd i) hw
        ?_ ?_ (num := numP m.N (dig m i)) rfl rfl ?_ ?_ ?_ ?_
      · rw [Bool.eq_iff_iff, dB_true, hL, cutL (P := RwP m.N q) (T := fun z => 0 ≤ z) (fun _ => rfl) (fun z => decide_eq_true_iff)]
      · rw [Bool.eq_iff_iff, dB_true, hR, cutL (P := LwP m.N q) (T := fun z => z ≤ 0) (fun _ => rfl) (fun z => decide_eq_true_iff)]
      · rw [Bool.eq_iff_iff, Bool.and_eq_true, Bool.not_eq_true', dB_true, dB_false, decide_eq_true_iff]
        unfold LwP RwP
        omega
      · have h9 : (dB (LwP m.N q (dig m i)) = dB (RwP m.N q (dig m i))) ↔ numP m.N (dig m i) = 0 := by
          rw [Bool.eq_iff_iff, dB_true, dB_true]
          unfold LwP RwP
          omega
        by_cases h : numP m.N (dig m i) = 0
        · rw [decide_eq_true h, h9.mpr h, beq_self_eq_true]
        · rw [decide_eq_false h]
          exact (beq_eq_false_iff_ne.mpr fun e => h (h9.mp e)).symm
      · rw [Bool.eq_iff_iff, Bool.or_eq_true, Bool.not_eq_true', dB_true, dB_false, decide_eq_true_iff]
        unfold LwP RwP
        omega
      · intro hEq
        have h0 : numP m.N (dig m i) = 0 := by
          rw [Bool.eq_iff_iff, dB_true, dB_true] at hEq
          unfold LwP RwP at hEq
          omega
        refine ⟨?_, g2, ?_⟩
        · rw [hG 0 (by decide) _ (hda 0 (by decide)), hG 1 (by decide) _ (hda 1 (by decide)), hG 2 (by decide) _ (hda 2 (by decide))]
          exact g1
        · rw [Bool.eq_iff_iff, dB_true, g3]
          unfold LwP nimP
          constructor
          · rintro (h | h)
            · omega
            · exact h.2
          · exact fun h => .inr ⟨h0, h⟩)
    ⟨S, h23, h24⟩
  obtain ⟨st', q1, _⟩ := main
  exact ⟨st', q_cons (x_for e1 (items_rng (small_of (by omega) (by omega))) q1) (q_ret (n := n + 24) e_bool)⟩
end Mine
end
section
namespace Mine
open PySem

/-- blue and red edges alone -/
noncomputable def Pm (S : List Int) : Prop := ∀ s ∈ S, s = 1 ∨ s = -1
noncomputable def stalk (S : List Int) (g : Nat) : List Int := S ++ List.replicate g 0

theorem stalk_len {S : List Int} {g : Nat} : (stalk S g).length = S.length + g := by unfold stalk; rw [List.length_append, List.length_replicate]
theorem last_stalk {S : List Int} {g : Nat} (h : Pm S) : ∃ z : Int, idx (V.int 1 :: (stalk S g).map V.int) (-1) = some (V.int z) ∧ ((g = 0 ∧ (z = 1 ∨ z = -1)) ∨ (0 < g ∧ z = 0)) := by
  have hl : (V.int 1 :: (stalk S g).map V.int).length = S.length + g + 1 := by rw [List.length_cons, List.length_map, stalk_len]
  have e : ∀ L : List V, 1 ≤ L.length → idx L (-1) = L[L.length - 1]? := fun L hL => by
    unfold idx
    rw [if_pos (by decide), if_pos (by omega)]
    congr 1
    omega
  rw [e _ (by rw [hl]; omega), hl]
  show ∃ z : Int, (V.int 1 :: (stalk S g).map V.int)[S.length + g]? = some (V.int z) ∧ _
  have e2 : (V.int 1 :: (stalk S g).map V.int) = ((1 : Int) :: stalk S g).map V.int := rfl
  rw [e2, List.getElem?_map]
  by_cases hg : g = 0
  · subst hg
    have e3 : stalk S 0 = S := by unfold stalk; simp
    rw [e3, Nat.add_zero]
    cases hS : S with
    | nil => exact ⟨1, rfl, .inl ⟨rfl, .inl rfl⟩⟩
    | cons s r =>
      have hlt : r.length < (s :: r).length := by simp
      refine ⟨(s :: r)[r.length], ?_, .inl ⟨rfl, h _ (by rw [hS]; exact List.getElem_mem hlt)⟩⟩
      rw [List.length_cons, List.getElem?_cons_succ, List.getElem?_eq_getElem hlt]; rfl
  · refine ⟨0, ?_, .inr ⟨by omega, rfl⟩⟩
    obtain ⟨k, rfl⟩ : ∃ k, g = k + 1 := ⟨g - 1, by omega⟩
    rw [show S.length + (k + 1) = S.length + k + 1 by omega, List.getElem?_cons_succ]
    unfold stalk
    rw [List.getElem?_append_right (by omega), show S.length + k - S.length = k by omega, List.getElem?_replicate]
    simp

/-- the loop that makes a stalk of a row -/
theorem kind_loop {p : Prog} (n : Nat) : ∀ {ρ S : List Int} {g : Nat} {st : St}, st.length = 35 → (∀ k ∈ ρ, k = 1 ∨ k = -1 ∨ k = 0) → Pm S → S.length + g + ρ.length ≤ 5 → st[17]? = some (Loc.own ((stalk S g).map V.int)) →
    ∃ S' g' st', forLoop (fun st => seq (ex p (n + 20)) st bKind) 18 st (ρ.map V.int) = some (Fl.nx, st') ∧ Pm S' ∧ S'.length + g' = S.length + g + ρ.length ∧ Agr [17, 18] st st' ∧ st'[17]? = some (Loc.own ((stalk S' g').map V.int))
  | [], S, g, st, hl, _, hS, _, h17 => ⟨S, g, st, rfl, hS, rfl, Agr.refl, h17⟩
  | k :: ρ, S, g, st, hl, hk, hS, hb, h17 => by
    have hk0 := hk k (List.mem_cons_self ..)
    obtain ⟨z, e1, e2⟩ := last_stalk (g := g) hS
    have a1 : Agr [17, 18] st (st.set 18 (Loc.val (V.int k))) := Agr.refl.set (by decide)
    have k17 := gn (m := Loc.val (V.int k)) (show 18 ≠ 17 by decide) h17
    have k18 : (st.set 18 (Loc.val (V.int k)))[18]? = some (Loc.val (V.int k)) := ge (by omega)
    have hz : small (if z < 0 then -z else z) = true := small_of (by omega) (by omega)
    have eE : ev p (n + 19) (st.set 18 (Loc.val (V.int k))) (Ex.bin Bop.mul (Ex.var 18) (Ex.bi Bi.abs [Ex.idx (Ex.bin Bop.add (Ex.lst [Ex.int 1]) (Ex.var 17)) (Ex.neg (Ex.int 1))])) = some (V.int (k * (if z < 0 then -z else z))) := by
      refine e_bin (l_var (gl_v k18)) (l_of rfl (e_bi (m_cons (l_of rfl (e_idx (z := -1) (l_of rfl (e_bin (l_of rfl (e_lst (m_cons e_int m_nil) (by decide))) (l_var (gl_o k17)) ?_)) (e_neg e_int) (small_of (by omega) (by omega)) e1)) m_nil) rfl)) (b_mul (small_of (by omega) (by omega)) hz)
      show (if ([V.int 1] : List V).length + ((stalk S g).map V.int).length ≤ 1000 then some (V.lst ([V.int 1] ++ (stalk S g).map V.int)) else none) = _
      rw [if_pos (by rw [List.length_map, stalk_len]; simp at hb ⊢; omega)]
      rfl
    have xE := x_app (p := p) (n := n + 19) (x := 17) (go k17) eE (by rw [List.length_map, stalk_len]; simp at hb; omega)
    have next : ∃ S1 g1, Pm S1 ∧ S1.length + g1 = S.length + g + 1 ∧ (stalk S g).map V.int ++ [V.int (k * (if z < 0 then -z else z))] = (stalk S1 g1).map V.int := by
      rcases e2 with ⟨rfl, hz1⟩ | ⟨hg, rfl⟩
      · have hab : (if z < 0 then -z else z) = 1 := by rcases hz1 with rfl | rfl <;> rfl
        rw [hab, Int.mul_one]
        by_cases h0 : k = 0
        · subst h0
          exact ⟨S, 1, hS, by omega, by unfold stalk; simp⟩
        · refine ⟨S ++ [k], 0, fun s hs => ?_, by simp, by unfold stalk; simp⟩
          rcases List.mem_append.mp hs with hs | hs
          · exact hS s hs
          · rw [List.mem_singleton.mp hs]
            omega
      · refine ⟨S, g + 1, hS, by omega, ?_⟩
        rw [show k * (if (0 : Int) < 0 then -0 else 0) = 0 by simp]
        unfold stalk
        rw [List.replicate_succ', ← List.append_assoc, List.map_append, List.map_append, List.map_append]
        rfl
    obtain ⟨S1, g1, p1, l1, m1⟩ := next
    rw [m1] at xE
    have k17' : ((st.set 18 (Loc.val (V.int k))).set 17 (Loc.own ((stalk S1 g1).map V.int)))[17]? = some (Loc.own ((stalk S1 g1).map V.int)) := ge (by rw [List.length_set]; omega)
    obtain ⟨S', g', st', q1, q2, q3, q4, q5⟩ := kind_loop (p := p) n (ρ := ρ) (S := S1) (g := g1) (st := (st.set 18 (Loc.val (V.int k))).set 17 (Loc.own ((stalk S1 g1).map V.int))) (by rw [List.length_set, List.length_set]; exact hl)
      (fun x hx => hk x (List.mem_cons_of_mem _ hx)) p1 (by simp at hb; omega) k17'
    exact ⟨S', g', st', loop_cons (q_cons xE q_nil) q1, q2, by rw [q3, l1]; simp; omega, (a1.set (by decide)).trans q4, q5⟩

theorem compL_filter {p : Prog} (n : Nat) : ∀ {L : List Int}, compL (cndF p (n + 4) [] (some (Ex.cmp Cop.ne (Ex.var 0) (Ex.int 0)))) (fun v => ev p (n + 4) (Loc.val v :: []) (Ex.var 0)) (L.map V.int) = some ((L.filter fun z => z != 0).map V.int)
  | [] => rfl
  | z :: L => by
    have h1 : cndF p (n + 4) [] (some (Ex.cmp Cop.ne (Ex.var 0) (Ex.int 0))) (V.int z) = some (z != 0) := by
      show evT p (n + 4) (Loc.val (V.int z) :: []) (Ex.cmp Cop.ne (Ex.var 0) (Ex.int 0)) = some (z != 0)
      exact t_cmp (q := Cop.ne) (u := V.int z) (v := V.int 0) (l_var (gl_v rfl)) (l_of rfl e_int) rfl
    have h2 : ev p (n + 4) (Loc.val (V.int z) :: []) (Ex.var 0) = some (V.int z) := e_var (gv rfl)
    have h3 := compL_filter (p := p) n (L := L)
    rw [List.map_cons]
    unfold compL
    rw [h1]
    cases hz : z != 0 with
    | true =>
      simp only [h2, h3]
      rw [List.filter_cons_of_pos (p := fun z => z != 0) hz]; rfl
    | false =>
      simp only [h3]
      rw [List.filter_cons_of_neg (p := fun z => z != 0) (by rw [hz]; exact Bool.false_ne_true)]
theorem filter_stalk {S : List Int} {g : Nat} (h : Pm S) : (stalk S g).filter (fun z => z != 0) = S := by
  unfold stalk
  rw [List.filter_append, List.filter_eq_self.mpr, List.filter_eq_nil_iff.mpr, List.append_nil]
  · intro a ha
    have := List.eq_of_mem_replicate ha
    subst this; decide
  · intro a ha
    rcases h a ha with rfl | rfl <;> decide

theorem eqs_self : ∀ {L : List Int}, eqs (L.map V.int) (L.map V.int) = some true
  | [] => rfl
  | x :: L => by
    have := eqs_self (L := L)
    simp only [List.map_cons, eqs, eqE, this, beq_self_eq_true, Bool.and_self]
theorem ne_self {L : List Int} : cmp Cop.ne (lstI L) (lstI L) = some false := by
  show (veq (V.lst (L.map V.int)) (V.lst (L.map V.int))).map (!·) = _
  have : veq (V.lst (L.map V.int)) (V.lst (L.map V.int)) = some true := by
    show (if (L.map V.int).length == (L.map V.int).length then eqs (L.map V.int) (L.map V.int) else some false) = _
    rw [beq_self_eq_true, if_pos rfl, eqs_self]
  rw [this]; rfl

/-- what a stalk's kernel-checked calls answer -/
structure Calls (n : Nat) (num : List Int → Int) : Prop where
  num1 : ∀ S, Pm S → S.length ≤ 5 → callF prog (n + 19) 11 [lstI S] = some (V.int (num S))
  num2 : ∀ S, Pm S → S.length ≤ 5 → callF prog (n + 21) 11 [lstI S] = some (V.int (num S))
  sgn : ∀ S, Pm S → S.length ≤ 5 → callF prog (n + 20) 12 [V.int (num S)] = some (lstI S)
  grn : ∀ g, g < 6 → ∃ b, callF prog (n + 20) 1 [V.int (g : Nat), V.int 1] = some (lstI b) ∧ callF prog (n + 21) 2 [lstI b, V.int 2] = some (V.int (spr g))

noncomputable def numsOf (num : List Int → Int) (S : List Int) (g : Nat) : List Int := (List.range (S.length + g + 1)).map fun h => num (S.take h)
noncomputable def grnsOf (S : List Int) (g : Nat) : List Int := (List.range (S.length + g + 1)).map fun h => spr (h - S.length)

theorem rngV_map {n : Nat} {f : V → V} {k : Nat → Int} (h : ∀ i, i < n → f (V.int (i : Nat)) = V.int (k i)) : (rngV n).map f = ((List.range n).map k).map V.int := by
  unfold rngV
  rw [List.map_map, List.map_map]
  refine List.map_congr_left fun i hi => ?_
  exact h i (List.mem_range.mp hi)

theorem clampI_nat {i n : Nat} : clampI (i : Int) n = min i n := by
  unfold clampI
  rw [if_neg (by omega)]
  rfl

/-- the turn of the loop over the rows -/
theorem row_step (n : Nat) {num : List Int → Int} (C : Calls n num) {st : St} (hl : st.length = 35) {ρ : List Int} (hρ : ∀ k ∈ ρ, k = 1 ∨ k = -1 ∨ k = 0) (hb : ρ.length ≤ 5) {X Y Z : List V} (hX : X.length ≤ 3) (hY : Y.length ≤ 3) (hZ : Z.length ≤ 3)
    (h13 : st[13]? = some (Loc.own X)) (h14 : st[14]? = some (Loc.own Y)) (h15 : st[15]? = some (Loc.own Z)) (h16 : st[16]? = some (Loc.val (lstI ρ))) :
    ∃ S g st', seq (ex prog (n + 24)) st bRow = some (Fl.nx, st') ∧ Pm S ∧ S.length + g = ρ.length ∧ st'.length = 35 ∧ st'[13]? = some (Loc.own (X ++ [lstI (stalk S g)])) ∧ st'[14]? = some (Loc.own (Y ++ [lstI (numsOf num S g)])) ∧ st'[15]? = some (Loc.own (Z ++ [lstI (grnsOf S g)])) := by
  have x1 : ex prog (n + 24) st (Sm.asgo 17 (Ex.lst [])) = some (Fl.nx, st.set 17 (Loc.own [])) := x_asgo rfl (e_lst (n := n + 22) m_nil (by decide))
  have a1 : Agr [17, 18] st (st.set 17 (Loc.own [])) := Agr.refl.set (by decide)
  have l17 : (st.set 17 (Loc.own []))[17]? = some (Loc.own ((stalk [] 0).map V.int)) := ge (by omega)
  obtain ⟨S, g, s2, q1, pS, lS, a2, k17⟩ := kind_loop (p := prog) (n + 3) (ρ := ρ) (S := []) (g := 0) (st := st.set 17 (Loc.own [])) (by rw [List.length_set]; exact hl) hρ (fun s hs => by cases hs) (by simpa using hb) l17
  have lS' : S.length + g = ρ.length := by simpa using lS
  have x2 : ex prog (n + 24) (st.set 17 (Loc.own [])) (Sm.for_ 18 (Ex.var 16) bKind) = some (Fl.nx, s2) := x_for (e_var (gv (gn (by decide) h16))) rfl q1
  have A := a1.trans a2
  have b13 := A.get (by decide) h13
  have b14 := A.get (by decide) h14
  have b15 := A.get (by decide) h15
  have len2 : s2.length = 35 := A.1.trans hl
  have e3 : ev prog (n + 23) s2 (Ex.comp (Ex.var 0) (some (Ex.cmp Cop.ne (Ex.var 0) (Ex.int 0))) (Ex.var 17) []) = some (V.lst (S.map V.int)) := by
    have := compL_filter (p := prog) (n + 18) (L := stalk S g)
    rw [filter_stalk pS] at this
    exact e_comp (cs := []) (l_var (gl_o k17)) rfl rfl (by rw [List.length_map, stalk_len]; omega) rfl this
  have x3 := x_asg (x := 19) e3
  have c19 : (s2.set 19 (Loc.val (V.lst (S.map V.int))))[19]? = some (Loc.val (lstI S)) := ge (by omega)
  have c17 := gn (m := Loc.val (V.lst (S.map V.int))) (show 19 ≠ 17 by decide) k17
  have c13 := gn (m := Loc.val (V.lst (S.map V.int))) (show 19 ≠ 13 by decide) b13
  have c14 := gn (m := Loc.val (V.lst (S.map V.int))) (show 19 ≠ 14 by decide) b14
  have c15 := gn (m := Loc.val (V.lst (S.map V.int))) (show 19 ≠ 15 by decide) b15
  have len3 : (s2.set 19 (Loc.val (V.lst (S.map V.int)))).length = 35 := by rw [List.length_set]; exact len2
  generalize s2.set 19 (Loc.val (V.lst (S.map V.int))) = s3 at x3 c19 c17 c13 c14 c15 len3
  have hS5 : S.length ≤ 5 := by omega
  have x4 : ex prog (n + 24) s3 (Sm.ite (Ex.cmp Cop.ne (Ex.call 12 [Ex.call 11 [Ex.var 19]]) (Ex.var 19)) [Sm.ret (Ex.bool false)] []) = some (Fl.nx, s3) :=
    x_iteF (t_cmp (l_of rfl (e_call (m_cons (e_call (m_cons (e_var (gv c19)) m_nil) (C.num1 S pS hS5)) m_nil) (C.sgn S pS hS5))) (l_var (gl_v c19)) ne_self) q_nil
  have x5 : ex prog (n + 24) s3 (Sm.frz 17) = some (Fl.nx, s3.set 17 (Loc.val (lstI (stalk S g)))) := x_frz c17
  have d17 : (s3.set 17 (Loc.val (lstI (stalk S g))))[17]? = some (Loc.val (lstI (stalk S g))) := ge (by omega)
  have d19 := gn (m := Loc.val (lstI (stalk S g))) (show 17 ≠ 19 by decide) c19
  have d13 := gn (m := Loc.val (lstI (stalk S g))) (show 17 ≠ 13 by decide) c13
  have d14 := gn (m := Loc.val (lstI (stalk S g))) (show 17 ≠ 14 by decide) c14
  have d15 := gn (m := Loc.val (lstI (stalk S g))) (show 17 ≠ 15 by decide) c15
  have len5 : (s3.set 17 (Loc.val (lstI (stalk S g)))).length = 35 := by rw [List.length_set]; exact len3
  generalize s3.set 17 (Loc.val (lstI (stalk S g))) = s5 at x5 d17 d19 d13 d14 d15 len5
  have x6 := x_app (p := prog) (n := n + 23) (x := 13) (go d13) (e_var (n := n + 22) (gv d17)) (by omega)
  have f13 : (s5.set 13 (Loc.own (X ++ [lstI (stalk S g)])))[13]? = some (Loc.own (X ++ [lstI (stalk S g)])) := ge (by omega)
  have f17 := gn (m := Loc.own (X ++ [lstI (stalk S g)])) (show 13 ≠ 17 by decide) d17
  have f19 := gn (m := Loc.own (X ++ [lstI (stalk S g)])) (show 13 ≠ 19 by decide) d19
  have f14 := gn (m := Loc.own (X ++ [lstI (stalk S g)])) (show 13 ≠ 14 by decide) d14
  have f15 := gn (m := Loc.own (X ++ [lstI (stalk S g)])) (show 13 ≠ 15 by decide) d15
  have len6 : (s5.set 13 (Loc.own (X ++ [lstI (stalk S g)]))).length = 35 := by rw [List.length_set]; exact len5
  generalize s5.set 13 (Loc.own (X ++ [lstI (stalk S g)])) = s6 at x6 f13 f17 f19 f14 f15 len6
  have hsm : small (((stalk S g).length : Int) + 1) = true := small_of (by omega) (by rw [stalk_len]; omega)
  have e7 : ev prog (n + 23) s6 (Ex.bi Bi.range [Ex.bin Bop.add (Ex.bi Bi.len [Ex.var 17]) (Ex.int 1)]) = some (V.rng ((S.length + g + 1 : Nat) : Int)) := by
    refine e_bi (m_cons (l_of rfl (e_bin (u := V.int (stalk S g).length) (l_of rfl (e_bi (m_cons (l_var (gl_v f17)) m_nil) ?_)) (l_of rfl e_int) rfl)) m_nil) ?_
    · show (if ((stalk S g).map V.int).length ≤ 100000 then some (V.int (((stalk S g).map V.int).length : Nat)) else none) = _
      rw [if_pos (by rw [List.length_map, stalk_len]; omega), List.length_map]
    · show (if small (((stalk S g).length : Int) + 1) then some (V.rng (((stalk S g).length : Int) + 1)) else none) = _
      rw [if_pos hsm, stalk_len]; rfl
  have x7 := x_asg (x := 20) e7
  have g20 : (s6.set 20 (Loc.val (V.rng ((S.length + g + 1 : Nat) : Int))))[20]? = some (Loc.val (V.rng ((S.length + g + 1 : Nat) : Int))) := ge (by omega)
  have g13 := gn (m := Loc.val (V.rng ((S.length + g + 1 : Nat) : Int))) (show 20 ≠ 13 by decide) f13
  have g19 := gn (m := Loc.val (V.rng ((S.length + g + 1 : Nat) : Int))) (show 20 ≠ 19 by decide) f19
  have g14 := gn (m := Loc.val (V.rng ((S.length + g + 1 : Nat) : Int))) (show 20 ≠ 14 by decide) f14
  have g15 := gn (m := Loc.val (V.rng ((S.length + g + 1 : Nat) : Int))) (show 20 ≠ 15 by decide) f15
  have len7 : (s6.set 20 (Loc.val (V.rng ((S.length + g + 1 : Nat) : Int)))).length = 35 := by rw [List.length_set]; exact len6
  generalize s6.set 20 (Loc.val (V.rng ((S.length + g + 1 : Nat) : Int))) = s7 at x7 g20 g13 g19 g14 g15 len7
  have hsm2 : small ((S.length + g + 1 : Nat) : Int) = true := small_of (by omega) (by omega)
  have caps7 : ∀ {s : St}, s[19]? = some (Loc.val (lstI S)) → caps s [19] = some [Loc.val (lstI S)] := fun h => by simp [caps, h]
  have e8 : ev prog (n + 23) s7 (Ex.comp (Ex.call 11 [Ex.slc (Ex.var 1) none (some (Ex.var 0))]) none (Ex.var 20) [19]) = some (V.lst ((numsOf num S g).map V.int)) := by
    refine e_comp (cs := [Loc.val (lstI S)]) (l_var (gl_v g20)) (items_rng hsm2) (caps7 g19) (by rw [rng_len]; omega) rfl ?_
    have := compL_map (p := prog) (n := n + 22) (cs := [Loc.val (lstI S)]) (f := fun v => ev prog (n + 22) (Loc.val v :: [Loc.val (lstI S)]) (Ex.call 11 [Ex.slc (Ex.var 1) none (some (Ex.var 0))])) (g := fun v => match v with | V.int h => V.int (num (S.take h.toNat)) | v => v) (vs := rngV (S.length + g + 1)) (fun v hv => by
      obtain ⟨i, hi⟩ := List.mem_iff_getElem?.mp hv
      obtain ⟨hlt, rfl⟩ := rng_get hi
      have hsl : slc (S.map V.int) none (some (i : Int)) = (S.take i).map V.int := by
        show ((S.map V.int).drop 0).take (clampI (i : Int) (S.map V.int).length - 0) = _
        rw [clampI_nat, List.drop_zero, Nat.sub_zero, List.length_map, ← List.map_take]
        congr 1
        by_cases h : i ≤ S.length
        · rw [Nat.min_eq_left h]
        · rw [Nat.min_eq_right (by omega), List.take_of_length_le (Nat.le_refl _), List.take_of_length_le (by omega)]
      have hs := e_slc (p := prog) (n := n + 20) (st := Loc.val (V.int i) :: [Loc.val (lstI S)]) (e := Ex.var 1) (lo := none) (hi := some (Ex.var 0)) (vs := S.map V.int) (y := none) (z := some (i : Int)) (l_var (gl_v rfl)) o_none (o_some (e_var (gv rfl)) (small_of (by omega) (by omega))) (by rw [List.length_map]; omega)
      rw [hsl] at hs
      exact e_call (m_cons hs m_nil) (C.num2 (S.take i) (fun s h => pS s (List.mem_of_mem_take h)) (by rw [List.length_take]; omega)))
    rw [this, rngV_map (k := fun h => num (S.take h)) (fun i _ => rfl)]
    rfl
  have x8 := x_app (p := prog) (n := n + 23) (x := 14) (go g14) e8 (by omega)
  have i14 : (s7.set 14 (Loc.own (Y ++ [lstI (numsOf num S g)])))[14]? = some (Loc.own (Y ++ [lstI (numsOf num S g)])) := ge (by omega)
  have i13 := gn (m := Loc.own (Y ++ [lstI (numsOf num S g)])) (show 14 ≠ 13 by decide) g13
  have i19 := gn (m := Loc.own (Y ++ [lstI (numsOf num S g)])) (show 14 ≠ 19 by decide) g19
  have i15 := gn (m := Loc.own (Y ++ [lstI (numsOf num S g)])) (show 14 ≠ 15 by decide) g15
  have i20 := gn (m := Loc.own (Y ++ [lstI (numsOf num S g)])) (show 14 ≠ 20 by decide) g20
  have len8 : (s7.set 14 (Loc.own (Y ++ [lstI (numsOf num S g)]))).length = 35 := by rw [List.length_set]; exact len7
  have x8' : ex prog (n + 24) s7 (Sm.app 14 (Ex.comp (Ex.call 11 [Ex.slc (Ex.var 1) none (some (Ex.var 0))]) none (Ex.var 20) [19])) = some (Fl.nx, s7.set 14 (Loc.own (Y ++ [lstI (numsOf num S g)]))) := x8
  generalize s7.set 14 (Loc.own (Y ++ [lstI (numsOf num S g)])) = s8 at x8' i14 i13 i19 i15 i20 len8
  have e9 : ev prog (n + 23) s8 (Ex.comp (Ex.call 2 [Ex.call 1 [Ex.bi Bi.max [Ex.int 0, Ex.bin Bop.sub (Ex.var 0) (Ex.bi Bi.len [Ex.var 1])], Ex.int 1], Ex.int 2]) none (Ex.var 20) [19]) = some (V.lst ((grnsOf S g).map V.int)) := by
    refine e_comp (cs := [Loc.val (lstI S)]) (l_var (gl_v i20)) (items_rng hsm2) (caps7 i19) (by rw [rng_len]; omega) rfl ?_
    have := compL_map (p := prog) (n := n + 22) (cs := [Loc.val (lstI S)]) (f := fun v => ev prog (n + 22) (Loc.val v :: [Loc.val (lstI S)]) (Ex.call 2 [Ex.call 1 [Ex.bi Bi.max [Ex.int 0, Ex.bin Bop.sub (Ex.var 0) (Ex.bi Bi.len [Ex.var 1])], Ex.int 1], Ex.int 2])) (g := fun v => match v with | V.int h => V.int (spr (h.toNat - S.length)) | v => v) (vs := rngV (S.length + g + 1)) (fun v hv => by
      obtain ⟨i, hi⟩ := List.mem_iff_getElem?.mp hv
      obtain ⟨hlt, rfl⟩ := rng_get hi
      obtain ⟨b, g1, g2⟩ := C.grn (i - S.length) (by omega)
      refine e_call (m_cons (e_call (m_cons (e_bi (m_cons (l_of rfl e_int) (m_cons (l_of rfl (e_bin (u := V.int i) (v := V.int S.length) (l_var (gl_v rfl)) (l_of rfl (e_bi (m_cons (l_var (gl_v rfl)) m_nil) ?_)) rfl)) m_nil)) ?_) (m_cons e_int m_nil)) g1) (m_cons e_int m_nil)) g2
      · show (if (S.map V.int).length ≤ 100000 then some (V.int ((S.map V.int).length : Nat)) else none) = _
        rw [if_pos (by rw [List.length_map]; omega), List.length_map]
      · show some (V.int (if (i : Int) - (S.length : Int) > 0 then (i : Int) - (S.length : Int) else 0)) = some (V.int ((i - S.length : Nat) : Int))
        congr 2
        split <;> omega)
    rw [this, rngV_map (k := fun h => spr (h - S.length)) (fun i _ => rfl)]
    rfl
  have x9 := x_app (p := prog) (n := n + 23) (x := 15) (go i15) e9 (by omega)
  refine ⟨S, g, _, q_cons x1 (q_cons x2 (q_cons x3 (q_cons x4 (q_cons x5 (q_cons x6 (q_cons x7 (q_cons x8' (q_cons x9 q_nil)))))))), pS, lS', by rw [List.length_set]; exact len8, gn (by decide) i13, gn (by decide) i14, ge (by omega)⟩
end Mine
end
section
namespace Mine
open PySem

noncomputable def half : List Int → Int → Int
  | [], _ => 0
  | x :: r, w => x * w + half r (w / 2)
/-- a stalk's number in 16ths -/
noncomputable def numS : List Int → Int
  | [] => 0
  | s :: r => s * 16 * (1 + (r.takeWhile (· == s)).length) + half (r.dropWhile (· == s)) 8
noncomputable def allS : Nat → List (List Int)
  | 0 => [[]]
  | n + 1 => [] :: (allS n).flatMap fun l => [1 :: l, -1 :: l]
theorem mem_allS : ∀ {n : Nat} {S : List Int}, Pm S → S.length ≤ n → S ∈ allS n
  | 0, [], _, _ => List.mem_singleton.mpr rfl
  | 0, _ :: _, _, h => by simp at h
  | n + 1, [], _, _ => List.mem_cons_self ..
  | n + 1, s :: r, h, hl => by
    have h1 := mem_allS (n := n) (S := r) (fun x hx => h x (List.mem_cons_of_mem _ hx)) (by simpa using hl)
    refine List.mem_cons_of_mem _ (List.mem_flatMap.mpr ⟨r, h1, ?_⟩)
    rcases h s (List.mem_cons_self ..) with rfl | rfl
    · exact List.mem_cons_self ..
    · exact List.mem_cons_of_mem _ (List.mem_cons_self ..)

set_option maxRecDepth 100000 in
theorem num_cut : ∀ S ∈ allS 5, ∀ h ∈ List.range (S.length + 1), ∀ x ∈ List.range h, (at_ S x = 1 ∧ numS (S.take x) < numS (S.take h)) ∨ (at_ S x = -1 ∧ numS (S.take h) < numS (S.take x)) := by decide +kernel
set_option maxRecDepth 100000 in
theorem num_opt : ∀ S ∈ allS 5, ∀ h ∈ List.range (S.length + 1), ∃ d ∈ [(1 : Int), 2, 4, 8, 16], numS (S.take h) % d = 0 ∧
    (d ≠ 16 ∨ 0 < numS (S.take h) → ∃ x ∈ List.range h, at_ S x = 1 ∧ numS (S.take h) - d ≤ numS (S.take x)) ∧ (d ≠ 16 ∨ numS (S.take h) < 0 → ∃ x ∈ List.range h, at_ S x = -1 ∧ numS (S.take x) ≤ numS (S.take h) + d) := by decide +kernel

theorem at_map {f : Nat → Int} {n k : Nat} (h : k < n) : at_ ((List.range n).map f) k = f k := by
  unfold at_
  rw [List.getElem?_map, List.getElem?_range h]; rfl
theorem at_stalk {S : List Int} {g x : Nat} : at_ (stalk S g) x = if x < S.length then at_ S x else 0 := by
  unfold at_ stalk
  split
  · rename_i h
    rw [List.getElem?_append_left h]
  · rename_i h
    rw [List.getElem?_append_right (by omega), List.getElem?_replicate]
    split <;> rfl
theorem stk_of {S : List Int} {g : Nat} (h : Pm S) (hl : S.length + g ≤ 5) : Stk (stalk S g) (numsOf numS S g) S.length where
  len := by rw [stalk_len]; exact hl
  cut := fun k x hx hk => by
    rw [stalk_len] at hk
    have hm := mem_allS (n := 5) h (by omega)
    have e1 : at_ (numsOf numS S g) x = numS (S.take x) := at_map (by omega)
    have e2 : at_ (numsOf numS S g) k = numS (S.take k) := at_map (by omega)
    rw [e1, e2, at_stalk]
    by_cases hxs : x < S.length
    · rw [if_pos hxs]
      by_cases hks : k ≤ S.length
      · rcases num_cut S hm k (List.mem_range.mpr (by omega)) x (List.mem_range.mpr hx) with ⟨a, b⟩ | ⟨a, b⟩
        · exact .inl ⟨hxs, a, b⟩
        · exact .inr (.inl ⟨hxs, a, b⟩)
      · rw [show S.take k = S.take S.length by rw [List.take_of_length_le (by omega), List.take_length]]
        rcases num_cut S hm S.length (List.mem_range.mpr (by omega)) x (List.mem_range.mpr hxs) with ⟨a, b⟩ | ⟨a, b⟩
        · exact .inl ⟨hxs, a, b⟩
        · exact .inr (.inl ⟨hxs, a, b⟩)
    · rw [if_neg hxs]
      refine .inr (.inr ⟨by omega, rfl, ?_⟩)
      rw [List.take_of_length_le (by omega), List.take_of_length_le (by omega)]
  opt := fun k hk hk2 => by
    have hm := mem_allS (n := 5) h (by omega)
    obtain ⟨d, hd, h1, h2, h3⟩ := num_opt S hm k (List.mem_range.mpr (by omega))
    have e : ∀ x, x ≤ k → at_ (numsOf numS S g) x = numS (S.take x) := fun x hx => at_map (by omega)
    have es : ∀ x, x < k → at_ (stalk S g) x = at_ S x := fun x hx => by rw [at_stalk, if_pos (by omega)]
    rw [e k (Nat.le_refl _)]
    refine ⟨d, by simpa using hd, Int.dvd_of_emod_eq_zero h1, fun q => ?_, fun q => ?_⟩
    · obtain ⟨x, a, b, c⟩ := h2 q
      have hx := List.mem_range.mp a
      exact ⟨x, hx, by rw [es x hx]; exact b, by rw [e x (by omega)]; exact c⟩
    · obtain ⟨x, a, b, c⟩ := h3 q
      have hx := List.mem_range.mp a
      exact ⟨x, hx, by rw [es x hx]; exact b, by rw [e x (by omega)]; exact c⟩
end Mine
end
section
namespace Mine
open PySem

noncomputable def pick {α : Type} (a b c : α) : Nat → α
  | 0 => a
  | 1 => b
  | _ => c
theorem slc_to {vs : List V} {f : Nat} (h : f ≤ vs.length) : slc vs none (some (f : Int)) = vs.take f := by
  show (vs.drop 0).take (clampI (f : Int) vs.length - 0) = _
  rw [clampI_nat, List.drop_zero, Nat.sub_zero, Nat.min_eq_left h]
theorem slc_mid {vs : List V} {a b : Nat} (h : b ≤ vs.length) (hab : a ≤ b) : slc vs (some (a : Int)) (some (b : Int)) = (vs.drop a).take (b - a) := by
  show (vs.drop (clampI (a : Int) vs.length)).take (clampI (b : Int) vs.length - clampI (a : Int) vs.length) = _
  rw [clampI_nat, clampI_nat, Nat.min_eq_left h, Nat.min_eq_left (by omega)]
theorem slc_from {vs : List V} {a : Nat} (h : a ≤ vs.length) : slc vs (some (a : Int)) none = vs.drop a := by
  show (vs.drop (clampI (a : Int) vs.length)).take (vs.length - clampI (a : Int) vs.length) = _
  rw [clampI_nat, Nat.min_eq_left h, List.take_of_length_le (by rw [List.length_drop]; omega)]
theorem b_add {a b : Nat} : bin Bop.add (V.int a) (V.int b) = some (V.int ((a + b : Nat) : Int)) := by rw [Int.natCast_add]; rfl

theorem x_asgso2 {p : Prog} {n : Nat} {st : St} : ex p (n + 1) st (Sm.asgso [23, 24]) = some (Fl.nx, (st.set 24 (Loc.own [])).set 23 (Loc.own [])) := by
  rw [ex]; rfl

/-- the law from its loop over the rows to its end -/
theorem rows_end (n : Nat) (C : Calls n numS)
    (hdig : ∀ g0 g1 g2, g0 < 6 → g1 < 6 → g2 < 6 → ∃ figs, callF prog (n + 21) 1 [V.int (spr g0 + spr g1 + spr g2), V.int 2] = some (lstI figs) ∧ figs.length ≤ 1000 ∧ ((figs.map fun d => d.fmod 2).contains 1 = true ↔ g0 ^^^ g1 ^^^ g2 ≠ 0))
    {st : St} (hl : st.length = 35) {ks : List Int} (hk : ks.length = 7) (hks : ∀ k ∈ ks, k = 1 ∨ k = -1 ∨ k = 0) {f s : Nat} (hf : 1 ≤ f ∧ f ≤ 3) (hs : 1 ≤ s ∧ s ≤ 3)
    (h3 : st[3]? = some (Loc.own (ks.map V.int))) (h11 : st[11]? = some (Loc.val (V.int f))) (h12 : st[12]? = some (Loc.val (V.int s))) (h13 : st[13]? = some (Loc.own [])) (h14 : st[14]? = some (Loc.own [])) (h15 : st[15]? = some (Loc.own [])) :
    ∃ st', seq (ex prog (n + 25)) st [Sm.for_ 16 (Ex.lst [Ex.slc (Ex.var 3) none (some (Ex.var 11)), Ex.slc (Ex.var 3) (some (Ex.var 11)) (some (Ex.bin Bop.add (Ex.var 11) (Ex.var 12))), Ex.slc (Ex.var 3) (some (Ex.bin Bop.add (Ex.var 11) (Ex.var 12))) none]) bRow,
      Sm.asg 21 (Ex.comp (Ex.bin Bop.add (Ex.bi Bi.len [Ex.var 0]) (Ex.int 1)) none (Ex.var 13) []),
      Sm.asg 22 (Ex.lst [Ex.bin Bop.mul (Ex.idx (Ex.var 21) (Ex.int 1)) (Ex.idx (Ex.var 21) (Ex.int 2)), Ex.idx (Ex.var 21) (Ex.int 2), Ex.int 1]),
      Sm.asgso [23, 24],
      Sm.for_ 25 (Ex.bi Bi.range [Ex.bin Bop.mul (Ex.idx (Ex.var 21) (Ex.int 0)) (Ex.idx (Ex.var 22) (Ex.int 0))]) bCode, Sm.ret (Ex.bool true)] = some (Fl.ret (V.bool true), st') := by
  have hkm : (ks.map V.int).length = 7 := by rw [List.length_map]; exact hk
  have eF : ev prog (n + 22) st (Ex.bin Bop.add (Ex.var 11) (Ex.var 12)) = some (V.int ((f + s : Nat) : Int)) := e_bin (l_var (gl_v h11)) (l_var (gl_v h12)) b_add
  have sf : small (f : Int) = true := small_of (by omega) (by omega)
  have sfs : small ((f + s : Nat) : Int) = true := small_of (by omega) (by omega)
  have e1 : ev prog (n + 24) st (Ex.lst [Ex.slc (Ex.var 3) none (some (Ex.var 11)), Ex.slc (Ex.var 3) (some (Ex.var 11)) (some (Ex.bin Bop.add (Ex.var 11) (Ex.var 12))), Ex.slc (Ex.var 3) (some (Ex.bin Bop.add (Ex.var 11) (Ex.var 12))) none]) =
      some (V.lst [lstI (ks.take f), lstI ((ks.drop f).take s), lstI (ks.drop (f + s))]) := by
    have q1 := e_slc (p := prog) (n := n + 22) (st := st) (e := Ex.var 3) (lo := none) (hi := some (Ex.var 11)) (l_var (gl_o h3)) o_none (o_some (e_var (n := n + 20) (gv h11)) sf) (by omega)
    have q2 := e_slc (p := prog) (n := n + 22) (st := st) (e := Ex.var 3) (lo := some (Ex.var 11)) (hi := some (Ex.bin Bop.add (Ex.var 11) (Ex.var 12))) (l_var (gl_o h3)) (o_some (e_var (n := n + 20) (gv h11)) sf) (o_some (e_bin (n := n + 20) (l_var (gl_v h11)) (l_var (gl_v h12)) b_add) sfs) (by omega)
    have q3 := e_slc (p := prog) (n := n + 22) (st := st) (e := Ex.var 3) (lo := some (Ex.bin Bop.add (Ex.var 11) (Ex.var 12))) (hi := none) (l_var (gl_o h3)) (o_some (e_bin (n := n + 20) (l_var (gl_v h11)) (l_var (gl_v h12)) b_add) sfs) o_none (by omega)
    rw [slc_to (by omega), ← List.map_take] at q1
    rw [slc_mid (by omega) (by omega), Nat.add_sub_cancel_left, ← List.map_drop, ← List.map_take] at q2
    rw [slc_from (by omega), ← List.map_drop] at q3
    exact e_lst (m_cons q1 (m_cons q2 (m_cons q3 m_nil))) (by decide)
  obtain ⟨S0, g0, s1, r1, p0, l0, z0, a13, a14, a15⟩ := row_step n C (st := st.set 16 (Loc.val (lstI (ks.take f)))) (by rw [List.length_set]; exact hl) (ρ := ks.take f) (fun k h => hks k (List.mem_of_mem_take h)) (by rw [List.length_take]; omega) (X := []) (Y := []) (Z := []) (by decide) (by decide) (by decide)
    (gn (by decide) h13) (gn (by decide) h14) (gn (by decide) h15) (ge (by omega))
  obtain ⟨S1, g1, s2, r2, p1, l1, z1, b13, b14, b15⟩ := row_step n C (st := s1.set 16 (Loc.val (lstI ((ks.drop f).take s)))) (by rw [List.length_set]; exact z0) (ρ := (ks.drop f).take s) (fun k h => hks k (List.mem_of_mem_drop (List.mem_of_mem_take h))) (by rw [List.length_take]; omega) (by simp) (by simp) (by simp)
    (gn (by decide) a13) (gn (by decide) a14) (gn (by decide) a15) (ge (by omega))
  obtain ⟨S2, g2, s3, r3, p2, l2, z2, c13, c14, c15⟩ := row_step n C (st := s2.set 16 (Loc.val (lstI (ks.drop (f + s))))) (by rw [List.length_set]; exact z1) (ρ := ks.drop (f + s)) (fun k h => hks k (List.mem_of_mem_drop h)) (by rw [List.length_drop]; omega) (by simp) (by simp) (by simp)
    (gn (by decide) b13) (gn (by decide) b14) (gn (by decide) b15) (ge (by omega))
  have x1 : ex prog (n + 25) st (Sm.for_ 16 (Ex.lst [Ex.slc (Ex.var 3) none (some (Ex.var 11)), Ex.slc (Ex.var 3) (some (Ex.var 11)) (some (Ex.bin Bop.add (Ex.var 11) (Ex.var 12))), Ex.slc (Ex.var 3) (some (Ex.bin Bop.add (Ex.var 11) (Ex.var 12))) none]) bRow) = some (Fl.nx, s3) :=
    x_for e1 rfl (loop_cons r1 (loop_cons r2 (loop_cons r3 loop_nil)))
  have k0 : S0.length + g0 ≤ 5 := by rw [l0, List.length_take]; omega
  have k1 : S1.length + g1 ≤ 5 := by rw [l1, List.length_take]; omega
  have k2 : S2.length + g2 ≤ 5 := by rw [l2, List.length_drop]; omega
  let m : Gm := ⟨pick (stalk S0 g0) (stalk S1 g1) (stalk S2 g2), pick (numsOf numS S0 g0) (numsOf numS S1 g1) (numsOf numS S2 g2), pick (grnsOf S0 g0) (grnsOf S1 g1) (grnsOf S2 g2)⟩
  let q : Nat → Nat := pick S0.length S1.length S2.length
  have j3 : ∀ {P : Nat → Prop}, P 0 → P 1 → P 2 → ∀ j, j < 3 → P j := fun h0 h1 h2 j hj => by
    have : j = 0 ∨ j = 1 ∨ j = 2 := by omega
    rcases this with rfl | rfl | rfl
    · exact h0
    · exact h1
    · exact h2
  have O : GmOk m := {
    k := j3 (by show (stalk S0 g0).length ≤ 5; rw [stalk_len]; exact k0) (by show (stalk S1 g1).length ≤ 5; rw [stalk_len]; exact k1) (by show (stalk S2 g2).length ≤ 5; rw [stalk_len]; exact k2)
    n := j3 (by show (numsOf numS S0 g0).length = (stalk S0 g0).length + 1; unfold numsOf; rw [List.length_map, List.length_range, stalk_len]) (by show (numsOf numS S1 g1).length = (stalk S1 g1).length + 1; unfold numsOf; rw [List.length_map, List.length_range, stalk_len]) (by show (numsOf numS S2 g2).length = (stalk S2 g2).length + 1; unfold numsOf; rw [List.length_map, List.length_range, stalk_len])
    g := j3 (by show (grnsOf S0 g0).length = (stalk S0 g0).length + 1; unfold grnsOf; rw [List.length_map, List.length_range, stalk_len]) (by show (grnsOf S1 g1).length = (stalk S1 g1).length + 1; unfold grnsOf; rw [List.length_map, List.length_range, stalk_len]) (by show (grnsOf S2 g2).length = (stalk S2 g2).length + 1; unfold grnsOf; rw [List.length_map, List.length_range, stalk_len]) }
  have hstk : ∀ j, j < 3 → Stk (m.K j) (m.N j) (q j) := j3 (stk_of p0 k0) (stk_of p1 k1) (stk_of p2 k2)
  have hgr : ∀ {S : List Int} {g : Nat}, ∀ h, h ≤ (stalk S g).length → at_ (grnsOf S g) h = spr (h - S.length) := fun h hh => by rw [stalk_len] at hh; exact at_map (by omega)
  have hG : ∀ j, j < 3 → ∀ h, h ≤ (m.K j).length → at_ (m.G j) h = spr (h - q j) := j3 hgr hgr hgr
  have hA : ∀ j, j < 3 → m.A j ≤ 6 := fun j hj => by have := O.k j hj; unfold Gm.A; omega
  have y13 : s3[13]? = some (Loc.own [lstI (m.K 0), lstI (m.K 1), lstI (m.K 2)]) := c13
  have y14 : s3[14]? = some (Loc.own [lstI (m.N 0), lstI (m.N 1), lstI (m.N 2)]) := c14
  have y15 : s3[15]? = some (Loc.own [lstI (m.G 0), lstI (m.G 1), lstI (m.G 2)]) := c15
  clear_value m q
  have e2 : ev prog (n + 24) s3 (Ex.comp (Ex.bin Bop.add (Ex.bi Bi.len [Ex.var 0]) (Ex.int 1)) none (Ex.var 13) []) = some (V.lst [V.int (m.A 0), V.int (m.A 1), V.int (m.A 2)]) := by
    have one : ∀ j, j < 3 → ev prog (n + 23) (Loc.val (lstI (m.K j)) :: []) (Ex.bin Bop.add (Ex.bi Bi.len [Ex.var 0]) (Ex.int 1)) = some (V.int (m.A j)) := fun j hj => by
      refine e_bin (u := V.int (m.K j).length) (l_of rfl (e_bi (m_cons (l_var (gl_v rfl)) m_nil) ?_)) (l_of rfl e_int) rfl
      show (if ((m.K j).map V.int).length ≤ 100000 then some (V.int (((m.K j).map V.int).length : Nat)) else none) = _
      rw [if_pos (by rw [List.length_map]; have := O.k j hj; omega), List.length_map]
    refine e_comp (cs := []) (l_var (gl_o y13)) rfl rfl (by simp) rfl ?_
    simp only [compL, cndF, one 0 (by decide), one 1 (by decide), one 2 (by decide)]
  have x2 := x_asg (x := 21) e2
  have d21 : (s3.set 21 (Loc.val (V.lst [V.int (m.A 0), V.int (m.A 1), V.int (m.A 2)])))[21]? = some (Loc.val (V.lst [V.int (m.A 0), V.int (m.A 1), V.int (m.A 2)])) := ge (by omega)
  have d13 := gn (m := Loc.val (V.lst [V.int (m.A 0), V.int (m.A 1), V.int (m.A 2)])) (show 21 ≠ 13 by decide) y13
  have d14 := gn (m := Loc.val (V.lst [V.int (m.A 0), V.int (m.A 1), V.int (m.A 2)])) (show 21 ≠ 14 by decide) y14
  have d15 := gn (m := Loc.val (V.lst [V.int (m.A 0), V.int (m.A 1), V.int (m.A 2)])) (show 21 ≠ 15 by decide) y15
  have len4 : (s3.set 21 (Loc.val (V.lst [V.int (m.A 0), V.int (m.A 1), V.int (m.A 2)]))).length = 35 := by rw [List.length_set]; exact z2
  generalize s3.set 21 (Loc.val (V.lst [V.int (m.A 0), V.int (m.A 1), V.int (m.A 2)])) = s4 at x2 d21 d13 d14 d15 len4
  have sA : ∀ j, j < 3 → small (m.A j : Int) = true := fun j hj => small_of (by omega) (by have := hA j hj; omega)
  have e3 : ev prog (n + 24) s4 (Ex.lst [Ex.bin Bop.mul (Ex.idx (Ex.var 21) (Ex.int 1)) (Ex.idx (Ex.var 21) (Ex.int 2)), Ex.idx (Ex.var 21) (Ex.int 2), Ex.int 1]) = some (V.lst [V.int (m.w 0), V.int (m.w 1), V.int (m.w 2)]) := by
    have at1 : ∀ k, ev prog (k + 3) s4 (Ex.idx (Ex.var 21) (Ex.int 1)) = some (V.int (m.A 1)) := fun k => e_idx (z := (1 : Nat)) (l_var (gl_v d21)) e_int (small_of (by omega) (by omega)) (by rw [idx_nat]; rfl)
    have at2 : ∀ k, ev prog (k + 3) s4 (Ex.idx (Ex.var 21) (Ex.int 2)) = some (V.int (m.A 2)) := fun k => e_idx (z := (2 : Nat)) (l_var (gl_v d21)) e_int (small_of (by omega) (by omega)) (by rw [idx_nat]; rfl)
    refine e_lst (m_cons (e_bin (l_of rfl (at1 (n + 18))) (l_of rfl (at2 (n + 18))) ?_) (m_cons (at2 (n + 20)) (m_cons e_int m_nil))) (by decide)
    rw [b_mul (sA 1 (by decide)) (sA 2 (by decide)), ← Int.natCast_mul]
    rfl
  have x3 := x_asg (x := 22) e3
  have f22 : (s4.set 22 (Loc.val (V.lst [V.int (m.w 0), V.int (m.w 1), V.int (m.w 2)])))[22]? = some (Loc.val (V.lst [V.int (m.w 0), V.int (m.w 1), V.int (m.w 2)])) := ge (by omega)
  have f13 := gn (m := Loc.val (V.lst [V.int (m.w 0), V.int (m.w 1), V.int (m.w 2)])) (show 22 ≠ 13 by decide) d13
  have f14 := gn (m := Loc.val (V.lst [V.int (m.w 0), V.int (m.w 1), V.int (m.w 2)])) (show 22 ≠ 14 by decide) d14
  have f15 := gn (m := Loc.val (V.lst [V.int (m.w 0), V.int (m.w 1), V.int (m.w 2)])) (show 22 ≠ 15 by decide) d15
  have f21 := gn (m := Loc.val (V.lst [V.int (m.w 0), V.int (m.w 1), V.int (m.w 2)])) (show 22 ≠ 21 by decide) d21
  have len5 : (s4.set 22 (Loc.val (V.lst [V.int (m.w 0), V.int (m.w 1), V.int (m.w 2)]))).length = 35 := by rw [List.length_set]; exact len4
  generalize s4.set 22 (Loc.val (V.lst [V.int (m.w 0), V.int (m.w 1), V.int (m.w 2)])) = s5 at x3 f22 f13 f14 f15 f21 len5
  have S5 : SF m s5 := ⟨len5, f13, f14, f15, f21, f22⟩
  have x4 := x_asgso2 (p := prog) (n := n + 24) (st := s5)
  have S6 : SF m ((s5.set 24 (Loc.own [])).set 23 (Loc.own [])) := S5.agr ((Agr.refl.set (D := [23, 24]) (by decide)).set (by decide)) (by decide) (by decide) (by decide) (by decide) (by decide)
  have m24 : ((s5.set 24 (Loc.own [])).set 23 (Loc.own []))[24]? = some (Loc.own []) := gn (by decide) (ge (by omega))
  have m23 : ((s5.set 24 (Loc.own [])).set 23 (Loc.own []))[23]? = some (Loc.own []) := ge (by rw [List.length_set]; omega)
  obtain ⟨st', fin⟩ := codes_end n O hstk hG hdig S6 m23 m24
  exact ⟨st', q_cons x1 (q_cons x2 (q_cons x3 (q_cons x4 fin)))⟩
end Mine
end
section
namespace Mine
open PySem

noncomputable def isI : Option V → Int → Bool
  | some (.int i), k => i == k
  | _, _ => false
theorem isI_eq {v : Option V} {k : Int} (h : isI v k = true) : v = some (V.int k) := by
  unfold isI at h
  split at h
  · rw [eq_of_beq h]
  · cases h
noncomputable def intsOf : List V → List Int → Bool
  | [], [] => true
  | .int i :: r, k :: t => i == k && intsOf r t
  | _, _ => false
theorem intsOf_eq : ∀ {vs : List V} {l : List Int}, intsOf vs l = true → vs = l.map V.int
  | [], [], _ => rfl
  | [], _ :: _, h => by cases h
  | v :: r, l, h => by
    unfold intsOf at h
    split at h
    · rename_i q; cases q
    · rename_i i r' k t q
      cases q
      rw [Bool.and_eq_true] at h
      rw [eq_of_beq h.1, intsOf_eq h.2]; rfl
    · cases h
noncomputable def isL : Option V → List Int → Bool
  | some (.lst vs), l => intsOf vs l
  | _, _ => false
theorem isL_eq {v : Option V} {l : List Int} (h : isL v l = true) : v = some (lstI l) := by
  unfold isL at h
  split at h
  · rw [intsOf_eq h]; rfl
  · cases h
theorem fe_callF {n f : Nat} {vs : List V} : (fe prog n).callF f vs = callF prog n f vs := by rw [fe_eq]

set_option maxRecDepth 100000
theorem tab_num1 : (allS 5).all (fun S => isI ((fe prog 95).callF 11 [lstI S]) (numS S)) = true := by decide +kernel
theorem tab_num2 : (allS 5).all (fun S => isI ((fe prog 97).callF 11 [lstI S]) (numS S)) = true := by decide +kernel
theorem all_cut {α : Type} {p : α → Bool} {l : List α} (k : Nat) (h1 : (l.take k).all p = true) (h2 : (l.drop k).all p = true) : l.all p = true := by
  rw [← List.take_append_drop k l, List.all_append, h1, h2]; rfl
theorem tab_sgn : (allS 5).all (fun S => isL ((fe prog 96).callF 12 [V.int (numS S)]) S) = true :=
  all_cut 16 (by decide +kernel) (all_cut 16 (by decide +kernel) (all_cut 16 (by decide +kernel) (by decide +kernel)))
noncomputable def bits : Nat → List Int
  | 0 => []
  | 1 => [1]
  | 2 => [0, 1]
  | 3 => [1, 1]
  | 4 => [0, 0, 1]
  | _ => [1, 0, 1]
theorem tab_grn : (List.range 6).all (fun g => isL ((fe prog 96).callF 1 [V.int (g : Nat), V.int 1]) (bits g) && isI ((fe prog 97).callF 2 [lstI (bits g), V.int 2]) (spr g)) = true := by decide +kernel
/-- figures by two bits -/
noncomputable def figs2 : Nat → Nat → List Int
  | 0, _ => []
  | k + 1, s => if s = 0 then [] else ((s % 4 : Nat) : Int) :: figs2 k (s / 4)
theorem tab_fig : (List.range 52).all (fun s => isL ((fe prog 97).callF 1 [V.int (s : Nat), V.int 2]) (figs2 5 s)) = true := by decide +kernel
theorem tab_odd : ∀ g h k : Fin 6, ∃ s, s < 52 ∧ spr g.1 + spr h.1 + spr k.1 = ((s : Nat) : Int) ∧ (((figs2 5 s).map fun d => d.fmod 2).contains 1 = true ↔ g.1 ^^^ h.1 ^^^ k.1 ≠ 0) ∧ (figs2 5 s).length ≤ 1000 := by
  have : ∀ g h k : Fin 6, let s := (spr g.1 + spr h.1 + spr k.1).toNat
    s < 52 ∧ spr g.1 + spr h.1 + spr k.1 = ((s : Nat) : Int) ∧ (((figs2 5 s).map fun d => d.fmod 2).contains 1 = true ↔ g.1 ^^^ h.1 ^^^ k.1 ≠ 0) ∧ (figs2 5 s).length ≤ 1000 := by decide +kernel
  exact fun g h k => ⟨_, this g h k⟩

theorem calls76 : Calls 76 numS where
  num1 := fun S h hl => by
    have := List.all_eq_true.mp tab_num1 S (mem_allS h hl)
    rw [fe_callF] at this
    exact isI_eq this
  num2 := fun S h hl => by
    have := List.all_eq_true.mp tab_num2 S (mem_allS h hl)
    rw [fe_callF] at this
    exact isI_eq this
  sgn := fun S h hl => by
    have := List.all_eq_true.mp tab_sgn S (mem_allS h hl)
    rw [fe_callF] at this
    exact isL_eq this
  grn := fun g hg => by
    have := List.all_eq_true.mp tab_grn g (List.mem_range.mpr hg)
    rw [fe_callF, fe_callF, Bool.and_eq_true] at this
    exact ⟨bits g, isL_eq this.1, isI_eq this.2⟩
theorem digs76 : ∀ g0 g1 g2, g0 < 6 → g1 < 6 → g2 < 6 → ∃ figs, callF prog (76 + 21) 1 [V.int (spr g0 + spr g1 + spr g2), V.int 2] = some (lstI figs) ∧ figs.length ≤ 1000 ∧ ((figs.map fun d => d.fmod 2).contains 1 = true ↔ g0 ^^^ g1 ^^^ g2 ≠ 0) := by
  intro g0 g1 g2 h0 h1 h2
  obtain ⟨s, hs, e, ho, hl⟩ := tab_odd ⟨g0, h0⟩ ⟨g1, h1⟩ ⟨g2, h2⟩
  have := List.all_eq_true.mp tab_fig s (List.mem_range.mpr hs)
  rw [fe_callF] at this
  exact ⟨figs2 5 s, by rw [show spr g0 + spr g1 + spr g2 = ((s : Nat) : Int) from e]; exact isL_eq this, hl, ho⟩
end Mine
end
section
namespace Mine
open PySem

noncomputable def Kd (l : List Int) : Prop := ∀ k ∈ l, k = 1 ∨ k = -1 ∨ k = 0
noncomputable def DT : List Nat := [3, 4, 5, 6, 7, 8, 9, 10]
/-- what one heap's paint comes to -/
noncomputable def TurnOk (n : Nat) : Prop := ∀ {st : St} (h : Int) {ks : List Int}, st.length = 35 → st[3]? = some (Loc.own (ks.map V.int)) → ks.length ≤ 1000 → ∃ k st', (k = 1 ∨ k = -1 ∨ k = 0) ∧ seq (ex prog (n + 24)) (st.set 4 (Loc.val (V.int h))) bTurn = some (Fl.nx, st') ∧ Agr DT st st' ∧ st'[3]? = some (Loc.own ((ks ++ [k]).map V.int))

theorem turn_loop {n : Nat} (T : TurnOk n) : ∀ {H ks : List Int} {st : St}, st.length = 35 → st[3]? = some (Loc.own (ks.map V.int)) → Kd ks → ks.length + H.length ≤ 1000 →
    ∃ ks' st', forLoop (fun st => seq (ex prog (n + 24)) st bTurn) 4 st (H.map V.int) = some (Fl.nx, st') ∧ Agr DT st st' ∧ st'[3]? = some (Loc.own (ks'.map V.int)) ∧ Kd ks' ∧ ks'.length = ks.length + H.length
  | [], ks, st, _, h3, hk, _ => ⟨ks, st, rfl, Agr.refl, h3, hk, rfl⟩
  | h :: H, ks, st, hl, h3, hk, hb => by
    rw [List.length_cons] at hb
    obtain ⟨k, s1, k1, q1, a1, b1⟩ := T h hl h3 (by omega)
    obtain ⟨ks', s2, q2, a2, b2, c2, d2⟩ := turn_loop T (H := H) (ks := ks ++ [k]) (st := s1) (a1.1.trans hl) b1 (fun x hx => by
      rcases List.mem_append.mp hx with hx | hx
      · exact hk x hx
      · rw [List.mem_singleton.mp hx]; exact k1) (by rw [List.length_append, List.length_singleton]; omega)
    exact ⟨ks', s2, loop_cons q1 q2, a1.trans a2, b2, c2, by rw [d2, List.length_append, List.length_singleton, List.length_cons]; omega⟩

theorem x_augi {p : Prog} {n : Nat} {st : St} {x k : Nat} {i e : Ex} {vs : List V} {a b : Int} (h1 : getO st x = some vs) (hk : ev p n st i = some (V.int k)) (hb : ev p n st e = some (V.int b)) (hlt : k < vs.length) (hs : small (k : Int) = true) (hc : vs[k]? = some (V.int a)) :
    ex p (n + 1) st (Sm.augi x i Bop.add e) = some (Fl.nx, st.set x (Loc.own (vs.set k (V.int (a + b))))) := by
  have e1 : decide (0 ≤ (k : Int)) = true := decide_eq_true (by omega)
  have e2 : decide ((k : Int) < (vs.length : Nat)) = true := decide_eq_true (by omega)
  have e3 : (k : Int).toNat = k := rfl
  rw [ex, h1, Option.bind_some, hk, hb]
  simp only [e1, e2, hs, Bool.and_self, if_true, e3, hc]
  rfl

theorem add_loop {n : Nat} {ns : List Int} {st : St} (hl : st.length = 35) (hn : ns.length ≤ 63) (h0 : st[0]? = some (Loc.val (lstI ns))) {H : List Int} (hH : H.length = 7) (h1 : st[1]? = some (Loc.own (H.map V.int))) :
    ∃ (H' : List Int) (st' : St), forLoop (fun st => seq (ex prog (n + 24)) st bAdd) 2 st (rngV ns.length) = some (Fl.nx, st') ∧ Agr [1, 2] st st' ∧ H'.length = 7 ∧ st'[1]? = some (Loc.own (H'.map V.int)) := by
  obtain ⟨st', q, a, H', b, c⟩ := loop_inv (f := fun st => seq (ex prog (n + 24)) st bAdd) (x := 2) (fun k s => Agr [1, 2] st s ∧ ∃ H' : List Int, H'.length = 7 ∧ s[1]? = some (Loc.own (H'.map V.int))) (rngV ns.length) 0 (st := st)
    (fun i v s hi ⟨a, H', b, c⟩ => by
      obtain ⟨hlt, rfl⟩ := rng_get hi
      have k1 := gn (m := Loc.val (V.int i)) (show 2 ≠ 1 by decide) c
      have k0 := gn (m := Loc.val (V.int i)) (show 2 ≠ 0 by decide) (a.get (by decide) h0)
      have k2 : (s.set 2 (Loc.val (V.int i)))[2]? = some (Loc.val (V.int i)) := ge (by rw [a.1]; omega)
      have hm : i % 7 < 7 := Nat.mod_lt _ (by decide)
      have x := x_augi (p := prog) (n := n + 23) (x := 1) (k := i % 7) (i := Ex.bin Bop.mod (Ex.var 2) (Ex.int 7)) (e := Ex.idx (Ex.var 0) (Ex.var 2)) (a := at_ H' (i % 7)) (b := at_ ns i) (go k1)
        (e_bin (n := n + 22) (l_var (gl_v k2)) (l_of rfl e_int) (b_mod (a := i) (b := 7) (by decide))) (e_idx (n := n + 22) (z := (i : Nat)) (l_var (gl_v k0)) (e_var (gv k2)) (small_of (by omega) (by omega)) (by rw [idx_nat]; exact get_int hlt))
        (by rw [List.length_map]; omega) (small_of (by omega) (by omega)) (get_int (by omega))
      refine ⟨_, q_cons x q_nil, (a.set (by decide)).set (by decide), H'.set (i % 7) (at_ H' (i % 7) + at_ ns i), by rw [List.length_set]; exact b, ?_⟩
      rw [← List.map_set]
      exact ge (by rw [List.length_set, a.1]; omega))
    ⟨Agr.refl, H, hH, h1⟩
  exact ⟨H', st', q, a, b, c⟩

theorem x_asgso3 {p : Prog} {n : Nat} {st : St} : ex p (n + 1) st (Sm.asgso [13, 14, 15]) = some (Fl.nx, ((st.set 15 (Loc.own [])).set 14 (Loc.own [])).set 13 (Loc.own [])) := by
  rw [ex]; rfl
theorem mod3 (z : Int) : ∃ k : Nat, k < 3 ∧ bin Bop.mod (V.int z) (V.int 3) = some (V.int k) := by
  refine ⟨(z.fmod 3).toNat, ?_, ?_⟩
  · have := Int.fmod_lt_of_pos z (show (0 : Int) < 3 by decide)
    have := Int.fmod_nonneg_of_pos z (show (0 : Int) < 3 by decide)
    omega
  · have := Int.fmod_nonneg_of_pos z (show (0 : Int) < 3 by decide)
    show some (V.int (z.fmod 3)) = _
    rw [Int.toNat_of_nonneg this]

/-- the law answers True -/
theorem law_true (T : TurnOk 76) {ns : List Int} (hn : ns.length ≤ 63) : callF prog 102 13 [lstI ns] = some (V.bool true) := by
  have main : ∃ st', seq (ex prog 101) (initSt ⟨1, 35, blaw⟩ [lstI ns] []) blaw = some (Fl.ret (V.bool true), st') := by
    have hl : (initSt ⟨1, 35, blaw⟩ [lstI ns] []).length = 35 := rfl
    have h0 : (initSt ⟨1, 35, blaw⟩ [lstI ns] [])[0]? = some (Loc.val (lstI ns)) := rfl
    generalize initSt ⟨1, 35, blaw⟩ [lstI ns] [] = st at hl h0
    rw [blaw_parts]
    have x1 : ex prog 101 st (Sm.asgo 1 (Ex.lst [Ex.int 2283, Ex.int 43, Ex.int 828, Ex.int 1760, Ex.int 267, Ex.int 1266, Ex.int 2053])) = some (Fl.nx, st.set 1 (Loc.own (([2283, 43, 828, 1760, 267, 1266, 2053] : List Int).map V.int))) :=
      x_asgo (n := 100) rfl (e_lst (n := 99) (m_cons e_int (m_cons e_int (m_cons e_int (m_cons e_int (m_cons e_int (m_cons e_int (m_cons e_int m_nil))))))) (by decide))
    have b1 : (st.set 1 (Loc.own (([2283, 43, 828, 1760, 267, 1266, 2053] : List Int).map V.int)))[1]? = some (Loc.own (([2283, 43, 828, 1760, 267, 1266, 2053] : List Int).map V.int)) := ge (by omega)
    have b0 := gn (m := Loc.own (([2283, 43, 828, 1760, 267, 1266, 2053] : List Int).map V.int)) (show 1 ≠ 0 by decide) h0
    have hl1 : (st.set 1 (Loc.own (([2283, 43, 828, 1760, 267, 1266, 2053] : List Int).map V.int))).length = 35 := by rw [List.length_set]; exact hl
    generalize st.set 1 (Loc.own (([2283, 43, 828, 1760, 267, 1266, 2053] : List Int).map V.int)) = s1 at x1 b1 b0 hl1
    obtain ⟨H, s2, q2, a2, hH, c1⟩ := add_loop (n := 76) hl1 hn b0 (H := [2283, 43, 828, 1760, 267, 1266, 2053]) rfl b1
    have e2 : ev prog 100 s1 (Ex.bi Bi.range [Ex.bi Bi.len [Ex.var 0]]) = some (V.rng (ns.length : Nat)) := by
      refine e_bi (n := 99) (m_cons (l_of (n := 98) rfl (e_bi (n := 97) (v := V.int ns.length) (m_cons (l_var (n := 96) (gl_v b0)) m_nil) ?_)) m_nil) ?_
      · show (if (ns.map V.int).length ≤ 100000 then some (V.int ((ns.map V.int).length : Nat)) else none) = _
        rw [if_pos (by rw [List.length_map]; omega), List.length_map]
      · show (if small (ns.length : Int) then some (V.rng (ns.length : Int)) else none) = _
        rw [if_pos (small_of (by omega) (by omega))]
    have x2 : ex prog 101 s1 (Sm.for_ 2 (Ex.bi Bi.range [Ex.bi Bi.len [Ex.var 0]]) bAdd) = some (Fl.nx, s2) := x_for (n := 100) e2 (items_rng (small_of (by omega) (by omega))) q2
    have hl2 : s2.length = 35 := a2.1.trans hl1
    have x3 : ex prog 101 s2 (Sm.asgo 3 (Ex.lst [])) = some (Fl.nx, s2.set 3 (Loc.own [])) := x_asgo (n := 100) rfl (e_lst (n := 99) m_nil (by decide))
    have d1 := gn (m := Loc.own []) (show 3 ≠ 1 by decide) c1
    have d3 : (s2.set 3 (Loc.own []))[3]? = some (Loc.own (([] : List Int).map V.int)) := ge (by omega)
    have hl3 : (s2.set 3 (Loc.own [])).length = 35 := by rw [List.length_set]; exact hl2
    generalize s2.set 3 (Loc.own []) = s3 at x3 d1 d3 hl3
    have x4 : ex prog 101 s3 (Sm.frz 1) = some (Fl.nx, s3.set 1 (Loc.val (lstI H))) := x_frz (n := 100) d1
    have f1 : (s3.set 1 (Loc.val (lstI H)))[1]? = some (Loc.val (lstI H)) := ge (by omega)
    have f3 := gn (m := Loc.val (lstI H)) (show 1 ≠ 3 by decide) d3
    have hl4 : (s3.set 1 (Loc.val (lstI H))).length = 35 := by rw [List.length_set]; exact hl3
    generalize s3.set 1 (Loc.val (lstI H)) = s4 at x4 f1 f3 hl4
    obtain ⟨ks, s5, q5, a5, g3, hkd, hkl⟩ := turn_loop T (H := H) (ks := []) hl4 f3 (fun k hk => by cases hk) (by rw [hH]; decide)
    have x5 : ex prog 101 s4 (Sm.for_ 4 (Ex.var 1) bTurn) = some (Fl.nx, s5) := x_for (n := 100) (e_var (n := 99) (gv f1)) rfl q5
    have hl5 : s5.length = 35 := a5.1.trans hl4
    have g1 := a5.get (by decide) f1
    have hsum : ∀ {s : St} (k : Nat), s[1]? = some (Loc.val (lstI H)) → evL prog (k + 3) s (Ex.bi Bi.sum [Ex.var 1]) = some (V.int H.sum) := fun {s} k h => by
      refine l_of rfl (e_bi (m_cons (l_var (gl_v h)) m_nil) ?_)
      show (allInts (H.map V.int)).map (fun ns => V.int ns.sum) = _
      rw [allInts_map]; rfl
    obtain ⟨f, hf, ef⟩ := mod3 H.sum
    have x6 : ex prog 101 s5 (Sm.asg 11 (Ex.bin Bop.add (Ex.int 1) (Ex.bin Bop.mod (Ex.bi Bi.sum [Ex.var 1]) (Ex.int 3)))) = some (Fl.nx, s5.set 11 (Loc.val (V.int ((1 + f : Nat) : Int)))) :=
      x_asg (n := 100) (e_bin (n := 99) (u := V.int ((1 : Nat) : Int)) (v := V.int f) (l_of (n := 98) rfl (e_int (n := 97))) (l_of (n := 98) rfl (e_bin (n := 97) (hsum 94 g1) (l_of (n := 96) rfl (e_int (n := 95))) ef)) b_add)
    have i11 : (s5.set 11 (Loc.val (V.int ((1 + f : Nat) : Int))))[11]? = some (Loc.val (V.int ((1 + f : Nat) : Int))) := ge (by omega)
    have i1 := gn (m := Loc.val (V.int ((1 + f : Nat) : Int))) (show 11 ≠ 1 by decide) g1
    have i3 := gn (m := Loc.val (V.int ((1 + f : Nat) : Int))) (show 11 ≠ 3 by decide) g3
    have hl6 : (s5.set 11 (Loc.val (V.int ((1 + f : Nat) : Int)))).length = 35 := by rw [List.length_set]; exact hl5
    generalize s5.set 11 (Loc.val (V.int ((1 + f : Nat) : Int))) = s6 at x6 i11 i1 i3 hl6
    obtain ⟨s, hs, es⟩ := mod3 (H.sum.fdiv 3)
    have x7 : ex prog 101 s6 (Sm.asg 12 (Ex.bin Bop.add (Ex.int 1) (Ex.bin Bop.mod (Ex.bin Bop.fdiv (Ex.bi Bi.sum [Ex.var 1]) (Ex.int 3)) (Ex.int 3)))) = some (Fl.nx, s6.set 12 (Loc.val (V.int ((1 + s : Nat) : Int)))) :=
      x_asg (n := 100) (e_bin (n := 99) (u := V.int ((1 : Nat) : Int)) (v := V.int s) (l_of (n := 98) rfl (e_int (n := 97))) (l_of (n := 98) rfl (e_bin (n := 97) (u := V.int (H.sum.fdiv 3)) (l_of (n := 96) rfl (e_bin (n := 95) (hsum 92 i1) (l_of (n := 94) rfl (e_int (n := 93))) rfl)) (l_of (n := 96) rfl (e_int (n := 95))) es)) b_add)
    have j12 : (s6.set 12 (Loc.val (V.int ((1 + s : Nat) : Int))))[12]? = some (Loc.val (V.int ((1 + s : Nat) : Int))) := ge (by omega)
    have j11 := gn (m := Loc.val (V.int ((1 + s : Nat) : Int))) (show 12 ≠ 11 by decide) i11
    have j3 := gn (m := Loc.val (V.int ((1 + s : Nat) : Int))) (show 12 ≠ 3 by decide) i3
    have hl7 : (s6.set 12 (Loc.val (V.int ((1 + s : Nat) : Int)))).length = 35 := by rw [List.length_set]; exact hl6
    generalize s6.set 12 (Loc.val (V.int ((1 + s : Nat) : Int))) = s7 at x7 j12 j11 j3 hl7
    have x8 := x_asgso3 (p := prog) (n := 100) (st := s7)
    obtain ⟨st', fin⟩ := rows_end 76 calls76 digs76 (st := ((s7.set 15 (Loc.own [])).set 14 (Loc.own [])).set 13 (Loc.own [])) (by rw [List.length_set, List.length_set, List.length_set]; exact hl7) (ks := ks) (by rw [hkl, hH]; rfl) hkd (f := 1 + f) (s := 1 + s) (by omega) (by omega)
      (gn (by decide) (gn (by decide) (gn (by decide) j3))) (gn (by decide) (gn (by decide) (gn (by decide) j11))) (gn (by decide) (gn (by decide) (gn (by decide) j12))) (ge (by rw [List.length_set, List.length_set]; omega)) (gn (by decide) (ge (by rw [List.length_set]; omega))) (gn (by decide) (gn (by decide) (ge (by omega))))
    exact ⟨st', q_cons x1 (q_cons x2 (q_cons x3 (q_cons x4 (q_cons x5 (q_cons x6 (q_cons x7 (q_cons x8 fin)))))))⟩
  obtain ⟨st', h⟩ := main
  exact c_of (fn := ⟨1, 35, blaw⟩) rfl rfl h
end Mine
end
section
namespace Mine
open PySem

noncomputable def eqF (a b : UInt64) : Bool := Float64.cmp a b == some Ordering.eq
noncomputable def fint (a : UInt64) : Option Int := match Float64.decode a with
  | .fin sg m e => some (Float64.truncOf sg m e)
  | _ => none
theorem bi_int {a : UInt64} {i : Int} (h : fint a = some i) : builtin Bi.int [V.flt a] = some (V.int i) := by
  unfold fint at h
  show (match Float64.decode a with | .fin sg m e => some (V.int (Float64.truncOf sg m e)) | _ => none) = _
  split at h
  · rw [Option.some.inj h]
  · cases h
theorem c_of1 {p : Prog} {n f : Nat} {fn : Fn} {vs : List V} {v : V} (h : p.fns[f]? = some fn) (hl : (vs.length == fn.np && decide (fn.np ≤ fn.nv)) = true) (hs : (seq (ex p n) (initSt fn vs []) fn.body).map (·.1) = some (Fl.ret v)) : callF p (n + 1) f vs = some v := by
  obtain ⟨⟨a, st⟩, h1, h2⟩ := Option.map_eq_some_iff.mp hs
  cases h2
  exact c_of h hl h1

theorem z6 : Float64.isZero 4618441417868443648 = false := by decide +kernel
theorem z1 : Float64.isZero 4607182418800017408 = false := by decide +kernel
theorem z2 : Float64.isZero 4611686018427387904 = false := by decide +kernel

/-- a name's float, read from the state -/
theorem lf {p : Prog} {n : Nat} {st : St} {x : Nat} {a : UInt64} (h : st[x]? = some (Loc.val (V.flt a))) : evL p (n + 1) st (Ex.var x) = some (V.flt a) := l_var (gl_v h)
theorem ef {p : Prog} {n : Nat} {st : St} {x : Nat} {a : UInt64} (h : st[x]? = some (Loc.val (V.flt a))) : ev p (n + 1) st (Ex.var x) = some (V.flt a) := e_var (gv h)
theorem fsub {p : Prog} {n : Nat} {st : St} {a b : Ex} {x y : UInt64} (h1 : evL p n st a = some (V.flt x)) (h2 : evL p n st b = some (V.flt y)) : ev p (n + 1) st (Ex.bin Bop.sub a b) = some (V.flt (Float64.sub x y)) := e_bin h1 h2 rfl
theorem fadd {p : Prog} {n : Nat} {st : St} {a b : Ex} {x y : UInt64} (h1 : evL p n st a = some (V.flt x)) (h2 : evL p n st b = some (V.flt y)) : ev p (n + 1) st (Ex.bin Bop.add a b) = some (V.flt (Float64.add x y)) := e_bin h1 h2 rfl
theorem fmul {p : Prog} {n : Nat} {st : St} {a b : Ex} {x y : UInt64} (h1 : evL p n st a = some (V.flt x)) (h2 : evL p n st b = some (V.flt y)) : ev p (n + 1) st (Ex.bin Bop.mul a b) = some (V.flt (Float64.mul x y)) := e_bin h1 h2 rfl
theorem fdv {p : Prog} {n : Nat} {st : St} {a b : Ex} {x y : UInt64} (h1 : evL p n st a = some (V.flt x)) (h2 : evL p n st b = some (V.flt y)) (h : Float64.isZero y = false) : ev p (n + 1) st (Ex.bin Bop.div a b) = some (V.flt (Float64.div x y)) :=
  e_bin h1 h2 (by show (if Float64.isZero y then none else some (V.flt (Float64.div x y))) = _; rw [h]; rfl)
theorem fmd {p : Prog} {n : Nat} {st : St} {a b : Ex} {x y : UInt64} (h1 : evL p n st a = some (V.flt x)) (h2 : evL p n st b = some (V.flt y)) (h : Float64.isZero y = false) : ev p (n + 1) st (Ex.bin Bop.mod a b) = some (V.flt (Float64.divmod x y).2) :=
  e_bin h1 h2 (by show (if Float64.isZero y then none else some (V.flt (Float64.divmod x y).2)) = _; rw [h]; rfl)
theorem teq {p : Prog} {n : Nat} {st : St} {a b : Ex} {x y : UInt64} (h1 : evL p n st a = some (V.flt x)) (h2 : evL p n st b = some (V.flt y)) : evT p (n + 1) st (Ex.cmp Cop.eq a b) = some (eqF x y) := t_cmp h1 h2 rfl
theorem lc {p : Prog} {n : Nat} {st : St} {u : UInt64} : evL p (n + 2) st (Ex.flt u) = some (V.flt u) := l_of rfl e_flt
theorem c_ofE {p : Prog} {n f : Nat} {fn : Fn} {vs : List V} {v : V} (h : p.fns[f]? = some fn) (hl : (vs.length == fn.np && decide (fn.np ≤ fn.nv)) = true) (hs : ∃ st, seq (ex p n) (initSt fn vs []) fn.body = some (Fl.ret v, st)) : callF p (n + 1) f vs = some v :=
  let ⟨_, h1⟩ := hs; c_of h hl h1
theorem q_iteR {p : Prog} {n : Nat} {st : St} {t : Ex} {e : Ex} {r : List Sm} {v : V} (h1 : evT p (n + 1) st t = some true) (h2 : ev p n st e = some v) : seq (ex p (n + 2)) st (Sm.ite t [Sm.ret e] [] :: r) = some (Fl.ret v, st) := by
  simp only [seq, ex, h1, Option.bind_some, if_true, h2, Option.map_some]
theorem q_iteN {p : Prog} {n : Nat} {st : St} {t : Ex} {e : Ex} {r : List Sm} {R : Fl × St} (h1 : evT p n st t = some false) (h2 : seq (ex p (n + 1)) st r = some R) : seq (ex p (n + 1)) st (Sm.ite t [Sm.ret e] [] :: r) = some R := q_cons (x_iteF h1 q_nil) h2
theorem tint {p : Prog} {n : Nat} {st : St} {x : Nat} {a : Int} {k : Int} (h : st[x]? = some (Loc.val (V.int a))) : evT p (n + 3) st (Ex.cmp Cop.eq (Ex.var x) (Ex.int k)) = some (a == k) := t_cmp (l_var (gl_v h)) (l_of rfl e_int) rfl
theorem tup3 {p : Prog} {n : Nat} {st : St} {x y z : Nat} {a b c : UInt64} (h1 : st[x]? = some (Loc.val (V.flt a))) (h2 : st[y]? = some (Loc.val (V.flt b))) (h3 : st[z]? = some (Loc.val (V.flt c))) : ev p (n + 2) st (Ex.tup [Ex.var x, Ex.var y, Ex.var z]) = some (V.tup [V.flt a, V.flt b, V.flt c]) :=
  e_tup (m_cons (ef h1) (m_cons (ef h2) (m_cons (ef h3) m_nil))) (Nat.le_of_ble_eq_true rfl)

/-- from a hue, a share and a value to red, green and blue -/
theorem hsv_grey (n : Nat) {h s v : UInt64} (c : eqF s 0 = true) : callF prog (n + 20) 7 [V.flt h, V.flt s, V.flt v] = some (V.tup [V.flt v, V.flt v, V.flt v]) :=
  c_ofE (fn := ⟨3, 8, bhsv_to_rgb⟩) rfl rfl ⟨_, q_iteR (c ▸ teq (lf rfl) lc) (tup3 (n := n + 15) rfl rfl rfl)⟩

noncomputable def rgbOf (σ : Nat) (v p q t : UInt64) : V := match σ with
  | 0 => V.tup [V.flt v, V.flt t, V.flt p]
  | 1 => V.tup [V.flt q, V.flt v, V.flt p]
  | 2 => V.tup [V.flt p, V.flt v, V.flt t]
  | 3 => V.tup [V.flt p, V.flt q, V.flt v]
  | 4 => V.tup [V.flt t, V.flt p, V.flt v]
  | _ => V.tup [V.flt v, V.flt p, V.flt q]
noncomputable def oneF : UInt64 := 4607182418800017408

theorem hsv_rgb (n : Nat) {h s v f : UInt64} {I : Int} {σ : Nat} (c : eqF s 0 = false) (hi : fint (Float64.mul h 4618441417868443648) = some I) (hs : small I = true) (hf : Float64.sub (Float64.mul h 4618441417868443648) (Float64.ofInt I) = f) (hσ : I.fmod 6 = (σ : Nat)) (h6 : σ < 6) :
    callF prog (n + 20) 7 [V.flt h, V.flt s, V.flt v] = some (rgbOf σ v (Float64.mul v (Float64.sub oneF s)) (Float64.mul v (Float64.sub oneF (Float64.mul s f))) (Float64.mul v (Float64.sub oneF (Float64.mul s (Float64.sub oneF f))))) := by
  generalize hp : Float64.mul v (Float64.sub oneF s) = p
  generalize hq : Float64.mul v (Float64.sub oneF (Float64.mul s f)) = q
  generalize ht : Float64.mul v (Float64.sub oneF (Float64.mul s (Float64.sub oneF f))) = t
  -- the turns of the hue
  have tail : ∀ {st : St}, st[3]? = some (Loc.val (V.int (σ : Nat))) → st[2]? = some (Loc.val (V.flt v)) → st[5]? = some (Loc.val (V.flt p)) → st[6]? = some (Loc.val (V.flt q)) → st[7]? = some (Loc.val (V.flt t)) →
      seq (ex prog (n + 19)) st [Sm.ite (Ex.cmp Cop.eq (Ex.var 3) (Ex.int 0)) [Sm.ret (Ex.tup [Ex.var 2, Ex.var 7, Ex.var 5])] [], Sm.ite (Ex.cmp Cop.eq (Ex.var 3) (Ex.int 1)) [Sm.ret (Ex.tup [Ex.var 6, Ex.var 2, Ex.var 5])] [], Sm.ite (Ex.cmp Cop.eq (Ex.var 3) (Ex.int 2)) [Sm.ret (Ex.tup [Ex.var 5, Ex.var 2, Ex.var 7])] [],
        Sm.ite (Ex.cmp Cop.eq (Ex.var 3) (Ex.int 3)) [Sm.ret (Ex.tup [Ex.var 5, Ex.var 6, Ex.var 2])] [], Sm.ite (Ex.cmp Cop.eq (Ex.var 3) (Ex.int 4)) [Sm.ret (Ex.tup [Ex.var 7, Ex.var 5, Ex.var 2])] [], Sm.ite (Ex.cmp Cop.eq (Ex.var 3) (Ex.int 5)) [Sm.ret (Ex.tup [Ex.var 2, Ex.var 5, Ex.var 6])] []] = some (Fl.ret (rgbOf σ v p q t), st) := by
    intro st h3 h2 h5 h6' h7
    have s6 : σ = 0 ∨ σ = 1 ∨ σ = 2 ∨ σ = 3 ∨ σ = 4 ∨ σ = 5 := by omega
    rcases s6 with rfl | rfl | rfl | rfl | rfl | rfl
    · exact q_iteR (tint (n := n + 15) h3) (tup3 h2 h7 h5)
    · exact q_iteN (tint (n := n + 15) h3) (q_iteR (tint (n := n + 15) h3) (tup3 h6' h2 h5))
    · exact q_iteN (tint (n := n + 15) h3) (q_iteN (tint (n := n + 15) h3) (q_iteR (tint (n := n + 15) h3) (tup3 h5 h2 h7)))
    · exact q_iteN (tint (n := n + 15) h3) (q_iteN (tint (n := n + 15) h3) (q_iteN (tint (n := n + 15) h3) (q_iteR (tint (n := n + 15) h3) (tup3 h5 h6' h2))))
    · exact q_iteN (tint (n := n + 15) h3) (q_iteN (tint (n := n + 15) h3) (q_iteN (tint (n := n + 15) h3) (q_iteN (tint (n := n + 15) h3) (q_iteR (tint (n := n + 15) h3) (tup3 h7 h5 h2)))))
    · exact q_iteN (tint (n := n + 15) h3) (q_iteN (tint (n := n + 15) h3) (q_iteN (tint (n := n + 15) h3) (q_iteN (tint (n := n + 15) h3) (q_iteN (tint (n := n + 15) h3) (q_iteR (tint (n := n + 15) h3) (tup3 h2 h5 h6'))))))
  have m6 : ∀ {st : St} (k : Nat), st[0]? = some (Loc.val (V.flt h)) → ev prog (k + 3) st (Ex.bin Bop.mul (Ex.var 0) (Ex.flt 4618441417868443648)) = some (V.flt (Float64.mul h 4618441417868443648)) := fun k h0 => fmul (lf h0) lc
  have eI : ev prog (n + 18) [Loc.val (V.flt h), Loc.val (V.flt s), Loc.val (V.flt v), Loc.un, Loc.un, Loc.un, Loc.un, Loc.un] (Ex.bi Bi.int [Ex.bin Bop.mul (Ex.var 0) (Ex.flt 4618441417868443648)]) = some (V.int I) := e_bi (m_cons (l_of rfl (m6 (n + 13) rfl)) m_nil) (bi_int hi)
  have eF : ev prog (n + 18) [Loc.val (V.flt h), Loc.val (V.flt s), Loc.val (V.flt v), Loc.val (V.int I), Loc.un, Loc.un, Loc.un, Loc.un] (Ex.bin Bop.sub (Ex.bin Bop.mul (Ex.var 0) (Ex.flt 4618441417868443648)) (Ex.var 3)) = some (V.flt f) := by
    refine e_bin (v := V.int I) (l_of rfl (m6 (n + 13) rfl)) (l_var (gl_v rfl)) ?_
    show (if small I then some (V.flt (Float64.sub (Float64.mul h 4618441417868443648) (Float64.ofInt I))) else none) = _
    rw [hs, hf]; rfl
  have eP : ev prog (n + 18) [Loc.val (V.flt h), Loc.val (V.flt s), Loc.val (V.flt v), Loc.val (V.int I), Loc.val (V.flt f), Loc.un, Loc.un, Loc.un] (Ex.bin Bop.mul (Ex.var 2) (Ex.bin Bop.sub (Ex.flt 4607182418800017408) (Ex.var 1))) = some (V.flt p) := hp ▸ fmul (lf rfl) (l_of rfl (fsub lc (lf rfl)))
  have eQ : ev prog (n + 18) [Loc.val (V.flt h), Loc.val (V.flt s), Loc.val (V.flt v), Loc.val (V.int I), Loc.val (V.flt f), Loc.val (V.flt p), Loc.un, Loc.un] (Ex.bin Bop.mul (Ex.var 2) (Ex.bin Bop.sub (Ex.flt 4607182418800017408) (Ex.bin Bop.mul (Ex.var 1) (Ex.var 4)))) = some (V.flt q) := hq ▸ fmul (lf rfl) (l_of rfl (fsub lc (l_of rfl (fmul (lf rfl) (lf rfl)))))
  have eT : ev prog (n + 18) [Loc.val (V.flt h), Loc.val (V.flt s), Loc.val (V.flt v), Loc.val (V.int I), Loc.val (V.flt f), Loc.val (V.flt p), Loc.val (V.flt q), Loc.un] (Ex.bin Bop.mul (Ex.var 2) (Ex.bin Bop.sub (Ex.flt 4607182418800017408) (Ex.bin Bop.mul (Ex.var 1) (Ex.bin Bop.sub (Ex.flt 4607182418800017408) (Ex.var 4))))) = some (V.flt t) :=
    ht ▸ fmul (lf rfl) (l_of rfl (fsub lc (l_of rfl (fmul (lf rfl) (l_of rfl (fsub lc (lf rfl)))))))
  have eM : ev prog (n + 18) [Loc.val (V.flt h), Loc.val (V.flt s), Loc.val (V.flt v), Loc.val (V.int I), Loc.val (V.flt f), Loc.val (V.flt p), Loc.val (V.flt q), Loc.val (V.flt t)] (Ex.bin Bop.mod (Ex.var 3) (Ex.int 6)) = some (V.int (σ : Nat)) := by
    refine e_bin (u := V.int I) (v := V.int 6) (l_var (gl_v rfl)) (l_of rfl e_int) ?_
    show some (V.int (I.fmod 6)) = _
    rw [hσ]
  exact c_ofE (fn := ⟨3, 8, bhsv_to_rgb⟩) rfl rfl ⟨_, q_iteN (c ▸ teq (n := n + 17) (lf rfl) lc) (q_cons (x_asg eI) (q_cons (x_asg eF) (q_cons (x_asg eP) (q_cons (x_asg eQ) (q_cons (x_asg eT) (q_cons (x_asg eM) (tail rfl rfl rfl rfl rfl)))))))⟩
end Mine
end
section
namespace Mine
open PySem

/-- the hue that the told colours come to -/
noncomputable def hueE (r g b mx mn : UInt64) : UInt64 :=
  (Float64.divmod (Float64.div (bif eqF r mx then Float64.sub (Float64.div (Float64.sub mx b) (Float64.sub mx mn)) (Float64.div (Float64.sub mx g) (Float64.sub mx mn))
    else bif eqF g mx then Float64.sub (Float64.add 4611686018427387904 (Float64.div (Float64.sub mx r) (Float64.sub mx mn))) (Float64.div (Float64.sub mx b) (Float64.sub mx mn))
    else Float64.sub (Float64.add 4616189618054758400 (Float64.div (Float64.sub mx g) (Float64.sub mx mn))) (Float64.div (Float64.sub mx r) (Float64.sub mx mn))) 4618441417868443648) 4607182418800017408).2

/-- the hue's own statement -/
theorem hue_ite {p : Prog} (n : Nat) {st : St} {x y z t : Nat} {r g mx rc gc bc : UInt64} (h0 : st[0]? = some (Loc.val (V.flt r))) (h1 : st[1]? = some (Loc.val (V.flt g))) (h3 : st[3]? = some (Loc.val (V.flt mx))) (hx : st[x]? = some (Loc.val (V.flt rc))) (hy : st[y]? = some (Loc.val (V.flt gc))) (hz : st[z]? = some (Loc.val (V.flt bc))) :
    ex p (n + 8) st (Sm.ite (Ex.cmp Cop.eq (Ex.var 0) (Ex.var 3)) [Sm.asg t (Ex.bin Bop.sub (Ex.var z) (Ex.var y))] [Sm.ite (Ex.cmp Cop.eq (Ex.var 1) (Ex.var 3)) [Sm.asg t (Ex.bin Bop.sub (Ex.bin Bop.add (Ex.flt 4611686018427387904) (Ex.var x)) (Ex.var z))] [Sm.asg t (Ex.bin Bop.sub (Ex.bin Bop.add (Ex.flt 4616189618054758400) (Ex.var y)) (Ex.var x))]]) =
      some (Fl.nx, st.set t (Loc.val (V.flt (bif eqF r mx then Float64.sub bc gc else bif eqF g mx then Float64.sub (Float64.add 4611686018427387904 rc) bc else Float64.sub (Float64.add 4616189618054758400 gc) rc)))) := by
  have t1 := teq (p := p) (n := n + 6) (lf h0) (lf h3)
  have t2 := teq (p := p) (n := n + 5) (lf h1) (lf h3)
  cases c1 : eqF r mx with
  | true =>
    rw [c1] at t1
    exact x_iteT t1 (q_cons (x_asg (fsub (lf hz) (lf hy))) q_nil)
  | false =>
    rw [c1] at t1
    cases c2 : eqF g mx with
    | true =>
      rw [c2] at t2
      exact x_iteF t1 (q_cons (x_iteT t2 (q_cons (x_asg (fsub (l_of rfl (fadd lc (lf hx))) (lf hz))) q_nil)) q_nil)
    | false =>
      rw [c2] at t2
      exact x_iteF t1 (q_cons (x_iteF t2 (q_cons (x_asg (fsub (l_of rfl (fadd lc (lf hy))) (lf hx))) q_nil)) q_nil)

theorem b_max {r g b mx : UInt64} (h : maxF (maxF r g) b = mx) : builtin Bi.max [V.flt r, V.flt g, V.flt b] = some (V.flt mx) := by
  show some (V.flt (maxF (maxF r g) b)) = _
  rw [h]
theorem b_min {r g b mn : UInt64} (h : minF (minF r g) b = mn) : builtin Bi.min [V.flt r, V.flt g, V.flt b] = some (V.flt mn) := by
  show some (V.flt (minF (minF r g) b)) = _
  rw [h]
theorem arg3 {p : Prog} {n : Nat} {st : St} {r g b : UInt64} (h0 : st[0]? = some (Loc.val (V.flt r))) (h1 : st[1]? = some (Loc.val (V.flt g))) (h2 : st[2]? = some (Loc.val (V.flt b))) : mapO (evL p (n + 1) st) [Ex.var 0, Ex.var 1, Ex.var 2] = some [V.flt r, V.flt g, V.flt b] :=
  m_cons (lf h0) (m_cons (lf h1) (m_cons (lf h2) m_nil))
/-- a part's share of the spread -/
theorem part3 {p : Prog} {n : Nat} {st : St} {x y z : Nat} {a b c : UInt64} (h1 : st[x]? = some (Loc.val (V.flt a))) (h2 : st[y]? = some (Loc.val (V.flt b))) (h3 : st[z]? = some (Loc.val (V.flt c))) (hz : Float64.isZero c = false) :
    ev p (n + 4) st (Ex.bin Bop.div (Ex.bin Bop.sub (Ex.var x) (Ex.var y)) (Ex.var z)) = some (V.flt (Float64.div (Float64.sub a b) c)) := fdv (l_of rfl (fsub (lf h1) (lf h2))) (lf h3) hz
/-- sixths of a turn, whole turns left out -/
theorem turn1 {p : Prog} {n : Nat} {st : St} {x : Nat} {a : UInt64} (h1 : st[x]? = some (Loc.val (V.flt a))) : ev p (n + 5) st (Ex.bin Bop.mod (Ex.bin Bop.div (Ex.var x) (Ex.flt 4618441417868443648)) (Ex.flt 4607182418800017408)) = some (V.flt (Float64.divmod (Float64.div a 4618441417868443648) 4607182418800017408).2) :=
  fmd (l_of rfl (fdv (lf h1) lc z6)) lc z1

theorem rgb_hsv (n : Nat) {r g b mx mn : UInt64} (h1 : maxF (maxF r g) b = mx) (h2 : minF (minF r g) b = mn) (h3 : eqF mn mx = false) (h4 : Float64.isZero mx = false) (h5 : Float64.isZero (Float64.sub mx mn) = false) :
    callF prog (n + 20) 6 [V.flt r, V.flt g, V.flt b] = some (V.tup [V.flt (hueE r g b mx mn), V.flt (Float64.div (Float64.sub mx mn) mx), V.flt mx]) := by
  unfold hueE
  generalize hd : Float64.sub mx mn = rg at h5
  exact c_ofE (fn := ⟨3, 12, brgb_to_hsv⟩) rfl rfl ⟨_, q_cons (x_asg (e_bi (n := n + 17) (arg3 rfl rfl rfl) (b_max h1))) (q_cons (x_asg (e_bi (n := n + 17) (arg3 rfl rfl rfl) (b_min h2))) (q_cons (x_asg (hd ▸ fsub (n := n + 17) (x := mx) (y := mn) (lf rfl) (lf rfl))) (q_cons (x_asg (ef (n := n + 17) (a := mx) rfl))
    (q_iteN (h3 ▸ teq (n := n + 17) (x := mn) (y := mx) (lf rfl) (lf rfl)) (q_cons (x_asg (fdv (n := n + 17) (x := rg) (y := mx) (lf rfl) (lf rfl) h4)) (q_cons (x_asg (part3 (n := n + 14) (a := mx) (b := r) (c := rg) rfl rfl rfl h5)) (q_cons (x_asg (part3 (n := n + 14) (a := mx) (b := g) (c := rg) rfl rfl rfl h5)) (q_cons (x_asg (part3 (n := n + 14) (a := mx) (b := b) (c := rg) rfl rfl rfl h5))
    (q_cons (hue_ite (n + 11) (r := r) (g := g) (mx := mx) (rc := Float64.div (Float64.sub mx r) rg) (gc := Float64.div (Float64.sub mx g) rg) (bc := Float64.div (Float64.sub mx b) rg) rfl rfl rfl rfl rfl rfl) (q_cons (x_asg (turn1 (n := n + 13) rfl)) (q_ret (n := n + 18) (tup3 (n := n + 16) rfl rfl rfl))))))))))))⟩
theorem rgb_hsv_grey (n : Nat) {r g b mx mn : UInt64} (h1 : maxF (maxF r g) b = mx) (h2 : minF (minF r g) b = mn) (h3 : eqF mn mx = true) :
    callF prog (n + 20) 6 [V.flt r, V.flt g, V.flt b] = some (V.tup [V.flt 0, V.flt 0, V.flt mx]) :=
  c_ofE (fn := ⟨3, 12, brgb_to_hsv⟩) rfl rfl ⟨_, q_cons (x_asg (e_bi (n := n + 17) (arg3 rfl rfl rfl) (b_max h1))) (q_cons (x_asg (e_bi (n := n + 17) (arg3 rfl rfl rfl) (b_min h2))) (q_cons (x_asg (fsub (n := n + 17) (x := mx) (y := mn) (lf rfl) (lf rfl))) (q_cons (x_asg (ef (n := n + 17) (a := mx) rfl))
    (q_iteR (n := n + 17) (h3 ▸ teq (n := n + 17) (x := mn) (y := mx) (lf rfl) (lf rfl)) (e_tup (n := n + 16) (m_cons e_flt (m_cons e_flt (m_cons (ef rfl) m_nil))) (Nat.le_of_ble_eq_true rfl))))))⟩

noncomputable def leF (a b : UInt64) : Bool := Float64.cmp a b == some Ordering.lt || Float64.cmp a b == some Ordering.eq
noncomputable def lightE (mx mn : UInt64) : UInt64 := Float64.div (Float64.add mx mn) 4611686018427387904
noncomputable def satE (mx mn : UInt64) : UInt64 := bif leF (lightE mx mn) 4602678819172646912 then Float64.div (Float64.sub mx mn) (Float64.add mx mn) else Float64.div (Float64.sub mx mn) (Float64.sub (Float64.sub 4611686018427387904 mx) mn)

theorem light1 {p : Prog} {n : Nat} {st : St} {mx mn : UInt64} (h : st[5]? = some (Loc.val (V.flt (Float64.add mx mn)))) : ev p (n + 3) st (Ex.bin Bop.div (Ex.var 5) (Ex.flt 4611686018427387904)) = some (V.flt (lightE mx mn)) := fdv (lf h) lc z2
theorem sat_ite {p : Prog} (n : Nat) {st : St} {mx mn : UInt64} (h3 : st[3]? = some (Loc.val (V.flt mx))) (h4 : st[4]? = some (Loc.val (V.flt mn))) (h5 : st[5]? = some (Loc.val (V.flt (Float64.add mx mn)))) (h6 : st[6]? = some (Loc.val (V.flt (Float64.sub mx mn)))) (h7 : st[7]? = some (Loc.val (V.flt (lightE mx mn))))
    (k6 : Float64.isZero (Float64.add mx mn) = false) (k7 : leF (lightE mx mn) 4602678819172646912 = false → Float64.isZero (Float64.sub (Float64.sub 4611686018427387904 mx) mn) = false) :
    ex p (n + 9) st (Sm.ite (Ex.cmp Cop.le (Ex.var 7) (Ex.flt 4602678819172646912)) [Sm.asg 8 (Ex.bin Bop.div (Ex.var 6) (Ex.var 5))] [Sm.asg 8 (Ex.bin Bop.div (Ex.var 6) (Ex.bin Bop.sub (Ex.bin Bop.sub (Ex.flt 4611686018427387904) (Ex.var 3)) (Ex.var 4)))]) = some (Fl.nx, st.set 8 (Loc.val (V.flt (satE mx mn)))) := by
  have t1 : evT p (n + 8) st (Ex.cmp Cop.le (Ex.var 7) (Ex.flt 4602678819172646912)) = some (leF (lightE mx mn) 4602678819172646912) := t_cmp (u := V.flt (lightE mx mn)) (v := V.flt 4602678819172646912) (lf h7) lc rfl
  unfold satE
  cases c : leF (lightE mx mn) 4602678819172646912 with
  | true =>
    rw [c] at t1
    exact x_iteT t1 (q_cons (x_asg (fdv (lf h6) (lf h5) k6)) q_nil)
  | false =>
    rw [c] at t1
    exact x_iteF t1 (q_cons (x_asg (fdv (lf h6) (l_of rfl (fsub (l_of rfl (fsub lc (lf h3))) (lf h4))) (k7 c))) q_nil)

theorem hls_tail {p : Prog} (n : Nat) {st : St} {r g b mx rg l sa : UInt64} (hl : st.length = 13) (h0 : st[0]? = some (Loc.val (V.flt r))) (h1 : st[1]? = some (Loc.val (V.flt g))) (h2 : st[2]? = some (Loc.val (V.flt b))) (h3 : st[3]? = some (Loc.val (V.flt mx))) (h6 : st[6]? = some (Loc.val (V.flt rg))) (h7 : st[7]? = some (Loc.val (V.flt l))) (h8 : st[8]? = some (Loc.val (V.flt sa))) (hz : Float64.isZero rg = false) :
    ∃ st', seq (ex p (n + 19)) st [Sm.asg 9 (Ex.bin Bop.div (Ex.bin Bop.sub (Ex.var 3) (Ex.var 0)) (Ex.var 6)), Sm.asg 10 (Ex.bin Bop.div (Ex.bin Bop.sub (Ex.var 3) (Ex.var 1)) (Ex.var 6)), Sm.asg 11 (Ex.bin Bop.div (Ex.bin Bop.sub (Ex.var 3) (Ex.var 2)) (Ex.var 6)),
      Sm.ite (Ex.cmp Cop.eq (Ex.var 0) (Ex.var 3)) [Sm.asg 12 (Ex.bin Bop.sub (Ex.var 11) (Ex.var 10))] [Sm.ite (Ex.cmp Cop.eq (Ex.var 1) (Ex.var 3)) [Sm.asg 12 (Ex.bin Bop.sub (Ex.bin Bop.add (Ex.flt 4611686018427387904) (Ex.var 9)) (Ex.var 11))] [Sm.asg 12 (Ex.bin Bop.sub (Ex.bin Bop.add (Ex.flt 4616189618054758400) (Ex.var 10)) (Ex.var 9))]],
      Sm.asg 12 (Ex.bin Bop.mod (Ex.bin Bop.div (Ex.var 12) (Ex.flt 4618441417868443648)) (Ex.flt 4607182418800017408)), Sm.ret (Ex.tup [Ex.var 12, Ex.var 7, Ex.var 8])] =
    some (Fl.ret (V.tup [V.flt (Float64.divmod (Float64.div (bif eqF r mx then Float64.sub (Float64.div (Float64.sub mx b) rg) (Float64.div (Float64.sub mx g) rg) else bif eqF g mx then Float64.sub (Float64.add 4611686018427387904 (Float64.div (Float64.sub mx r) rg)) (Float64.div (Float64.sub mx b) rg) else Float64.sub (Float64.add 4616189618054758400 (Float64.div (Float64.sub mx g) rg)) (Float64.div (Float64.sub mx r) rg)) 4618441417868443648) 4607182418800017408).2, V.flt l, V.flt sa]), st') := by
  have x1 := x_asg (x := 9) (part3 (p := p) (n := n + 14) h3 h0 h6 hz)
  have k9 : (st.set 9 (Loc.val (V.flt (Float64.div (Float64.sub mx r) rg))))[9]? = some (Loc.val (V.flt (Float64.div (Float64.sub mx r) rg))) := ge (by omega)
  have k0 := gn (m := Loc.val (V.flt (Float64.div (Float64.sub mx r) rg))) (show 9 ≠ 0 by decide) h0
  have k1 := gn (m := Loc.val (V.flt (Float64.div (Float64.sub mx r) rg))) (show 9 ≠ 1 by decide) h1
  have k2 := gn (m := Loc.val (V.flt (Float64.div (Float64.sub mx r) rg))) (show 9 ≠ 2 by decide) h2
  have k3 := gn (m := Loc.val (V.flt (Float64.div (Float64.sub mx r) rg))) (show 9 ≠ 3 by decide) h3
  have k6 := gn (m := Loc.val (V.flt (Float64.div (Float64.sub mx r) rg))) (show 9 ≠ 6 by decide) h6
  have k7 := gn (m := Loc.val (V.flt (Float64.div (Float64.sub mx r) rg))) (show 9 ≠ 7 by decide) h7
  have k8 := gn (m := Loc.val (V.flt (Float64.div (Float64.sub mx r) rg))) (show 9 ≠ 8 by decide) h8
  have hl1 : (st.set 9 (Loc.val (V.flt (Float64.div (Float64.sub mx r) rg)))).length = 13 := by rw [List.length_set]; exact hl
  generalize st.set 9 (Loc.val (V.flt (Float64.div (Float64.sub mx r) rg))) = s1 at *
  have x2 := x_asg (x := 10) (part3 (p := p) (n := n + 14) k3 k1 k6 hz)
  have m10 : (s1.set 10 (Loc.val (V.flt (Float64.div (Float64.sub mx g) rg))))[10]? = some (Loc.val (V.flt (Float64.div (Float64.sub mx g) rg))) := ge (by omega)
  have m0 := gn (m := Loc.val (V.flt (Float64.div (Float64.sub mx g) rg))) (show 10 ≠ 0 by decide) k0
  have m1 := gn (m := Loc.val (V.flt (Float64.div (Float64.sub mx g) rg))) (show 10 ≠ 1 by decide) k1
  have m2 := gn (m := Loc.val (V.flt (Float64.div (Float64.sub mx g) rg))) (show 10 ≠ 2 by decide) k2
  have m3 := gn (m := Loc.val (V.flt (Float64.div (Float64.sub mx g) rg))) (show 10 ≠ 3 by decide) k3
  have m6 := gn (m := Loc.val (V.flt (Float64.div (Float64.sub mx g) rg))) (show 10 ≠ 6 by decide) k6
  have m7 := gn (m := Loc.val (V.flt (Float64.div (Float64.sub mx g) rg))) (show 10 ≠ 7 by decide) k7
  have m8 := gn (m := Loc.val (V.flt (Float64.div (Float64.sub mx g) rg))) (show 10 ≠ 8 by decide) k8
  have m9 := gn (m := Loc.val (V.flt (Float64.div (Float64.sub mx g) rg))) (show 10 ≠ 9 by decide) k9
  have hl2 : (s1.set 10 (Loc.val (V.flt (Float64.div (Float64.sub mx g) rg)))).length = 13 := by rw [List.length_set]; exact hl1
  generalize s1.set 10 (Loc.val (V.flt (Float64.div (Float64.sub mx g) rg))) = s2 at *
  have x3 := x_asg (x := 11) (part3 (p := p) (n := n + 14) m3 m2 m6 hz)
  have q11 : (s2.set 11 (Loc.val (V.flt (Float64.div (Float64.sub mx b) rg))))[11]? = some (Loc.val (V.flt (Float64.div (Float64.sub mx b) rg))) := ge (by omega)
  have q0 := gn (m := Loc.val (V.flt (Float64.div (Float64.sub mx b) rg))) (show 11 ≠ 0 by decide) m0
  have q1 := gn (m := Loc.val (V.flt (Float64.div (Float64.sub mx b) rg))) (show 11 ≠ 1 by decide) m1
  have q2 := gn (m := Loc.val (V.flt (Float64.div (Float64.sub mx b) rg))) (show 11 ≠ 2 by decide) m2
  have q3 := gn (m := Loc.val (V.flt (Float64.div (Float64.sub mx b) rg))) (show 11 ≠ 3 by decide) m3
  have q6 := gn (m := Loc.val (V.flt (Float64.div (Float64.sub mx b) rg))) (show 11 ≠ 6 by decide) m6
  have q7 := gn (m := Loc.val (V.flt (Float64.div (Float64.sub mx b) rg))) (show 11 ≠ 7 by decide) m7
  have q8 := gn (m := Loc.val (V.flt (Float64.div (Float64.sub mx b) rg))) (show 11 ≠ 8 by decide) m8
  have q9 := gn (m := Loc.val (V.flt (Float64.div (Float64.sub mx b) rg))) (show 11 ≠ 9 by decide) m9
  have q10 := gn (m := Loc.val (V.flt (Float64.div (Float64.sub mx b) rg))) (show 11 ≠ 10 by decide) m10
  have hl3 : (s2.set 11 (Loc.val (V.flt (Float64.div (Float64.sub mx b) rg)))).length = 13 := by rw [List.length_set]; exact hl2
  generalize s2.set 11 (Loc.val (V.flt (Float64.div (Float64.sub mx b) rg))) = s3 at *
  have x4 := hue_ite (p := p) (n + 11) (t := 12) q0 q1 q3 q9 q10 q11
  generalize (bif eqF r mx then Float64.sub (Float64.div (Float64.sub mx b) rg) (Float64.div (Float64.sub mx g) rg) else bif eqF g mx then Float64.sub (Float64.add 4611686018427387904 (Float64.div (Float64.sub mx r) rg)) (Float64.div (Float64.sub mx b) rg) else Float64.sub (Float64.add 4616189618054758400 (Float64.div (Float64.sub mx g) rg)) (Float64.div (Float64.sub mx r) rg)) = hu at x4 ⊢
  have x5 := x_asg (x := 12) (turn1 (p := p) (n := n + 13) (st := s3.set 12 (Loc.val (V.flt hu))) (ge (by omega)))
  exact ⟨_, q_cons x1 (q_cons x2 (q_cons x3 (q_cons x4 (q_cons x5 (q_ret (n := n + 18) (tup3 (n := n + 16) (ge (by rw [List.length_set]; omega)) (gn (by decide) (gn (by decide) q7)) (gn (by decide) (gn (by decide) q8))))))))⟩

theorem rgb_hls (n : Nat) {r g b mx mn : UInt64} (h1 : maxF (maxF r g) b = mx) (h2 : minF (minF r g) b = mn) (h3 : eqF mn mx = false) (h5 : Float64.isZero (Float64.sub mx mn) = false) (h6 : Float64.isZero (Float64.add mx mn) = false)
    (h7 : leF (lightE mx mn) 4602678819172646912 = false → Float64.isZero (Float64.sub (Float64.sub 4611686018427387904 mx) mn) = false) :
    callF prog (n + 20) 5 [V.flt r, V.flt g, V.flt b] = some (V.tup [V.flt (hueE r g b mx mn), V.flt (lightE mx mn), V.flt (satE mx mn)]) := by
  unfold hueE
  obtain ⟨st', T⟩ := hls_tail (p := prog) n (st := [Loc.val (V.flt r), Loc.val (V.flt g), Loc.val (V.flt b), Loc.val (V.flt mx), Loc.val (V.flt mn), Loc.val (V.flt (Float64.add mx mn)), Loc.val (V.flt (Float64.sub mx mn)), Loc.val (V.flt (lightE mx mn)), Loc.val (V.flt (satE mx mn)), Loc.un, Loc.un, Loc.un, Loc.un]) rfl rfl rfl rfl rfl rfl rfl rfl h5
  exact c_ofE (fn := ⟨3, 13, brgb_to_hls⟩) rfl rfl ⟨st', q_cons (x_asg (e_bi (n := n + 17) (arg3 rfl rfl rfl) (b_max h1))) (q_cons (x_asg (e_bi (n := n + 17) (arg3 rfl rfl rfl) (b_min h2))) (q_cons (x_asg (fadd (n := n + 17) (x := mx) (y := mn) (lf rfl) (lf rfl))) (q_cons (x_asg (fsub (n := n + 17) (x := mx) (y := mn) (lf rfl) (lf rfl))) (q_cons (x_asg (light1 (n := n + 15) (mx := mx) (mn := mn) rfl))
    (q_iteN (h3 ▸ teq (n := n + 17) (x := mn) (y := mx) (lf rfl) (lf rfl)) (q_cons (sat_ite (n + 10) (mx := mx) (mn := mn) rfl rfl rfl rfl rfl h6 h7) T))))))⟩
theorem rgb_hls_grey (n : Nat) {r g b mx mn : UInt64} (h1 : maxF (maxF r g) b = mx) (h2 : minF (minF r g) b = mn) (h3 : eqF mn mx = true) :
    callF prog (n + 20) 5 [V.flt r, V.flt g, V.flt b] = some (V.tup [V.flt 0, V.flt (lightE mx mn), V.flt 0]) :=
  c_ofE (fn := ⟨3, 13, brgb_to_hls⟩) rfl rfl ⟨_, q_cons (x_asg (e_bi (n := n + 17) (arg3 rfl rfl rfl) (b_max h1))) (q_cons (x_asg (e_bi (n := n + 17) (arg3 rfl rfl rfl) (b_min h2))) (q_cons (x_asg (fadd (n := n + 17) (x := mx) (y := mn) (lf rfl) (lf rfl))) (q_cons (x_asg (fsub (n := n + 17) (x := mx) (y := mn) (lf rfl) (lf rfl))) (q_cons (x_asg (light1 (n := n + 15) (mx := mx) (mn := mn) rfl))
    (q_iteR (n := n + 17) (h3 ▸ teq (n := n + 17) (x := mn) (y := mx) (lf rfl) (lf rfl)) (e_tup (n := n + 16) (m_cons e_flt (m_cons (ef (a := lightE mx mn) rfl) (m_cons e_flt m_nil))) (Nat.le_of_ble_eq_true rfl)))))))⟩
end Mine
end
section
namespace Mine
open PySem
noncomputable def FV (k : Nat) : UInt64 := Float64.ofFrac false (1 + k) 4
noncomputable def FS (j : Nat) : UInt64 := Float64.ofFrac false j 4
noncomputable def FF (m : Nat) : UInt64 := Float64.ofFrac false m 32
noncomputable def HU (i : Nat) : UInt64 := Float64.ofFrac false i 64
noncomputable def FX (j k m : Nat) : UInt64 := Float64.mul (FV k) (Float64.sub oneF (Float64.mul (FS j) (FF m)))
noncomputable def isO (o : Option Ordering) (x : Ordering) : Bool := o == some x
theorem isO_eq {o : Option Ordering} {x : Ordering} (h : isO o x = true) : o = some x := by
  unfold isO at h
  cases o with
  | none => cases h
  | some y => cases y <;> cases x <;> first | rfl | cases h
noncomputable def tX (j k m : Nat) : Bool :=
  isO (Float64.cmp (FX j k 0) (FX j k m)) (if m = 0 then .eq else .gt) && isO (Float64.cmp (FX j k m) (FX j k 0)) (if m = 0 then .eq else .lt) &&
  isO (Float64.cmp (FX j k 32) (FX j k m)) (if m = 32 then .eq else .lt) && isO (Float64.cmp (FX j k m) (FX j k 32)) (if m = 32 then .eq else .gt) &&
  Float64.div (Float64.sub (FX j k 0) (FX j k m)) (Float64.sub (FX j k 0) (FX j k 32)) == FF m
noncomputable def tXs (j k : Nat) : Bool := (List.range 33).all fun m => tX j k m
noncomputable def tI (i : Nat) : Bool := fint (Float64.mul (HU i) 4618441417868443648) == some ((3 * i / 32 : Nat) : Int) && Float64.sub (Float64.mul (HU i) 4618441417868443648) (Float64.ofInt ((3 * i / 32 : Nat) : Int)) == FF (3 * i % 32)
noncomputable def hueP (a b c : Nat) : UInt64 := (Float64.divmod (Float64.div (bif a == 0 then Float64.sub (FF c) (FF b) else bif b == 0 then Float64.sub (Float64.add 4611686018427387904 (FF a)) (FF c) else Float64.sub (Float64.add 4616189618054758400 (FF b)) (FF a)) 4618441417868443648) 4607182418800017408).2
noncomputable def arr (σ m : Nat) : Nat × Nat × Nat := match σ with
  | 0 => (0, 32 - m, 32)
  | 1 => (m, 0, 32)
  | 2 => (32, 0, 32 - m)
  | 3 => (32, m, 0)
  | 4 => (32 - m, 32, 0)
  | _ => (0, 32, m)
noncomputable def tH (i : Nat) : Bool := let x := arr (3 * i / 32) (3 * i % 32); hueP x.1 x.2.1 x.2.2 == HU i && eqF (HU i) (HU i)
noncomputable def halfF : UInt64 := 4602678819172646912
noncomputable def tK (i : Nat) : Bool := (fint (Float64.add (Float64.mul (HU i) (Float64.ofInt 3)) halfF)).isSome
noncomputable def twoF : UInt64 := Float64.ofInt 2
noncomputable def litF (j k : Nat) : UInt64 := Float64.div (Float64.mul (FV k) (Float64.sub twoF (FS j))) twoF
noncomputable def denF (j k : Nat) : UInt64 := minF (Float64.mul twoF (litF j k)) (Float64.sub twoF (Float64.mul twoF (litF j k)))
noncomputable def fulF (j k : Nat) : UInt64 := Float64.div (Float64.mul (FS j) (FV k)) (denF j k)
/-- the facts of a share and a value -/
noncomputable def tJ (j k : Nat) : Bool :=
  FV k == FX j k 0 && Float64.mul (FV k) (Float64.sub oneF (FS j)) == FX j k 32 && !eqF (FS j) 0 && !Float64.isZero (FX j k 0) && !Float64.isZero (Float64.sub (FX j k 0) (FX j k 32)) && !Float64.isZero (Float64.add (FX j k 0) (FX j k 32)) &&
  (leF (lightE (FX j k 0) (FX j k 32)) halfF || !Float64.isZero (Float64.sub (Float64.sub 4611686018427387904 (FX j k 0)) (FX j k 32))) &&
  eqF (Float64.div (Float64.sub (FX j k 0) (FX j k 32)) (FX j k 0)) (FS j) && eqF (FX j k 0) (FV k) && isO (Float64.cmpInt (FS j) 0) .gt && !Float64.isZero (denF j k) &&
  eqF (lightE (FX j k 0) (FX j k 32)) (litF j k) && eqF (satE (FX j k 0) (FX j k 32)) (fulF j k)
/-- the facts of a grey's value -/
noncomputable def tG (k : Nat) : Bool :=
  eqF (FS 0) 0 && eqF (maxF (maxF (FV k) (FV k)) (FV k)) (FV k) && eqF (minF (minF (FV k) (FV k)) (FV k)) (maxF (maxF (FV k) (FV k)) (FV k)) && eqF 0 0 && eqF 0 (FS 0) && Float64.cmpInt (FS 0) 0 != some .gt && eqF (lightE (maxF (maxF (FV k) (FV k)) (FV k)) (minF (minF (FV k) (FV k)) (FV k))) (litF 0 k)
set_option maxRecDepth 100000
theorem tX_10 : tXs 1 0 = true := by decide +kernel
theorem tX_11 : tXs 1 1 = true := by decide +kernel
theorem tX_12 : tXs 1 2 = true := by decide +kernel
theorem tX_13 : tXs 1 3 = true := by decide +kernel
theorem tX_20 : tXs 2 0 = true := by decide +kernel
theorem tX_21 : tXs 2 1 = true := by decide +kernel
theorem tX_22 : tXs 2 2 = true := by decide +kernel
theorem tX_23 : tXs 2 3 = true := by decide +kernel
theorem tX_30 : tXs 3 0 = true := by decide +kernel
theorem tX_31 : tXs 3 1 = true := by decide +kernel
theorem tX_32 : tXs 3 2 = true := by decide +kernel
theorem tX_33 : tXs 3 3 = true := by decide +kernel
theorem tX_40 : tXs 4 0 = true := by decide +kernel
theorem tX_41 : tXs 4 1 = true := by decide +kernel
theorem tX_42 : tXs 4 2 = true := by decide +kernel
theorem tX_43 : tXs 4 3 = true := by decide +kernel
theorem tI_all : (List.range 128).all tI = true := by decide +kernel
theorem tF_all : (List.range 33).all (fun m => Float64.sub oneF (FF m) == FF (32 - m)) = true := by decide +kernel
theorem tH_all : (List.range 64).all tH = true := by decide +kernel
theorem tK_all : (List.range 64).all tK = true := by decide +kernel
theorem tJ_all : (List.range 4).all (fun j => (List.range 4).all fun k => tJ (j + 1) k) = true := by decide +kernel
theorem tG_all : (List.range 4).all tG = true := by decide +kernel

theorem tX_of {j k m : Nat} (hj : 1 ≤ j ∧ j < 5) (hk : k < 4) (hm : m ≤ 32) : tX j k m = true := by
  have : tXs j k = true := by
    have j4 : j = 1 ∨ j = 2 ∨ j = 3 ∨ j = 4 := by omega
    have k4 : k = 0 ∨ k = 1 ∨ k = 2 ∨ k = 3 := by omega
    rcases j4 with rfl | rfl | rfl | rfl <;> rcases k4 with rfl | rfl | rfl | rfl
    · exact tX_10
    · exact tX_11
    · exact tX_12
    · exact tX_13
    · exact tX_20
    · exact tX_21
    · exact tX_22
    · exact tX_23
    · exact tX_30
    · exact tX_31
    · exact tX_32
    · exact tX_33
    · exact tX_40
    · exact tX_41
    · exact tX_42
    · exact tX_43
  exact List.all_eq_true.mp this m (List.mem_range.mpr (by omega))
end Mine
end
section
namespace Mine
open PySem

section
variable {j k m : Nat}
theorem tX_facts (hj : 1 ≤ j ∧ j < 5) (hk : k < 4) (hm : m ≤ 32) :
    Float64.cmp (FX j k 0) (FX j k m) = some (if m = 0 then .eq else .gt) ∧ Float64.cmp (FX j k m) (FX j k 0) = some (if m = 0 then .eq else .lt) ∧ Float64.cmp (FX j k 32) (FX j k m) = some (if m = 32 then .eq else .lt) ∧
      Float64.cmp (FX j k m) (FX j k 32) = some (if m = 32 then .eq else .gt) ∧ Float64.div (Float64.sub (FX j k 0) (FX j k m)) (Float64.sub (FX j k 0) (FX j k 32)) = FF m := by
  have h := tX_of hj hk hm
  unfold tX at h
  simp only [Bool.and_eq_true, beq_iff_eq] at h
  obtain ⟨⟨⟨⟨h1, h2⟩, h3⟩, h4⟩, h5⟩ := h
  exact ⟨isO_eq h1, isO_eq h2, isO_eq h3, isO_eq h4, h5⟩

theorem maxF_of {a b : UInt64} {o : Ordering} (h : Float64.cmp a b = some o) : maxF a b = if o = .lt then b else a := by
  unfold maxF
  rw [h]
  cases o <;> rfl
theorem minF_of {a b : UInt64} {o : Ordering} (h : Float64.cmp b a = some o) : minF a b = if o = .lt then b else a := by
  unfold minF
  rw [h]
  cases o <;> rfl
theorem max0l (hj : 1 ≤ j ∧ j < 5) (hk : k < 4) (hm : m ≤ 32) : maxF (FX j k 0) (FX j k m) = FX j k 0 := by
  rw [maxF_of (tX_facts hj hk hm).1]
  split <;> first | rfl | (split at * <;> simp_all)
theorem max0r (hj : 1 ≤ j ∧ j < 5) (hk : k < 4) (hm : m ≤ 32) : maxF (FX j k m) (FX j k 0) = FX j k 0 := by
  rw [maxF_of (tX_facts hj hk hm).2.1]
  by_cases h : m = 0
  · subst h; rfl
  · rw [if_neg h]; rfl
theorem max32r (hj : 1 ≤ j ∧ j < 5) (hk : k < 4) (hm : m ≤ 32) : maxF (FX j k m) (FX j k 32) = FX j k m := by
  rw [maxF_of (tX_facts hj hk hm).2.2.2.1]
  by_cases h : m = 32
  · rw [if_pos h]; rfl
  · rw [if_neg h]; rfl
theorem max32l (hj : 1 ≤ j ∧ j < 5) (hk : k < 4) (hm : m ≤ 32) : maxF (FX j k 32) (FX j k m) = FX j k m := by
  rw [maxF_of (tX_facts hj hk hm).2.2.1]
  by_cases h : m = 32
  · subst h; rfl
  · rw [if_neg h]; rfl
theorem min0l (hj : 1 ≤ j ∧ j < 5) (hk : k < 4) (hm : m ≤ 32) : minF (FX j k 0) (FX j k m) = FX j k m := by
  rw [minF_of (tX_facts hj hk hm).2.1]
  by_cases h : m = 0
  · subst h; rfl
  · rw [if_neg h]; rfl
theorem min0r (hj : 1 ≤ j ∧ j < 5) (hk : k < 4) (hm : m ≤ 32) : minF (FX j k m) (FX j k 0) = FX j k m := by
  rw [minF_of (tX_facts hj hk hm).1]
  by_cases h : m = 0
  · rw [if_pos h]; rfl
  · rw [if_neg h]; rfl
theorem min32l (hj : 1 ≤ j ∧ j < 5) (hk : k < 4) (hm : m ≤ 32) : minF (FX j k 32) (FX j k m) = FX j k 32 := by
  rw [minF_of (tX_facts hj hk hm).2.2.2.1]
  by_cases h : m = 32
  · rw [if_pos h]; rfl
  · rw [if_neg h]; rfl
theorem min32r (hj : 1 ≤ j ∧ j < 5) (hk : k < 4) (hm : m ≤ 32) : minF (FX j k m) (FX j k 32) = FX j k 32 := by
  rw [minF_of (tX_facts hj hk hm).2.2.1]
  by_cases h : m = 32
  · subst h; rfl
  · rw [if_neg h]; rfl
theorem eq0 (hj : 1 ≤ j ∧ j < 5) (hk : k < 4) (hm : m ≤ 32) : eqF (FX j k m) (FX j k 0) = (m == 0) := by
  unfold eqF
  rw [(tX_facts hj hk hm).2.1]
  by_cases h : m = 0
  · subst h; rfl
  · rw [if_neg h, beq_eq_false_iff_ne.mpr h]; rfl

/-- three parts: the greatest, the least and a third, in some order -/
noncomputable def Arr (a b c m : Nat) : Prop := (a = 0 ∧ b = m ∧ c = 32) ∨ (a = m ∧ b = 0 ∧ c = 32) ∨ (a = 32 ∧ b = 0 ∧ c = m) ∨ (a = 32 ∧ b = m ∧ c = 0) ∨ (a = m ∧ b = 32 ∧ c = 0) ∨ (a = 0 ∧ b = 32 ∧ c = m)
theorem arr_ok {σ m : Nat} (h : m ≤ 32) : ∃ m', m' ≤ 32 ∧ Arr (arr σ m).1 (arr σ m).2.1 (arr σ m).2.2 m' := by
  match σ with
  | 0 => exact ⟨32 - m, by omega, .inl ⟨rfl, rfl, rfl⟩⟩
  | 1 => exact ⟨m, h, .inr (.inl ⟨rfl, rfl, rfl⟩)⟩
  | 2 => exact ⟨32 - m, by omega, .inr (.inr (.inl ⟨rfl, rfl, rfl⟩))⟩
  | 3 => exact ⟨m, h, .inr (.inr (.inr (.inl ⟨rfl, rfl, rfl⟩)))⟩
  | 4 => exact ⟨32 - m, by omega, .inr (.inr (.inr (.inr (.inl ⟨rfl, rfl, rfl⟩))))⟩
  | σ + 5 => exact ⟨m, h, .inr (.inr (.inr (.inr (.inr ⟨rfl, rfl, rfl⟩))))⟩
theorem arr_max {a b c : Nat} (hj : 1 ≤ j ∧ j < 5) (hk : k < 4) (hm : m ≤ 32) (h : Arr a b c m) : maxF (maxF (FX j k a) (FX j k b)) (FX j k c) = FX j k 0 ∧ minF (minF (FX j k a) (FX j k b)) (FX j k c) = FX j k 32 ∧ a ≤ 32 ∧ b ≤ 32 ∧ c ≤ 32 := by
  have m0 : (0 : Nat) ≤ 32 := by decide
  have m3 : (32 : Nat) ≤ 32 := by decide
  rcases h with ⟨rfl, rfl, rfl⟩ | ⟨rfl, rfl, rfl⟩ | ⟨rfl, rfl, rfl⟩ | ⟨rfl, rfl, rfl⟩ | ⟨rfl, rfl, rfl⟩ | ⟨rfl, rfl, rfl⟩
  · exact ⟨by rw [max0l hj hk hm, max0l hj hk m3], by rw [min0l hj hk hm, min32r hj hk hm], m0, hm, m3⟩
  · exact ⟨by rw [max0r hj hk hm, max0l hj hk m3], by rw [min0r hj hk hm, min32r hj hk hm], hm, m0, m3⟩
  · exact ⟨by rw [max0r hj hk m3, max0l hj hk hm], by rw [min0r hj hk m3, min32l hj hk hm], m3, m0, hm⟩
  · exact ⟨by rw [max32l hj hk hm, max0r hj hk hm], by rw [min32l hj hk hm, min0r hj hk m3], m3, hm, m0⟩
  · exact ⟨by rw [max32r hj hk hm, max0r hj hk hm], by rw [min32r hj hk hm, min0r hj hk m3], hm, m3, m0⟩
  · exact ⟨by rw [max0l hj hk m3, max0l hj hk hm], by rw [min0l hj hk m3, min32l hj hk hm], m0, m3, hm⟩
theorem hue_eq {a b c : Nat} (hj : 1 ≤ j ∧ j < 5) (hk : k < 4) (ha : a ≤ 32) (hb : b ≤ 32) (hc : c ≤ 32) : hueE (FX j k a) (FX j k b) (FX j k c) (FX j k 0) (FX j k 32) = hueP a b c := by
  unfold hueE hueP
  rw [eq0 hj hk ha, eq0 hj hk hb, (tX_facts hj hk ha).2.2.2.2, (tX_facts hj hk hb).2.2.2.2, (tX_facts hj hk hc).2.2.2.2]

/-- what a paint and its told colours come to -/
structure Paint (i j k : Nat) : Prop where
  ok : ∃ r g b u s v u2 l sa z, callF prog 98 7 [V.flt (HU i), V.flt (FS j), V.flt (FV k)] = some (V.tup [V.flt r, V.flt g, V.flt b]) ∧ callF prog 98 6 [V.flt r, V.flt g, V.flt b] = some (V.tup [V.flt u, V.flt s, V.flt v]) ∧
    callF prog 96 5 [V.flt r, V.flt g, V.flt b] = some (V.tup [V.flt u2, V.flt l, V.flt sa]) ∧ (Float64.cmpInt (FS j) 0 == some Ordering.gt) = decide (j ≠ 0) ∧
    eqF u (if j ≠ 0 then HU (i % 64) else 0) = true ∧ eqF s (FS j) = true ∧ eqF v (FV k) = true ∧ eqF u2 u = true ∧ eqF l (litF j k) = true ∧ eqF sa (if j ≠ 0 then fulF j k else 0) = true ∧
    (j ≠ 0 → Float64.isZero (denF j k) = false) ∧ fint (Float64.add (Float64.mul u (Float64.ofInt 3)) halfF) = some z

theorem k0 : fint (Float64.add (Float64.mul 0 (Float64.ofInt 3)) halfF) = some 0 := by decide +kernel
theorem eq00 : eqF 0 0 = true := by decide +kernel

theorem paint_grey {i : Nat} (hk : k < 4) : Paint i 0 k where
  ok := by
    have h := List.all_eq_true.mp tG_all k (List.mem_range.mpr hk)
    unfold tG at h
    simp only [Bool.and_eq_true] at h
    obtain ⟨⟨⟨⟨⟨⟨h1, h2⟩, h3⟩, h4⟩, h5⟩, h6⟩, h7⟩ := h
    refine ⟨_, _, _, _, _, _, _, _, _, 0, hsv_grey 78 h1, rgb_hsv_grey 78 rfl rfl h3, rgb_hls_grey 76 rfl rfl h3, ?_, ?_, h5, h2, h4, h7, ?_, fun h => absurd rfl h, k0⟩
    · rw [bne_iff_ne] at h6
      rw [beq_eq_false_iff_ne.mpr h6]; rfl
    · rw [if_neg (by simp)]; exact h4
    · rw [if_neg (by simp)]; exact h4
theorem tJ_facts (hj : 1 ≤ j ∧ j < 5) (hk : k < 4) : tJ j k = true := by
  have := List.all_eq_true.mp (List.all_eq_true.mp tJ_all (j - 1) (List.mem_range.mpr (by omega))) k (List.mem_range.mpr hk)
  rw [show j - 1 + 1 = j by omega] at this
  exact this

theorem rgbOf_arr {σ m : Nat} (hσ : σ < 6) : rgbOf σ (FX j k 0) (FX j k 32) (FX j k m) (FX j k (32 - m)) = V.tup [V.flt (FX j k (arr σ m).1), V.flt (FX j k (arr σ m).2.1), V.flt (FX j k (arr σ m).2.2)] := by
  have s6 : σ = 0 ∨ σ = 1 ∨ σ = 2 ∨ σ = 3 ∨ σ = 4 ∨ σ = 5 := by omega
  rcases s6 with rfl | rfl | rfl | rfl | rfl | rfl <;> rfl

theorem paint_col {i : Nat} (hi : i < 128) (hj : 1 ≤ j ∧ j < 5) (hk : k < 4) : Paint i j k where
  ok := by
    have h := tJ_facts hj hk
    unfold tJ at h
    simp only [Bool.and_eq_true, Bool.not_eq_true', beq_iff_eq, Bool.or_eq_true] at h
    obtain ⟨⟨⟨⟨⟨⟨⟨⟨⟨⟨⟨⟨q1, q2⟩, q3⟩, q4⟩, q5⟩, q6⟩, q7⟩, q8⟩, q9⟩, q10⟩, q11⟩, q12⟩, q13⟩ := h
    have hI := List.all_eq_true.mp tI_all i (List.mem_range.mpr hi)
    unfold tI at hI
    rw [Bool.and_eq_true, beq_iff_eq, beq_iff_eq] at hI
    have hm : 3 * i % 32 ≤ 32 := by omega
    have hσ : 3 * i / 32 % 6 < 6 := Nat.mod_lt _ (by decide)
    have hF := eq_of_beq (List.all_eq_true.mp tF_all (3 * i % 32) (List.mem_range.mpr (by omega)))
    have hH := List.all_eq_true.mp tH_all (i % 64) (List.mem_range.mpr (Nat.mod_lt _ (by decide)))
    unfold tH at hH
    simp only [Bool.and_eq_true, beq_iff_eq] at hH
    have hK := List.all_eq_true.mp tK_all (i % 64) (List.mem_range.mpr (Nat.mod_lt _ (by decide)))
    unfold tK at hK
    obtain ⟨z, hz⟩ := Option.isSome_iff_exists.mp hK
    have c1 := hsv_rgb 78 (h := HU i) (s := FS j) (v := FV k) (f := FF (3 * i % 32)) (I := ((3 * i / 32 : Nat) : Int)) (σ := 3 * i / 32 % 6) q3 hI.1 (small_of (by omega) (by omega)) hI.2 (by rw [show (6 : Int) = ((6 : Nat) : Int) from rfl, fmod_nat]) hσ
    rw [hF, q2, q1] at c1
    have e : FX j k 0 = FV k := q1.symm
    have r1 : Float64.mul (FX j k 0) (Float64.sub oneF (Float64.mul (FS j) (FF (3 * i % 32)))) = FX j k (3 * i % 32) := by rw [e]; rfl
    have r2 : Float64.mul (FX j k 0) (Float64.sub oneF (Float64.mul (FS j) (FF (32 - 3 * i % 32)))) = FX j k (32 - 3 * i % 32) := by rw [e]; rfl
    rw [r1, r2, rgbOf_arr hσ] at c1
    obtain ⟨m', hm', A⟩ := arr_ok (σ := 3 * i / 32 % 6) hm
    obtain ⟨M1, M2, ha, hb, hc⟩ := arr_max hj hk hm' A
    have hne : eqF (FX j k 32) (FX j k 0) = false := eq0 hj hk (by decide)
    have c2 := rgb_hsv 78 M1 M2 hne q4 q5
    have c3 := rgb_hls 76 M1 M2 hne q5 q6 (fun h => by
      rcases q7 with q7 | q7
      · rw [show leF (lightE (FX j k 0) (FX j k 32)) 4602678819172646912 = true from q7] at h; cases h
      · exact q7)
    have hh : hueE (FX j k (arr (3 * i / 32 % 6) (3 * i % 32)).1) (FX j k (arr (3 * i / 32 % 6) (3 * i % 32)).2.1) (FX j k (arr (3 * i / 32 % 6) (3 * i % 32)).2.2) (FX j k 0) (FX j k 32) = HU (i % 64) := by
      rw [hue_eq hj hk ha hb hc]
      have e0 : 3 * i / 32 = 3 * (i % 64) / 32 + 6 * (i / 64) := by clear hH hI hF c1 c2 c3 ha hb hc; omega
      have e1 : 3 * (i % 64) / 32 = 3 * i / 32 % 6 := by
        rw [e0, Nat.add_mul_mod_self_left]
        exact (Nat.mod_eq_of_lt (by omega)).symm
      have e2 : 3 * (i % 64) % 32 = 3 * i % 32 := by omega
      rw [e1, e2] at hH
      exact hH.1
    rw [hh] at c2 c3
    have j0 : j ≠ 0 := by omega
    have hc0 : callF prog 98 7 [V.flt (HU i), V.flt (FS j), V.flt (FV k)] = some (V.tup [V.flt (FX j k (arr (3 * i / 32 % 6) (3 * i % 32)).1), V.flt (FX j k (arr (3 * i / 32 % 6) (3 * i % 32)).2.1), V.flt (FX j k (arr (3 * i / 32 % 6) (3 * i % 32)).2.2)]) := by
      rw [q1]; exact c1
    refine ⟨_, _, _, _, _, _, _, _, _, z, hc0, c2, c3, ?_, ?_, q8, q9, hH.2, q12, ?_, fun _ => q11, hz⟩
    · rw [isO_eq q10, decide_eq_true j0]; rfl
    · rw [if_pos j0]; exact hH.2
    · rw [if_pos j0]; exact q13
end
end Mine
end
section
namespace Mine
open PySem

theorem fmod_to (z : Int) {m : Nat} (h : 1 ≤ m) : bin Bop.mod (V.int z) (V.int m) = some (V.int ((z.fmod m).toNat : Nat)) ∧ (z.fmod m).toNat < m := by
  have h0 : (0 : Int) < (m : Nat) := by omega
  have h1 := Int.fmod_lt_of_pos z h0
  have h2 := Int.fmod_nonneg_of_pos z h0
  refine ⟨?_, by omega⟩
  have h3 : (((m : Nat) : Int) == 0) = false := by rw [beq_eq_false_iff_ne]; omega
  show (if (((m : Nat) : Int) == 0) = true then none else some (V.int (z.fmod (m : Nat)))) = _
  rw [h3, if_neg Bool.false_ne_true, Int.toNat_of_nonneg h2]
theorem b_fd (z : Int) {m : Nat} (h : 1 ≤ m) : bin Bop.fdiv (V.int z) (V.int m) = some (V.int (z.fdiv m)) := by
  have h3 : (((m : Nat) : Int) == 0) = false := by rw [beq_eq_false_iff_ne]; omega
  show (if (((m : Nat) : Int) == 0) = true then none else some (V.int (z.fdiv (m : Nat)))) = _
  rw [h3, if_neg Bool.false_ne_true]
theorem b_dv {a b : Nat} (h : 1 ≤ b) (ha : a ≤ 1000) : bin Bop.div (V.int a) (V.int b) = some (V.flt (Float64.ofFrac false a b)) := by
  have h3 : (((b : Nat) : Int) == 0) = false := by rw [beq_eq_false_iff_ne]; omega
  have h4 : small (a : Int) = true := small_of (by omega) (by omega)
  have h5 : decide ((a : Int) < 0) = false := decide_eq_false (by omega)
  have h6 : decide ((b : Int) < 0) = false := decide_eq_false (by omega)
  show (if (((b : Nat) : Int) == 0) || !small (a : Int) then none else some (V.flt (Float64.ofFrac (decide ((a : Int) < 0) != decide ((b : Int) < 0)) (a : Int).natAbs (b : Int).natAbs))) = _
  rw [h3, h4, h5, h6]
  rfl
theorem e_ite {p : Prog} {n : Nat} {st : St} {t a b : Ex} {c : Bool} {v : V} (h1 : evT p n st t = some c) (h2 : c = true → ev p n st a = some v) (h3 : c = false → ev p n st b = some v) : ev p (n + 1) st (Ex.ite t a b) = some v := by
  cases c with
  | true => simp [ev, h1, h2 rfl]
  | false => simp [ev, h1, h3 rfl]
theorem x_asgs2 {p : Prog} {n : Nat} {st : St} {x y : Nat} {a b : Ex} {u v : V} (h1 : ev p n st a = some u) (h2 : ev p n st b = some v) : ex p (n + 1) st (Sm.asgs [x, y] [a, b]) = some (Fl.nx, (st.set y (Loc.val v)).set x (Loc.val u)) := by
  have h : mapO (ev p n st) [a, b] = some [u, v] := m_cons h1 (m_cons h2 m_nil)
  rw [ex, h]
  rfl
theorem ne3F {a b c x y z : UInt64} (h1 : eqF a x = true) (h2 : eqF b y = true) (h3 : eqF c z = true) : cmp Cop.ne (V.tup [V.flt a, V.flt b, V.flt c]) (V.tup [V.flt x, V.flt y, V.flt z]) = some false := by
  unfold eqF at h1 h2 h3
  show (veq (V.tup [V.flt a, V.flt b, V.flt c]) (V.tup [V.flt x, V.flt y, V.flt z])).map (!·) = _
  have : veq (V.tup [V.flt a, V.flt b, V.flt c]) (V.tup [V.flt x, V.flt y, V.flt z]) = eqs [V.flt a, V.flt b, V.flt c] [V.flt x, V.flt y, V.flt z] := rfl
  rw [this]
  simp only [eqs, eqE, h1, h2, h3, if_true]
  rfl
theorem b_rdiv {a b : UInt64} (h : Float64.isZero b = false) : bin Bop.div (V.flt a) (V.flt b) = some (V.flt (Float64.div a b)) := by
  show (if Float64.isZero b then none else some (V.flt (Float64.div a b))) = _
  rw [h]; rfl

/-- the hue's, the share's and the value's own numbers -/
theorem parts (h : Int) : h.fmod ((64 : Nat) : Int) = (((h.fmod ((128 : Nat) : Int)).toNat % 64 : Nat) : Int) := by
  rw [Int.fmod_eq_emod_of_nonneg _ (by decide), Int.fmod_eq_emod_of_nonneg _ (by decide)]
  omega

theorem paint_all {i j k : Nat} (hi : i < 128) (hj : j < 5) (hk : k < 4) : Paint i j k := by
  by_cases h : j = 0
  · subst h; exact paint_grey hk
  · exact paint_col hi ⟨by omega, hj⟩ hk

theorem turn_ok : TurnOk 76 := by
  intro st h ks hl h3 hks
  obtain ⟨mI, lI⟩ := fmod_to h (m := 128) (by decide)
  obtain ⟨mJ, lJ⟩ := fmod_to (h.fdiv ((128 : Nat) : Int)) (m := 5) (by decide)
  obtain ⟨mK, lK⟩ := fmod_to (h.fdiv ((640 : Nat) : Int)) (m := 4) (by decide)
  obtain ⟨mH, lH⟩ := fmod_to h (m := 64) (by decide)
  have hH : (h.fmod ((64 : Nat) : Int)).toNat = (h.fmod ((128 : Nat) : Int)).toNat % 64 := by rw [parts]; rfl
  rw [hH] at mH
  generalize (h.fmod ((128 : Nat) : Int)).toNat = i at mI lI mH
  generalize ((h.fdiv ((128 : Nat) : Int)).fmod ((5 : Nat) : Int)).toNat = j at mJ lJ
  generalize ((h.fdiv ((640 : Nat) : Int)).fmod ((4 : Nat) : Int)).toNat = k at mK lK
  clear hH lH
  obtain ⟨r, g, b, u, s, v, u2, l, sa, z, c1, c2, c3, q1, q2, q3, q4, q5, q6, q7, q8, q9⟩ := (paint_all lI lJ lK).ok
  have a4 : (st.set 4 (Loc.val (V.int h)))[4]? = some (Loc.val (V.int h)) := ge (by omega)
  have a3 := gn (m := Loc.val (V.int h)) (show 4 ≠ 3 by decide) h3
  have A0 : Agr DT st (st.set 4 (Loc.val (V.int h))) := Agr.refl.set (by decide)
  generalize st.set 4 (Loc.val (V.int h)) = s0 at a4 a3 A0
  have sl : ∀ {s : St}, Agr DT st s → s.length = 35 := fun A => A.1.trans hl
  -- share, value
  have e5 : ev prog 99 s0 (Ex.bin Bop.div (Ex.bin Bop.mod (Ex.bin Bop.fdiv (Ex.var 4) (Ex.int 128)) (Ex.int 5)) (Ex.int 4)) = some (V.flt (FS j)) :=
    e_bin (n := 98) (l_of (n := 97) rfl (e_bin (n := 96) (l_of (n := 95) rfl (e_bin (n := 94) (l_var (n := 93) (gl_v a4)) (l_of (n := 93) rfl (e_int (n := 92))) (b_fd h (by decide)))) (l_of (n := 95) rfl (e_int (n := 94))) mJ)) (l_of (n := 97) rfl (e_int (n := 96))) (b_dv (b := 4) (by decide) (by omega))
  have e6 : ev prog 99 s0 (Ex.bin Bop.div (Ex.bin Bop.add (Ex.int 1) (Ex.bin Bop.mod (Ex.bin Bop.fdiv (Ex.var 4) (Ex.int 640)) (Ex.int 4))) (Ex.int 4)) = some (V.flt (FV k)) :=
    e_bin (n := 98) (u := V.int ((1 + k : Nat) : Int)) (l_of (n := 97) rfl (e_bin (n := 96) (u := V.int ((1 : Nat) : Int)) (l_of (n := 95) rfl (e_int (n := 94))) (l_of (n := 95) rfl (e_bin (n := 94) (l_of (n := 93) rfl (e_bin (n := 92) (l_var (n := 91) (gl_v a4)) (l_of (n := 91) rfl (e_int (n := 90))) (b_fd h (by decide)))) (l_of (n := 93) rfl (e_int (n := 92))) mK)) b_add)) (l_of (n := 97) rfl (e_int (n := 96))) (b_dv (b := 4) (by decide) (by omega))
  have x1 := x_asgs2 (x := 5) (y := 6) e5 e6
  have b6 : ((s0.set 6 (Loc.val (V.flt (FV k)))).set 5 (Loc.val (V.flt (FS j))))[6]? = some (Loc.val (V.flt (FV k))) := gn (by decide) (ge (by rw [sl A0]; decide))
  have b5 : ((s0.set 6 (Loc.val (V.flt (FV k)))).set 5 (Loc.val (V.flt (FS j))))[5]? = some (Loc.val (V.flt (FS j))) := ge (by rw [List.length_set, sl A0]; decide)
  have b4 := gn (m := Loc.val (V.flt (FS j))) (show 5 ≠ 4 by decide) (gn (m := Loc.val (V.flt (FV k))) (show 6 ≠ 4 by decide) a4)
  have b3 := gn (m := Loc.val (V.flt (FS j))) (show 5 ≠ 3 by decide) (gn (m := Loc.val (V.flt (FV k))) (show 6 ≠ 3 by decide) a3)
  have A1 : Agr DT st ((s0.set 6 (Loc.val (V.flt (FV k)))).set 5 (Loc.val (V.flt (FS j)))) := (A0.set (by decide)).set (by decide)
  generalize (s0.set 6 (Loc.val (V.flt (FV k)))).set 5 (Loc.val (V.flt (FS j))) = s1 at x1 b6 b5 b4 b3 A1
  -- paint
  have e7 : ev prog 99 s1 (Ex.call 7 [Ex.bin Bop.div (Ex.bin Bop.mod (Ex.var 4) (Ex.int 128)) (Ex.int 64), Ex.var 5, Ex.var 6]) = some (V.tup [V.flt r, V.flt g, V.flt b]) :=
    e_call (n := 98) (m_cons (e_bin (n := 97) (l_of (n := 96) rfl (e_bin (n := 95) (l_var (n := 94) (gl_v b4)) (l_of (n := 94) rfl (e_int (n := 93))) mI)) (l_of (n := 96) rfl (e_int (n := 95))) (b_dv (b := 64) (by decide) (by omega))) (m_cons (e_var (n := 97) (gv b5)) (m_cons (e_var (n := 97) (gv b6)) m_nil))) c1
  have x2 := x_asg (x := 7) e7
  have d7 : (s1.set 7 (Loc.val (V.tup [V.flt r, V.flt g, V.flt b])))[7]? = some (Loc.val (V.tup [V.flt r, V.flt g, V.flt b])) := ge (by rw [sl A1]; decide)
  have d6 := gn (m := Loc.val (V.tup [V.flt r, V.flt g, V.flt b])) (show 7 ≠ 6 by decide) b6
  have d5 := gn (m := Loc.val (V.tup [V.flt r, V.flt g, V.flt b])) (show 7 ≠ 5 by decide) b5
  have d4 := gn (m := Loc.val (V.tup [V.flt r, V.flt g, V.flt b])) (show 7 ≠ 4 by decide) b4
  have d3 := gn (m := Loc.val (V.tup [V.flt r, V.flt g, V.flt b])) (show 7 ≠ 3 by decide) b3
  have A2 : Agr DT st (s1.set 7 (Loc.val (V.tup [V.flt r, V.flt g, V.flt b]))) := A1.set (by decide)
  generalize s1.set 7 (Loc.val (V.tup [V.flt r, V.flt g, V.flt b])) = s2 at x2 d7 d6 d5 d4 d3 A2
  have tri : ∀ {s : St} (n x : Nat) {p q w : V}, s[x]? = some (Loc.val (V.tup [p, q, w])) → ev prog (n + 2) s (Ex.idx (Ex.var x) (Ex.int 0)) = some p ∧ ev prog (n + 2) s (Ex.idx (Ex.var x) (Ex.int 1)) = some q ∧ ev prog (n + 2) s (Ex.idx (Ex.var x) (Ex.int 2)) = some w := fun {s} n x {p q w} h =>
    ⟨e_idxT (n := n + 1) (z := 0) (l_var (gl_v h)) e_int (small_of (by decide) (by decide)) rfl, e_idxT (n := n + 1) (z := 1) (l_var (gl_v h)) e_int (small_of (by decide) (by decide)) rfl, e_idxT (n := n + 1) (z := 2) (l_var (gl_v h)) e_int (small_of (by decide) (by decide)) rfl⟩
  have e8 : ev prog 99 s2 (Ex.call 6 [Ex.idx (Ex.var 7) (Ex.int 0), Ex.idx (Ex.var 7) (Ex.int 1), Ex.idx (Ex.var 7) (Ex.int 2)]) = some (V.tup [V.flt u, V.flt s, V.flt v]) := by
    obtain ⟨t1, t2, t3⟩ := tri 96 7 d7
    exact e_call (n := 98) (m_cons t1 (m_cons t2 (m_cons t3 m_nil))) c2
  have x3 := x_asg (x := 8) e8
  have f8 : (s2.set 8 (Loc.val (V.tup [V.flt u, V.flt s, V.flt v])))[8]? = some (Loc.val (V.tup [V.flt u, V.flt s, V.flt v])) := ge (by rw [sl A2]; decide)
  have f7 := gn (m := Loc.val (V.tup [V.flt u, V.flt s, V.flt v])) (show 8 ≠ 7 by decide) d7
  have f6 := gn (m := Loc.val (V.tup [V.flt u, V.flt s, V.flt v])) (show 8 ≠ 6 by decide) d6
  have f5 := gn (m := Loc.val (V.tup [V.flt u, V.flt s, V.flt v])) (show 8 ≠ 5 by decide) d5
  have f4 := gn (m := Loc.val (V.tup [V.flt u, V.flt s, V.flt v])) (show 8 ≠ 4 by decide) d4
  have f3 := gn (m := Loc.val (V.tup [V.flt u, V.flt s, V.flt v])) (show 8 ≠ 3 by decide) d3
  have A3 : Agr DT st (s2.set 8 (Loc.val (V.tup [V.flt u, V.flt s, V.flt v]))) := A2.set (by decide)
  generalize s2.set 8 (Loc.val (V.tup [V.flt u, V.flt s, V.flt v])) = s3 at x3 f8 f7 f6 f5 f4 f3 A3
  have gt : ∀ {s : St} (n : Nat), s[5]? = some (Loc.val (V.flt (FS j))) → evT prog (n + 3) s (Ex.cmp Cop.gt (Ex.var 5) (Ex.int 0)) = some (decide (j ≠ 0)) := fun {s} n h =>
    t_cmp (n := n + 2) (u := V.flt (FS j)) (v := V.int 0) (l_var (gl_v h)) (l_of rfl e_int) (by show some (Float64.cmpInt (FS j) 0 == some Ordering.gt) = _; rw [q1])
  -- told
  have eU : ev prog 97 s3 (Ex.tup [Ex.ite (Ex.cmp Cop.gt (Ex.var 5) (Ex.int 0)) (Ex.bin Bop.div (Ex.bin Bop.mod (Ex.var 4) (Ex.int 64)) (Ex.int 64)) (Ex.flt 0), Ex.var 5, Ex.var 6]) = some (V.tup [V.flt (if j ≠ 0 then HU (i % 64) else 0), V.flt (FS j), V.flt (FV k)]) := by
    refine e_tup (n := 96) (m_cons (e_ite (n := 95) (gt 92 f5) (fun hc => ?_) (fun hc => ?_)) (m_cons (e_var (n := 95) (gv f5)) (m_cons (e_var (n := 95) (gv f6)) m_nil))) (by decide)
    · rw [if_pos (of_decide_eq_true hc)]
      exact e_bin (n := 94) (l_of (n := 93) rfl (e_bin (n := 92) (l_var (n := 91) (gl_v f4)) (l_of (n := 91) rfl (e_int (n := 90))) mH)) (l_of (n := 93) rfl (e_int (n := 92))) (b_dv (b := 64) (by decide) (by omega))
    · rw [if_neg (of_decide_eq_false hc)]
      exact e_flt (n := 94)
  have x4 : ex prog 100 s3 (Sm.ite (Ex.cmp Cop.ne (Ex.var 8) (Ex.tup [Ex.ite (Ex.cmp Cop.gt (Ex.var 5) (Ex.int 0)) (Ex.bin Bop.div (Ex.bin Bop.mod (Ex.var 4) (Ex.int 64)) (Ex.int 64)) (Ex.flt 0), Ex.var 5, Ex.var 6])) [Sm.ret (Ex.bool false)] []) = some (Fl.nx, s3) :=
    x_iteF (n := 99) (t_cmp (n := 98) (l_var (n := 97) (gl_v f8)) (l_of (n := 97) rfl eU) (ne3F q2 q3 q4)) q_nil
  -- light
  have e9 : ev prog 99 s3 (Ex.bin Bop.div (Ex.bin Bop.mul (Ex.var 6) (Ex.bin Bop.sub (Ex.int 2) (Ex.var 5))) (Ex.int 2)) = some (V.flt (litF j k)) :=
    e_bin (n := 98) (u := V.flt (Float64.mul (FV k) (Float64.sub twoF (FS j)))) (v := V.int 2) (l_of (n := 97) rfl (e_bin (n := 96) (u := V.flt (FV k)) (v := V.flt (Float64.sub twoF (FS j))) (l_var (n := 95) (gl_v f6)) (l_of (n := 95) rfl (e_bin (n := 94) (u := V.int 2) (v := V.flt (FS j)) (l_of (n := 93) rfl (e_int (n := 92))) (l_var (n := 93) (gl_v f5)) rfl)) rfl)) (l_of (n := 97) rfl (e_int (n := 96))) rfl
  have x5 := x_asg (x := 9) e9
  have g9 : (s3.set 9 (Loc.val (V.flt (litF j k))))[9]? = some (Loc.val (V.flt (litF j k))) := ge (by rw [sl A3]; decide)
  have g8 := gn (m := Loc.val (V.flt (litF j k))) (show 9 ≠ 8 by decide) f8
  have g7 := gn (m := Loc.val (V.flt (litF j k))) (show 9 ≠ 7 by decide) f7
  have g6 := gn (m := Loc.val (V.flt (litF j k))) (show 9 ≠ 6 by decide) f6
  have g5 := gn (m := Loc.val (V.flt (litF j k))) (show 9 ≠ 5 by decide) f5
  have g3 := gn (m := Loc.val (V.flt (litF j k))) (show 9 ≠ 3 by decide) f3
  have A4 : Agr DT st (s3.set 9 (Loc.val (V.flt (litF j k)))) := A3.set (by decide)
  generalize s3.set 9 (Loc.val (V.flt (litF j k))) = s4 at x5 g9 g8 g7 g6 g5 g3 A4
  -- full
  have e10 : ev prog 99 s4 (Ex.ite (Ex.cmp Cop.gt (Ex.var 5) (Ex.int 0)) (Ex.bin Bop.div (Ex.bin Bop.mul (Ex.var 5) (Ex.var 6)) (Ex.bi Bi.min [Ex.bin Bop.mul (Ex.int 2) (Ex.var 9), Ex.bin Bop.sub (Ex.int 2) (Ex.bin Bop.mul (Ex.int 2) (Ex.var 9))])) (Ex.flt 0)) = some (V.flt (if j ≠ 0 then fulF j k else 0)) := by
    refine e_ite (n := 98) (gt 95 g5) (fun hc => ?_) (fun hc => ?_)
    · have j0 := of_decide_eq_true hc
      rw [if_pos j0]
      have m2 : ∀ n, ev prog (n + 3) s4 (Ex.bin Bop.mul (Ex.int 2) (Ex.var 9)) = some (V.flt (Float64.mul twoF (litF j k))) := fun n => e_bin (n := n + 2) (u := V.int 2) (v := V.flt (litF j k)) (l_of rfl e_int) (l_var (gl_v g9)) rfl
      exact e_bin (n := 97) (u := V.flt (Float64.mul (FS j) (FV k))) (v := V.flt (denF j k)) (l_of (n := 96) rfl (e_bin (n := 95) (u := V.flt (FS j)) (v := V.flt (FV k)) (l_var (n := 94) (gl_v g5)) (l_var (n := 94) (gl_v g6)) rfl))
        (l_of (n := 96) rfl (e_bi (n := 95) (vs := [V.flt (Float64.mul twoF (litF j k)), V.flt (Float64.sub twoF (Float64.mul twoF (litF j k)))]) (m_cons (l_of (n := 94) rfl (m2 91)) (m_cons (l_of (n := 94) rfl (e_bin (n := 93) (u := V.int 2) (v := V.flt (Float64.mul twoF (litF j k))) (l_of (n := 92) rfl (e_int (n := 91))) (l_of (n := 92) rfl (m2 89)) rfl)) m_nil)) rfl)) (b_rdiv (q8 j0))
    · rw [if_neg (of_decide_eq_false hc)]
      exact e_flt (n := 97)
  have x6 := x_asg (x := 10) e10
  generalize (if j ≠ 0 then fulF j k else 0) = fu at x6 q7
  have k10 : (s4.set 10 (Loc.val (V.flt fu)))[10]? = some (Loc.val (V.flt fu)) := ge (by rw [sl A4]; decide)
  have k9 := gn (m := Loc.val (V.flt fu)) (show 10 ≠ 9 by decide) g9
  have k8 := gn (m := Loc.val (V.flt fu)) (show 10 ≠ 8 by decide) g8
  have k7 := gn (m := Loc.val (V.flt fu)) (show 10 ≠ 7 by decide) g7
  have k3 := gn (m := Loc.val (V.flt fu)) (show 10 ≠ 3 by decide) g3
  have A5 : Agr DT st (s4.set 10 (Loc.val (V.flt fu))) := A4.set (by decide)
  generalize s4.set 10 (Loc.val (V.flt fu)) = s5 at x6 k10 k9 k8 k7 k3 A5
  have e11 : ev prog 97 s5 (Ex.call 5 [Ex.idx (Ex.var 7) (Ex.int 0), Ex.idx (Ex.var 7) (Ex.int 1), Ex.idx (Ex.var 7) (Ex.int 2)]) = some (V.tup [V.flt u2, V.flt l, V.flt sa]) := by
    obtain ⟨t1, t2, t3⟩ := tri 94 7 k7
    exact e_call (n := 96) (m_cons t1 (m_cons t2 (m_cons t3 m_nil))) c3
  have e12 : ev prog 97 s5 (Ex.tup [Ex.idx (Ex.var 8) (Ex.int 0), Ex.var 9, Ex.var 10]) = some (V.tup [V.flt u, V.flt (litF j k), V.flt fu]) :=
    e_tup (n := 96) (m_cons (tri 94 8 k8).1 (m_cons (e_var (n := 95) (gv k9)) (m_cons (e_var (n := 95) (gv k10)) m_nil))) (by decide)
  have x7 : ex prog 100 s5 (Sm.ite (Ex.cmp Cop.ne (Ex.call 5 [Ex.idx (Ex.var 7) (Ex.int 0), Ex.idx (Ex.var 7) (Ex.int 1), Ex.idx (Ex.var 7) (Ex.int 2)]) (Ex.tup [Ex.idx (Ex.var 8) (Ex.int 0), Ex.var 9, Ex.var 10])) [Sm.ret (Ex.bool false)] []) = some (Fl.nx, s5) :=
    x_iteF (n := 99) (t_cmp (n := 98) (l_of (n := 97) rfl e11) (l_of (n := 97) rfl e12) (ne3F q5 q6 q7)) q_nil
  -- kind
  obtain ⟨mz, lz⟩ := fmod_to z (m := 3) (by decide)
  have e13 : ev prog 99 s5 (Ex.bin Bop.sub (Ex.bin Bop.mod (Ex.bi Bi.int [Ex.bin Bop.add (Ex.bin Bop.mul (Ex.idx (Ex.var 8) (Ex.int 0)) (Ex.int 3)) (Ex.flt 4602678819172646912)]) (Ex.int 3)) (Ex.int 1)) = some (V.int (((z.fmod ((3 : Nat) : Int)).toNat : Int) - 1)) :=
    e_bin (n := 98) (v := V.int 1) (l_of (n := 97) rfl (e_bin (n := 96) (l_of (n := 95) rfl (e_bi (n := 94) (vs := [V.flt (Float64.add (Float64.mul u (Float64.ofInt 3)) halfF)]) (m_cons (l_of (n := 93) rfl (e_bin (n := 92) (u := V.flt (Float64.mul u (Float64.ofInt 3))) (v := V.flt halfF)
      (l_of (n := 91) rfl (e_bin (n := 90) (u := V.flt u) (v := V.int 3) (l_of (n := 89) rfl (tri 87 8 k8).1) (l_of (n := 89) rfl (e_int (n := 88))) rfl)) (l_of (n := 91) rfl (e_flt (n := 90))) rfl)) m_nil) (bi_int q9))) (l_of (n := 95) rfl (e_int (n := 94))) mz)) (l_of (n := 97) rfl (e_int (n := 96))) rfl
  have x8 := x_app (p := prog) (n := 99) (x := 3) (go k3) e13 (by rw [List.length_map]; omega)
  refine ⟨((z.fmod ((3 : Nat) : Int)).toNat : Int) - 1, _, by omega, q_cons x1 (q_cons x2 (q_cons x3 (q_cons x4 (q_cons x5 (q_cons x6 (q_cons x7 (q_cons x8 q_nil))))))), A5.set (by decide), ?_⟩
  rw [List.map_append]
  exact ge (by rw [sl A5]; decide)

theorem pure_law (ns : List Int) (h : ns.length ≤ 63) : callF prog 102 13 [.lst (ns.map V.int)] = some (.bool true) := law_true turn_ok h
end Mine
end
open PySem PySem.W PyProof.Rows
set_option maxRecDepth 100000 in
set_option maxHeartbeats 8000000 in
theorem PySem.Challenge.cw_rs0122_01_holds : PySem.Challenge.rw_rs0122_01.Holds := by
  refine Mine.hd ?_
  k_fill
  intro w s₀ s₁ mg mb G Y fa o pm cd doc dV kV ho hd hcd hD hmg hg args vals as hpre hlay hrd hwl hlo
  have KX : Mine.HeadOk s₁.heap := Y
  have hT9 := KX.tabs
  have X := (Ground.X G).1
  have V := (Ground.X G).2
  refine Ground.open G ?_
  intro T B D TE TW
  try (refine guard_noD D (by decide +kernel) ?_; clear D)
  wrow_args hpre hlay hrd hwl hlo
  rename_i ns _ _ _ _ _ _ _ l its _ hL _ _ _ hI _ hlen _
  refine enter_call ?_
  refine kn_post hT9 (fun _ _ => by rfl) ?_
  refine Mine.law_call T hT9 KX hmg hL hI (n := 101) (by decide) (Mine.pure_law ns (by omega)) fun s' hk hti hos hgen => ?_
  have grown : ∀ r ∈ Mine.tabsL, ∃ ps, s'.heap.get? r.P = some (tabObj ps) := fun r hr => by
    rcases hti r hr with e | ⟨c', e, _⟩
    · exact ⟨_, e⟩
    · exact ⟨_, e⟩
  refine ⟨⟨.inl ⟨.bool true, .bool true, [], rfl, fun _ => rfl, .bool true, by wrow_post, fun _ => ⟨List.nodup_nil, fun _ h => by cases h⟩⟩, fun b o e => hk b o (fun q hq => ?_) (of_hideAll _ e), hos, hgen.trans hg⟩, ?_⟩
  · exact (Mine.g_ok (w := w) T hT9 KX).nt b o e q hq
  · exact ⟨grown _ (.tail _ (.head _)), grown _ (.head _), trivial⟩
