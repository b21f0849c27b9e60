import PyProof.Rows.All
import Wide.All
import OpenK.AllK
import Wide.FinOn
import PySem.Challenge.RW_oy0055_01

set_option Elab.async false
set_option linter.unusedVariables false

section
open PySem PySem.W PyProof.Rows
set_option maxRecDepth 100000
set_option maxHeartbeats 8000000
namespace Mine
open_top hd for PySem.Challenge.rw_oy0055_01
end Mine
end

section
open PySem PySem.W PyProof.Rows PySem.Calls
set_option maxRecDepth 100000
namespace Mine
abbrev retOf : Flow → Value := fun fl => match fl with | .ret v => v | _ => .none

/-- a call of a def without cells, seen from the state at the call -/
theorem enter {prog : Program} {w : World} {A : Around} {s : Shared} {K : Frag} {Q E : Value → Shared → Prop}
    {name qual : Str} {params : Arguments} {body : List Stmt} {scope : Scope} {dV kV doc pm cdv ct oc : Value} {an od : Option Addr} {osl : Array (Option Value)} {f : Addr} {vs : List Value} (binds : List (Str × Value))
    (X : K.In s.heap) (hlim : s.heap.NoLimit)
    (ho : K.lookup f = some ⟨oc, od, .func (fnOf name qual params body scope dV kV doc pm an cdv ct), osl⟩) (hcd : codeIn K cdv qual = true) (hroom : A.depth < recursionLimit)
    (hbind : BindsTo s (fnOf name qual params body scope dV kV doc pm an cdv ct) ⟨vs, []⟩ binds) (hloc : ∀ y ∈ binds, scope.names.lookup y.1 = some .local)
    (hcell : ∀ x ∈ scope.names, x.2 ≠ .cell)
    (hco : scope.isCoroutine = false) (hgen : scope.isGenerator = false) (hk : scope.kind = .function)
    (ht : 0 < s.toks)
    (h : ∀ L h₁ tk, 0 < tk → L = s.heap.objs.size → Fr s.heap L h₁ (fun y => binds.reverse.lookup y) →
      wpAny (model prog w) (A.deeper (envOf qual scope L f cdv)) (execs body (envOf qual scope L f cdv))
        (fun fl s' => Q (retOf fl) s') (fun _ _ => False) { s with heap := h₁, toks := tk }) :
    wpAny (model prog w) A (call (.ref f) vs) Q E s := by
  refine wpAny_call ?_
  refine codeAny_call_def (fd := fnOf name qual params body scope dV kV doc pm an cdv ct) (body := body) (binds := binds) hroom (X _ _ ho) rfl hlim (codeRec_of X hcd) rfl hbind hcell hloc (fun h₁ hns hk₁ => ?_) hco hgen hk
  exact wpAny_mono (h _ h₁ _ (Nat.lt_of_lt_of_le ht (Nat.le_add_right _ _)) rfl ⟨hns, hk₁, Nat.le_refl _⟩) (fun _ _ x => x) (fun _ _ x => x.elim)

/-- a call of a def whose names are captured in part -/
theorem enterC {prog : Program} {w : World} {A : Around} {s : Shared} {K : Frag} {Q E : Value → Shared → Prop}
    {name qual : Str} {params : Arguments} {body : List Stmt} {scope : Scope} {dV kV doc pm cdv ct oc : Value} {an od : Option Addr} {osl : Array (Option Value)} {f : Addr} {vs : List Value} (binds : List (Str × Value))
    (X : K.In s.heap) (hlim : s.heap.NoLimit)
    (ho : K.lookup f = some ⟨oc, od, .func (fnOf name qual params body scope dV kV doc pm an cdv ct), osl⟩) (hcd : codeIn K cdv qual = true) (hroom : A.depth < recursionLimit)
    (hbind : BindsTo s (fnOf name qual params body scope dV kV doc pm an cdv ct) ⟨vs, []⟩ binds)
    (hkind : ∀ n, ∀ x ∈ binds, scope.names.lookup x.1 = some .local ∨ (scope.names.lookup x.1 = some .cell ∧ ((cellsFrom n scope.names []).lookup x.1).isSome = true))
    (hnd : ((cellsFrom 0 scope.names []).map (·.1)).Nodup)
    (hco : scope.isCoroutine = false) (hgen : scope.isGenerator = false) (hk : scope.kind = .function)
    (ht : 0 < s.toks)
    (h : ∀ L h₁ tk cells, 0 < tk → L = s.heap.objs.size → Fr s.heap L h₁ (bindL (envOfC qual scope L f cdv).kindOf binds fun _ => none) → News s.heap L h₁ cells →
      CellsAre (bindC (envOfC qual scope L f cdv).kindOf binds fun _ => none) (cellsFrom (L + 1) scope.names []) cells →
      wpAny (model prog w) (A.deeper (envOfC qual scope L f cdv)) (execs body (envOfC qual scope L f cdv))
        (fun fl s' => Q (retOf fl) s') (fun _ _ => False) { s with heap := h₁, toks := tk }) :
    wpAny (model prog w) A (call (.ref f) vs) Q E s := by
  refine wpAny_call ?_
  refine codeAny_call_function hroom (X _ _ ho) rfl hco hgen rfl (codeRec_of X hcd) (hbind _ _ _ _ ?_)
  refine wpAny_with_toks (n := 1) ht (wpAny_newFunctionEnv_cells hk (hkind _) fun env' he s' x htk => ?_)
  subst he
  refine ⟨hlim.keeps x.toInCall.keep, codeAny_func ?_⟩
  obtain ⟨h₁, tk, rfl, _⟩ := x.done
  obtain ⟨cells, NC, Y⟩ := Cl.news (h₀ := s.heap) (Nat.le_refl _) fun n c hm => ⟨x.cell n c (lookup_of_mem_nodup (cellsFrom_names scope.names 0 (s.heap.objs.size + 1) [] [] rfl ▸ hnd) hm), x.above n c hm⟩
  exact wpAny_mono (h _ h₁ tk cells htk rfl ⟨x.toInCall.ns, x.toInCall.keep, Nat.le_refl _⟩ NC Y) (fun _ _ z => z) fun _ _ z => z.elim
end Mine
end

section
open PySem PySem.W PyProof.Rows PySem.Calls
set_option maxRecDepth 100000
namespace Mine
open Classical in
/-- the heap without the addresses of S -/
noncomputable def hideP (S : Addr → Prop) (h : Heap) : Heap :=
  ⟨h.objs.mapIdx fun i o => if S i then { o with data := .freed } else o, h.life⟩
theorem hideP_size (S : Addr → Prop) (h : Heap) : (hideP S h).objs.size = h.objs.size := by simp [hideP]
theorem hideP_pos {S : Addr → Prop} {h : Heap} {a : Addr} (hs : S a) : (hideP S h).get? a = none := by
  unfold Heap.get? hideP
  simp only [Array.getElem?_mapIdx]
  cases h.objs[a]? with
  | none => rfl
  | some o => simp [hs]
theorem hideP_neg {S : Addr → Prop} {h : Heap} {a : Addr} (hs : ¬ S a) : (hideP S h).get? a = h.get? a := by
  unfold Heap.get? hideP
  simp only [Array.getElem?_mapIdx]
  cases h.objs[a]? with
  | none => rfl
  | some o => simp [hs]
theorem hideP_get {S : Addr → Prop} {h : Heap} {a : Addr} {o : Obj} : (hideP S h).get? a = some o ↔ ¬ S a ∧ h.get? a = some o := by
  by_cases hs : S a
  · rw [hideP_pos hs]; simp [hs]
  · rw [hideP_neg hs]; simp [hs]

noncomputable def Kp (h h' : Heap) : Prop := ∀ b o, h.get? b = some o → h'.get? b = some o
theorem Kp.refl (h : Heap) : Kp h h := fun _ _ e => e
theorem Kp.trans {a b c : Heap} (x : Kp a b) (y : Kp b c) : Kp a c := fun _ _ e => y _ _ (x _ _ e)
/-- what h₀ holds stands in h, outside S -/
noncomputable def Kn (h₀ : Heap) (S : Addr → Prop) (h : Heap) : Prop := ∀ a o, h₀.get? a = some o → ¬ S a ∧ h.get? a = some o
theorem Kn.kp {h₀ h : Heap} {S : Addr → Prop} (x : Kn h₀ S h) : Kp h₀ h := fun _ _ e => (x _ _ e).2
theorem Kn.up {h₀ h h' : Heap} {S : Addr → Prop} (x : Kn h₀ S h) (k : Kp h h') : Kn h₀ S h' := fun _ _ e => ⟨(x _ _ e).1, k _ _ (x _ _ e).2⟩
theorem Kn.down {h₁ h₀ h : Heap} {S : Addr → Prop} (k : Kp h₁ h₀) (x : Kn h₀ S h) : Kn h₁ S h := fun _ _ e => x _ _ (k _ _ e)
theorem Kn.hide (S : Addr → Prop) (h : Heap) : Kn (hideP S h) S h := fun _ _ e => hideP_get.mp e
theorem Kn.kpHide {h₀ h : Heap} {S : Addr → Prop} (x : Kn h₀ S h) : Kp h₀ (hideP S h) := fun _ _ e => hideP_get.mpr (x _ _ e)
/-- the addresses of S are in use -/
noncomputable def Sz (S : Addr → Prop) (h : Heap) : Prop := ∀ a, S a → ∃ o, h.get? a = some o
theorem Sz.up {S : Addr → Prop} {h h' : Heap} (x : Sz S h) (k : Kp h h') : Sz S h' := fun a ha => let ⟨o, e⟩ := x a ha; ⟨o, k _ _ e⟩
theorem Sz.fresh {S : Addr → Prop} {h : Heap} {a : Addr} (x : Sz S h) (e : h.get? a = none) : ¬ S a := fun q => by
  obtain ⟨o, e'⟩ := x a q; rw [e] at e'; cases e'
theorem get_none_size (h : Heap) {a : Addr} (hle : h.objs.size ≤ a) : h.get? a = none := by
  cases e : h.get? a with
  | none => rfl
  | some o => exact absurd (Heap.lt_size e) (Nat.not_lt.mpr hle)
theorem kp_push (h : Heap) (o : Obj) : Kp h (h.push o) := fun _ _ e => Heap.get?_push_of_some _ e

abbrev plist (items : Array Value) (n : Nat) : Obj := { cls := .type "list", dict := none, data := .seq items n, slots := #[] }
abbrev ptup (items : Array Value) (n : Nat) : Obj := { cls := .type "tuple", dict := none, data := .seq items n, slots := #[] }
mutual
/-- the value reads as the datum, through addresses outside S -/
inductive Rd (S : Addr → Prop) (h : Heap) : Value → PyData → Prop
  | int (i t) : Rd S h (.int i t) (.int i)
  | str (x t) : Rd S h (.str x t) (.str x)
  | bool (b) : Rd S h (.bool b) (.bool b)
  | list {a items n ds} : ¬ S a → h.get? a = some (plist items n) → RdAll S h items.toList ds → Rd S h (.ref a) (.list ds)
  | tuple {a items n ds} : ¬ S a → h.get? a = some (ptup items n) → RdAll S h items.toList ds → Rd S h (.ref a) (.tuple ds)
inductive RdAll (S : Addr → Prop) (h : Heap) : List Value → List PyData → Prop
  | nil : RdAll S h [] []
  | cons {v vs d ds} : Rd S h v d → RdAll S h vs ds → RdAll S h (v :: vs) (d :: ds)
end
noncomputable def Over (S : Addr → Prop) (h : Heap) (S' : Addr → Prop) (h' : Heap) : Prop :=
  ∀ a o, ¬ S a → h.get? a = some o → (∃ items n, o.data = .seq items n) → ¬ S' a ∧ h'.get? a = some o
mutual
theorem Rd.over {S S' : Addr → Prop} {h h' : Heap} (k : Over S h S' h') : ∀ {v : Value} {d : PyData}, Rd S h v d → Rd S' h' v d
  | _, _, .int i t => .int i t
  | _, _, .str x t => .str x t
  | _, _, .bool b => .bool b
  | _, _, .list h1 h2 h3 => .list (k _ _ h1 h2 ⟨_, _, rfl⟩).1 (k _ _ h1 h2 ⟨_, _, rfl⟩).2 (RdAll.over k h3)
  | _, _, .tuple h1 h2 h3 => .tuple (k _ _ h1 h2 ⟨_, _, rfl⟩).1 (k _ _ h1 h2 ⟨_, _, rfl⟩).2 (RdAll.over k h3)
theorem RdAll.over {S S' : Addr → Prop} {h h' : Heap} (k : Over S h S' h') : ∀ {vs : List Value} {ds : List PyData}, RdAll S h vs ds → RdAll S' h' vs ds
  | _, _, .nil => .nil
  | _, _, .cons h1 h2 => .cons (Rd.over k h1) (RdAll.over k h2)
end
theorem Over.up {S : Addr → Prop} {h h' : Heap} (k : Kp h h') : Over S h S h' := fun _ _ n e _ => ⟨n, k _ _ e⟩
theorem Over.kn {S : Addr → Prop} {h₀ h : Heap} (k : Kn h₀ S h) : Over (fun _ => False) h₀ S h := fun _ _ _ e _ => k _ _ e
theorem Over.hide {S : Addr → Prop} {h : Heap} : Over S h (fun _ => False) (hideP S h) := fun _ _ n e _ => ⟨id, hideP_get.mpr ⟨n, e⟩⟩
abbrev Rd0 (h : Heap) (v : Value) (d : PyData) : Prop := Rd (fun _ => False) h v d
abbrev RdAll0 (h : Heap) (vs : List Value) (ds : List PyData) : Prop := RdAll (fun _ => False) h vs ds
theorem Rd.up {S : Addr → Prop} {h h' : Heap} {v : Value} {d : PyData} (x : Rd S h v d) (k : Kp h h') : Rd S h' v d := x.over (.up k)
theorem RdAll.up {S : Addr → Prop} {h h' : Heap} {v : List Value} {d : List PyData} (x : RdAll S h v d) (k : Kp h h') : RdAll S h' v d := x.over (.up k)
theorem RdAll.length {S : Addr → Prop} {h : Heap} : ∀ {vs : List Value} {ds : List PyData}, RdAll S h vs ds → vs.length = ds.length
  | _, _, .nil => rfl
  | _, _, .cons _ r => by simp [r.length]
theorem RdAll.append {S : Addr → Prop} {h : Heap} : ∀ {vs us : List Value} {ds es : List PyData}, RdAll S h vs ds → RdAll S h us es → RdAll S h (vs ++ us) (ds ++ es)
  | _, _, _, _, .nil, y => y
  | _, _, _, _, .cons a r, y => .cons a (r.append y)
theorem RdAll.get {S : Addr → Prop} {h : Heap} : ∀ {vs : List Value} {ds : List PyData}, RdAll S h vs ds → ∀ (i : Nat) (d : PyData), ds[i]? = some d → ∃ v, vs[i]? = some v ∧ Rd S h v d
  | _, _, .nil, i, d, e => by simp at e
  | _, _, .cons a r, 0, d, e => by simp at e; subst e; exact ⟨_, rfl, a⟩
  | _, _, .cons a r, i + 1, d, e => by simpa using r.get i d (by simpa using e)
theorem RdAll.at {S : Addr → Prop} {h : Heap} : ∀ {vs : List Value} {ds : List PyData}, RdAll S h vs ds → ∀ (i : Nat) (v : Value), vs[i]? = some v → ∃ d, ds[i]? = some d ∧ Rd S h v d
  | _, _, .nil, i, d, e => by simp at e
  | _, _, .cons a r, 0, d, e => by simp at e; subst e; exact ⟨_, rfl, a⟩
  | _, _, .cons a r, i + 1, d, e => by simpa using r.at i d (by simpa using e)
theorem RdAll.sub {S : Addr → Prop} {h : Heap} : ∀ {vs : List Value} {ds : List PyData}, RdAll S h vs ds → ∀ (i k : Nat), RdAll S h ((vs.drop i).take k) ((ds.drop i).take k)
  | _, _, .nil, i, k => by simpa using RdAll.nil
  | _, _, .cons a r, 0, 0 => by simpa using RdAll.nil
  | _, _, .cons a r, 0, k + 1 => by simpa using RdAll.cons a (by simpa using r.sub 0 k)
  | _, _, .cons a r, i + 1, k => by simpa using r.sub i k
mutual
theorem Rd.reads {S : Addr → Prop} {h : Heap} : ∀ {v : Value} {d : PyData}, Rd S h v d → ∃ as, Reads h v d as
  | _, _, .int i t => ⟨_, .int i t⟩
  | _, _, .str x t => ⟨_, .str x t⟩
  | _, _, .bool b => ⟨_, .bool b⟩
  | _, _, .list h1 h2 h3 => let ⟨_, r⟩ := RdAll.reads h3; ⟨_, .list h2 rfl rfl r⟩
  | _, _, .tuple h1 h2 h3 => let ⟨_, r⟩ := RdAll.reads h3; ⟨_, .tuple h2 rfl rfl r⟩
theorem RdAll.reads {S : Addr → Prop} {h : Heap} : ∀ {vs : List Value} {ds : List PyData}, RdAll S h vs ds → ∃ as, ReadsAll h vs ds as
  | _, _, .nil => ⟨_, .nil⟩
  | _, _, .cons h1 h2 => let ⟨_, r⟩ := Rd.reads h1; let ⟨_, q⟩ := RdAll.reads h2; ⟨_, .cons r q⟩
end

/-- the tree keeps the heap and gives a value that reads as d -/
noncomputable def RunK (M : Model) (A : Around) (t : Sem Value) (h₀ : Heap) (d : PyData) : Prop :=
  ∀ (s : Shared) (Q E : Value → Shared → Prop) (S : Addr → Prop), 0 < s.toks → Kn h₀ S s.heap → Sz S s.heap →
    (∀ v h' tk, 0 < tk → Kp s.heap h' → Rd S h' v d → Q v { s with heap := h', toks := tk }) → wpAny M A t Q E s
theorem RunK.mk {M : Model} {A : Around} {t : Sem Value} {h₀ : Heap} {d : PyData}
    (x : ∀ (s : Shared) (Q E : Value → Shared → Prop) (S : Addr → Prop), 0 < s.toks → Kn h₀ S s.heap → Sz S s.heap →
      (∀ v h' tk, Kp s.heap h' → Rd S h' v d → Q v { s with heap := h', toks := tk }) → wpAny M A t Q E s) : RunK M A t h₀ d :=
  fun s _ _ S ht kn sz post => wpAny_with_toks (n := 1) ht (x s _ _ S ht kn sz fun v h' tk k r hl => post v h' tk hl k r)
abbrev EvK (M : Model) (A : Around) (e : Expr) (env : Env) (h₀ : Heap) (d : PyData) : Prop := RunK M A (eval e env) h₀ d
theorem RunK.up {M : Model} {A : Around} {t : Sem Value} {h₀ h₁ : Heap} {d : PyData} (x : RunK M A t h₀ d) (k : Kp h₀ h₁) : RunK M A t h₁ d :=
  fun s Q E S ht kn sz post => x s Q E S ht (kn.down k) sz post
/-- a call with values that read as ds -/
noncomputable def CallK (M : Model) (A : Around) (f : Value) (ds : List PyData) (h₀ : Heap) (d : PyData) : Prop :=
  ∀ (s : Shared) (Q E : Value → Shared → Prop) (S : Addr → Prop) (vs : List Value), 0 < s.toks → Kn h₀ S s.heap → Sz S s.heap → RdAll S s.heap vs ds →
    (∀ v h' tk, 0 < tk → Kp s.heap h' → Rd S h' v d → Q v { s with heap := h', toks := tk }) → wpAny M A (call f vs) Q E s
theorem CallK.mk {M : Model} {A : Around} {f : Value} {ds : List PyData} {h₀ : Heap} {d : PyData}
    (x : ∀ (s : Shared) (Q E : Value → Shared → Prop) (S : Addr → Prop) (vs : List Value), 0 < s.toks → Kn h₀ S s.heap → Sz S s.heap → RdAll S s.heap vs ds →
      (∀ v h' tk, Kp s.heap h' → Rd S h' v d → Q v { s with heap := h', toks := tk }) → wpAny M A (call f vs) Q E s) : CallK M A f ds h₀ d :=
  fun s _ _ S vs ht kn sz rd post => wpAny_with_toks (n := 1) ht (x s _ _ S vs ht kn sz rd fun v h' tk k r hl => post v h' tk hl k r)
theorem CallK.up {M : Model} {A : Around} {f : Value} {ds : List PyData} {h₀ h₁ : Heap} {d : PyData} (x : CallK M A f ds h₀ d) (k : Kp h₀ h₁) : CallK M A f ds h₁ d :=
  fun s Q E S vs ht kn sz rd post => x s Q E S vs ht (kn.down k) sz rd post
/-- a test -/
noncomputable def BoolK (M : Model) (A : Around) (t : Sem Bool) (h₀ : Heap) (b : Bool) : Prop :=
  ∀ (s : Shared) (Q : Bool → Shared → Prop) (E : Value → Shared → Prop) (S : Addr → Prop), 0 < s.toks → Kn h₀ S s.heap → Sz S s.heap →
    (∀ h' tk, 0 < tk → Kp s.heap h' → Q b { s with heap := h', toks := tk }) → wpAny M A t Q E s
theorem BoolK.mk {M : Model} {A : Around} {t : Sem Bool} {h₀ : Heap} {b : Bool}
    (x : ∀ (s : Shared) (Q : Bool → Shared → Prop) (E : Value → Shared → Prop) (S : Addr → Prop), 0 < s.toks → Kn h₀ S s.heap → Sz S s.heap →
      (∀ h' tk, Kp s.heap h' → Q b { s with heap := h', toks := tk }) → wpAny M A t Q E s) : BoolK M A t h₀ b :=
  fun s _ _ S ht kn sz post => wpAny_with_toks (n := 1) ht (x s _ _ S ht kn sz fun h' tk k hl => post h' tk hl k)
end Mine
end

section
open PySem PySem.W PyProof.Rows PySem.Calls
set_option maxRecDepth 100000
namespace Mine
section
variable {M : Model} {A : Around} {env : Env} {h₀ : Heap}

/-- a name that stands for the value v -/
noncomputable def NameK (M : Model) (A : Around) (env : Env) (x : Str) (h₀ : Heap) (v : Value) : Prop :=
  ∀ (pos : Pos) (s : Shared) (Q E : Value → Shared → Prop), Kp h₀ s.heap → Q v s → wpAny M A (eval (.Name x pos) env) Q E s
theorem ev_of_name {x : Str} {pos : Pos} {v : Value} {d : PyData} (h : NameK M A env x h₀ v) (r : Rd0 h₀ v d) : EvK M A (.Name x pos) env h₀ d :=
  fun s _ _ _ ht kn _ post => h pos s _ _ kn.kp (post v s.heap s.toks ht (.refl _) (r.over (.kn kn)))
theorem name_local {x : Str} {m : Str → Option Value} {v : Value} (hn : h₀.Ns env.locals m) (hv : m x = some v) (hk : env.scope.kind = .function) (hx : env.kindOf x = some .local)
    (hd : (x == ("__debug__" : Str)) = false) : NameK M A env x h₀ v :=
  fun _ _ _ _ k q => wpAny_Name (wpAny_loadName_local hk hx (hn.keeps k) hv q) hd
theorem name_cell {x : Str} {c : Addr} {v : Value} (hc : env.cells.lookup x = some c) (hv : h₀.IsCell c (some v)) (hk : env.scope.kind = .function) (hx : env.kindOf x = some .cell)
    (hd : (x == ("__debug__" : Str)) = false) : NameK M A env x h₀ v :=
  fun _ _ _ _ k q => wpAny_Name (wpAny_loadName_cell hk hx hc (hv.keeps k) q) hd
theorem name_free {x : Str} {c : Addr} {v : Value} (hc : env.cells.lookup x = some c) (hv : h₀.IsCell c (some v)) (hk : env.scope.kind = .function) (hx : env.kindOf x = some .free)
    (hd : (x == ("__debug__" : Str)) = false) (hn : (x == ("__classdict__" : Str)) = false) : NameK M A env x h₀ v :=
  fun _ _ _ _ k q => wpAny_Name (wpAny_loadName_free hk hx hc (hv.keeps k) q hn) hd
/-- what is known of the ground: the text's own objects, the two name tables -/
structure Gr (K : Frag) (mg mb : Str → Option Value) (h : Heap) : Prop where
  K : K.In h
  g : h.Ns mainGlobals mg
  b : h.Ns builtinsNs mb
  lim : h.NoLimit
  bi : ∀ x : Str, x ≠ "__name__" → mb x = bootBuiltins x
theorem Gr.up {K : Frag} {mg mb : Str → Option Value} {h h' : Heap} (G : Gr K mg mb h) (k : Kp h h') : Gr K mg mb h' :=
  ⟨fun a o e => k _ _ (G.K a o e), G.g.keeps k, G.b.keeps k, G.lim.keeps k, G.bi⟩
theorem name_glob {K : Frag} {mg mb : Str → Option Value} {x : Str} {v : Value} (G : Gr K mg mb h₀) (e : nsIn K mainGlobals x = some (some v)) (hg : env.globals = mainGlobals)
    (hk : env.scope.kind = .function) (hx : env.kindOf x = some .globalImplicit) (hd : (x == ("__debug__" : Str)) = false) : NameK M A env x h₀ v :=
  fun _ _ _ _ k q => Name_function_global hk hx (loadGlobal_global (hg ▸ (G.g.keeps k)) (mg_of G.K G.g e) q) hd
theorem name_bi {K : Frag} {mg mb : Str → Option Value} {x : Str} {v : Value} (G : Gr K mg mb h₀) (e : nsIn K mainGlobals x = some none) (hb : bootBuiltins x = some v) (hn : x ≠ "__name__")
    (hg : env.globals = mainGlobals) (hbn : env.builtins = builtinsNs)
    (hk : env.scope.kind = .function) (hx : env.kindOf x = some .globalImplicit) (hd : (x == ("__debug__" : Str)) = false) : NameK M A env x h₀ v :=
  fun _ _ _ _ k q => Name_function_global hk hx (loadGlobal_builtin (hg ▸ (G.g.keeps k)) (mg_none_of G.K G.g e) (hbn ▸ (G.b.keeps k)) ((G.bi x hn).trans hb) q) hd

theorem ev_int {i : Int} {k : Nat} {pos : Pos} : EvK M A (.Constant (.int i) k pos) env h₀ (.int i) :=
  fun _ _ _ _ _ _ _ post => wpAny_Constant_int (post _ _ _ (Nat.succ_pos _) (.refl _) (.int _ _))
theorem ev_str {x : Str} {k : Nat} {pos : Pos} : EvK M A (.Constant (.str x) k pos) env h₀ (.str x) :=
  fun _ _ _ _ _ _ _ post => wpAny_Constant_str (post _ _ _ (Nat.succ_pos _) (.refl _) (.str _ _))

/-- an operation on two values that read as d₁, d₂ -/
noncomputable def Op2K (M : Model) (A : Around) (f : Value → Value → Sem Value) (d₁ d₂ d : PyData) : Prop :=
  ∀ (s : Shared) (Q E : Value → Shared → Prop) (S : Addr → Prop) (a b : Value), 0 < s.toks → Sz S s.heap → Rd S s.heap a d₁ → Rd S s.heap b d₂ →
    (∀ v h' tk, 0 < tk → Kp s.heap h' → Rd S h' v d → Q v { s with heap := h', toks := tk }) → wpAny M A (f a b) Q E s
theorem Op2K.mk {f : Value → Value → Sem Value} {d₁ d₂ d : PyData}
    (x : ∀ (s : Shared) (Q E : Value → Shared → Prop) (S : Addr → Prop) (a b : Value), 0 < s.toks → Sz S s.heap → Rd S s.heap a d₁ → Rd S s.heap b d₂ →
      (∀ v h' tk, Kp s.heap h' → Rd S h' v d → Q v { s with heap := h', toks := tk }) → wpAny M A (f a b) Q E s) : Op2K M A f d₁ d₂ d :=
  fun s _ _ S a b ht sz r₁ r₂ post => wpAny_with_toks (n := 1) ht (x s _ _ S a b ht sz r₁ r₂ fun v h' tk k r hl => post v h' tk hl k r)
theorem ev_bin {l r : Expr} {op : Operator} {pos : Pos} {d₁ d₂ d : PyData} (hl : EvK M A l env h₀ d₁) (hr : EvK M A r env h₀ d₂) (ho : Op2K M A (binaryOp op) d₁ d₂ d) :
    EvK M A (.BinOp l op r pos) env h₀ d := fun s Q E S ht kn sz post => by
  refine wpAny_BinOp (hl s _ _ S ht kn sz fun a h₁ t₁ p₁ k₁ r₁ => hr _ _ _ S p₁ (kn.up k₁) (sz.up k₁) fun b h₂ t₂ p₂ k₂ r₂ => ?_)
  exact ho _ _ _ S a b p₂ ((sz.up k₁).up k₂) (r₁.up k₂) r₂ fun v h₃ t₃ p₃ k₃ r₃ => post v h₃ t₃ p₃ ((k₁.trans k₂).trans k₃) r₃
theorem ev_cmp {l r : Expr} {op : CmpOp} {pos : Pos} {d₁ d₂ d : PyData} (hl : EvK M A l env h₀ d₁) (hr : EvK M A r env h₀ d₂) (ho : Op2K M A (compareOp op) d₁ d₂ d)
    (hm : behindInMarks op r = false) : EvK M A (.Compare l [op] [r] pos) env h₀ d := fun s Q E S ht kn sz post => by
  refine wpAny_Compare1 (hl s _ _ S ht kn sz fun a h₁ t₁ p₁ k₁ r₁ => hr _ _ _ S p₁ (kn.up k₁) (sz.up k₁) fun b h₂ t₂ p₂ k₂ r₂ => ?_) hm
  exact ho _ _ _ S a b p₂ ((sz.up k₁).up k₂) (r₁.up k₂) r₂ fun v h₃ t₃ p₃ k₃ r₃ => post v h₃ t₃ p₃ ((k₁.trans k₂).trans k₃) r₃
theorem test_cmp {l r : Expr} {op : CmpOp} {pos : Pos} {whole : Sem Value} {d₁ d₂ : PyData} {c : Bool} (hl : EvK M A l env h₀ d₁) (hr : EvK M A r env h₀ d₂) (ho : Op2K M A (compareOp op) d₁ d₂ (.bool c))
    (hm : behindInMarks op r = false) : BoolK M A (isTrue (.Compare l [op] [r] pos) env whole) h₀ c := fun s Q E S ht kn sz post => by
  refine wpAny_isTrue_Compare1 (hl s _ _ S ht kn sz fun a h₁ t₁ p₁ k₁ r₁ => hr _ _ _ S p₁ (kn.up k₁) (sz.up k₁) fun b h₂ t₂ p₂ k₂ r₂ => ?_) hm
  refine ho _ _ _ S a b p₂ ((sz.up k₁).up k₂) (r₁.up k₂) r₂ fun v h₃ t₃ p₃ k₃ r₃ => ?_
  cases r₃
  exact wpAny_truthy_bool (post h₃ t₃ p₃ ((k₁.trans k₂).trans k₃))
theorem ev_if {t b o : Expr} {pos : Pos} {c : Bool} {d : PyData} (ht : BoolK M A (isTrue t env (eval t env)) h₀ c) (hb : c = true → EvK M A b env h₀ d) (ho : c = false → EvK M A o env h₀ d) :
    EvK M A (.IfExp t b o pos) env h₀ d := fun s Q E S hp kn sz post => by
  refine wpAny_IfExp (ht s _ _ S hp kn sz fun h₁ t₁ p₁ k₁ => ?_)
  cases c with
  | true => exact hb rfl _ _ _ S p₁ (kn.up k₁) (sz.up k₁) fun v h₂ t₂ p₂ k₂ r₂ => post v h₂ t₂ p₂ (k₁.trans k₂) r₂
  | false => exact ho rfl _ _ _ S p₁ (kn.up k₁) (sz.up k₁) fun v h₂ t₂ p₂ k₂ r₂ => post v h₂ t₂ p₂ (k₁.trans k₂) r₂

/-- arguments, in order -/
inductive ArgsK (M : Model) (A : Around) (env : Env) (h₀ : Heap) : List Expr → List PyData → Prop
  | nil : ArgsK M A env h₀ [] []
  | cons {e : Expr} {es : List Expr} {d : PyData} {ds : List PyData} : starEach (e :: es) env = (false, eval e env) :: starEach es env → EvK M A e env h₀ d → ArgsK M A env h₀ es ds → ArgsK M A env h₀ (e :: es) (d :: ds)
theorem ArgsK.run {pos : Pos} : ∀ {es : List Expr} {ds : List PyData}, ArgsK M A env h₀ es ds → ∀ (s : Shared) (Q : List Value → Shared → Prop) (E : Value → Shared → Prop) (S : Addr → Prop), 0 < s.toks → Kn h₀ S s.heap → Sz S s.heap →
    (∀ vs h' tk, 0 < tk → Kp s.heap h' → RdAll S h' vs ds → Q vs { s with heap := h', toks := tk }) → wpAny M A (spliced (backTo pos (starEach es env))) Q E s
  | _, _, .nil, s, Q, E, S, ht, kn, sz, post => spliced_none (post [] s.heap s.toks ht (.refl _) .nil)
  | _, _, .cons hs h r, s, Q, E, S, ht, kn, sz, post => by
    refine spliced_more (h s _ _ S ht kn sz fun v h₁ t₁ p₁ k₁ r₁ => ?_) hs
    exact r.run _ _ _ S p₁ (kn.up k₁) (sz.up k₁) fun vs h₂ t₂ p₂ k₂ r₂ => post _ h₂ t₂ p₂ (k₁.trans k₂) (.cons (r₁.up k₂) r₂)
theorem ev_list {es : List Expr} {pos : Pos} {ds : List PyData} (h : ArgsK M A env h₀ es ds) (hsz : ds.length ≤ 1000) : EvK M A (.List es pos) env h₀ (.list ds) := fun s Q E S ht kn sz post => by
  refine List_ (h.run s _ _ S ht kn sz fun vs h₁ t₁ p₁ k₁ r₁ => ?_)
  refine wpAny_newObj_type ?_ ?_
  · refine post _ _ _ p₁ (k₁.trans (kp_push _ _)) (.list ((sz.up k₁).fresh (get_none_size _ (Nat.le_refl _))) (Heap.get?_push_size _ rfl) ?_)
    simpa using r₁.up (kp_push _ _)
  · show vs.toArray.size ≤ sizeLine
    rw [List.size_toArray, r₁.length]; exact Nat.le_trans hsz (by decide)
theorem ev_tuple {es : List Expr} {k : Nat} {pos : Pos} {ds : List PyData} (h : ArgsK M A env h₀ es ds) (hsz : ds.length ≤ 1000) : EvK M A (.Tuple es k pos) env h₀ (.tuple ds) := fun s Q E S ht kn sz post => by
  refine Tuple_ (h.run s _ _ S ht kn sz fun vs h₁ t₁ p₁ k₁ r₁ => ?_)
  refine wpAny_newObj_type ?_ ?_
  · refine post _ _ _ p₁ (k₁.trans (kp_push _ _)) (.tuple ((sz.up k₁).fresh (get_none_size _ (Nat.le_refl _))) (Heap.get?_push_size _ rfl) ?_)
    simpa using r₁.up (kp_push _ _)
  · show vs.toArray.size ≤ sizeLine
    rw [List.size_toArray, r₁.length]; exact Nat.le_trans hsz (by decide)
end
end Mine
end

section
open PySem PySem.W PyProof.Rows PySem.Calls
set_option maxRecDepth 100000
namespace Mine
section
variable {prog : Program} {w : World} {A : Around} {env : Env} {h₀ : Heap}

theorem op_add {a b : Int} : Op2K (model prog w) A (binaryOp .Add) (.int a) (.int b) (.int (a + b)) := .mk fun s Q E S x y _ _ r₁ r₂ post => by
  cases r₁; cases r₂; exact add_int (post _ s.heap _ (.refl _) (.int _ _))
theorem op_sub {a b : Int} : Op2K (model prog w) A (binaryOp .Sub) (.int a) (.int b) (.int (a - b)) := .mk fun s Q E S x y _ _ r₁ r₂ post => by
  cases r₁; cases r₂; exact AutoIntOps.sub_0 (post _ s.heap _ (.refl _) (.int _ _))
theorem op_mul {a b : Int} (ha : a.natAbs < 2 ^ 60) : Op2K (model prog w) A (binaryOp .Mult) (.int a) (.int b) (.int (a * b)) := .mk fun s Q E S x y _ _ r₁ r₂ post => by
  cases r₁; cases r₂; exact PyProof.Rows.mul_int (post _ s.heap _ (.refl _) (.int _ _)) (.of_left (by
    unfold Builtin.Int.intBits
    split
    · omega
    · rename_i h0
      have := (Nat.log2_lt (n := a.natAbs) (k := 60) (by intro h; exact h0 (by simpa using h))).mpr ha
      omega))
theorem op_fdiv {a b : Int} (hb : b ≠ 0) (hs : b.natAbs < 2 ^ 60) : Op2K (model prog w) A (binaryOp .FloorDiv) (.int a) (.int b) (.int (a.fdiv b)) := .mk fun s Q E S x y _ _ r₁ r₂ post => by
  cases r₁; cases r₂
  refine floordiv_int hb (post _ s.heap _ (.refl _) (.int _ _)) (.inl ?_)
  unfold Builtin.divisionGoesByPylong
  have : b.natAbs.log2 < 60 := by
    exact (Nat.log2_lt (by omega)).mpr hs
  have hd : (if (b == 0) = true then 0 else b.natAbs.log2 / 30 + 1) ≤ 300 := by
    split
    · omega
    · omega
  simp only [Bool.and_eq_false_imp, decide_eq_true_eq]
  intro h; omega
theorem op_mod {a b : Int} (hb : b ≠ 0) : Op2K (model prog w) A (binaryOp .Mod) (.int a) (.int b) (.int (a.fmod b)) := .mk fun s Q E S x y _ _ r₁ r₂ post => by
  cases r₁; cases r₂; exact mod_int' hb (post _ s.heap _ (.refl _) (.int _ _))
theorem op_pow2 {b : Int} (h0 : 0 ≤ b) (h1 : b ≤ 60) : Op2K (model prog w) A (binaryOp .Pow) (.int 2) (.int b) (.int (2 ^ b.toNat)) := .mk fun s Q E S x y _ _ r₁ r₂ post => by
  cases r₁; cases r₂
  by_cases hz : b = 0
  · subst hz; exact AutoIntOps.pow_0 (by omega) (by decide) (post _ s.heap _ (.refl _) (.int _ _))
  · refine AutoIntOps.pow_4 h0 (by simpa using hz) (by decide) (by decide) ?_ (post _ s.heap _ (.refl _) (.int _ _))
    have e : ((Builtin.Int.intBits 2 : Nat) : Int) = 2 := by decide
    rw [e]
    unfold Builtin.Int.intTooBig
    have : (bitsLine : Int) = 134217728 := by decide
    simp only [decide_eq_true_eq]
    omega
theorem op_subbool {p q : Bool} : Op2K (model prog w) A (binaryOp .Sub) (.bool p) (.bool q) (.int (b2i p - b2i q)) := .mk fun s Q E S x y _ _ r₁ r₂ post => by
  cases r₁; cases r₂; exact sub_bool (post _ s.heap _ (.refl _) (.int _ _))
theorem op_addlist {xs ys : List PyData} (hl : xs.length + ys.length ≤ 1000) : Op2K (model prog w) A (binaryOp .Add) (.list xs) (.list ys) (.list (xs ++ ys)) := .mk fun s Q E S x y _ sz r₁ r₂ post => by
  cases r₁ with | list n1 g1 q1 => cases r₂ with | list n2 g2 q2 =>
  refine P.add_list g1 g2 (post _ _ _ (kp_push _ _) (.list (sz.fresh (get_none_size _ (Nat.le_refl _))) (Heap.get?_push_size _ rfl) ?_)) ?_
  · rw [Array.toList_append]; exact (q1.append q2).up (kp_push _ _)
  · have e1 := q1.length; have e2 := q2.length
    simp only [Array.length_toList] at e1 e2
    rw [e1, e2]; exact Nat.le_trans hl (by decide)
theorem cmp_eq_int {a b : Int} : Op2K (model prog w) A (compareOp .Eq) (.int a) (.int b) (.bool (a == b)) := .mk fun s Q E S x y _ _ r₁ r₂ post => by
  cases r₁; cases r₂; exact eq_int (post _ s.heap s.toks (.refl _) (.bool _))
theorem cmp_gt_int {a b : Int} : Op2K (model prog w) A (compareOp .Gt) (.int a) (.int b) (.bool (decide (b < a))) := .mk fun s Q E S x y _ _ r₁ r₂ post => by
  cases r₁; cases r₂; exact gt_int (post _ s.heap s.toks (.refl _) (.bool _))
theorem cmp_ge_int {a b : Int} : Op2K (model prog w) A (compareOp .GtE) (.int a) (.int b) (.bool (decide (b ≤ a))) := .mk fun s Q E S x y _ _ r₁ r₂ post => by
  cases r₁; cases r₂; exact ge_int (post _ s.heap s.toks (.refl _) (.bool _))
theorem cmp_eq_str {a b : Str} : Op2K (model prog w) A (compareOp .Eq) (.str a) (.str b) (.bool (a == b)) := .mk fun s Q E S x y _ _ r₁ r₂ post => by
  cases r₁; cases r₂; exact eq_str (post _ s.heap s.toks (.refl _) (.bool _))
theorem cmp_gt_str {a b : Str} : Op2K (model prog w) A (compareOp .Gt) (.str a) (.str b) (.bool (decide (b.cps.toList < a.cps.toList))) := .mk fun s Q E S x y _ _ r₁ r₂ post => by
  cases r₁; cases r₂; exact P.gt_str (post _ s.heap s.toks (.refl _) (.bool _))
theorem cmp_lt_str {a b : Str} : Op2K (model prog w) A (compareOp .Lt) (.str a) (.str b) (.bool (decide (a.cps.toList < b.cps.toList))) := .mk fun s Q E S x y _ _ r₁ r₂ post => by
  cases r₁; cases r₂; exact lt_str (post _ s.heap s.toks (.refl _) (.bool _))

/-- a call of a def of the text -/
theorem ev_call {x : Str} {p pos : Pos} {e : Expr} {es : List Expr} {f : Addr} {o : Obj} {fd : FuncData} {ds : List PyData} {d : PyData} (hn : NameK (model prog w) A env x h₀ (.ref f))
    (ho : h₀.get? f = some o) (hd : o.data = .func fd) (ha : ArgsK (model prog w) A env h₀ (e :: es) ds) (hc : CallK (model prog w) A (.ref f) ds h₀ d) :
    EvK (model prog w) A (.Call (.Name x p) (e :: es) [] pos) env h₀ d := fun s Q E S ht kn sz post => by
  refine Call_Name (trees := backTo pos (starEach (e :: es) env)) rfl (hn p s _ _ kn.kp ?_)
  refine callWith_function (o := o) (fd := fd) ?_
  have hs : ∃ x rest, backTo pos (starEach (e :: es) env) = (false, x) :: rest := by
    cases ha with | cons h1 _ _ => rw [h1]; exact ⟨_, _, rfl⟩
  obtain ⟨x', rest, e'⟩ := hs
  rw [e']
  refine evalArgs_plain ?_
  rw [← e']
  refine ha.run s _ _ S ht kn sz fun vs h₁ t₁ p₁ k₁ r₁ => ⟨⟨k₁ _ _ (kn.kp _ _ ho), hd⟩, ?_⟩
  exact hc _ _ _ S vs p₁ (kn.up k₁) (sz.up k₁) r₁ fun v h₂ t₂ p₂ k₂ r₂ => post v h₂ t₂ p₂ (k₁.trans k₂) r₂
/-- a call of a built-in -/
theorem ev_callb {x : Str} {p pos : Pos} {e : Expr} {es : List Expr} {id : String} {ds : List PyData} {d : PyData} (hn : NameK (model prog w) A env x h₀ (.builtin id))
    (ha : ArgsK (model prog w) A env h₀ (e :: es) ds) (hc : CallK (model prog w) A (.builtin id) ds h₀ d) :
    EvK (model prog w) A (.Call (.Name x p) (e :: es) [] pos) env h₀ d := fun s Q E S ht kn sz post => by
  refine Call_Name (trees := backTo pos (starEach (e :: es) env)) rfl (hn p s _ _ kn.kp ?_)
  have hs : ∃ x rest, backTo pos (starEach (e :: es) env) = (false, x) :: rest := by
    cases ha with | cons h1 _ _ => rw [h1]; exact ⟨_, _, rfl⟩
  have hp : ∀ {es : List Expr} {ds : List PyData}, ArgsK (model prog w) A env h₀ es ds → (backTo pos (starEach es env)).any (·.1) = false := by
    intro es ds h
    induction h with
    | nil => rfl
    | cons h1 _ _ ih => rw [h1]; exact ih
  refine callWith_builtin (hp ha) ?_
  obtain ⟨x', rest, e'⟩ := hs
  rw [e']
  refine evalArgs_plain ?_
  rw [← e']
  refine ha.run s _ _ S ht kn sz fun vs h₁ t₁ p₁ k₁ r₁ => ?_
  exact hc _ _ _ S vs p₁ (kn.up k₁) (sz.up k₁) r₁ fun v h₂ t₂ p₂ k₂ r₂ => post v h₂ t₂ p₂ (k₁.trans k₂) r₂

/-- xs[i] in bounds -/
theorem ev_item {value slice : Expr} {pos : Pos} {ds : List PyData} {i : Int} {d : PyData} (hv : EvK (model prog w) A value env h₀ (.list ds)) (hi : EvK (model prog w) A slice env h₀ (.int i))
    (h0 : 0 ≤ i) (h1 : i < 1000) (hd : ds[i.toNat]? = some d)
    (hs : ∀ o j, subscripted slice false o j = operate [o, j] (getItem o j)) :
    EvK (model prog w) A (.Subscript value slice pos) env h₀ d := fun s Q E S ht kn sz post => by
  refine Subscript_ (hv s _ _ S ht kn sz fun a h₁ t₁ p₁ k₁ r₁ => hi _ _ _ S p₁ (kn.up k₁) (sz.up k₁) fun b h₂ t₂ p₂ k₂ r₂ => ?_)
  cases r₂ with | int i t =>
  cases r₁ with | list n g q =>
  obtain ⟨v, hv', rv⟩ := q.get _ _ hd
  have g₂ := k₂ _ _ g
  refine tail_any (T := "list") ⟨_, g₂, rfl⟩ slot_list_getitem.lookup (wpAny_getItem_list ⟨_, g₂, rfl, _, rfl⟩ h0 (by omega) (by simpa using hv') (post v h₂ t₂ p₂ (k₁.trans k₂) (rv.up k₂))) (hs _ _)
/-- x[i] of a text -/
theorem ev_sitem {value slice : Expr} {pos : Pos} {x : Str} {i : Int} {c : Nat} (hv : EvK (model prog w) A value env h₀ (.str x)) (hi : EvK (model prog w) A slice env h₀ (.int i))
    (h0 : 0 ≤ i) (h1 : i < 1000) (hd : x.cps[i.toNat]? = some c)
    (hs : ∀ o j, subscripted slice false o j = operate [o, j] (getItem o j)) :
    EvK (model prog w) A (.Subscript value slice pos) env h₀ (.str ⟨#[c]⟩) := .mk fun s Q E S ht kn sz post => by
  refine Subscript_ (hv s _ _ S ht kn sz fun a h₁ t₁ p₁ k₁ r₁ => hi _ _ _ S p₁ (kn.up k₁) (sz.up k₁) fun b h₂ t₂ p₂ k₂ r₂ => ?_)
  cases r₂ with | int i t =>
  cases r₁ with | str x t' =>
  have hlt : i.toNat < x.cps.size := by
    rcases Nat.lt_or_ge i.toNat x.cps.size with h | h
    · exact h
    · rw [Array.getElem?_eq_none h] at hd; cases hd
  refine tail_any (T := "str") (typeIs_str _ x t') F.slot_str_getitem.lookup (P.getItem_str (c := c) (by simp; omega) ?_ (post _ h₂ _ (k₁.trans k₂) (.str _ _))) (hs _ _)
  unfold seqIndex? Str.length
  have : ¬ i < 0 := by omega
  have h2 : i < (x.cps.size : Int) := by omega
  rw [Array.getElem?_eq_getElem hlt, Option.some.injEq] at hd
  simp [this, h0, h2, hd]
end
end Mine
end

section
open PySem PySem.W PyProof.Rows PySem.Calls
set_option maxRecDepth 100000
namespace Mine
theorem RdAll.ints {S : Addr → Prop} {h : Heap} : ∀ {vs : List Value} {ns : List Int}, RdAll S h vs (ns.map PyData.int) → IntsAre vs ns
  | [], [], _ => .nil
  | [], _ :: _, x => by cases x
  | _ :: _, [], x => by cases x
  | _ :: _, _ :: _, x => by
    cases x with | cons a r => cases a; exact .cons _ _ r.ints
theorem RdAll.strs {S : Addr → Prop} {h : Heap} : ∀ {vs : List Value} {xs : List Str}, RdAll S h vs (xs.map PyData.str) → ∃ l : List (Str × Tok), vs = strValues l ∧ l.map (·.1) = xs
  | [], [], _ => ⟨[], rfl, rfl⟩
  | [], _ :: _, x => by cases x
  | _ :: _, [], x => by cases x
  | _ :: _, _ :: _, x => by
    cases x with | cons a r =>
      cases a with | str _ t =>
        obtain ⟨l, e1, e2⟩ := r.strs
        exact ⟨(_, t) :: l, by rw [e1]; rfl, by simp [e2]⟩
section
variable {prog : Program} {w : World} {A : Around} {env : Env} {h₀ : Heap}

/-- a slice's bound -/
inductive PartK (M : Model) (A : Around) (env : Env) (h₀ : Heap) : Option Expr → Option Int → Prop
  | none : PartK M A env h₀ none none
  | some {e : Expr} {i : Int} : EvK M A e env h₀ (.int i) → PartK M A env h₀ (some e) (some i)
theorem PartK.run {M : Model} {x : Option Expr} {i : Option Int} (p : PartK M A env h₀ x i) (s : Shared) (Q E : Value → Shared → Prop) (S : Addr → Prop) (ht : 0 < s.toks) (kn : Kn h₀ S s.heap) (sz : Sz S s.heap)
    (post : ∀ v h' tk, 0 < tk → Kp s.heap h' → IsPart v i → Q v { s with heap := h', toks := tk }) : wpAny M A (evalPart x env) Q E s := by
  cases p with
  | none => rw [evalPart_none]; exact wpAny_pure (post _ s.heap s.toks ht (.refl _) .none)
  | some h => rw [evalPart_some]; exact h s _ _ S ht kn sz fun v h' tk p k r => by cases r; exact post _ h' tk p k (.int _ _)

theorem ev_lslice {value : Expr} {lower upper : Option Expr} {p pos : Pos} {ds ds' : List PyData} {lo hi : Option Int} (hv : EvK (model prog w) A value env h₀ (.list ds)) (hl : PartK (model prog w) A env h₀ lower lo) (hu : PartK (model prog w) A env h₀ upper hi)
    (hsz : ds.length ≤ 1000) (hr : ∀ (S : Addr → Prop) (h : Heap) (items : Array Value), RdAll S h items.toList ds → RdAll S h (slicePick items lo hi none).toList ds') :
    EvK (model prog w) A (.Subscript value (.Slice lower upper none p) pos) env h₀ (.list ds') := fun s Q E S ht kn sz post => by
  refine Subscript_ (hv s _ _ S ht kn sz fun a h₁ t₁ p₁ k₁ r₁ => wpAny_Slice (hl.run _ _ _ S p₁ (kn.up k₁) (sz.up k₁) fun vl h₂ t₂ p₂ k₂ i₂ => hu.run _ _ _ S p₂ ((kn.up k₁).up k₂) ((sz.up k₁).up k₂) fun vu h₃ t₃ p₃ k₃ i₃ => ?_))
  rw [evalPart_none]
  refine wpAny_pure ?_
  cases r₁ with | list n g q =>
  rename_i a items cnt
  have k₁₃ : Kp h₁ h₃ := k₂.trans k₃
  have g₃ := k₁₃ _ _ g
  refine tail_any (T := "list") ⟨_, Heap.get?_push_of_some _ g₃, rfl⟩ slot_list_getitem.lookup (wpAny_getItem_list_slice (items := items) ⟨_, Heap.get?_push_of_some _ g₃, rfl, _, rfl⟩ (Heap.IsSliceOf.new ..) i₂ i₃ .none (by simp) ?_ ?_) (ops := _) rfl
  · refine post _ _ _ p₃ ((k₁.trans k₁₃).trans ((kp_push _ _).trans (kp_push _ _))) (.list ?_ (Heap.get?_push_size _ rfl) (hr _ _ _ (q.up (k₁₃.trans ((kp_push _ _).trans (kp_push _ _))))))
    exact (((sz.up k₁).up k₁₃).up (kp_push _ _)).fresh (get_none_size _ (Nat.le_refl _))
  · have e := q.length
    rw [Array.length_toList] at e
    rw [e]; exact Nat.le_trans hsz (by decide)
theorem ev_lfrom {value e : Expr} {p pos : Pos} {ds : List PyData} {a : Nat} (hv : EvK (model prog w) A value env h₀ (.list ds)) (hl : EvK (model prog w) A e env h₀ (.int a)) (hsz : ds.length ≤ 1000) :
    EvK (model prog w) A (.Subscript value (.Slice (some e) none none p) pos) env h₀ (.list (ds.drop a)) :=
  ev_lslice hv (.some hl) .none hsz fun S h items r => by
    rw [slicePick_from']
    have := r.sub a (ds.length)
    have e := r.length
    simpa [List.take_of_length_le, e] using this
theorem ev_lupto {value e : Expr} {p pos : Pos} {ds : List PyData} {b : Nat} (hv : EvK (model prog w) A value env h₀ (.list ds)) (hu : EvK (model prog w) A e env h₀ (.int b)) (hsz : ds.length ≤ 1000) :
    EvK (model prog w) A (.Subscript value (.Slice none (some e) none p) pos) env h₀ (.list (ds.take b)) :=
  ev_lslice hv .none (.some hu) hsz fun S h items r => by
    rw [slicePick_upto']
    simpa using r.sub 0 b
theorem ev_lall {value : Expr} {p pos : Pos} {ds : List PyData} (hv : EvK (model prog w) A value env h₀ (.list ds)) (hsz : ds.length ≤ 1000) :
    EvK (model prog w) A (.Subscript value (.Slice none none none p) pos) env h₀ (.list ds) :=
  ev_lslice hv .none .none hsz fun S h items r => by rw [slicePick_all]; exact r

theorem ev_sslice {value : Expr} {lower upper : Option Expr} {p pos : Pos} {x : Str} {lo hi : Option Int} (hv : EvK (model prog w) A value env h₀ (.str x)) (hl : PartK (model prog w) A env h₀ lower lo) (hu : PartK (model prog w) A env h₀ upper hi)
    (hsz : x.length ≤ 1000) :
    EvK (model prog w) A (.Subscript value (.Slice lower upper none p) pos) env h₀ (.str (Txt.slice x lo hi)) := .mk fun s Q E S ht kn sz post => by
  refine Subscript_ (hv s _ _ S ht kn sz fun a h₁ t₁ p₁ k₁ r₁ => wpAny_Slice (hl.run _ _ _ S p₁ (kn.up k₁) (sz.up k₁) fun vl h₂ t₂ p₂ k₂ i₂ => hu.run _ _ _ S p₂ ((kn.up k₁).up k₂) ((sz.up k₁).up k₂) fun vu h₃ t₃ p₃ k₃ i₃ => ?_))
  rw [evalPart_none]
  refine wpAny_pure ?_
  cases r₁ with | str x t =>
  have k₁₃ : Kp h₁ h₃ := k₂.trans k₃
  have e₂ : ∃ l : Option (Int × Tok), vl = partValue l ∧ l.map (·.1) = lo := by cases i₂ with | none => exact ⟨none, rfl, rfl⟩ | int i t => exact ⟨some (i, t), rfl, rfl⟩
  have e₃ : ∃ l : Option (Int × Tok), vu = partValue l ∧ l.map (·.1) = hi := by cases i₃ with | none => exact ⟨none, rfl, rfl⟩ | int i t => exact ⟨some (i, t), rfl, rfl⟩
  obtain ⟨l, rfl, rfl⟩ := e₂
  obtain ⟨u, rfl, rfl⟩ := e₃
  have kk := (k₁.trans k₁₃).trans (kp_push h₃ { cls := .type "slice", data := .fields #[partValue l, partValue u, .none] })
  have : (1000 : Nat) ≤ sizeLine := by decide
  refine tail_any (T := "str") (typeIs_str _ x t) F.slot_str_getitem.lookup (wpAny_getItem_str_slice (l := l) (u := u) (st := none) ⟨_, Heap.get?_push_size _ rfl, rfl, rfl⟩ rfl ?_) (ops := _) rfl
  exact post_val_or_str ⟨Nat.le_trans (Txt.slice_le x _ _) (Nat.le_trans hsz this), fun t' k => post _ _ _ kk (.str _ _)⟩

/-- max, min, len of a list of ints -/
theorem call_max {ns : List Int} {m : Int} (hh : A.handled = none) (hm : m ∈ ns) (hmax : ∀ a ∈ ns, a ≤ m) : CallK (model prog w) A (.builtin "max") [.list (ns.map .int)] h₀ (.int m) := .mk fun s Q E S vs ht kn sz rd post => by
  cases rd with | cons r₁ r₂ =>
  cases r₂
  cases r₁ with | list n g q =>
  rename_i a items cnt
  obtain ⟨xs, e⟩ := q.ints.allInts.items
  have hns : ns = xs.toList.map (·.1) := by rw [← q.ints.numsOf, ← nums_intItems, ← e]
  have hsz : 0 < xs.size := by
    have : 0 < ns.length := List.length_pos_of_mem hm
    rw [hns, List.length_map, Array.length_toList] at this; exact this
  have e' : items = intItems xs := by rw [← e]
  refine max_intList hh (xs := xs) (e' ▸ ⟨_, g, rfl, _, rfl⟩) hsz fun v h' tk hv hk => ?_
  obtain ⟨t, rfl⟩ := intItems_at hv
  obtain ⟨h1, h2⟩ := argBest_gt (numAt xs) (xs.size - 1)
  refine post _ h' tk hk ?_
  have : numAt xs (argBest (fun i j => decide (numAt xs i > numAt xs j)) (xs.size - 1)) = m := by
    refine Int.le_antisymm (hmax _ ?_) ?_
    · rw [hns, numAt_eq]; exact getD_mem (by rw [List.length_map, Array.length_toList]; omega)
    · rw [hns] at hm
      obtain ⟨j, hj, rfl⟩ := mem_getD hm
      rw [List.length_map, Array.length_toList] at hj
      rw [← numAt_eq]; exact h2 j (by omega)
  rw [this]; exact .int _ _
theorem call_min {ns : List Int} {m : Int} (hh : A.handled = none) (hm : m ∈ ns) (hmin : ∀ a ∈ ns, m ≤ a) : CallK (model prog w) A (.builtin "min") [.list (ns.map .int)] h₀ (.int m) := .mk fun s Q E S vs ht kn sz rd post => by
  cases rd with | cons r₁ r₂ =>
  cases r₂
  cases r₁ with | list n g q =>
  rename_i a items cnt
  obtain ⟨xs, e⟩ := q.ints.allInts.items
  have hns : ns = xs.toList.map (·.1) := by rw [← q.ints.numsOf, ← nums_intItems, ← e]
  have hsz : 0 < xs.size := by
    have : 0 < ns.length := List.length_pos_of_mem hm
    rw [hns, List.length_map, Array.length_toList] at this; exact this
  have e' : items = intItems xs := by rw [← e]
  refine min_intList hh (xs := xs) (e' ▸ ⟨_, g, rfl, _, rfl⟩) hsz fun v h' tk hv hk => ?_
  obtain ⟨t, rfl⟩ := intItems_at hv
  obtain ⟨h1, h2⟩ := argBest_lt (numAt xs) (xs.size - 1)
  refine post _ h' tk hk ?_
  have : numAt xs (argBest (fun i j => decide (numAt xs i < numAt xs j)) (xs.size - 1)) = m := by
    refine Int.le_antisymm ?_ (hmin _ ?_)
    · rw [hns] at hm
      obtain ⟨j, hj, rfl⟩ := mem_getD hm
      rw [List.length_map, Array.length_toList] at hj
      rw [← numAt_eq]; exact h2 j (by omega)
    · rw [hns, numAt_eq]; exact getD_mem (by rw [List.length_map, Array.length_toList]; omega)
  rw [this]; exact .int _ _
theorem call_len {ds : List PyData} (hl : ds.length ≤ 1000) : CallK (model prog w) A (.builtin "len") [.list ds] h₀ (.int ds.length) := .mk fun s Q E S vs ht kn sz rd post => by
  cases rd with | cons r₁ r₂ =>
  cases r₂
  cases r₁ with | list n g q =>
  rename_i a items cnt
  have e := q.length
  rw [Array.length_toList] at e
  refine call_len_list (items := items) ⟨_, g, rfl, _, rfl⟩ (by omega) (post _ s.heap _ (.refl _) ?_)
  rw [e]; exact .int _ _
end
end Mine
end

section
open PySem PySem.W PyProof.Rows PySem.Calls
set_option maxRecDepth 100000
namespace Mine
section
variable {prog : Program} {w : World} {A : Around} {env : Env} {h₀ : Heap}

/-- text.replace('a', 'b') -/
theorem ev_replace {o : Expr} {apos pos p₁ p₂ : Pos} {k₁ k₂ : Nat} {x y z : Str} (ho : EvK (model prog w) A o env h₀ (.str x)) (hyz : (y == z) = false) (hx : x.length ≤ 1000) (hz : z.length ≤ 14)
    (hbase : attributeBase o "replace" env (eval o env) = eval o env) (hline : (apos.endLine == pos.line) = true) :
    EvK (model prog w) A (.Call (.Attribute o "replace" apos) [.Constant (.str y) k₁ p₁, .Constant (.str z) k₂ p₂] [] pos) env h₀ (.str (Txt.replace x y z)) := .mk fun s Q E S ht kn sz post => by
  refine wpAny_Call_method2_late hbase hline rfl (ho s _ _ S ht kn sz fun v h₁ t₁ q₁ k₁ r₁ => ?_)
  cases r₁ with | str x t =>
  refine ⟨"str", "str.replace", F.plainAttrs_str, F.slot_str_replace, F.type_str_replace, typeIs_str _ x t, (fun a e => by cases e), ?_⟩
  refine callWith_builtin rfl (evalArgs_plain (spliced_cons (Constant_str (spliced_cons (Constant_str (spliced_nil ?_))))))
  refine SC.replaceW (Nat.ne_of_gt q₁) (Nat.succ_ne_zero _) (Nat.ne_of_lt (Nat.lt_succ_self _)) hyz (Nat.le_trans hx (by decide)) hz fun t' k => ?_
  exact post _ h₁ k k₁ (.str _ _)

/-- ''.join(texts) -/
theorem ev_join {e : Expr} {apos pos p₀ : Pos} {k₀ : Nat} {sep : Str} {xs : List Str} (he : EvK (model prog w) A e env h₀ (.list (xs.map .str))) (hok : JoinOk sep xs = true)
    (hline : (apos.endLine == pos.line) = true) (hs : backTo pos (starEach [e] env) = [(false, eval e env)]) :
    EvK (model prog w) A (.Call (.Attribute (.Constant (.str sep) k₀ p₀) "join" apos) [e] [] pos) env h₀ (.str (Txt.join sep xs)) := .mk fun s Q E S ht kn sz post => by
  refine wpAny_Call_method1_late rfl hline hs (Constant_str ?_)
  refine ⟨"str", "str.join", F.plainAttrs_str, F.slot_str_join, F.type_str_join, typeIs_str _ _ _, (fun a e => by cases e), ?_⟩
  refine callWith_builtin rfl (evalArgs_plain (spliced_cons (he _ _ _ S (Nat.succ_pos _) kn sz fun v h₁ t₁ q₁ k₁ r₁ => spliced_nil ?_)))
  cases r₁ with | list n g q =>
  rename_i a items cnt
  obtain ⟨l, e1, e2⟩ := q.strs
  have e3 : items = (strValues l).toArray := by rw [← e1]
  refine SC.join (l := l) (e3 ▸ ⟨_, g, rfl, _, rfl⟩) e2 hok fun t' k => post _ h₁ k k₁ (.str _ _)

/-- xs.count(x), ints -/
theorem ev_count {o e : Expr} {apos pos : Pos} {ns : List Int} {x : Int} (ho : EvK (model prog w) A o env h₀ (.list (ns.map .int))) (he : EvK (model prog w) A e env h₀ (.int x))
    (hbase : attributeBase o "count" env (eval o env) = eval o env) (hline : (apos.endLine == pos.line) = true) (hs : backTo pos (starEach [e] env) = [(false, eval e env)]) :
    EvK (model prog w) A (.Call (.Attribute o "count" apos) [e] [] pos) env h₀ (.int (ns.count x)) := .mk fun s Q E S ht kn sz post => by
  refine wpAny_Call_method1_late hbase hline hs (ho s _ _ S ht kn sz fun v h₁ t₁ q₁ k₁ r₁ => ?_)
  cases r₁ with | list n g q =>
  rename_i a items cnt
  refine ⟨"list", "list.count", F.plainAttrs_list, F.slot_list_count, F.type_list_count, ⟨_, g, rfl⟩, fun b e => by cases e; exact ⟨_, g, rfl⟩, ?_⟩
  refine P.count_list (he _ _ _ S q₁ (kn.up k₁) (sz.up k₁) fun v h₂ t₂ q₂ k₂ r₂ => ?_)
  cases r₂ with | int x t =>
  refine ⟨items, cnt, fun y => match y with | .int b _ => b == x | _ => false, k₂ _ _ g, fun y hy => ?_, post _ h₂ _ (k₁.trans k₂) ?_⟩
  · obtain ⟨i, hi⟩ := List.getElem?_of_mem (Array.mem_toList_iff.mpr hy)
    obtain ⟨d, hd, rd⟩ := q.at i y hi
    rw [List.getElem?_map, Option.map_eq_some_iff] at hd
    obtain ⟨b, _, rfl⟩ := hd
    cases rd
    exact MeetsSeq.EqGives.int _ _ _ _
  · have : ∀ {vs : List Value} {ns : List Int}, IntsAre vs ns → vs.countP (fun y => match y with | .int b _ => b == x | _ => false) = ns.count x := by
      intro vs ns h
      induction h with
      | nil => rfl
      | cons b t _ ih => rw [List.countP_cons, List.count_cons, ih]
    rw [this q.ints]
    exact .int _ _
end
end Mine
end

section
open PySem PySem.W PyProof.Rows PySem.Calls
set_option maxRecDepth 100000
namespace Mine
/-- where a comprehension keeps its letter -/
structure StoreAt (M : Model) (A : Around) (cenv : Env) (x : Str) (X : Addr) (Can : Heap → Prop) (Has : Value → Heap → Prop) : Prop where
  store : ∀ (s : Shared) (v : Value) (Q : Unit → Shared → Prop) (E : Value → Shared → Prop), Can s.heap → (∀ h' tk, Heap.SameBut X s.heap h' → Has v h' → Q () { s with heap := h', toks := tk }) → wpAny M A (storeName cenv x v) Q E s
  can : ∀ v h, Has v h → Can h
  kc : ∀ h h', Can h → (∀ o, h.get? X = some o → h'.get? X = some o) → Can h'
  kh : ∀ v h h', Has v h → (∀ o, h.get? X = some o → h'.get? X = some o) → Has v h'
  live : ∀ h, Can h → ∃ o, h.get? X = some o ∧ ∀ items n, o.data ≠ .seq items n
theorem StoreAt.local {M : Model} {A : Around} {cenv : Env} {x : Str} (hk : cenv.scope.kind = .function) (hx : cenv.kindOf x = some .local) :
    StoreAt M A cenv x cenv.locals (fun h => ∃ m, h.Ns cenv.locals m) (fun v h => ∃ m, h.Ns cenv.locals m ∧ m x = some v) where
  store := fun s v Q E ⟨m, hn⟩ post => wpAny_storeName_local hx hn (fun h' hn' hs => post h' _ hs ⟨_, hn', by simp⟩) (by rw [hk]; rfl)
  can := fun _ _ ⟨m, hn, _⟩ => ⟨m, hn⟩
  kc := fun _ _ ⟨m, hn⟩ k => ⟨m, hn.at' k⟩
  kh := fun _ _ _ ⟨m, hn, hv⟩ k => ⟨m, hn.at' k, hv⟩
  live := fun _ ⟨m, o, es, ep, e, hd, _⟩ => ⟨o, e, fun items n q => by rw [hd] at q; cases q⟩
theorem StoreAt.cell {M : Model} {A : Around} {cenv : Env} {x : Str} {c : Addr} (hk : cenv.scope.kind = .function) (hx : cenv.kindOf x = some .cell) (hc : cenv.cells.lookup x = some c) :
    StoreAt M A cenv x c (fun h => ∃ v₀, h.IsCell c v₀) (fun v h => h.IsCell c (some v)) where
  store := fun s v Q E ⟨v₀, hn⟩ post => wpAny_storeName_cell hk hx hc hn fun h' hn' hs => post h' _ hs hn'
  can := fun v _ hn => ⟨_, hn⟩
  kc := fun _ _ ⟨v₀, o, e, hd⟩ k => ⟨v₀, o, k _ e, hd⟩
  kh := fun _ _ _ ⟨o, e, hd⟩ k => ⟨o, k _ e, hd⟩
  live := fun _ ⟨v₀, o, e, hd⟩ => ⟨o, e, fun items n q => by rw [hd] at q; cases q⟩

section
variable {prog : Program} {w : World} {A : Around}

/-- what is iterated: an iterator that walks over values that read as ds -/
noncomputable def SrcK (prog : Program) (w : World) (A : Around) (e : Expr) (env : Env) (h₀ : Heap) (ds : List PyData) : Prop :=
  ∀ (s : Shared) (Q E : Value → Shared → Prop) (S : Addr → Prop), 0 < s.toks → Kn h₀ S s.heap → Sz S s.heap →
    (∀ I fp P St h₁ h₂ tk, 0 < tk → Kp s.heap h₁ → Kp h₁ h₂ → h₁.get? I = none → Walks prog w A I fp [I] ds.length P St → St 0 h₂ → (∀ b ∈ fp, ∃ o, h₂.get? b = some o) → (∀ i h, St i h → ∃ o, h.get? I = some o) →
      (∀ i v d, ds[i]? = some d → P i v → Rd S h₁ v d) → (∀ b ∈ fp, ¬ S b ∧ (b = I ∨ ∃ o items n, h₂.get? b = some o ∧ o.data = .seq items n)) → Q (.ref I) { s with heap := h₂, toks := tk }) →
    wpAny (model prog w) A (eval e env) (fun xv s₁ => wpAny (model prog w) A (pyIter xv) Q E s₁) E s
theorem src_list {e : Expr} {env : Env} {h₀ : Heap} {ds : List PyData} (hh : A.handled = none) (he : EvK (model prog w) A e env h₀ (.list ds)) : SrcK prog w A e env h₀ ds := fun s Q E S ht kn sz post => by
  refine he s _ _ S ht kn sz fun v h₁ t₁ q₁ k₁ r₁ => ?_
  cases r₁ with | list n g q =>
  rename_i a items cnt
  have hne : a ≠ h₁.objs.size := Nat.ne_of_lt (Heap.lt_size g)
  have hl := q.length
  rw [Array.length_toList] at hl
  refine wpAny_pyIter_list (items := items) ⟨_, g, rfl, _, rfl⟩ ?_
  have W := Walks.list (prog := prog) (w := w) (A := A) hh h₁.objs.size a hne items
  rw [hl] at W
  refine post _ _ _ _ h₁ _ _ q₁ k₁ (kp_push _ _) (get_none_size _ (Nat.le_refl _)) W ⟨⟨_, Heap.get?_push_size _ rfl, rfl, rfl⟩, ⟨_, Heap.get?_push_of_some _ g, rfl, _, rfl⟩⟩ (fun b hb => ?_) (fun i h hp => ?_) (fun i v d hd hp => ?_) fun b hb => ?_
  · rcases List.mem_cons.mp hb with rfl | hb
    · exact ⟨_, Heap.get?_push_size _ rfl⟩
    · rcases List.mem_cons.mp hb with rfl | hb
      · exact ⟨_, Heap.get?_push_of_some _ g⟩
      · cases hb
  · exact ⟨_, hp.1.choose_spec.1⟩
  · obtain ⟨d', hd', r⟩ := q.at i v (by simpa using hp)
    rw [hd] at hd'; cases hd'; exact r
  · rcases List.mem_cons.mp hb with rfl | hb
    · exact ⟨(sz.up k₁).fresh (get_none_size _ (Nat.le_refl _)), .inl rfl⟩
    · rcases List.mem_cons.mp hb with rfl | hb
      · exact ⟨n, .inr ⟨_, _, _, Heap.get?_push_of_some _ g, rfl⟩⟩
      · cases hb
theorem src_rangeOf {a b c : Int} {n : Nat} {ds : List PyData} (hh : A.handled = none) (hsmall : Builtin.Range.small a b c = true) (hn : Builtin.Range.rangeSize a b c = (n : Int))
    (hds : ds = (List.range n).map fun (i : Nat) => PyData.int (a + i * c))
    (s₁ : Shared) (Q E : Value → Shared → Prop) (S : Addr → Prop) (r : Addr) (t u v : Tok) (ht : 0 < s₁.toks) (sz : Sz S s₁.heap) (hr : IsRange s₁.heap r a b c t u v)
    (post : ∀ I fp P St h₁ h₂ tk, 0 < tk → Kp s₁.heap h₁ → Kp h₁ h₂ → h₁.get? I = none → Walks prog w A I fp [I] ds.length P St → St 0 h₂ → (∀ b ∈ fp, ∃ o, h₂.get? b = some o) → (∀ i h, St i h → ∃ o, h.get? I = some o) →
      (∀ i v d, ds[i]? = some d → P i v → Rd S h₁ v d) → (∀ b ∈ fp, ¬ S b ∧ (b = I ∨ ∃ o items n, h₂.get? b = some o ∧ o.data = .seq items n)) → Q (.ref I) { s₁ with heap := h₂, toks := tk }) :
    wpAny (model prog w) A (pyIter (.ref r)) Q E s₁ := by
  refine wpAny_pyIter_range hr hsmall ?_
  have W := Walks.range (prog := prog) (w := w) (A := A) hh s₁.heap.objs.size a c n
  have hl : ds.length = n := by rw [hds]; simp
  rw [← hl] at W
  refine post _ _ _ _ s₁.heap _ _ ht (.refl _) (kp_push _ _) (get_none_size _ (Nat.le_refl _)) W ?_ (fun b hb => ?_) (fun i h hp => ⟨_, hp⟩) (fun i v d hd hp => ?_) fun b hb => ?_
  · have e1 : (a + ((0 : Nat) : Int) * c) = a := by simp
    have e2 : ((ds.length : Int) - ((0 : Nat) : Int)) = Builtin.Range.rangeSize a b c := by rw [hn, hl]; simp
    rw [e1, e2]
    exact Heap.get?_push_size _ rfl
  · rcases List.mem_cons.mp hb with rfl | hb
    · exact ⟨_, Heap.get?_push_size _ rfl⟩
    · cases hb
  · obtain ⟨t, rfl⟩ := hp
    rw [hds, List.getElem?_map, Option.map_eq_some_iff] at hd
    obtain ⟨j, hj, rfl⟩ := hd
    obtain ⟨hlt, e⟩ := List.getElem?_eq_some_iff.mp hj
    have : i = j := by simpa using e
    subst this
    exact .int _ _
  · rw [List.mem_singleton.mp hb]; exact ⟨sz.fresh (get_none_size _ (Nat.le_refl _)), .inl rfl⟩
theorem src_range1 {e : Expr} {env : Env} {h₀ : Heap} {rp pos : Pos} {N : Nat} (hh : A.handled = none) (hN : N ≤ 1000) (hn : NameK (model prog w) A env "range" h₀ (.type "range")) (ha : ArgsK (model prog w) A env h₀ [e] [.int N])
    : SrcK prog w A (.Call (.Name "range" rp) [e] [] pos) env h₀ ((List.range N).map fun i : Nat => PyData.int i) := fun s Q E S ht kn sz post => by
  refine Call_Name (trees := backTo pos (starEach [e] env)) rfl (hn rp s _ _ kn.kp ?_)
  have he : starEach [e] env = (false, eval e env) :: starEach [] env := by cases ha with | cons h _ _ => exact h
  refine Pv.callWith_type1 (ha.run s _ _ S ht kn sz fun vs h₁ t₁ q₁ k₁ r₁ => ?_) he rfl
  cases r₁ with | cons r₁ r₂ =>
  cases r₂
  cases r₁ with | int i t =>
  refine call_range_1 ?_
  refine src_rangeOf (n := N) hh (small_one (by decide) (by decide) (by omega) (by omega)) (by rw [rangeSize_one]; split <;> omega) (ds := (List.range N).map fun i : Nat => PyData.int i) (by
    refine List.map_congr_left fun i _ => ?_
    simp) _ _ _ S _ _ _ _ (Nat.succ_pos _) ((sz.up k₁).up (kp_push _ _)) (IsRange.new ..) ?_
  intro I fp P St h₃ h₄ tk p1 p2 p3 p4 p5 p6 p7 p8 p9 p10
  exact post I fp P St h₃ h₄ tk p1 ((k₁.trans (kp_push _ _)).trans p2) p3 p4 p5 p6 p7 p8 p9 p10
/-- range(a, b, -1) -/
theorem src_rangeDown {e₁ e₂ e₃ : Expr} {env : Env} {h₀ : Heap} {rp pos : Pos} {a b : Int} {n : Nat} (hh : A.handled = none) (ha0 : -1000 ≤ a) (ha1 : a ≤ 1000) (hb0 : -1000 ≤ b) (hb1 : b ≤ 1000) (hn' : n = (a - b).toNat)
    (hn : NameK (model prog w) A env "range" h₀ (.type "range")) (ha : ArgsK (model prog w) A env h₀ [e₁, e₂, e₃] [.int a, .int b, .int (-1)]) :
    SrcK prog w A (.Call (.Name "range" rp) [e₁, e₂, e₃] [] pos) env h₀ ((List.range n).map fun i : Nat => PyData.int (a - i)) := fun s Q E S ht kn sz post => by
  refine Call_Name (trees := backTo pos (starEach [e₁, e₂, e₃] env)) rfl (hn rp s _ _ kn.kp ?_)
  have he : starEach [e₁, e₂, e₃] env = (false, eval e₁ env) :: starEach [e₂, e₃] env := by cases ha with | cons h _ _ => exact h
  have hp : (backTo pos (starEach [e₂, e₃] env)).any (·.1) = false := by
    cases ha with | cons _ _ h => cases h with | cons h1 _ h => cases h with | cons h2 _ _ => rw [h1, h2]; rfl
  refine Pv.callWith_type1 (ha.run s _ _ S ht kn sz fun vs h₁ t₁ q₁ k₁ r₁ => ?_) he hp
  cases r₁ with | cons r₁ r₂ => cases r₂ with | cons r₂ r₃ => cases r₃ with | cons r₃ r₄ =>
  cases r₄; cases r₁; cases r₂; cases r₃
  refine call_range_3 (by decide) ?_ (Or.inl (PyProof.noPylong_of_log2 (by decide +kernel)))
  have hsz : Builtin.Range.rangeSize a b (-1) = (n : Int) := by
    unfold Builtin.Range.rangeSize
    have : ¬ ((-1 : Int) > 0) := by decide
    simp only [this, if_false, Int.neg_neg, Int.ediv_one]
    split <;> omega
  have hsm : Builtin.Range.small a b (-1) = true := by
    unfold Builtin.Range.small
    rw [hsz]
    have : ¬ ((-1 : Int) > 0) := by decide
    simp only [Builtin.Range.rangeFitsLong, Bool.and_eq_true, Bool.or_eq_true, decide_eq_true_eq, beq_iff_eq, this, if_false]
    omega
  refine src_rangeOf (n := n) hh hsm hsz (ds := (List.range n).map fun i : Nat => PyData.int (a - i)) (by
    refine List.map_congr_left fun i _ => ?_
    congr 1; omega) _ _ _ S _ _ _ _ q₁ ((sz.up k₁).up (kp_push _ _)) (IsRange.new ..) ?_
  intro I fp P St h₃ h₄ tk p1 p2 p3 p4 p5 p6 p7 p8 p9 p10
  exact post I fp P St h₃ h₄ tk p1 ((k₁.trans (kp_push _ _)).trans p2) p3 p4 p5 p6 p7 p8 p9 p10
end
end Mine
end

section
open PySem PySem.W PyProof.Rows PySem.Calls
set_option maxRecDepth 100000
namespace Mine
/-- S and the three addresses that a comprehension writes to -/
noncomputable def Ex (S : Addr → Prop) (I D X : Addr) : Addr → Prop := fun a => S a ∨ a = I ∨ a = D ∨ a = X
section
variable {prog : Program} {w : World} {A : Around}

theorem turns {c : Code} {R : Result → Shared → Prop} {s : Shared} {cenv : Env} {x : Str} {px : Pos} {X I D : Addr} {Can : Heap → Prop} {Has : Value → Heap → Prop} {fp : List Addr} {P : Nat → Value → Prop} {St : Nat → Heap → Prop}
    {S : Addr → Prop} {ds : List PyData} {BT : (Shared → Prop) → Shared → Prop} {EE : Value → Shared → Prop} (out : Nat → List PyData)
    (hloop : ∀ (J : Nat → Shared → Prop), (∀ n s, J n s → wpAny (model prog w) A (pyNext (.ref I)) (fun r s₁ => match r with
      | none => R (.ok .next) s₁
      | some v => wpAny (model prog w) A (assign (.Name x px) cenv v) (fun _ s₂ => BT (fun s₅ => ∃ m, m < n ∧ J m s₅) s₂) EE s₁) EE s) → ∀ n, J n s → codeAny (model prog w) A c R s)
    (W : Walks prog w A I fp [I] ds.length P St) (T : StoreAt (model prog w) A cenv x X Can Has) (hlive : ∀ i h, St i h → ∃ o, h.get? I = some o)
    (hDX : D ≠ X) (hDI : D ≠ I) (hXI : X ≠ I) (hDf : D ∉ fp) (hXf : X ∉ fp)
    (ht : 0 < s.toks) (hst : St 0 s.heap) (hcan : Can s.heap)
    (hacc : ∃ items cnt, s.heap.get? D = some (plist items cnt) ∧ RdAll (Ex S I D X) s.heap items.toList (out 0))
    (hitem : ∀ i v d, ds[i]? = some d → P i v → Rd (Ex S I D X) s.heap v d)
    (hbody : ∀ i d v h₂ t₂ items cnt (Q' : Shared → Prop), ds[i]? = some d → 0 < t₂ → Has v h₂ → Rd (Ex S I D X) h₂ v d → h₂.get? D = some (plist items cnt) → RdAll (Ex S I D X) h₂ items.toList (out i) →
      (∀ b o, b ≠ I → b ≠ X → b ≠ D → s.heap.get? b = some o → h₂.get? b = some o) → (∃ oI, h₂.get? I = some oI) →
      (∀ h' tk items' cnt', 0 < tk → Can h' → (∀ b o, b ≠ D → b ≠ X → h₂.get? b = some o → h'.get? b = some o) → h'.get? D = some (plist items' cnt') → RdAll (Ex S I D X) h' items'.toList (out (i + 1)) → Q' { s with heap := h', toks := tk }) →
      BT Q' { s with heap := h₂, toks := t₂ })
    (hR : ∀ h' tk items cnt, 0 < tk → Can h' → (∀ b o, b ≠ I → b ≠ X → b ≠ D → s.heap.get? b = some o → h'.get? b = some o) → h'.get? D = some (plist items cnt) → RdAll (Ex S I D X) h' items.toList (out ds.length) → (∃ oI, h'.get? I = some oI) ∨ True →
      R (.ok .next) { s with heap := h', toks := tk }) :
    codeAny (model prog w) A c R s := by
  have over : ∀ {h h' : Heap}, (∀ b o, b ≠ I → b ≠ X → b ≠ D → h.get? b = some o → h'.get? b = some o) → Over (Ex S I D X) h (Ex S I D X) h' := fun k a o n e _ =>
    ⟨n, k a o (fun q => n (.inr (.inl q))) (fun q => n (.inr (.inr (.inr q)))) (fun q => n (.inr (.inr (.inl q)))) e⟩
  refine hloop (fun k s' => ∃ i h' tk items cnt, s' = { s with heap := h', toks := tk } ∧ 0 < tk ∧ i ≤ ds.length ∧ k = ds.length + 1 - i ∧ St i h' ∧ Can h' ∧ h'.get? D = some (plist items cnt) ∧ RdAll (Ex S I D X) h' items.toList (out i) ∧
    (∀ b o, b ≠ I → b ≠ X → b ≠ D → s.heap.get? b = some o → h'.get? b = some o)) ?_ (ds.length + 1) ?_
  · rintro k s' ⟨i, h', tk, items, cnt, rfl, ht', hi, rfl, hst', hcan', hD', hrd', hk'⟩
    by_cases hlt : i < ds.length
    · obtain ⟨d, hd⟩ : ∃ d, ds[i]? = some d := ⟨_, List.getElem?_eq_getElem hlt⟩
      refine wpAny_with_toks (n := 1) ht' (W.item i _ _ _ hlt hst' fun v h₁ t₁ hP hst₁ hk₁ ht₁ => ?_)
      have kI : ∀ b o, b ≠ I → h'.get? b = some o → h₁.get? b = some o := fun b o hb e => hk₁ b o (by simpa using hb) e
      refine wpAny_with_toks (n := 1) ht₁ (wpAny_assign_Name (T.store _ v _ _ (T.kc _ _ hcan' fun o e => kI X o hXI e) fun h₂ t₂ hs₂ hhas ht₂ => ?_))
      have kX : ∀ b o, b ≠ X → h₁.get? b = some o → h₂.get? b = some o := fun b o hb e => hs₂.extBut b o hb e
      have hst₂ : St (i + 1) h₂ := W.frame _ _ _ hst₁ fun b hb o e => kX b o (fun q => hXf (q ▸ hb)) e
      have kIX : ∀ b o, b ≠ I → b ≠ X → h'.get? b = some o → h₂.get? b = some o := fun b o h1 h2 e => kX b o h2 (kI b o h1 e)
      have kall : ∀ b o, b ≠ I → b ≠ X → b ≠ D → s.heap.get? b = some o → h₂.get? b = some o := fun b o h1 h2 h3 e => kIX b o h1 h2 (hk' b o h1 h2 h3 e)
      refine hbody i d v h₂ t₂ items cnt _ hd ht₂ hhas ((hitem i v d hd hP).over (over kall)) (kIX D _ hDI hDX hD') (hrd'.over (over fun b o h1 h2 _ e => kIX b o h1 h2 e)) kall (hlive _ _ hst₂) ?_
      intro h₃ t₃ items' cnt' ht₃ hcan₃ hk₃ hD₃ hrd₃
      refine ⟨ds.length + 1 - (i + 1), by omega, i + 1, h₃, t₃, items', cnt', rfl, ht₃, hlt, rfl, ?_, ?_, hD₃, hrd₃, ?_⟩
      · exact W.frame _ _ _ hst₂ fun b hb o e => hk₃ b o (fun q => hDf (q ▸ hb)) (fun q => hXf (q ▸ hb)) e
      · exact hcan₃
      · exact fun b o h1 h2 h3 e => hk₃ b o h3 h2 (kall b o h1 h2 h3 e)
    · have hin : i = ds.length := by omega
      subst hin
      refine wpAny_with_toks (n := 1) ht' (W.done _ _ _ hst' fun h₁ t₁ hk₁ ht₁ => ?_)
      have kI : ∀ b o, b ≠ I → h'.get? b = some o → h₁.get? b = some o := fun b o hb e => hk₁ b o (by simpa using hb) e
      exact hR h₁ t₁ items cnt ht₁ (T.kc _ _ hcan' fun o e => kI X o hXI e) (fun b o h1 h2 h3 e => kI b o h1 (hk' b o h1 h2 h3 e)) (kI D _ hDI hD') (hrd'.over (over fun b o h1 _ _ e => kI b o h1 e)) (.inr trivial)
  · obtain ⟨items, cnt, hD, hrd⟩ := hacc
    exact ⟨0, s.heap, s.toks, items, cnt, rfl, ht, Nat.zero_le _, rfl, hst, hcan, hD, hrd, fun _ _ _ _ _ e => e⟩
end
end Mine
end

section
open PySem PySem.W PyProof.Rows PySem.Calls
set_option maxRecDepth 100000
namespace Mine
section
variable {prog : Program} {w : World} {A : Around}
abbrev Ex2 (S : Addr → Prop) (I D : Addr) : Addr → Prop := fun a => S a ∨ a = I ∨ a = D

theorem emit {elt : Expr} {cenv : Env} {x : Str} {I D X : Addr} {S : Addr → Prop} {h₃ he : Heap} {t₃ : Nat} {s : Shared} {items : Array Value} {cnt : Nat} {EE : Value → Shared → Prop} {Q' : Shared → Prop} {d : PyData} {old : List PyData}
    {Can : Heap → Prop} {Has : Value → Heap → Prop} (T : StoreAt (model prog w) A cenv x X Can Has) (hel : EvK (model prog w) A elt cenv he d) (kn : Kn he (Ex2 S I D) h₃) (sz : Sz (Ex2 S I D) h₃) (ht : 0 < t₃) (hcan : Can h₃)
    (hD : h₃.get? D = some (plist items cnt)) (hrd : RdAll (Ex S I D X) h₃ items.toList old) (hsz : old.length ≤ 1000)
    (post : ∀ h' tk items' cnt', 0 < tk → (∀ b o, b ≠ D → h₃.get? b = some o → h'.get? b = some o) → h'.get? D = some (plist items' cnt') → RdAll (Ex S I D X) h' items'.toList (old ++ [d]) → Q' { s with heap := h', toks := tk }) :
    wpAny (model prog w) A (eval elt cenv) (fun y s₄ => wpAny (model prog w) A (call (.builtin "list.append") [.ref D, y]) (fun _ s₅ => Q' s₅) EE s₄) EE { s with heap := h₃, toks := t₃ } := by
  refine hel _ _ _ (Ex2 S I D) ht kn sz fun y h₄ t₄ q₄ k₄ r₄ => ?_
  have hl := hrd.length
  rw [Array.length_toList] at hl
  refine wpAny_list_append_plain ⟨cnt, k₄ _ _ hD⟩ (fun h₅ hl₅ hs₅ => ?_) (by rw [hl]; exact Nat.le_trans hsz (by decide))
  obtain ⟨n', hl₅⟩ := hl₅
  obtain ⟨oX, eX, nX⟩ := T.live _ (T.kc _ _ hcan fun o e => k₄ _ _ e)
  have kD : ∀ b o, b ≠ D → h₄.get? b = some o → h₅.get? b = some o := fun b o hb e => hs₅.extBut b o hb e
  refine post h₅ t₄ _ _ q₄ (fun b o hb e => kD b o hb (k₄ _ _ e)) hl₅ ?_
  rw [Array.toList_push]
  refine RdAll.append ((hrd.up k₄).over fun a o n e _ => ⟨n, kD a o (fun q => n (.inr (.inr (.inl q)))) e⟩) (.cons (r₄.over fun a o n e sq => ⟨?_, kD a o (fun q => n (.inr (.inr q))) e⟩) .nil)
  rintro (h | h | h | h)
  · exact n (.inl h)
  · exact n (.inr (.inl h))
  · exact n (.inr (.inr h))
  · obtain ⟨its, k, hd⟩ := sq
    rw [h, eX] at e; cases e
    exact nX _ _ hd

/-- the test of a comprehension -/
noncomputable def TestsK (M : Model) (A : Around) (ifs : List Expr) (cenv : Env) (h : Heap) (b : Bool) : Prop :=
  (ifs = [] ∧ b = true) ∨ ∃ c, ifs = [c] ∧ BoolK M A (isTrue c cenv (eval c cenv)) h b

theorem loop1 {elt iter : Expr} {x : Str} {px : Pos} {ifs : List Expr} {scope : Scope} {pos : Pos} {R : Result → Shared → Prop} {s : Shared} {cenv : Env} {X I D : Addr} {Can : Heap → Prop} {Has : Value → Heap → Prop} {fp : List Addr}
    {P : Nat → Value → Prop} {St : Nat → Heap → Prop} {S : Addr → Prop} {ds : List PyData} {h₀ : Heap} (p : PyData → Bool) (g : PyData → PyData)
    (W : Walks prog w A I fp [I] ds.length P St) (T : StoreAt (model prog w) A cenv x X Can Has) (hlive : ∀ i h, St i h → ∃ o, h.get? I = some o)
    (hDX : D ≠ X) (hDI : D ≠ I) (hXI : X ≠ I) (hDf : D ∉ fp) (hXf : X ∉ fp) (hSI : ¬ S I) (hSD : ¬ S D) (hSX : ¬ S X) (hlen : ds.length ≤ 1000)
    (ht : 0 < s.toks) (hst : St 0 s.heap) (hcan : Can s.heap) (sz : Sz S s.heap)
    (hacc : s.heap.get? D = some (plist #[] 0))
    (hitem : ∀ i v d, ds[i]? = some d → P i v → Rd (Ex S I D X) s.heap v d)
    (hh₀ : ∀ a o, h₀.get? a = some o → ¬ S a ∧ a ≠ I ∧ a ≠ D ∧ a ≠ X ∧ s.heap.get? a = some o)
    (htest : ∀ v d h, d ∈ ds → Kp h₀ h → Has v h → Rd0 h v d → TestsK (model prog w) A ifs cenv h (p d))
    (helt : ∀ v d h, d ∈ ds → p d = true → Kp h₀ h → Has v h → Rd0 h v d → EvK (model prog w) A elt cenv h (g d))
    (hR : ∀ h' tk items cnt, 0 < tk → Can h' → (∀ b o, b ≠ I → b ≠ X → b ≠ D → s.heap.get? b = some o → h'.get? b = some o) → h'.get? D = some (plist items cnt) → RdAll (Ex S I D X) h' items.toList ((ds.filter p).map g) →
      R (.ok .next) { s with heap := h', toks := tk }) :
    codeAny (model prog w) A (.compLoop (.ListComp elt [⟨.Name x px, iter, ifs, 0⟩] scope pos) 0 (.ref I) (.ref D) cenv) R s := by
  refine turns (S := S) (D := D) (out := fun i => ((ds.take i).filter p).map g) (px := px)
    (BT := fun Q' s₂ => wpAny (model prog w) A (forIn ifs true fun c r => if r = true then do let ok ← isTrue c cenv (eval c cenv); pure (ForInStep.yield ok) else pure (ForInStep.yield r)) (fun ok s₃ =>
            if ok = true then wpAny (model prog w) A (eval elt cenv) (fun x s₄ =>
              wpAny (model prog w) A (call (.builtin "list.append") [.ref D, x]) (fun _ s₅ => Q' s₅) (notedBy (model prog w) A cenv fun e s' => R (.error e) s') s₄) (notedBy (model prog w) A cenv fun e s' => R (.error e) s') s₃
            else Q' s₃) (notedBy (model prog w) A cenv fun e s' => R (.error e) s') s₂)
    (fun J turn n hJ => codeAny_compLoop_tests J turn n hJ) W T hlive hDX hDI hXI hDf hXf ht hst hcan ⟨#[], 0, hacc, by simpa using RdAll.nil⟩ hitem ?_ ?_
  · intro i d v h₂ t₂ items cnt Q' hd ht₂ hhas hrv hD₂ hrd hk hI post
    have hmem : d ∈ ds := List.mem_of_getElem? hd
    have kn₂ : Kn (hideP (Ex2 S I D) h₂) (Ex2 S I D) h₂ := Kn.hide _ _
    have sz₂ : Sz (Ex2 S I D) h₂ := by
      rintro a (h | rfl | rfl)
      · obtain ⟨o, e⟩ := sz a h
        exact ⟨o, hk a o (fun q => hSI (q ▸ h)) (fun q => hSX (q ▸ h)) (fun q => hSD (q ▸ h)) e⟩
      · exact hI
      · exact ⟨_, hD₂⟩
    have kph : Kp h₀ (hideP (Ex2 S I D) h₂) := fun a o e => by
      obtain ⟨n1, n2, n3, n4, e'⟩ := hh₀ a o e
      refine hideP_get.mpr ⟨?_, hk a o n2 n4 n3 e'⟩
      rintro (h | h | h)
      · exact n1 h
      · exact n2 h
      · exact n3 h
    have nX : ¬ Ex2 S I D X := by
      rintro (h | h | h)
      · exact hSX h
      · exact hXI h
      · exact hDX h.symm
    have hhas' : Has v (hideP (Ex2 S I D) h₂) := T.kh _ _ _ hhas fun o e => hideP_get.mpr ⟨nX, e⟩
    have hrv' : Rd0 (hideP (Ex2 S I D) h₂) v d := hrv.over fun a o n e _ => ⟨id, hideP_get.mpr ⟨fun q => n (by
      rcases q with h | h | h
      · exact .inl h
      · exact .inr (.inl h)
      · exact .inr (.inr (.inl h))), e⟩⟩
    have hout : (List.map g (List.filter p (List.take i ds))).length ≤ 1000 := by
      rw [List.length_map]
      exact Nat.le_trans (List.length_filter_le _ _) (Nat.le_trans (by rw [List.length_take]; exact Nat.min_le_right _ _) hlen)
    have hstep : List.map g (List.filter p (List.take (i + 1) ds)) = List.map g (List.filter p (List.take i ds)) ++ (if p d then [g d] else []) := by
      rw [List.take_add_one, hd, List.filter_append, List.map_append]
      simp only [Option.toList]
      split <;> simp_all
    have go : ∀ h₃ t₃, 0 < t₃ → Kp h₂ h₃ → (if p d = true then wpAny (model prog w) A (eval elt cenv) (fun x s₄ =>
              wpAny (model prog w) A (call (.builtin "list.append") [.ref D, x]) (fun _ s₅ => Q' s₅) (notedBy (model prog w) A cenv fun e s' => R (.error e) s') s₄) (notedBy (model prog w) A cenv fun e s' => R (.error e) s') { s with heap := h₃, toks := t₃ }
            else Q' { s with heap := h₃, toks := t₃ }) := by
      intro h₃ t₃ ht₃ k₃
      split
      · rename_i hp
        refine emit T (helt v d _ hmem hp kph hhas' hrv') (kn₂.up k₃) (sz₂.up k₃) ht₃ (T.kc _ _ (T.can _ _ hhas) fun o e => k₃ _ _ e) (k₃ _ _ hD₂) (hrd.up k₃) hout fun h' tk items' cnt' q1 q2 q3 q4 => ?_
        refine post h' tk items' cnt' q1 (T.kc _ _ (T.can _ _ hhas) fun o e => q2 X o (Ne.symm hDX) (k₃ _ _ e)) (fun b o hb _ e => q2 b o hb (k₃ _ _ e)) q3 ?_
        show RdAll _ _ _ (List.map g (List.filter p (List.take (i + 1) ds)))
        rw [hstep, if_pos hp]; exact q4
      · rename_i hp
        refine post h₃ t₃ items cnt ht₃ (T.kc _ _ (T.can _ _ hhas) fun o e => k₃ _ _ e) (fun b o _ _ e => k₃ _ _ e) (k₃ _ _ hD₂) ?_
        show RdAll _ _ _ (List.map g (List.filter p (List.take (i + 1) ds)))
        rw [hstep, if_neg hp, List.append_nil]; exact hrd.up k₃
    rcases htest v d _ hmem kph hhas' hrv' with ⟨rfl, hb⟩ | ⟨c, rfl, hb⟩
    · refine wpAny_tests_nil ?_
      have := go h₂ t₂ ht₂ (.refl _)
      rw [hb] at this; exact this
    · refine wpAny_tests_one (hb _ _ _ (Ex2 S I D) ht₂ kn₂ sz₂ fun h₃ t₃ q₃ k₃ => ?_)
      exact go h₃ t₃ q₃ k₃
  · intro h' tk items cnt q1 q2 q3 q4 q5 _
    exact hR h' tk items cnt q1 q2 q3 q4 (by simpa using q5)
end
end Mine
end

section
open PySem PySem.W PyProof.Rows PySem.Calls
set_option maxRecDepth 100000
namespace Mine
section
variable {prog : Program} {w : World} {A : Around}

theorem comp_core {elt iter : Expr} {x : Str} {px : Pos} {ifs : List Expr} {scope : Scope} {cl : List (Str × Addr)} {pos : Pos} {env : Env} {h₀ : Heap} {ds : List PyData} (p : PyData → Bool) (g : PyData → PyData)
    {RR : Value → Addr → Result → Shared → Prop} {s : Shared} {E : Value → Shared → Prop} {S : Addr → Prop} (ht : 0 < s.toks) (kn : Kn h₀ S s.heap) (sz : Sz S s.heap)
    (hcell : ∀ y ∈ scope.names, y.2 ≠ .cell) (hkind : scope.kind = .function) (hx : scope.names.lookup x = some .local)
    (hsrc : SrcK prog w A iter env h₀ ds) (hlen : ds.length ≤ 1000)
    (htest : ∀ C m v d h, d ∈ ds → Kp h₀ h → h.Ns C m → m x = some v → Rd0 h v d → TestsK (model prog w) A ifs (compEnvC scope cl C env) h (p d))
    (helt : ∀ C m v d h, d ∈ ds → p d = true → Kp h₀ h → h.Ns C m → m x = some v → Rd0 h v d → EvK (model prog w) A elt (compEnvC scope cl C env) h (g d))
    (hRR : ∀ D C h' tk, 0 < tk → (∃ m, h'.Ns C m) → s.heap.get? C = none → s.heap.get? D = none → C ≠ D → Kp s.heap h' → Rd (fun a => S a ∨ a = C) h' (.ref D) (.list ((ds.filter p).map g)) → RR (.ref D) C (.ok .next) { s with heap := h', toks := tk }) :
    wpAny (model prog w) A (eval iter env) (fun xv s₁ => wpAny (model prog w) A (pyIter xv) (fun it s₂ => wpAny (model prog w) A (newList []) (fun acc s₃ => wpAny (model prog w) A (newFunctionEnv scope env.globals cl [] env.qual none .none (some env)) (fun cenv s₄ =>
      codeAny (model prog w) A (.compStart (.ListComp elt [⟨.Name x px, iter, ifs, 0⟩] scope pos) 0 it acc { cenv with scope := relabel scope env }) (RR acc cenv.locals) s₄) E s₃) E s₂) E s₁) E s := by
  refine hsrc s _ _ S ht kn sz fun I fp P St h₁ h₂ tk htk k₁ k₂ hI₁ W hst hfp hlive hit _ => ?_
  refine wpAny_newObj_type (wpAny_newFunctionEnv hcell (by intro y hy; simp at hy) (fun h₃ hns₃ hsb₃ => ?_) hkind)
  dsimp only at hns₃ hsb₃ ⊢
  generalize hH : h₂.push { cls := .type "list", dict := none, data := .seq ([] : List Value).toArray } = H at hns₃ hsb₃ ⊢
  have hC : H.objs.size = h₂.objs.size + 1 := by rw [← hH, Heap.size_push]
  have up : Kp h₂ h₃ := fun b o e => hsb₃.extBut b o (by rw [hC]; exact Nat.ne_of_lt (Nat.lt_succ_of_lt (Heap.lt_size e))) (Heap.get?_push_of_some _ (hH ▸ Heap.get?_push_of_some _ e))
  have hDC : h₂.objs.size ≠ H.objs.size := by rw [hC]; exact Nat.ne_of_lt (Nat.lt_succ_self _)
  have hD₃ : h₃.get? h₂.objs.size = some (plist #[] 0) := hsb₃.extBut _ _ hDC (Heap.get?_push_of_some _ (hH ▸ Heap.get?_push_size _ rfl))
  obtain ⟨oI, eI⟩ := hlive 0 h₂ hst
  have live2 : ∀ {b o}, h₂.get? b = some o → b ≠ h₂.objs.size ∧ b ≠ H.objs.size := fun e => ⟨Nat.ne_of_lt (Heap.lt_size e), by rw [hC]; exact Nat.ne_of_lt (Nat.lt_succ_of_lt (Heap.lt_size e))⟩
  have k₁₂ : Kp s.heap h₂ := k₁.trans k₂
  have nD : ∀ {h : Heap}, Kp h h₂ → h.get? h₂.objs.size = none := fun {h} k => by
    cases e : h.get? h₂.objs.size with
    | none => rfl
    | some o => exact absurd rfl (live2 (k _ _ e)).1
  have nC : ∀ {h : Heap}, Kp h h₂ → h.get? H.objs.size = none := fun {h} k => by
    cases e : h.get? H.objs.size with
    | none => rfl
    | some o => exact absurd rfl (live2 (k _ _ e)).2
  have sz₃ : Sz S h₃ := sz.up (k₁₂.trans up)
  have hSI : ¬ S I := fun q => by
    obtain ⟨o, e⟩ := sz I q
    rw [k₁ _ _ e] at hI₁; cases hI₁
  have hne : ∀ {b o}, h₁.get? b = some o → b ≠ I ∧ b ≠ h₂.objs.size ∧ b ≠ H.objs.size := fun {b o} e => ⟨fun q => (by rw [q, hI₁] at e; cases e), (live2 (k₂ _ _ e)).1, (live2 (k₂ _ _ e)).2⟩
  have T : StoreAt (model prog w) A (compEnvC scope cl H.objs.size env) x H.objs.size (fun h => ∃ m, h.Ns H.objs.size m) (fun v h => ∃ m, h.Ns H.objs.size m ∧ m x = some v) :=
    StoreAt.local (cenv := compEnvC scope cl H.objs.size env) hkind (lookup_relabel_local hx)
  have loop : ∀ s₃ : Shared, s₃ = { s with heap := h₃, toks := tk + ([] : List (Str × Value)).length } →
      codeAny (model prog w) A (.compLoop (.ListComp elt [⟨.Name x px, iter, ifs, 0⟩] scope pos) 0 (.ref I) (.ref h₂.objs.size) (compEnvC scope cl H.objs.size env)) (RR (.ref h₂.objs.size) H.objs.size) s₃ := by
    rintro s₃ rfl
    refine loop1 (S := S) (h₀ := h₀) p g W T hlive hDC (fun q => (live2 eI).1 q.symm) (fun q => (live2 eI).2 q.symm) (fun hb => by obtain ⟨o, e⟩ := hfp _ hb; exact (live2 e).1 rfl) (fun hb => by obtain ⟨o, e⟩ := hfp _ hb; exact (live2 e).2 rfl)
      hSI (sz.fresh (nD k₁₂)) (sz.fresh (nC k₁₂)) hlen htk (W.frame _ _ _ hst fun b _ o e => up b o e) ⟨_, hns₃⟩ sz₃ hD₃ ?_ ?_ ?_ ?_ ?_
    · intro i v d hd hp
      refine (hit i v d hd hp).over fun a o n e _ => ⟨?_, up _ _ (k₂ _ _ e)⟩
      obtain ⟨n1, n2, n3⟩ := hne e
      rintro (h | h | h | h)
      · exact n h
      · exact n1 h
      · exact n2 h
      · exact n3 h
    · intro a o e
      obtain ⟨n1, e1⟩ := kn a o e
      obtain ⟨n2, n3, n4⟩ := hne (k₁ _ _ e1)
      exact ⟨n1, n2, n3, n4, up _ _ (k₁₂ _ _ e1)⟩
    · rintro v d h hd k ⟨m, hm, hv⟩ hr
      exact htest _ m v d h hd k hm hv hr
    · rintro v d h hd hp k ⟨m, hm, hv⟩ hr
      exact helt _ m v d h hd hp k hm hv hr
    · intro h' tk' items cnt q1 q2 q3 q4 q5
      refine hRR _ _ h' tk' q1 q2 (nC k₁₂) (nD k₁₂) hDC.symm (fun b o e => ?_) (.list ?_ q4 (q5.over fun a o n e _ => ⟨fun q => n ?_, e⟩))
      · obtain ⟨n2, n3, n4⟩ := hne (k₁ _ _ e)
        exact q3 b o n2 n4 n3 (up _ _ (k₁₂ _ _ e))
      · rintro (h | h)
        · exact sz.fresh (nD k₁₂) h
        · exact hDC h
      · rcases q with h | h
        · exact .inl h
        · exact .inr (.inr (.inr h))
  exact codeAny_compStart_list (loop _ rfl) (W.self 0 _ _ _ (W.frame _ _ _ hst fun b _ o e => up b o e) (loop _ rfl))

theorem ev_comp {elt iter : Expr} {x : Str} {px : Pos} {ifs : List Expr} {scope : Scope} {cl : List (Str × Addr)} {pos : Pos} {env : Env} {h₀ : Heap} {ds : List PyData} (p : PyData → Bool) (g : PyData → PyData)
    (hclos : closureFor scope env = pure cl) (hcell : ∀ y ∈ scope.names, y.2 ≠ .cell) (hkind : scope.kind = .function)
    (hnames : ∀ y ∈ scope.names, y.2 = .local → scope.names.lookup y.1 = some .local) (hx : scope.names.lookup x = some .local)
    (hs : ∀ x, foldedSetIterable iter env x = pure x)
    (hsrc : SrcK prog w A iter env h₀ ds) (hlen : ds.length ≤ 1000)
    (htest : ∀ C m v d h, d ∈ ds → Kp h₀ h → h.Ns C m → m x = some v → Rd0 h v d → TestsK (model prog w) A ifs (compEnvC scope cl C env) h (p d))
    (helt : ∀ C m v d h, d ∈ ds → p d = true → Kp h₀ h → h.Ns C m → m x = some v → Rd0 h v d → EvK (model prog w) A elt (compEnvC scope cl C env) h (g d)) :
    EvK (model prog w) A (.ListComp elt [⟨.Name x px, iter, ifs, 0⟩] scope pos) env h₀ (.list ((ds.filter p).map g)) := fun s Q E S ht kn sz post => by
  rw [eval_ListComp]
  refine wpAny_comprehension_free (use := none) rfl hs hclos hkind hnames ?_
  refine comp_core (RR := fun acc C => compPost (model prog w) A E none Q acc C) (S := S) p g ht kn sz hcell hkind hx hsrc hlen htest helt ?_
  intro D C h' tk q1 ⟨m, hm⟩ hC hD hCD k r
  refine ⟨m, hm, fun h'' hs'' => post _ h'' tk q1 (fun b o e => hs''.extBut b o (fun q => by rw [q, hC] at e; cases e) (k _ _ e)) (r.over fun a o n e _ => ⟨fun q => n (.inl q), hs''.extBut a o (fun q => n (.inr q)) e⟩)⟩
end
end Mine
end

section
open PySem PySem.W PyProof.Rows PySem.Calls
set_option maxRecDepth 100000
namespace Mine
section
variable {prog : Program} {w : World} {A : Around} {env : Env} {h₀ : Heap}
theorem ev_eq {M : Model} {e : Expr} {d d' : PyData} (h : EvK M A e env h₀ d) (q : d = d') : EvK M A e env h₀ d' := q ▸ h
theorem ev_neg {e : Expr} {pos : Pos} {a : Int} (h : EvK (model prog w) A e env h₀ (.int a)) : EvK (model prog w) A (.UnaryOp .USub e pos) env h₀ (.int (-a)) := .mk fun s Q E S ht kn sz post => by
  refine wpAny_UnaryOp (h s _ _ S ht kn sz fun v h₁ t₁ q₁ k₁ r₁ => ?_)
  cases r₁
  exact neg_int (post _ h₁ _ k₁ (.int _ _))
end
/-- the two names' tables and the text's objects, at the call's heap without S -/
theorem Gr.at {K : Frag} {mg mb : Str → Option Value} {h₀ h h' : Heap} {S : Addr → Prop} (G : Gr K mg mb h₀) (kn : Kn h₀ S h) (k : Kp h h') : Gr K mg mb (hideP S h') := G.up (kn.up k).kpHide
theorem Gr.of_top {K : Frag} {p : Program} {loose : List Str} {mean : ExcName → Option Value} {mg mb : Str → Option Value} {h : Heap} (X : K.In h) (T : Top p loose mean mg mb h) : Gr K mg mb h := ⟨X, T.g, T.b, T.nolimit, T.builtins⟩
theorem ns_hide {h : Heap} {L : Addr} {m : Str → Option Value} {S : Addr → Prop} (n : h.Ns L m) (hL : ¬ S L) : (hideP S h).Ns L m := n.at' fun _ e => hideP_get.mpr ⟨hL, e⟩
theorem cell_hide {h : Heap} {c : Addr} {v : Option Value} {S : Addr → Prop} (n : h.IsCell c v) (hc : ¬ S c) : (hideP S h).IsCell c v := let ⟨o, e, d⟩ := n; ⟨o, hideP_get.mpr ⟨hc, e⟩, d⟩
end Mine
end

section
open PySem PySem.W PyProof.Rows PySem.Calls
set_option maxRecDepth 100000
namespace Mine
section
variable {w : World} {A : Around} {mg mb : Str → Option Value} {h₀ : Heap} {env : Env} {M : Model}
/-- an environment of the text's own -/
structure Own (env : Env) : Prop where
  g : env.globals = mainGlobals
  b : env.builtins = builtinsNs
  k : env.scope.kind = .function
theorem nm_max (G : Gr (hd.heap_39 w.params) mg mb h₀) (O : Own env) (hx : env.kindOf "max" = some .globalImplicit) : NameK M A env "max" h₀ (.builtin "max") :=
  name_bi G (by kernel_rfl) (by decide +kernel) (by decide) O.g O.b O.k hx (by decide)
theorem nm_min (G : Gr (hd.heap_39 w.params) mg mb h₀) (O : Own env) (hx : env.kindOf "min" = some .globalImplicit) : NameK M A env "min" h₀ (.builtin "min") :=
  name_bi G (by kernel_rfl) (by decide +kernel) (by decide) O.g O.b O.k hx (by decide)
theorem nm_len (G : Gr (hd.heap_39 w.params) mg mb h₀) (O : Own env) (hx : env.kindOf "len" = some .globalImplicit) : NameK M A env "len" h₀ (.builtin "len") :=
  name_bi G (by kernel_rfl) (by decide +kernel) (by decide) O.g O.b O.k hx (by decide)
theorem nm_range (G : Gr (hd.heap_39 w.params) mg mb h₀) (O : Own env) (hx : env.kindOf "range" = some .globalImplicit) : NameK M A env "range" h₀ (.type "range") :=
  name_bi G (by kernel_rfl) (by decide +kernel) (by decide) O.g O.b O.k hx (by decide)
theorem nm_enumerate (G : Gr (hd.heap_39 w.params) mg mb h₀) (O : Own env) (hx : env.kindOf "enumerate" = some .globalImplicit) : NameK M A env "enumerate" h₀ (.type "enumerate") :=
  name_bi G (by kernel_rfl) (by decide +kernel) (by decide) O.g O.b O.k hx (by decide)
theorem nm_ValueError (G : Gr (hd.heap_39 w.params) mg mb h₀) (O : Own env) (hx : env.kindOf "ValueError" = some .globalImplicit) : NameK M A env "ValueError" h₀ (.type "ValueError") :=
  name_bi G (by kernel_rfl) (by decide +kernel) (by decide) O.g O.b O.k hx (by decide)
theorem nm_strcoll (G : Gr (hd.heap_39 w.params) mg mb h₀) (O : Own env) (hx : env.kindOf "_strcoll" = some .globalImplicit) : NameK M A env "_strcoll" h₀ (.ref 21) :=
  name_glob G (by kernel_rfl) O.g O.k hx (by decide)
theorem nm_strip_padding (G : Gr (hd.heap_39 w.params) mg mb h₀) (O : Own env) (hx : env.kindOf "_strip_padding" = some .globalImplicit) : NameK M A env "_strip_padding" h₀ (.ref 28) :=
  name_glob G (by kernel_rfl) O.g O.k hx (by decide)
theorem nm_S_IFMT (G : Gr (hd.heap_39 w.params) mg mb h₀) (O : Own env) (hx : env.kindOf "S_IFMT" = some .globalImplicit) : NameK M A env "S_IFMT" h₀ (.ref 35) :=
  name_glob G (by kernel_rfl) O.g O.k hx (by decide)
theorem nm_filemode (G : Gr (hd.heap_39 w.params) mg mb h₀) (O : Own env) (hx : env.kindOf "filemode" = some .globalImplicit) : NameK M A env "filemode" h₀ (.ref 75) :=
  name_glob G (by kernel_rfl) O.g O.k hx (by decide)
theorem nm_unorderable_list_difference (G : Gr (hd.heap_39 w.params) mg mb h₀) (O : Own env) (hx : env.kindOf "unorderable_list_difference" = some .globalImplicit) : NameK M A env "unorderable_list_difference" h₀ (.ref 82) :=
  name_glob G (by kernel_rfl) O.g O.k hx (by decide)
theorem nm_three_way_cmp (G : Gr (hd.heap_39 w.params) mg mb h₀) (O : Own env) (hx : env.kindOf "three_way_cmp" = some .globalImplicit) : NameK M A env "three_way_cmp" h₀ (.ref 89) :=
  name_glob G (by kernel_rfl) O.g O.k hx (by decide)
theorem nm_law_lists (G : Gr (hd.heap_39 w.params) mg mb h₀) (O : Own env) (hx : env.kindOf "_law_lists" = some .globalImplicit) : NameK M A env "_law_lists" h₀ (.ref 96) :=
  name_glob G (by kernel_rfl) O.g O.k hx (by decide)
theorem nm_law_top (G : Gr (hd.heap_39 w.params) mg mb h₀) (O : Own env) (hx : env.kindOf "_law_top" = some .globalImplicit) : NameK M A env "_law_top" h₀ (.ref 101) :=
  name_glob G (by kernel_rfl) O.g O.k hx (by decide)
theorem nm_law_told (G : Gr (hd.heap_39 w.params) mg mb h₀) (O : Own env) (hx : env.kindOf "_law_told" = some .globalImplicit) : NameK M A env "_law_told" h₀ (.ref 106) :=
  name_glob G (by kernel_rfl) O.g O.k hx (by decide)
theorem nm_law_divided (G : Gr (hd.heap_39 w.params) mg mb h₀) (O : Own env) (hx : env.kindOf "_law_divided" = some .globalImplicit) : NameK M A env "_law_divided" h₀ (.ref 113) :=
  name_glob G (by kernel_rfl) O.g O.k hx (by decide)
theorem nm_law_text (G : Gr (hd.heap_39 w.params) mg mb h₀) (O : Own env) (hx : env.kindOf "_law_text" = some .globalImplicit) : NameK M A env "_law_text" h₀ (.ref 118) :=
  name_glob G (by kernel_rfl) O.g O.k hx (by decide)
theorem nm_law_bare (G : Gr (hd.heap_39 w.params) mg mb h₀) (O : Own env) (hx : env.kindOf "_law_bare" = some .globalImplicit) : NameK M A env "_law_bare" h₀ (.ref 123) :=
  name_glob G (by kernel_rfl) O.g O.k hx (by decide)
theorem nm_law_key (G : Gr (hd.heap_39 w.params) mg mb h₀) (O : Own env) (hx : env.kindOf "_law_key" = some .globalImplicit) : NameK M A env "_law_key" h₀ (.ref 130) :=
  name_glob G (by kernel_rfl) O.g O.k hx (by decide)
theorem nm_law_due (G : Gr (hd.heap_39 w.params) mg mb h₀) (O : Own env) (hx : env.kindOf "_law_due" = some .globalImplicit) : NameK M A env "_law_due" h₀ (.ref 135) :=
  name_glob G (by kernel_rfl) O.g O.k hx (by decide)
theorem nm_filemode_table (G : Gr (hd.heap_39 w.params) mg mb h₀) (O : Own env) (hx : env.kindOf "_filemode_table" = some .globalImplicit) : NameK M A env "_filemode_table" h₀ (.ref 68) :=
  name_glob G (by kernel_rfl) O.g O.k hx (by decide)
theorem fn_strcoll (G : Gr (hd.heap_39 w.params) mg mb h₀) : ∃ o fd, h₀.get? 21 = some o ∧ o.data = .func fd := by
  have h : ((hd.heap_39 w.params).lookup 21).any (fun o => match o.data with | .func _ => true | _ => false) = true := by kernel_rfl
  cases e : (hd.heap_39 w.params).lookup 21 with
  | none => rw [e] at h; cases h
  | some o =>
    rw [e] at h
    simp only [Option.any_some] at h
    split at h
    · rename_i fd hd; exact ⟨o, fd, G.K _ _ e, hd⟩
    · cases h
theorem fn_strip_padding (G : Gr (hd.heap_39 w.params) mg mb h₀) : ∃ o fd, h₀.get? 28 = some o ∧ o.data = .func fd := by
  have h : ((hd.heap_39 w.params).lookup 28).any (fun o => match o.data with | .func _ => true | _ => false) = true := by kernel_rfl
  cases e : (hd.heap_39 w.params).lookup 28 with
  | none => rw [e] at h; cases h
  | some o =>
    rw [e] at h
    simp only [Option.any_some] at h
    split at h
    · rename_i fd hd; exact ⟨o, fd, G.K _ _ e, hd⟩
    · cases h
theorem fn_S_IFMT (G : Gr (hd.heap_39 w.params) mg mb h₀) : ∃ o fd, h₀.get? 35 = some o ∧ o.data = .func fd := by
  have h : ((hd.heap_39 w.params).lookup 35).any (fun o => match o.data with | .func _ => true | _ => false) = true := by kernel_rfl
  cases e : (hd.heap_39 w.params).lookup 35 with
  | none => rw [e] at h; cases h
  | some o =>
    rw [e] at h
    simp only [Option.any_some] at h
    split at h
    · rename_i fd hd; exact ⟨o, fd, G.K _ _ e, hd⟩
    · cases h
theorem fn_filemode (G : Gr (hd.heap_39 w.params) mg mb h₀) : ∃ o fd, h₀.get? 75 = some o ∧ o.data = .func fd := by
  have h : ((hd.heap_39 w.params).lookup 75).any (fun o => match o.data with | .func _ => true | _ => false) = true := by kernel_rfl
  cases e : (hd.heap_39 w.params).lookup 75 with
  | none => rw [e] at h; cases h
  | some o =>
    rw [e] at h
    simp only [Option.any_some] at h
    split at h
    · rename_i fd hd; exact ⟨o, fd, G.K _ _ e, hd⟩
    · cases h
theorem fn_unorderable_list_difference (G : Gr (hd.heap_39 w.params) mg mb h₀) : ∃ o fd, h₀.get? 82 = some o ∧ o.data = .func fd := by
  have h : ((hd.heap_39 w.params).lookup 82).any (fun o => match o.data with | .func _ => true | _ => false) = true := by kernel_rfl
  cases e : (hd.heap_39 w.params).lookup 82 with
  | none => rw [e] at h; cases h
  | some o =>
    rw [e] at h
    simp only [Option.any_some] at h
    split at h
    · rename_i fd hd; exact ⟨o, fd, G.K _ _ e, hd⟩
    · cases h
theorem fn_three_way_cmp (G : Gr (hd.heap_39 w.params) mg mb h₀) : ∃ o fd, h₀.get? 89 = some o ∧ o.data = .func fd := by
  have h : ((hd.heap_39 w.params).lookup 89).any (fun o => match o.data with | .func _ => true | _ => false) = true := by kernel_rfl
  cases e : (hd.heap_39 w.params).lookup 89 with
  | none => rw [e] at h; cases h
  | some o =>
    rw [e] at h
    simp only [Option.any_some] at h
    split at h
    · rename_i fd hd; exact ⟨o, fd, G.K _ _ e, hd⟩
    · cases h
theorem fn_law_lists (G : Gr (hd.heap_39 w.params) mg mb h₀) : ∃ o fd, h₀.get? 96 = some o ∧ o.data = .func fd := by
  have h : ((hd.heap_39 w.params).lookup 96).any (fun o => match o.data with | .func _ => true | _ => false) = true := by kernel_rfl
  cases e : (hd.heap_39 w.params).lookup 96 with
  | none => rw [e] at h; cases h
  | some o =>
    rw [e] at h
    simp only [Option.any_some] at h
    split at h
    · rename_i fd hd; exact ⟨o, fd, G.K _ _ e, hd⟩
    · cases h
theorem fn_law_top (G : Gr (hd.heap_39 w.params) mg mb h₀) : ∃ o fd, h₀.get? 101 = some o ∧ o.data = .func fd := by
  have h : ((hd.heap_39 w.params).lookup 101).any (fun o => match o.data with | .func _ => true | _ => false) = true := by kernel_rfl
  cases e : (hd.heap_39 w.params).lookup 101 with
  | none => rw [e] at h; cases h
  | some o =>
    rw [e] at h
    simp only [Option.any_some] at h
    split at h
    · rename_i fd hd; exact ⟨o, fd, G.K _ _ e, hd⟩
    · cases h
theorem fn_law_told (G : Gr (hd.heap_39 w.params) mg mb h₀) : ∃ o fd, h₀.get? 106 = some o ∧ o.data = .func fd := by
  have h : ((hd.heap_39 w.params).lookup 106).any (fun o => match o.data with | .func _ => true | _ => false) = true := by kernel_rfl
  cases e : (hd.heap_39 w.params).lookup 106 with
  | none => rw [e] at h; cases h
  | some o =>
    rw [e] at h
    simp only [Option.any_some] at h
    split at h
    · rename_i fd hd; exact ⟨o, fd, G.K _ _ e, hd⟩
    · cases h
theorem fn_law_divided (G : Gr (hd.heap_39 w.params) mg mb h₀) : ∃ o fd, h₀.get? 113 = some o ∧ o.data = .func fd := by
  have h : ((hd.heap_39 w.params).lookup 113).any (fun o => match o.data with | .func _ => true | _ => false) = true := by kernel_rfl
  cases e : (hd.heap_39 w.params).lookup 113 with
  | none => rw [e] at h; cases h
  | some o =>
    rw [e] at h
    simp only [Option.any_some] at h
    split at h
    · rename_i fd hd; exact ⟨o, fd, G.K _ _ e, hd⟩
    · cases h
theorem fn_law_text (G : Gr (hd.heap_39 w.params) mg mb h₀) : ∃ o fd, h₀.get? 118 = some o ∧ o.data = .func fd := by
  have h : ((hd.heap_39 w.params).lookup 118).any (fun o => match o.data with | .func _ => true | _ => false) = true := by kernel_rfl
  cases e : (hd.heap_39 w.params).lookup 118 with
  | none => rw [e] at h; cases h
  | some o =>
    rw [e] at h
    simp only [Option.any_some] at h
    split at h
    · rename_i fd hd; exact ⟨o, fd, G.K _ _ e, hd⟩
    · cases h
theorem fn_law_bare (G : Gr (hd.heap_39 w.params) mg mb h₀) : ∃ o fd, h₀.get? 123 = some o ∧ o.data = .func fd := by
  have h : ((hd.heap_39 w.params).lookup 123).any (fun o => match o.data with | .func _ => true | _ => false) = true := by kernel_rfl
  cases e : (hd.heap_39 w.params).lookup 123 with
  | none => rw [e] at h; cases h
  | some o =>
    rw [e] at h
    simp only [Option.any_some] at h
    split at h
    · rename_i fd hd; exact ⟨o, fd, G.K _ _ e, hd⟩
    · cases h
theorem fn_law_key (G : Gr (hd.heap_39 w.params) mg mb h₀) : ∃ o fd, h₀.get? 130 = some o ∧ o.data = .func fd := by
  have h : ((hd.heap_39 w.params).lookup 130).any (fun o => match o.data with | .func _ => true | _ => false) = true := by kernel_rfl
  cases e : (hd.heap_39 w.params).lookup 130 with
  | none => rw [e] at h; cases h
  | some o =>
    rw [e] at h
    simp only [Option.any_some] at h
    split at h
    · rename_i fd hd; exact ⟨o, fd, G.K _ _ e, hd⟩
    · cases h
theorem fn_law_due (G : Gr (hd.heap_39 w.params) mg mb h₀) : ∃ o fd, h₀.get? 135 = some o ∧ o.data = .func fd := by
  have h : ((hd.heap_39 w.params).lookup 135).any (fun o => match o.data with | .func _ => true | _ => false) = true := by kernel_rfl
  cases e : (hd.heap_39 w.params).lookup 135 with
  | none => rw [e] at h; cases h
  | some o =>
    rw [e] at h
    simp only [Option.any_some] at h
    split at h
    · rename_i fd hd; exact ⟨o, fd, G.K _ _ e, hd⟩
    · cases h
theorem nm_S_IFREG (G : Gr (hd.heap_39 w.params) mg mb h₀) (O : Own env) (hx : env.kindOf "S_IFREG" = some .globalImplicit) : NameK M A env "S_IFREG" h₀ (.int 32768 222) :=
  name_glob G (by kernel_rfl) O.g O.k hx (by decide)
end
end Mine
end

section
open PySem PySem.W PyProof.Rows PySem.Calls
set_option maxRecDepth 100000
namespace Mine
section
variable {prog : Program} {w : World} {A : Around} {env : Env} {s : Shared} {S : Addr → Prop} {L : Addr} {H : Heap} {tk : Nat} {m : Str → Option Value} {E : Value → Shared → Prop}

theorem over_ns {h h' : Heap} (hn : h.Ns L m) (k : ∀ b o, b ≠ L → h.get? b = some o → h'.get? b = some o) : Over S h S h' := fun a o n e sq => by
  refine ⟨n, k a o (fun q => ?_) e⟩
  obtain ⟨o', es, ep, e', hd, _⟩ := hn
  rw [q, e'] at e; cases e
  obtain ⟨items, c, hq⟩ := sq
  rw [hd] at hq; cases hq
theorem over_cell {h h' : Heap} {c : Addr} {v : Option Value} (hn : h.IsCell c v) (k : ∀ b o, b ≠ c → h.get? b = some o → h'.get? b = some o) : Over S h S h' := fun a o n e sq => by
  refine ⟨n, k a o (fun q => ?_) e⟩
  obtain ⟨o', e', hd⟩ := hn
  rw [q, e'] at e; cases e
  obtain ⟨items, c, hq⟩ := sq
  rw [hd] at hq; cases hq

/-- x = value, x a local -/
theorem do_local {x : Str} {px pos : Pos} {value : Expr} {d : PyData} {Q : Flow → Shared → Prop} (he : EvK (model prog w) A value env (hideP S H) d) (hL : env.locals = L) (hn : H.Ns L m) (hb : s.heap.get? L = none) (kp : Kp s.heap H) (sz : Sz S s.heap) (ht : 0 < tk)
    (hk : env.scope.kind = .function) (hx : env.kindOf x = some .local) (hs : swapsWith value (some (.Name x px)) pos.line env = pure false)
    (next : ∀ v h' tk', 0 < tk' → Kp s.heap h' → h'.Ns L (fun y => if y = x then some v else m y) → Rd S h' v d → (∀ b o, b ≠ L → H.get? b = some o → h'.get? b = some o) → Q .next { s with heap := h', toks := tk' }) :
    wpAny (model prog w) A (exec (.Assign [.Name x px] value pos) env) Q E { s with heap := H, toks := tk } := by
  refine wpAny_Assign_Name (he _ _ _ S ht (Kn.hide _ _) (sz.up kp) fun v h₁ t₁ q₁ k₁ r₁ => ?_) hs
  subst hL
  have hn₁ := hn.keeps k₁
  refine wpAny_storeName_local hx hn₁ (fun h₂ hn₂ hs₂ => ?_) (by rw [hk]; rfl)
  have k₂ : ∀ b o, b ≠ env.locals → h₁.get? b = some o → h₂.get? b = some o := fun b o hb e => hs₂.extBut b o hb e
  refine next v h₂ _ (Nat.succ_pos _) (fun b o e => k₂ b o (fun q => by rw [q, hb] at e; cases e) (k₁ _ _ (kp _ _ e))) hn₂ (r₁.over (over_ns hn₁ k₂)) fun b o hb e => k₂ b o hb (k₁ _ _ e)
/-- x op= value, ints, x a local -/
theorem do_aug {x : Str} {px pos : Pos} {op : Operator} {value : Expr} {a b c : Int} {t : Tok} {Q : Flow → Shared → Prop} (hv : m x = some (.int a t)) (he : EvK (model prog w) A value env (hideP S H) (.int b))
    (hop : ∀ (s : Shared) (u : Tok) (Q E : Value → Shared → Prop), (∀ t' tk, 0 < tk → Q (.int c t') { s with toks := tk }) → wpAny (model prog w) A (inplaceOp op (.int a t) (.int b u)) Q E s)
    (hL : env.locals = L) (hn : H.Ns L m) (hb : s.heap.get? L = none) (kp : Kp s.heap H) (sz : Sz S s.heap) (ht : 0 < tk)
    (hk : env.scope.kind = .function) (hx : env.kindOf x = some .local)
    (next : ∀ t' h' tk', 0 < tk' → Kp s.heap h' → h'.Ns L (fun y => if y = x then some (.int c t') else m y) → (∀ b o, b ≠ L → H.get? b = some o → h'.get? b = some o) → Q .next { s with heap := h', toks := tk' }) :
    wpAny (model prog w) A (exec (.AugAssign (.Name x px) op value pos) env) Q E { s with heap := H, toks := tk } := by
  subst hL
  refine wpAny_AugAssign_Name (wpAny_loadName_local hk hx hn hv (he _ _ _ S ht (Kn.hide _ _) (sz.up kp) fun v h₁ t₁ q₁ k₁ r₁ => ?_))
  cases r₁
  refine hop _ _ _ _ fun t' tk₂ q₂ => ?_
  have hn₁ := hn.keeps k₁
  refine wpAny_storeName_local hx hn₁ (fun h₂ hn₂ hs₂ => ?_) (by rw [hk]; rfl)
  have k₂ : ∀ b o, b ≠ env.locals → h₁.get? b = some o → h₂.get? b = some o := fun b o hb e => hs₂.extBut b o hb e
  exact next t' h₂ _ (Nat.succ_pos _) (fun b o e => k₂ b o (fun q => by rw [q, hb] at e; cases e) (k₁ _ _ (kp _ _ e))) hn₂ fun b o hb e => k₂ b o hb (k₁ _ _ e)
theorem iop_add {a b : Int} {t : Tok} : ∀ (s : Shared) (u : Tok) (Q E : Value → Shared → Prop), (∀ t' tk, 0 < tk → Q (.int (a + b) t') { s with toks := tk }) → wpAny (model prog w) A (inplaceOp .Add (.int a t) (.int b u)) Q E s :=
  fun _ _ _ _ h => AutoIntOps.iadd_0 (h _ _ (Nat.succ_pos _))
theorem iop_sub {a b : Int} {t : Tok} : ∀ (s : Shared) (u : Tok) (Q E : Value → Shared → Prop), (∀ t' tk, 0 < tk → Q (.int (a - b) t') { s with toks := tk }) → wpAny (model prog w) A (inplaceOp .Sub (.int a t) (.int b u)) Q E s :=
  fun _ _ _ _ h => AutoIntOps.isub_0 (h _ _ (Nat.succ_pos _))
theorem iop_div8 {a : Int} {t : Tok} : ∀ (s : Shared) (u : Tok) (Q E : Value → Shared → Prop), (∀ t' tk, 0 < tk → Q (.int (a.fdiv 8) t') { s with toks := tk }) → wpAny (model prog w) A (inplaceOp .FloorDiv (.int a t) (.int 8 u)) Q E s :=
  fun s u Q E h => by
    refine AutoIntOps.ifloordiv_1 (by decide) ?_ (h _ _ (Nat.succ_pos _))
    unfold Builtin.divisionGoesByPylong
    have : ¬ (if ((8 : Int) == 0) = true then 0 else (8 : Int).natAbs.log2 / 30 + 1) > 300 := by decide
    have h8 : Nat.log2 8 / 30 + 1 ≤ 300 := by decide
    simp
    intro q; omega
/-- a test: a and b -/
theorem test_and {x y : Expr} {pos : Pos} {whole : Sem Value} {b c : Bool} {M : Model} {h₀ : Heap} (hx : BoolK M A (isTrue x env (eval x env)) h₀ b) (hy : b = true → BoolK M A (isTrue y env (eval y env)) h₀ c) :
    BoolK M A (isTrue (.BoolOp .And [x, y] pos) env whole) h₀ (b && c) := fun s Q E S ht kn sz post => by
  refine isTrue_and (hx s _ _ S ht kn sz fun h₁ t₁ q₁ k₁ => ?_)
  cases b with
  | false => exact post h₁ t₁ q₁ k₁
  | true =>
    refine isTrue_and (hy rfl _ _ _ S q₁ (kn.up k₁) (sz.up k₁) fun h₂ t₂ q₂ k₂ => ?_)
    cases c with
    | false => exact post h₂ t₂ q₂ (k₁.trans k₂)
    | true => exact isTrue_and_nil (post h₂ t₂ q₂ (k₁.trans k₂))
theorem test_int {e : Expr} {a : Int} {h₀ : Heap} (he : EvK (model prog w) A e env h₀ (.int a)) (hp : isTrue e env (eval e env) = (do let v ← eval e env; standAt e.pos; holding [v] (truthy v))) :
    BoolK (model prog w) A (isTrue e env (eval e env)) h₀ (!(a == 0)) := .mk fun s Q E S ht kn sz post => by
  refine isTrue_plain (he s _ _ S ht kn sz fun v h₁ t₁ q₁ k₁ r₁ => ?_) hp
  cases r₁
  exact truthy_int (post h₁ t₁ k₁)
/-- a while over locals -/
theorem do_while {test : Expr} {body : List Stmt} {pos : Pos} {Q : Flow → Shared → Prop} (Inv : Nat → (Str → Option Value) → Prop) (Fin : (Str → Option Value) → Prop) (n : Nat) (h0 : Inv n m) (hn : H.Ns L m) (kp : Kp s.heap H) (sz : Sz S s.heap) (ht : 0 < tk)
    (turn : ∀ n m h, Kp s.heap h → h.Ns L m → Inv n m → ∃ b, BoolK (model prog w) A (isTrue test env (eval test env)) (hideP S h) b ∧ (b = false → Fin m) ∧
      (b = true → ∀ h' tk' (Q' : Flow → Shared → Prop) (EE : Value → Shared → Prop), 0 < tk' → Kp s.heap h' → h'.Ns L m → (∀ h'' tk'' m'' n', 0 < tk'' → Kp s.heap h'' → h''.Ns L m'' → n' < n → Inv n' m'' → Q' .next { s with heap := h'', toks := tk'' }) →
        wpAny (model prog w) A (execs body env) Q' EE { s with heap := h', toks := tk' }))
    (next : ∀ h' tk' m', 0 < tk' → Kp s.heap h' → h'.Ns L m' → Fin m' → Q .next { s with heap := h', toks := tk' }) :
    wpAny (model prog w) A (exec (.While test body [] pos) env) Q E { s with heap := H, toks := tk } := by
  refine wpAny_While (codeAny_whileLoop (fun n s' => ∃ h tk m, s' = { s with heap := h, toks := tk } ∧ 0 < tk ∧ Kp s.heap h ∧ h.Ns L m ∧ Inv n m) ?_ n ⟨H, tk, m, rfl, ht, kp, hn, h0⟩)
  rintro n s' ⟨h, tk, m, rfl, ht', k, hn', hI⟩
  obtain ⟨b, hb, hf, hbody⟩ := turn n m h k hn' hI
  refine hb _ _ _ S ht' (Kn.hide _ _) (sz.up k) fun h₁ t₁ q₁ k₁ => ?_
  cases b with
  | false => exact wpAny_execs_nil (next h₁ t₁ m q₁ (k.trans k₁) (hn'.keeps k₁) (hf rfl))
  | true =>
    refine hbody rfl h₁ t₁ _ _ q₁ (k.trans k₁) (hn'.keeps k₁) fun h₂ t₂ m₂ n' q₂ k₂ hn₂ hlt hI₂ => ?_
    exact ⟨n', hlt, h₂, t₂, m₂, rfl, q₂, k₂, hn₂, hI₂⟩
end
end Mine
end

section
open PySem PySem.W PyProof.Rows PySem.Calls
set_option maxRecDepth 100000
namespace Mine
section
variable {prog : Program} {w : World} {A : Around} {E : Value → Shared → Prop} {s : Shared}

theorem nextOf_tuple_item {it t : Addr} {i : Nat} {items : Array Value} {x : Value} {Q : Value → Shared → Prop} (hit : s.heap.IsTupleIter it t i) (ht : s.heap.IsTuple t items) (hx : items[i]? = some x)
    (hQ : ∀ h', h'.IsTupleIter it t (i + 1) → Heap.SameBut it s.heap h' → Q x { s with heap := h' }) : wpAny (model prog w) A (Builtin.SmallTypes.nextOf (.ref it)) Q E s := by
  obtain ⟨o, ho, hc, hd⟩ := id hit
  obtain ⟨ol, hol, _, nl, hdl⟩ := ht
  unfold Builtin.SmallTypes.nextOf
  refine wpAny_bind (wpAny_callSpecial?_slot (name := Str.ofString "__next__") hit.typeIs F.slot_tuple_iterator_next
    (wpAny_call_entry F.slot_tuple_iterator_next hit.typeIs F.entry_tuple_iterator_next ?_ (F.args_tuple_iterator_next_1 _)))
  show wpAny _ _ (field (.ref it) 0 >>= _) _ _ s
  refine wpAny_bind (wpAny_field ho hd (x := .ref t) rfl ?_)
  show wpAny _ _ (if (Value.ref t == Value.none) = true then _ else _) _ _ s
  rw [if_neg (show ¬ ((Value.ref t == Value.none) = true) from Bool.false_ne_true)]
  show wpAny _ _ (field (.ref it) 1 >>= _) _ _ s
  refine wpAny_bind (wpAny_field ho hd (x := .int i 0) rfl ?_)
  show wpAny _ _ (seqItems? (.ref t) >>= _) _ _ s
  refine wpAny_bind (wpAny_seqItems hol hdl ?_)
  simp only [Int.toNat_natCast, hx]
  refine wpAny_bind (wpAny_setField ho hd (by simp) (wpAny_pure ⟨x, rfl, wpAny_pure (hQ _ ?_ (Heap.SameBut.update ..))⟩))
  exact ⟨_, Heap.get?_update_self _ ho (Obj.isFreed_of_fields (Obj.data_mapFields hd _)), (Obj.cls_mapFields ..).trans hc, by
    rw [Obj.data_mapFields hd]; simp [rawInt]⟩
theorem nextOf_tuple_end {it t : Addr} {i : Nat} {items : Array Value} {Q : Value → Shared → Prop} (hh : A.handled = none) (hit : s.heap.IsTupleIter it t i) (ht : s.heap.IsTuple t items) (hx : items[i]? = none)
    (hE : ∀ h' e, Heap.ExtBut it s.heap h' → (∃ o, h'.get? e = some o ∧ o.cls = .type "StopIteration") → E (.ref e) { s with heap := h' }) :
    wpAny (model prog w) A (Builtin.SmallTypes.nextOf (.ref it)) Q E s := by
  obtain ⟨o, ho, hc, hd⟩ := id hit
  obtain ⟨ol, hol, _, nl, hdl⟩ := ht
  unfold Builtin.SmallTypes.nextOf
  refine wpAny_bind (wpAny_callSpecial?_slot (name := Str.ofString "__next__") hit.typeIs F.slot_tuple_iterator_next
    (wpAny_call_entry F.slot_tuple_iterator_next hit.typeIs F.entry_tuple_iterator_next ?_ (F.args_tuple_iterator_next_1 _)))
  show wpAny _ _ (field (.ref it) 0 >>= _) _ _ s
  refine wpAny_bind (wpAny_field ho hd (x := .ref t) rfl ?_)
  show wpAny _ _ (if (Value.ref t == Value.none) = true then _ else _) _ _ s
  rw [if_neg (show ¬ ((Value.ref t == Value.none) = true) from Bool.false_ne_true)]
  show wpAny _ _ (field (.ref it) 1 >>= _) _ _ s
  refine wpAny_bind (wpAny_field ho hd (x := .int i 0) rfl ?_)
  show wpAny _ _ (seqItems? (.ref t) >>= _) _ _ s
  refine wpAny_bind (wpAny_seqItems hol hdl ?_)
  simp only [Int.toNat_natCast, hx]
  refine wpAny_bind (wpAny_rule (wpAny_bind (wpAny_setField ho hd (by simp) ?_)))
  show wpAny _ _ (newExc (.type "StopIteration") [] >>= _) _ _ _
  refine wpAny_bind ?_
  simp only [newExc, newTuple]
  refine wpAny_bind (wpAny_newObj_type ?_ (by size_fits))
  refine wpAny_bind (m := firstArgMember _ _) (wpAny_of_eq (a := Value.none) (by first | rfl | (simp only [firstArgMember]; rfl)) ?_)
  refine wpAny_newObj_type ?_ (by size_fits)
  simp only [raiseNew]
  refine wpAny_bind (wpAny_handled ?_)
  first | rw [show A.in1.handled = none from hh] | rw [hh]
  refine wpAny_bind (wpAny_pure (wpAny_throw ?_))
  exact hE _ _ (((Heap.SameBut.update ..).extBut.push _).push _) ⟨_, Heap.get?_push_size _ rfl, rfl⟩
theorem draws_tuple (hh : A.handled = none) (it l : Addr) (hne : l ≠ it) (items : Array Value) :
    Draws prog w A it [it, l] items.size (fun i v => items[i]? = some v) (fun i h => h.IsTupleIter it l i ∧ h.IsTuple l items) where
  live := fun _ _ st => let ⟨o, ho, _⟩ := st.1; ⟨o, ho⟩
  frame := fun _ _ _ st hk => ⟨st.1.at fun o e => hk it (by simp) o e, st.2.at fun o e => hk l (by simp) o e⟩
  item := fun i s Q E hi st hQ => by
    refine nextOf_tuple_item st.1 st.2 (x := items[i]) (by simp [hi]) fun h' hit' hs' => ?_
    exact hQ _ h' s.toks (by simp [hi]) ⟨hit', st.2.extBut hs'.extBut hne⟩ hs'
  done := fun s Q E st hE => nextOf_tuple_end hh st.1 st.2 (by simp) hE

theorem meets_enumerate_tuple (l : Addr) (items : Array Value) (n : Nat) (dct : Option Addr) (sl : Array (Option Value)) :
    Meets (Builtin.«enumerate.__new__» ⟨[.type "enumerate", .ref l], []⟩) (fun _ R s => s.heap.get? l = some { cls := .type "tuple", dict := dct, data := .seq items n, slots := sl } ∧
      R (.ok (.ret (.ref (s.heap.push { cls := .type "tuple_iterator", data := .fields #[.ref l, .int 0 0] }).objs.size)))
        { s with heap := (s.heap.push { cls := .type "tuple_iterator", data := .fields #[.ref l, .int 0 0] }).push { cls := .type "enumerate", data := .fields #[.none, .bool false, .ref s.heap.objs.size, rawInt 0, .none, .none] } }) :=
  .of_wp fun prog w A R s h => by
    obtain ⟨hp, g, d, tk, os⟩ := s; obtain ⟨hl, h⟩ := h
    have hsub := sub_enumerate
    have hL : Heap.IsTuple (Shared.heap ⟨hp, g, d, tk, os⟩) l items := ⟨_, hl, rfl, n, rfl⟩
    wp_walk using AutoSeq1.wpAny_loadPart' hl
    refine wpAny_stack_any fun st => wpAny_pure ?_
    split
    · rename_i c _ _ _ _ _
      cases (c == Value.type "enumerate")
      · wp_walk using AutoSeq1.wpAny_loadPart' hl, wpAny_pyIter_tuple hL
        exact ⟨_, rfl, h⟩
      · wp_walk using AutoSeq1.wpAny_loadPart' hl, wpAny_pyIter_tuple hL
        exact ⟨_, rfl, h⟩
    · wp_walk using AutoSeq1.wpAny_loadPart' hl, wpAny_pyIter_tuple hL
      exact ⟨_, rfl, h⟩
theorem call_enumerate_tuple {l : Addr} {items : Array Value} {Q : Value → Shared → Prop} (hL : s.heap.IsTuple l items)
    (h : ∀ h', IsEnum h' (s.heap.objs.size + 1) s.heap.objs.size 0 .none → h'.IsTupleIter s.heap.objs.size l 0 → Kp s.heap h' → Q (.ref (s.heap.objs.size + 1)) { s with heap := h' }) :
    wpAny (model prog w) A (call (.type "enumerate") [.ref l]) Q E s := by
  obtain ⟨⟨c, dct, dt, sl⟩, hl, hc, n, hd⟩ := hL
  replace hc : c = .type "tuple" := hc
  replace hd : dt = .seq items n := hd
  subst hc hd
  refine callType_new F.called_enumerate (by decide) (F.typeCall_enumerate_1 _) (F.newCall_enumerate_1 _) (fun obj => F.args_object_init_2 obj _) F.entry_enumerate_new
    (meets_enumerate_tuple l items n dct sl) ⟨hl, ?_⟩
  have hz : (s.heap.push { cls := .type "tuple_iterator", data := .fields #[.ref l, .int 0 0] }).objs.size = s.heap.objs.size + 1 := Heap.size_push ..
  show _ ∧ _
  rw [hz]
  have he : IsEnum ((s.heap.push { cls := .type "tuple_iterator", data := .fields #[.ref l, .int 0 0] }).push
      { cls := .type "enumerate", data := .fields #[.none, .bool false, .ref s.heap.objs.size, rawInt 0, .none, .none] }) (s.heap.objs.size + 1) s.heap.objs.size 0 .none := by
    have := Heap.get?_push_size (s.heap.push { cls := .type "tuple_iterator", data := .fields #[.ref l, .int 0 0] })
      (o := { cls := .type "enumerate", data := .fields #[.none, .bool false, .ref s.heap.objs.size, rawInt 0, .none, .none] }) rfl
    rw [hz] at this; exact this
  exact ⟨⟨_, he, rfl⟩, h _ he ⟨_, Heap.get?_push_of_some _ (Heap.get?_push_size _ rfl), rfl, rfl⟩ fun b o x => Heap.get?_push_of_some _ (Heap.get?_push_of_some _ x)⟩
/-- a tuple iterator owns nothing -/
theorem owned_tupleiter {elts : List Expr} {x1 : Nat} {pos : Pos} {I l T : Addr} {i : Nat} {Q : Unit → Shared → Prop} (hit : s.heap.IsTupleIter I l i) (hQ : Q () s) :
    wpAny (model prog w) A (letOwnedTupleGo (.Tuple elts x1 pos) (.ref I) (.ref T)) Q E s := by
  obtain ⟨o, ho, hc, hd⟩ := hit
  unfold letOwnedTupleGo
  refine wpAny_bind (wpAny_load ho ?_)
  rw [hc, hd]
  show wpAny _ A (if (["enumerate", "zip", "dict_itemiterator", "dict_reverseitemiterator", "odict_iterator", "itertools.zip_longest", "itertools.pairwise"].contains "tuple_iterator" &&
      (#[.ref l, .int i 0] : Array Value)[0]? == some (rawInt T)) = true then _ else _) Q E s
  rw [if_neg (by
    intro h
    rw [show (["enumerate", "zip", "dict_itemiterator", "dict_reverseitemiterator", "odict_iterator", "itertools.zip_longest", "itertools.pairwise"].contains "tuple_iterator") = false from by decide, Bool.false_and] at h
    cases h)]
  exact wpAny_pure hQ
end
end Mine
end

section
open PySem PySem.W PyProof.Rows PySem.Calls
set_option maxRecDepth 100000
namespace Mine
section
variable {prog : Program} {w : World} {A : Around} {env : Env} {s : Shared} {S : Addr → Prop} {H : Heap} {tk : Nat} {E : Value → Shared → Prop} {h₀ : Heap}
theorem op_and {a b : Int} : Op2K (model prog w) A (binaryOp .BitAnd) (.int a) (.int b) (.int (Builtin.bitAnd a b)) := .mk fun s Q E S x y _ _ r₁ r₂ post => by
  cases r₁; cases r₂; exact and_int (post _ s.heap _ (.refl _) (.int _ _))

/-- (x, y) = T -/
theorem asg_pair {x y : Str} {px py pos : Pos} {k : Nat} {T L : Addr} {v₁ v₂ : Value} {m : Str → Option Value} {Q : Unit → Shared → Prop} (hh : A.handled = none) (hL : env.locals = L) (hn : H.Ns L m) (hT : H.IsTuple T #[v₁, v₂])
    (hk : env.scope.kind = .function) (hx : env.kindOf x = some .local) (hy : env.kindOf y = some .local)
    (next : ∀ h' tk', 0 < tk' → h'.Ns L (fun z => if z = y then some v₂ else if z = x then some v₁ else m z) → (∀ b o, b ≠ L → H.get? b = some o → h'.get? b = some o) → Q () { s with heap := h', toks := tk' }) :
    wpAny (model prog w) A (assign (.Tuple [.Name x px, .Name y py] k pos) env (.ref T)) Q E { s with heap := H, toks := tk } := by
  subst hL
  refine wpAny_assign_Tuple hh hT rfl rfl fun h₁ hx₁ => ?_
  have k₁ : Kp H h₁ := fun b o e => hx₁ b o (Nat.ne_of_lt (Heap.lt_size e)) e
  refine assignInOrder_cons (wpAny_assign_Name (wpAny_storeName_local hx (hn.keeps k₁) (fun h₂ hn₂ hs₂ => ?_) (by rw [hk]; rfl)))
  refine assignInOrder_cons (wpAny_assign_Name (wpAny_storeName_local hy hn₂ (fun h₃ hn₃ hs₃ => ?_) (by rw [hk]; rfl)))
  refine assignInOrder_nil (next h₃ _ (Nat.succ_pos _) hn₃ fun b o hb e => hs₃.extBut b o hb (hs₂.extBut b o hb (k₁ _ _ e)))

/-- xs.append(e), e an int or a text -/
theorem do_append {o e : Expr} {apos pos spos : Pos} {P : Addr} {items : Array Value} {cnt : Nat} {d : PyData} {Q : Flow → Shared → Prop}
    (ho : ∀ (Q E : Value → Shared → Prop), (∀ h' tk', 0 < tk' → Kp H h' → Q (.ref P) { s with heap := h', toks := tk' }) → wpAny (model prog w) A (eval o env) Q E { s with heap := H, toks := tk })
    (he : EvK (model prog w) A e env (hideP S H) d) (hsc : ∀ {S S' : Addr → Prop} {h h' : Heap} {v : Value}, Rd S h v d → Rd S' h' v d) (sz : Sz S H) (hP : H.get? P = some (plist items cnt)) (hsz : items.size ≤ 1000)
    (hbase : attributeBase o "append" env (eval o env) = eval o env) (hline : (apos.endLine == pos.line) = true) (hs : backTo pos (starEach [e] env) = [(false, eval e env)])
    (hi : interactive env = false) (hsw : swapsWith (.Call (.Attribute o "append" apos) [e] [] pos) none spos.line env = pure false)
    (next : ∀ v h' tk', 0 < tk' → (∀ b o, b ≠ P → H.get? b = some o → h'.get? b = some o) → h'.get? P = some (plist (items.push v) (cnt + 1)) → Rd (fun _ => False) h' v d → Q .next { s with heap := h', toks := tk' }) :
    wpAny (model prog w) A (exec (.Expr (.Call (.Attribute o "append" apos) [e] [] pos) spos) env) Q E { s with heap := H, toks := tk } := by
  refine wpAny_Expr_any ?_ hi hsw
  refine wpAny_Call_method1_late hbase hline hs (ho _ _ fun h₁ t₁ q₁ k₁ => ?_)
  refine ⟨"list", "list.append", F.plainAttrs_list, F.slot_list_append, F.type_list_append, ⟨_, k₁ _ _ hP, rfl⟩, (fun b e => by cases e; exact ⟨_, k₁ _ _ hP, rfl⟩), ?_⟩
  refine PySem.P.append_list (he _ _ _ S q₁ ((Kn.hide _ _).up k₁) (sz.up k₁) fun v h₂ t₂ q₂ k₂ r₂ => ?_)
  have hP₂ := k₂ _ _ (k₁ _ _ hP)
  refine ⟨items, cnt, Nat.le_trans hsz (by decide), hP₂, next v _ t₂ q₂ (fun b o hb e => (Heap.get?_update_ne _ _ _ _ hb).trans (k₂ _ _ (k₁ _ _ e))) ?_ (hsc r₂)⟩
  have e := Heap.get?_update_self (fun o => Obj.mapSeq (fun xs => xs.push v) o) hP₂ (by rw [Obj.mapSeq_push_plain]; rfl)
  rw [Obj.mapSeq_push_plain] at e
  exact e
theorem sc_int {i : Int} : ∀ {S S' : Addr → Prop} {h h' : Heap} {v : Value}, Rd S h v (.int i) → Rd S' h' v (.int i) := fun r => by cases r; exact .int _ _
theorem sc_str {x : Str} : ∀ {S S' : Addr → Prop} {h h' : Heap} {v : Value}, Rd S h v (.str x) → Rd S' h' v (.str x) := fun r => by cases r; exact .str _ _
end
/-- what a value of the text's own objects reads as -/
noncomputable def readsK (K : Frag) : Nat → Value → Option PyData
  | _, .int i _ => some (.int i)
  | _, .str x _ => some (.str x)
  | n + 1, .ref a => match K.lookup a with
    | some ⟨.type "tuple", none, .seq items _, sl⟩ => if sl.size = 0 then (items.toList.mapM (readsK K n)).map .tuple else none
    | _ => none
  | _, _ => none
theorem readsK_rd {K : Frag} {h : Heap} (X : K.In h) : ∀ (n : Nat) (v : Value) (d : PyData), readsK K n v = some d → Rd0 h v d := by
  intro n
  induction n with
  | zero =>
    intro v d e
    cases v <;> simp [readsK] at e <;> subst e <;> constructor
  | succ n ih =>
    intro v d e
    cases v with
    | int i t => simp [readsK] at e; subst e; constructor
    | str x t => simp [readsK] at e; subst e; constructor
    | ref a =>
      unfold readsK at e
      split at e
      · rename_i items k sl hl
        split at e
        · rename_i hsl
          have hsl' : sl = #[] := Array.size_eq_zero_iff.mp hsl
          subst hsl'
          obtain ⟨ds, hds, rfl⟩ := Option.map_eq_some_iff.mp e
          refine .tuple id (X _ _ hl) ?_
          have : ∀ (vs : List Value) (ds : List PyData), vs.mapM (readsK K n) = some ds → RdAll0 h vs ds := by
            intro vs
            induction vs with
            | nil => intro ds q; simp at q; subst q; exact .nil
            | cons v vs hi =>
              intro ds q
              rw [List.mapM_cons] at q
              simp only [Option.bind_eq_bind, Option.bind_eq_some_iff] at q
              obtain ⟨d, hd, ds', hds', q⟩ := q
              cases q
              exact .cons (ih v d hd) (hi ds' hds')
          exact this _ _ hds
        · cases e
      · cases e
    | _ => simp [readsK] at e
end Mine
end

section
open PySem PySem.W PyProof.Rows PySem.Calls
set_option maxRecDepth 100000
namespace Mine
/-- a comprehension's run, to the list that it makes -/
noncomputable def CompK (prog : Program) (w : World) (A : Around) (e iter : Expr) (scope : Scope) (cl : List (Str × Addr)) (env : Env) (h₀ : Heap) (d : PyData) : Prop :=
  ∀ (RR : Value → Addr → Result → Shared → Prop) (s : Shared) (E : Value → Shared → Prop) (S : Addr → Prop), 0 < s.toks → Kn h₀ S s.heap → Sz S s.heap →
    (∀ D C h' tk, 0 < tk → (∃ m, h'.Ns C m) → s.heap.get? C = none → s.heap.get? D = none → C ≠ D → Kp s.heap h' → Rd (fun a => S a ∨ a = C) h' (.ref D) d → RR (.ref D) C (.ok .next) { s with heap := h', toks := tk }) →
    wpAny (model prog w) A (eval iter env) (fun xv s₁ => wpAny (model prog w) A (pyIter xv) (fun it s₂ => wpAny (model prog w) A (newList []) (fun acc s₃ => wpAny (model prog w) A (newFunctionEnv scope env.globals cl [] env.qual none .none (some env)) (fun cenv s₄ =>
      codeAny (model prog w) A (.compStart e 0 it acc { cenv with scope := relabel scope env }) (RR acc cenv.locals) s₄) E s₃) E s₂) E s₁) E s
section
variable {prog : Program} {w : World} {A : Around}
theorem comp_one {elt iter : Expr} {x : Str} {px : Pos} {ifs : List Expr} {scope : Scope} {cl : List (Str × Addr)} {pos : Pos} {env : Env} {h₀ : Heap} {ds : List PyData} (p : PyData → Bool) (g : PyData → PyData)
    (hcell : ∀ y ∈ scope.names, y.2 ≠ .cell) (hkind : scope.kind = .function) (hx : scope.names.lookup x = some .local)
    (hsrc : SrcK prog w A iter env h₀ ds) (hlen : ds.length ≤ 1000)
    (htest : ∀ C m v d h, d ∈ ds → Kp h₀ h → h.Ns C m → m x = some v → Rd0 h v d → TestsK (model prog w) A ifs (compEnvC scope cl C env) h (p d))
    (helt : ∀ C m v d h, d ∈ ds → p d = true → Kp h₀ h → h.Ns C m → m x = some v → Rd0 h v d → EvK (model prog w) A elt (compEnvC scope cl C env) h (g d)) :
    CompK prog w A (.ListComp elt [⟨.Name x px, iter, ifs, 0⟩] scope pos) iter scope cl env h₀ (.list ((ds.filter p).map g)) :=
  fun RR s E S ht kn sz hRR => comp_core (RR := RR) (S := S) p g ht kn sz hcell hkind hx hsrc hlen htest helt hRR

theorem ev_of_comp {elt iter : Expr} {target : Expr} {ifs : List Expr} {rest : List Comprehension} {scope : Scope} {cl : List (Str × Addr)} {pos : Pos} {env : Env} {h₀ : Heap} {d : PyData}
    (h : CompK prog w A (.ListComp elt (⟨target, iter, ifs, 0⟩ :: rest) scope pos) iter scope cl env h₀ d)
    (hclos : closureFor scope env = pure cl) (hkind : scope.kind = .function)
    (hnames : ∀ y ∈ scope.names, y.2 = .local → scope.names.lookup y.1 = some .local) (hs : ∀ x, foldedSetIterable iter env x = pure x) :
    EvK (model prog w) A (.ListComp elt (⟨target, iter, ifs, 0⟩ :: rest) scope pos) env h₀ d := fun s Q E S ht kn sz post => by
  rw [eval_ListComp]
  refine wpAny_comprehension_free (use := none) rfl hs hclos hkind hnames ?_
  refine h (fun acc C => compPost (model prog w) A E none Q acc C) s E S ht kn sz ?_
  intro D C h' tk q1 ⟨m, hm⟩ hC hD hCD k r
  exact ⟨m, hm, fun h'' hs'' => post _ h'' tk q1 (fun b o e => hs''.extBut b o (fun q => by rw [q, hC] at e; cases e) (k _ _ e)) (r.over fun a o n e _ => ⟨fun q => n (.inl q), hs''.extBut a o (fun q => n (.inr q)) e⟩)⟩

/-- y = [comprehension], y a local on the same line -/
theorem do_comp {elt iter : Expr} {target : Expr} {ifs : List Expr} {rest : List Comprehension} {scope : Scope} {cl : List (Str × Addr)} {pos spos py : Pos} {env : Env} {d : PyData} {y : Str} {s : Shared} {S : Addr → Prop} {L : Addr} {H : Heap} {tk : Nat} {m : Str → Option Value}
    {Q : Flow → Shared → Prop} {E : Value → Shared → Prop}
    (h : CompK prog w A (.ListComp elt (⟨target, iter, ifs, 0⟩ :: rest) scope pos) iter scope cl env (hideP S H) d)
    (hclos : closureFor scope env = pure cl) (hkind : scope.kind = .function)
    (hnames : ∀ y ∈ scope.names, y.2 = .local → scope.names.lookup y.1 = some .local) (hs : ∀ x, foldedSetIterable iter env x = pure x)
    (hsw : swapsWith (.ListComp elt (⟨target, iter, ifs, 0⟩ :: rest) scope pos) (some (.Name y py)) spos.line env = pure true)
    (hL : env.locals = L) (hn : H.Ns L m) (hb : s.heap.get? L = none) (kp : Kp s.heap H) (sz : Sz S s.heap) (ht : 0 < tk) (hk : env.scope.kind = .function) (hy : env.kindOf y = some .local)
    (next : ∀ v h' tk', 0 < tk' → Kp s.heap h' → h'.Ns L (fun z => if z = y then some v else m z) → Rd S h' v d → (∀ b o, b ≠ L → H.get? b = some o → h'.get? b = some o) → Q .next { s with heap := h', toks := tk' }) :
    wpAny (model prog w) A (exec (.Assign [.Name y py] (.ListComp elt (⟨target, iter, ifs, 0⟩ :: rest) scope pos) spos) env) Q E { s with heap := H, toks := tk } := by
  subst hL
  rw [exec_Assign_Name_used _ _ _ _ hsw]
  refine wpAny_bind (wpAny_standAt (wpAny_bind ?_))
  show wpAny _ A (do let _ ← comprehension (.ListComp elt (⟨target, iter, ifs, 0⟩ :: rest) scope pos) scope env _ (newList []) false (eval iter env) (some (assign (.Name y py) env))) _ _ _
  refine wpAny_bind (wpAny_mono (wpAny_comprehension_free (use := some (assign (.Name y py) env)) (Q := fun _ s' => Q .next s') rfl hs hclos hkind hnames ?_) (fun _ s' hq => wpAny_pure (wpAny_pure hq)) fun _ _ e => e)
  refine h (fun acc C => compPost (model prog w) A E (some (assign (.Name y py) env)) (fun _ s' => Q .next s') acc C) _ E S ht (Kn.hide _ _) (sz.up kp) ?_
  intro D C h' tk' q1 ⟨m', hm'⟩ hC hD hCD k r
  have hLC : env.locals ≠ C := by rintro rfl; obtain ⟨o, _, _, ho, _⟩ := hn; have ho' : H.get? env.locals = none := hC; rw [ho'] at ho; cases ho
  have hn' := hn.keeps k
  show wpAny _ A (assign (.Name y py) env (.ref D)) _ _ _
  refine wpAny_with_toks (n := 1) q1 (wpAny_assign_Name (wpAny_storeName_local hy hn' (fun h₂ hn₂ hs₂ hq₂ => ?_) (by rw [hk]; rfl)))
  have k₂ : ∀ b o, b ≠ env.locals → h'.get? b = some o → h₂.get? b = some o := fun b o hb e => hs₂.extBut b o hb e
  refine ⟨m', hm'.sameBut hs₂ (Ne.symm hLC), fun h₃ hs₃ => ?_⟩
  have k₃ : ∀ b o, b ≠ C → h₂.get? b = some o → h₃.get? b = some o := fun b o hb e => hs₃.extBut b o hb e
  have liveC : ∀ {b o}, H.get? b = some o → b ≠ C := fun {b o} e q => by have e' : H.get? C = none := hC; rw [q, e'] at e; cases e
  refine next (.ref D) h₃ _ hq₂ (fun b o e => k₃ b o (liveC (kp _ _ e)) (k₂ b o (fun q => by rw [q, hb] at e; cases e) (k _ _ (kp _ _ e)))) (hn₂.sameBut hs₃ hLC) ?_ fun b o hb e => k₃ b o (liveC e) (k₂ b o hb (k _ _ e))
  refine (r.over (over_ns hn' k₂)).over fun a o n e _ => ⟨fun q => n (.inl q), k₃ a o (fun q => n (.inr q)) e⟩

/-- the environment of a comprehension with one captured letter -/
theorem newEnv_cell {M : Model} {scope : Scope} {globals : Addr} {cl : List (Str × Addr)} {qual : Str} {env : Env} {x : Str} {s : Shared} {Q : Env → Shared → Prop} {E : Value → Shared → Prop}
    (hcf : ∀ n acc, cellsFrom n scope.names acc = (x, n) :: acc) (hpc : ∀ h, pushCells h scope.names = h.push { cls := .type "cell", data := .cell none })
    (hQ : ∀ h', Kp s.heap h' → h'.Ns s.heap.objs.size (fun _ => none) → h'.IsCell (s.heap.objs.size + 1) none →
      Q (newEnv scope s.heap.objs.size globals ((x, s.heap.objs.size + 1) :: cl) qual none .none (some env) builtinsNs) { s with heap := h' }) :
    wpAny M A (newFunctionEnv scope globals cl [] qual none .none (some env)) Q E s := by
  simp only [newFunctionEnv, Option.isSome_some, if_true]
  refine wpAny_bind (wpAny_alloc ?_)
  refine wpAny_bind (wpAny_layCells _ (fun name kind cells => by cases hkc : kind == NameKind.cell <;> simp [hkc]) _ _ _ _ ?_)
  rw [hcf, hpc]
  rw [List.forIn_nil]
  refine wpAny_bind (wpAny_pure (wpAny_pure ?_))
  have hz : (s.heap.push { cls := .type "dict", data := .dict #[] }).objs.size = s.heap.objs.size + 1 := Heap.size_push ..
  have := hQ ((s.heap.push { cls := .type "dict", data := .dict #[] }).push { cls := .type "cell", data := .cell none }) ((kp_push _ _).trans (kp_push _ _)) ((Heap.Ns.new s.heap (.type "dict")).keeps (kp_push _ _)) ⟨_, by
    have e := Heap.get?_push_size (s.heap.push { cls := .type "dict", data := .dict #[] }) (o := { cls := .type "cell", data := .cell none }) rfl
    rw [hz] at e; exact e, rfl⟩
  dsimp only
  rw [hz]
  exact this

theorem comp_cell {elt iter : Expr} {x : Str} {px : Pos} {ifs : List Expr} {scope : Scope} {cl : List (Str × Addr)} {pos : Pos} {env : Env} {h₀ : Heap} {ds : List PyData} (p : PyData → Bool) (g : PyData → PyData)
    (hcf : ∀ n acc, cellsFrom n scope.names acc = (x, n) :: acc) (hpc : ∀ h, pushCells h scope.names = h.push { cls := .type "cell", data := .cell none }) (hkind : scope.kind = .function)
    (hx : ∀ C c, (compEnvC scope ((x, c) :: cl) C env).kindOf x = some .cell)
    (hsrc : SrcK prog w A iter env h₀ ds) (hlen : ds.length ≤ 1000)
    (htest : ∀ C c v d h, d ∈ ds → Kp h₀ h → h.IsCell c (some v) → Rd0 h v d → TestsK (model prog w) A ifs (compEnvC scope ((x, c) :: cl) C env) h (p d))
    (helt : ∀ C c v d h, d ∈ ds → p d = true → Kp h₀ h → h.IsCell c (some v) → Rd0 h v d → EvK (model prog w) A elt (compEnvC scope ((x, c) :: cl) C env) h (g d)) :
    CompK prog w A (.ListComp elt [⟨.Name x px, iter, ifs, 0⟩] scope pos) iter scope cl env h₀ (.list ((ds.filter p).map g)) := fun RR s E S ht kn sz hRR => by
  refine hsrc s _ _ S ht kn sz fun I fp P St h₁ h₂ tk htk k₁ k₂ hI₁ W hst hfp hlive hit _ => ?_
  refine wpAny_newObj_type (newEnv_cell hcf hpc fun h₃ hk₃ hns₃ hcell₃ => ?_)
  dsimp only at hk₃ hns₃ hcell₃ ⊢
  generalize hH : h₂.push { cls := .type "list", dict := none, data := .seq ([] : List Value).toArray } = H at hk₃ hns₃ hcell₃ ⊢
  have hC : H.objs.size = h₂.objs.size + 1 := by rw [← hH, Heap.size_push]
  have up : Kp h₂ h₃ := fun b o e => hk₃ _ _ (hH ▸ Heap.get?_push_of_some _ e)
  have hD₃ : h₃.get? h₂.objs.size = some (plist #[] 0) := hk₃ _ _ (hH ▸ Heap.get?_push_size _ rfl)
  have hDC : h₂.objs.size ≠ H.objs.size := by rw [hC]; exact Nat.ne_of_lt (Nat.lt_succ_self _)
  have hDX : h₂.objs.size ≠ H.objs.size + 1 := by rw [hC]; omega
  have hCX : H.objs.size ≠ H.objs.size + 1 := by omega
  obtain ⟨oI, eI⟩ := hlive 0 h₂ hst
  have live2 : ∀ {b o}, h₂.get? b = some o → b ≠ h₂.objs.size ∧ b ≠ H.objs.size ∧ b ≠ H.objs.size + 1 := fun e => ⟨Nat.ne_of_lt (Heap.lt_size e), by rw [hC]; exact Nat.ne_of_lt (Nat.lt_succ_of_lt (Heap.lt_size e)), by rw [hC]; exact Nat.ne_of_lt (Nat.lt_succ_of_lt (Nat.lt_succ_of_lt (Heap.lt_size e)))⟩
  have k₁₂ : Kp s.heap h₂ := k₁.trans k₂
  have non : ∀ {c}, (∀ {b o}, h₂.get? b = some o → b ≠ c) → ∀ {h : Heap}, Kp h h₂ → h.get? c = none := fun {c} hc {h} k => by
    cases e : h.get? c with
    | none => rfl
    | some o => exact absurd rfl (hc (k _ _ e))
  have nD := non (fun e => (live2 e).1) k₁₂
  have nC := non (fun e => (live2 e).2.1) k₁₂
  have nX := non (fun e => (live2 e).2.2) k₁₂
  have sz₃ : Sz S h₃ := sz.up (k₁₂.trans up)
  have hSI : ¬ S I := fun q => by
    obtain ⟨o, e⟩ := sz I q
    rw [k₁ _ _ e] at hI₁; cases hI₁
  have hne : ∀ {b o}, h₁.get? b = some o → b ≠ I ∧ b ≠ h₂.objs.size ∧ b ≠ H.objs.size ∧ b ≠ H.objs.size + 1 := fun {b o} e => ⟨fun q => (by rw [q, hI₁] at e; cases e), live2 (k₂ _ _ e)⟩
  have T : StoreAt (model prog w) A (compEnvC scope ((x, H.objs.size + 1) :: cl) H.objs.size env) x (H.objs.size + 1) (fun h => ∃ v₀, h.IsCell (H.objs.size + 1) v₀) (fun v h => h.IsCell (H.objs.size + 1) (some v)) :=
    StoreAt.cell hkind (hx _ _) (by show List.lookup x ((x, H.objs.size + 1) :: cl) = _; simp)
  have loop : ∀ s₃ : Shared, s₃ = { s with heap := h₃, toks := tk } →
      codeAny (model prog w) A (.compLoop (.ListComp elt [⟨.Name x px, iter, ifs, 0⟩] scope pos) 0 (.ref I) (.ref h₂.objs.size) (compEnvC scope ((x, H.objs.size + 1) :: cl) H.objs.size env)) (RR (.ref h₂.objs.size) H.objs.size) s₃ := by
    rintro s₃ rfl
    refine loop1 (S := S) (h₀ := h₀) p g W T hlive hDX (fun q => (live2 eI).1 q.symm) (fun q => (live2 eI).2.2 q.symm) (fun hb => by obtain ⟨o, e⟩ := hfp _ hb; exact (live2 e).1 rfl) (fun hb => by obtain ⟨o, e⟩ := hfp _ hb; exact (live2 e).2.2 rfl)
      hSI (sz.fresh nD) (sz.fresh nX) hlen htk (W.frame _ _ _ hst fun b _ o e => up b o e) ⟨_, hcell₃⟩ sz₃ hD₃ ?_ ?_ ?_ ?_ ?_
    · intro i v d hd hp
      refine (hit i v d hd hp).over fun a o n e _ => ⟨?_, up _ _ (k₂ _ _ e)⟩
      obtain ⟨n1, n2, n3, n4⟩ := hne e
      rintro (h | h | h | h)
      · exact n h
      · exact n1 h
      · exact n2 h
      · exact n4 h
    · intro a o e
      obtain ⟨n1, e1⟩ := kn a o e
      obtain ⟨n2, n3, _, n4⟩ := hne (k₁ _ _ e1)
      exact ⟨n1, n2, n3, n4, up _ _ (k₁₂ _ _ e1)⟩
    · intro v d h hd k hm hr
      exact htest _ _ v d h hd k hm hr
    · intro v d h hd hp k hm hr
      exact helt _ _ v d h hd hp k hm hr
    · intro h' tk' items cnt q1 q2 q3 q4 q5
      have hnsC : h'.Ns H.objs.size (fun _ => none) := hns₃.at' fun o e => q3 _ o (fun q => (live2 eI).2.1 q.symm) hCX (Ne.symm hDC) e
      refine hRR _ _ h' tk' q1 ⟨_, hnsC⟩ nC nD hDC.symm (fun b o e => ?_) (.list ?_ q4 (q5.over fun a o n e sq => ⟨fun q => ?_, e⟩))
      · obtain ⟨n2, n3, _, n4⟩ := hne (k₁ _ _ e)
        exact q3 b o n2 n4 n3 (up _ _ (k₁₂ _ _ e))
      · rintro (h | h)
        · exact sz.fresh nD h
        · exact hDC h
      · rcases q with h | h
        · exact n (.inl h)
        · obtain ⟨o', es, ep, e', hd, _⟩ := hnsC
          rw [h, e'] at e; cases e
          obtain ⟨its, c, hq⟩ := sq
          rw [hd] at hq; cases hq
  exact codeAny_compStart_list (loop _ rfl) (W.self 0 _ _ _ (W.frame _ _ _ hst fun b _ o e => up b o e) (loop _ rfl))
end
end Mine
end

section
open PySem PySem.W PyProof.Rows PySem.Calls
set_option maxRecDepth 100000
namespace Mine
abbrev lc2 (elt : Expr) (x : Str) (px : Pos) (iter₁ : Expr) (y : Str) (py : Pos) (iter₂ : Expr) (scope : Scope) (pos : Pos) : Expr := .ListComp elt [⟨.Name x px, iter₁, [], 0⟩, ⟨.Name y py, iter₂, [], 0⟩] scope pos
theorem turn_out (elt : Expr) (x : Str) (px : Pos) (iter₁ : Expr) (y : Str) (py : Pos) (iter₂ : Expr) (scope : Scope) (pos : Pos) (it acc : Value) (env : Env) :
    compTurn (lc2 elt x px iter₁ y py iter₂ scope pos) 0 it acc env = (standAt iter₁.pos >>= fun _ => pyNext it >>= fun r => match r with
      | none => pure (.done .next)
      | some v => letOwnedTupleGo (.Name x px) it v >>= fun _ => assign (.Name x px) env v >>= fun _ => eval iter₂ env >>= fun x₂ => standAt iter₂.pos >>= fun _ => foldedSetIterable iter₂ env x₂ >>= fun x₂ =>
        holding [x₂] (pyIter x₂) >>= fun it₂ => runOwn (.compStart (lc2 elt x px iter₁ y py iter₂ scope pos) 1 it₂ acc env) env >>= fun _ => again (.compLoop (lc2 elt x px iter₁ y py iter₂ scope pos) 0 it acc env)) := by rfl
theorem turn_in (elt : Expr) (x : Str) (px : Pos) (iter₁ : Expr) (y : Str) (py : Pos) (iter₂ : Expr) (scope : Scope) (pos : Pos) (it acc : Value) (env : Env) :
    compTurn (lc2 elt x px iter₁ y py iter₂ scope pos) 1 it acc env = (standAt iter₂.pos >>= fun _ => pyNext it >>= fun r => match r with
      | none => pure (.done .next)
      | some v => letOwnedTupleGo (.Name y py) it v >>= fun _ => assign (.Name y py) env v >>= fun _ =>
        (eval elt env >>= fun x => call (.builtin "list.append") [acc, x] >>= fun _ => pure ()) >>= fun _ => again (.compLoop (lc2 elt x px iter₁ y py iter₂ scope pos) 1 it acc env)) := by rfl
section
variable {prog : Program} {w : World} {A : Around} {R : Result → Shared → Prop} {s : Shared} {elt iter₁ iter₂ : Expr} {x y : Str} {px py pos : Pos} {scope : Scope} {it acc : Value} {env : Env}

theorem loop_in (I : Nat → Shared → Prop)
    (turn : ∀ n s, I n s → wpAny (model prog w) A (pyNext it) (fun r s₁ => match r with
      | none => R (.ok .next) s₁
      | some v => wpAny (model prog w) A (assign (.Name y py) env v) (fun _ s₂ => wpAny (model prog w) A (eval elt env) (fun x s₃ =>
          wpAny (model prog w) A (call (.builtin "list.append") [acc, x]) (fun _ s₄ => ∃ m, m < n ∧ I m s₄) (notedBy (model prog w) A env fun e s' => R (.error e) s') s₃)
          (notedBy (model prog w) A env fun e s' => R (.error e) s') s₂) (notedBy (model prog w) A env fun e s' => R (.error e) s') s₁) (notedBy (model prog w) A env fun e s' => R (.error e) s') s)
    (n : Nat) (h : I n s) : codeAny (model prog w) A (.compLoop (lc2 elt x px iter₁ y py iter₂ scope pos) 1 it acc env) R s := by
  refine codeAny_loop rfl I (fun n s hI => ?_) n h
  show wpAny _ A ((compTurn (lc2 elt x px iter₁ y py iter₂ scope pos) 1 it acc env).onRaise (fun x => do noteFrame x env; theTreesLotGoes x)) _ _ s
  refine wpAny_noted ?_
  rw [turn_in]
  refine wpAny_bind (wpAny_standAt (wpAny_bind (wpAny_mono (turn n s hI) (fun r s₁ h₁ => ?_) fun _ _ h' => h')))
  cases r with
  | none => exact wpAny_pure h₁
  | some v =>
    refine wpAny_bind (wpAny_of_eq rfl ?_)
    exact wpAny_bind (wpAny_mono h₁ (fun _ s₂ h₂ => wpAny_bind (wpAny_bind (wpAny_mono h₂ (fun x s₃ h₃ => wpAny_bind (wpAny_mono h₃
      (fun _ s₄ h₄ => wpAny_pure (wpAny_pure ⟨rfl, h₄⟩)) fun _ _ h' => h')) fun _ _ h' => h'))) fun _ _ h' => h')
theorem start_in
    (h0 : codeAny (model prog w) A (.compLoop (lc2 elt x px iter₁ y py iter₂ scope pos) 1 it acc env) R s)
    (h : wpAny (model prog w) A (pyIter it) (fun it' s' => codeAny (model prog w) A (.compLoop (lc2 elt x px iter₁ y py iter₂ scope pos) 1 it' acc env) R s')
      (notedBy (model prog w) A env fun x s' => R (.error x) s') s) :
    codeAny (model prog w) A (.compStart (lc2 elt x px iter₁ y py iter₂ scope pos) 1 it acc env) R s := by
  refine codeAny_of_tree ?_
  show wpAny _ _ ((compStart (lc2 elt x px iter₁ y py iter₂ scope pos) 1 it acc env).onRaise (fun x => do noteFrame x env; standAt theWindowsPlace)) _ _ s
  refine wpAny_notedAt ?_
  unfold compStart
  show wpAny _ _ (ask >>= _) _ _ s
  refine wpAny_bind (wpAny_askSetting (wpAny_ite ?_))
  split
  · first
      | exact wpAny_bind (wpAny_pure (wpAny_pure (And.intro rfl h0)))
      | exact wpAny_pure (And.intro rfl h0)
  · first
      | exact wpAny_bind (wpAny_rule (wpAny_bind (wpAny_standAt (wpAny_bind (wpAny_mono h (fun it' s' h' => wpAny_pure (And.intro rfl h')) fun _ _ x => x)))))
      | (refine wpAny_bind (wpAny_rule ?_); show wpAny _ _ (standAt iter₂.pos >>= _) _ _ s; exact wpAny_bind (wpAny_standAt (wpAny_bind (wpAny_mono h (fun it' s' h' => wpAny_pure (And.intro rfl h')) fun _ _ x => x))))
theorem loop_out (I : Nat → Shared → Prop) (hs : ∀ v, foldedSetIterable iter₂ env v = pure v)
    (turn : ∀ n s, I n s → wpAny (model prog w) A (pyNext it) (fun r s₁ => match r with
      | none => R (.ok .next) s₁
      | some v => wpAny (model prog w) A (assign (.Name x px) env v) (fun _ s₂ => wpAny (model prog w) A (eval iter₂ env) (fun x₂ s₃ => wpAny (model prog w) A (pyIter x₂) (fun it₂ s₄ =>
          codeAny (model prog w) A (.compStart (lc2 elt x px iter₁ y py iter₂ scope pos) 1 it₂ acc env) (fun r s' => match r with | .ok _ => ∃ m, m < n ∧ I m s' | .error e => cameBackBy (model prog w) A env (notedBy (model prog w) A env fun e s' => R (.error e) s') e s') s₄)
          (notedBy (model prog w) A env fun e s' => R (.error e) s') s₃) (notedBy (model prog w) A env fun e s' => R (.error e) s') s₂) (notedBy (model prog w) A env fun e s' => R (.error e) s') s₁) (notedBy (model prog w) A env fun e s' => R (.error e) s') s)
    (n : Nat) (h : I n s) : codeAny (model prog w) A (.compLoop (lc2 elt x px iter₁ y py iter₂ scope pos) 0 it acc env) R s := by
  refine codeAny_loop rfl I (fun n s hI => ?_) n h
  show wpAny _ A ((compTurn (lc2 elt x px iter₁ y py iter₂ scope pos) 0 it acc env).onRaise (fun x => do noteFrame x env; theTreesLotGoes x)) _ _ s
  refine wpAny_noted ?_
  rw [turn_out]
  refine wpAny_bind (wpAny_standAt (wpAny_bind (wpAny_mono (turn n s hI) (fun r s₁ h₁ => ?_) fun _ _ h' => h')))
  cases r with
  | none => exact wpAny_pure h₁
  | some v =>
    refine wpAny_bind (wpAny_of_eq rfl ?_)
    refine wpAny_bind (wpAny_mono h₁ (fun _ s₂ h₂ => wpAny_bind (wpAny_mono h₂ (fun x₂ s₃ h₃ => wpAny_bind (wpAny_standAt (wpAny_bind (wpAny_of_eq (hs x₂) (wpAny_bind (wpAny_holding (wpAny_mono h₃ (fun it₂ s₄ h₄ => ?_) fun _ _ h' => h'))))))) fun _ _ h' => h')) fun _ _ h' => h')
    refine wpAny_bind (wpAny_runOwn (codeAny_mono h₄ fun r s' hr => ?_))
    cases r with
    | ok f => exact wpAny_pure ⟨rfl, hr⟩
    | error e => exact hr
end
end Mine
end

section
open PySem PySem.W PyProof.Rows PySem.Calls
set_option maxRecDepth 100000
namespace Mine
theorem StoreAt.local2 {M : Model} {A : Around} {cenv : Env} {x y : Str} {v : Value} (hxy : x ≠ y) (hk : cenv.scope.kind = .function) (hy : cenv.kindOf y = some .local) :
    StoreAt M A cenv y cenv.locals (fun h => ∃ m, h.Ns cenv.locals m ∧ m x = some v) (fun u h => ∃ m, h.Ns cenv.locals m ∧ m x = some v ∧ m y = some u) where
  store := fun s u Q E ⟨m, hn, hv⟩ post => wpAny_storeName_local hy hn (fun h' hn' hs => post h' _ hs ⟨_, hn', by rw [if_neg hxy]; exact hv, by simp⟩) (by rw [hk]; rfl)
  can := fun _ _ ⟨m, hn, hv, _⟩ => ⟨m, hn, hv⟩
  kc := fun _ _ ⟨m, hn, hv⟩ k => ⟨m, hn.at' k, hv⟩
  kh := fun _ _ _ ⟨m, hn, hv, hu⟩ k => ⟨m, hn.at' k, hv, hu⟩
  live := fun _ ⟨m, ⟨o, es, ep, e, hd, _⟩, _⟩ => ⟨o, e, fun items n q => by rw [hd] at q; cases q⟩
section
variable {prog : Program} {w : World} {A : Around}
theorem comp_two {elt iter₁ iter₂ : Expr} {x y : Str} {px py : Pos} {scope : Scope} {cl : List (Str × Addr)} {pos : Pos} {env : Env} {h₀ : Heap} {ds es : List PyData} (g : PyData → PyData → PyData)
    (hcell : ∀ y ∈ scope.names, y.2 ≠ .cell) (hkind : scope.kind = .function) (hx : scope.names.lookup x = some .local) (hy : scope.names.lookup y = some .local) (hxy : x ≠ y)
    (hs₂ : ∀ C v, foldedSetIterable iter₂ (compEnvC scope cl C env) v = pure v)
    (hsrc : SrcK prog w A iter₁ env h₀ ds) (hlen : ds.length * es.length ≤ 1000)
    (hsrc₂ : ∀ C m v d h, d ∈ ds → Kp h₀ h → h.Ns C m → m x = some v → Rd0 h v d → SrcK prog w A iter₂ (compEnvC scope cl C env) h es)
    (helt : ∀ C m v u d e h, d ∈ ds → e ∈ es → Kp h₀ h → h.Ns C m → m x = some v → m y = some u → Rd0 h v d → Rd0 h u e → EvK (model prog w) A elt (compEnvC scope cl C env) h (g d e)) :
    CompK prog w A (lc2 elt x px iter₁ y py iter₂ scope pos) iter₁ scope cl env h₀ (.list (ds.flatMap fun d => es.map (g d))) := fun RR s E S ht kn sz hRR => by
  refine hsrc s _ _ S ht kn sz fun I fp P St h₁ h₂ tk htk k₁ k₂ hI₁ W hst hfp hlive hit _ => ?_
  refine wpAny_newObj_type (wpAny_newFunctionEnv hcell (by intro y hy; simp at hy) (fun h₃ hns₃ hsb₃ => ?_) hkind)
  dsimp only at hns₃ hsb₃ ⊢
  generalize hH : h₂.push { cls := .type "list", dict := none, data := .seq ([] : List Value).toArray } = H at hns₃ hsb₃ ⊢
  have hC : H.objs.size = h₂.objs.size + 1 := by rw [← hH, Heap.size_push]
  have up : Kp h₂ h₃ := fun b o e => hsb₃.extBut b o (by rw [hC]; exact Nat.ne_of_lt (Nat.lt_succ_of_lt (Heap.lt_size e))) (Heap.get?_push_of_some _ (hH ▸ Heap.get?_push_of_some _ e))
  have hDC : h₂.objs.size ≠ H.objs.size := by rw [hC]; exact Nat.ne_of_lt (Nat.lt_succ_self _)
  have hD₃ : h₃.get? h₂.objs.size = some (plist #[] 0) := hsb₃.extBut _ _ hDC (Heap.get?_push_of_some _ (hH ▸ Heap.get?_push_size _ rfl))
  obtain ⟨oI, eI⟩ := hlive 0 h₂ hst
  have live2 : ∀ {b o}, h₂.get? b = some o → b ≠ h₂.objs.size ∧ b ≠ H.objs.size := fun e => ⟨Nat.ne_of_lt (Heap.lt_size e), by rw [hC]; exact Nat.ne_of_lt (Nat.lt_succ_of_lt (Heap.lt_size e))⟩
  have k₁₂ : Kp s.heap h₂ := k₁.trans k₂
  have nD : ∀ {h : Heap}, Kp h h₂ → h.get? h₂.objs.size = none := fun {h} k => by
    cases e : h.get? h₂.objs.size with
    | none => rfl
    | some o => exact absurd rfl (live2 (k _ _ e)).1
  have nC : ∀ {h : Heap}, Kp h h₂ → h.get? H.objs.size = none := fun {h} k => by
    cases e : h.get? H.objs.size with
    | none => rfl
    | some o => exact absurd rfl (live2 (k _ _ e)).2
  have sz₃ : Sz S h₃ := sz.up (k₁₂.trans up)
  have hSI : ¬ S I := fun q => by
    obtain ⟨o, e⟩ := sz I q
    rw [k₁ _ _ e] at hI₁; cases hI₁
  have hne : ∀ {b o}, h₁.get? b = some o → b ≠ I ∧ b ≠ h₂.objs.size ∧ b ≠ H.objs.size := fun {b o} e => ⟨fun q => (by rw [q, hI₁] at e; cases e), (live2 (k₂ _ _ e)).1, (live2 (k₂ _ _ e)).2⟩
  have hSD := sz.fresh (nD k₁₂)
  have hSC := sz.fresh (nC k₁₂)
  have hDI : h₂.objs.size ≠ I := fun q => (live2 eI).1 q.symm
  have hCI : H.objs.size ≠ I := fun q => (live2 eI).2 q.symm
  have hDf : h₂.objs.size ∉ fp := fun hb => by obtain ⟨o, e⟩ := hfp _ hb; exact (live2 e).1 rfl
  have hCf : H.objs.size ∉ fp := fun hb => by obtain ⟨o, e⟩ := hfp _ hb; exact (live2 e).2 rfl
  have hhh : ∀ a o, h₀.get? a = some o → ¬ S a ∧ a ≠ I ∧ a ≠ h₂.objs.size ∧ a ≠ H.objs.size ∧ h₃.get? a = some o := fun a o e => by
    obtain ⟨n1, e1⟩ := kn a o e
    obtain ⟨n2, n3, n4⟩ := hne (k₁ _ _ e1)
    exact ⟨n1, n2, n3, n4, up _ _ (k₁₂ _ _ e1)⟩
  have hitem : ∀ i v d, ds[i]? = some d → P i v → Rd (Ex S I h₂.objs.size H.objs.size) h₃ v d := fun i v d hd hp => by
    refine (hit i v d hd hp).over fun a o n e _ => ⟨?_, up _ _ (k₂ _ _ e)⟩
    obtain ⟨n1, n2, n3⟩ := hne e
    rintro (h | h | h | h)
    · exact n h
    · exact n1 h
    · exact n2 h
    · exact n3 h
  have hst₃ : St 0 h₃ := W.frame _ _ _ hst fun b _ o e => up b o e
  have hfin : ∀ h' tk' items cnt, 0 < tk' → (∃ m, h'.Ns H.objs.size m) → (∀ b o, b ≠ I → b ≠ H.objs.size → b ≠ h₂.objs.size → h₃.get? b = some o → h'.get? b = some o) → h'.get? h₂.objs.size = some (plist items cnt) →
      RdAll (Ex S I h₂.objs.size H.objs.size) h' items.toList (ds.flatMap fun d => es.map (g d)) → RR (.ref h₂.objs.size) H.objs.size (.ok .next) { s with heap := h', toks := tk' } := fun h' tk' items cnt q1 q2 q3 q4 q5 => by
    refine hRR _ _ h' tk' q1 q2 (nC k₁₂) (nD k₁₂) hDC.symm (fun b o e => ?_) (.list ?_ q4 (q5.over fun a o n e _ => ⟨fun q => n ?_, e⟩))
    · obtain ⟨n2, n3, n4⟩ := hne (k₁ _ _ e)
      exact q3 b o n2 n4 n3 (up _ _ (k₁₂ _ _ e))
    · rintro (h | h)
      · exact hSD h
      · exact hDC h
    · rcases q with h | h
      · exact .inl h
      · exact .inr (.inr (.inr h))
  clear hRR
  generalize h₂.objs.size = D at *
  generalize H.objs.size = C at *
  have T : StoreAt (model prog w) A (compEnvC scope cl C env) x C (fun h => ∃ m, h.Ns C m) (fun v h => ∃ m, h.Ns C m ∧ m x = some v) :=
    StoreAt.local (cenv := compEnvC scope cl C env) hkind (lookup_relabel_local hx)
  have hlen2 : ∀ i, ((ds.take i).flatMap fun d => es.map (g d)).length ≤ ds.length * es.length := fun i => by
    have : ∀ l : List PyData, (l.flatMap fun d => es.map (g d)).length = l.length * es.length := by
      intro l
      induction l with
      | nil => simp
      | cons a l ih => simp [List.flatMap_cons, ih, Nat.add_mul, Nat.add_comm]
    rw [this, List.length_take]
    exact Nat.mul_le_mul_right _ (Nat.min_le_right _ _)
  have loop : ∀ s₃ : Shared, s₃ = { s with heap := h₃, toks := tk + ([] : List (Str × Value)).length } →
      codeAny (model prog w) A (.compLoop (lc2 elt x px iter₁ y py iter₂ scope pos) 0 (.ref I) (.ref D) (compEnvC scope cl C env)) (RR (.ref D) C) s₃ := by
    rintro s₃ rfl
    refine turns (S := S) (D := D) (out := fun i => (ds.take i).flatMap fun d => es.map (g d)) (px := px)
      (BT := fun Q' s₂ => wpAny (model prog w) A (eval iter₂ (compEnvC scope cl C env)) (fun x₂ s₃ => wpAny (model prog w) A (pyIter x₂) (fun it₂ s₄ =>
          codeAny (model prog w) A (.compStart (lc2 elt x px iter₁ y py iter₂ scope pos) 1 it₂ (.ref D) (compEnvC scope cl C env)) (fun r s' => match r with | .ok _ => Q' s' | .error e => cameBackBy (model prog w) A (compEnvC scope cl C env) (notedBy (model prog w) A (compEnvC scope cl C env) fun e s' => RR (.ref D) C (.error e) s') e s') s₄)
          (notedBy (model prog w) A (compEnvC scope cl C env) fun e s' => RR (.ref D) C (.error e) s') s₃) (notedBy (model prog w) A (compEnvC scope cl C env) fun e s' => RR (.ref D) C (.error e) s') s₂)
      (fun J turn n hJ => loop_out J (hs₂ C) turn n hJ) W T hlive hDC hDI hCI hDf hCf htk hst₃ ⟨_, hns₃⟩ ⟨#[], 0, hD₃, by simpa using RdAll.nil⟩ hitem ?_ ?_
    · intro i d v h₄ t₄ items cnt Q' hd ht₄ hhas hrv hD₄ hrd hk hI post
      obtain ⟨m₄, hm₄, hmx⟩ := hhas
      have hmem : d ∈ ds := List.mem_of_getElem? hd
      have nXe : ¬ Ex2 S I D C := by
        rintro (h | h | h)
        · exact hSC h
        · exact hCI h
        · exact hDC h.symm
      have kph : Kp h₀ (hideP (Ex2 S I D) h₄) := fun a o e => by
        obtain ⟨n1, n2, n3, n4, e'⟩ := hhh a o e
        refine hideP_get.mpr ⟨?_, hk a o n2 n4 n3 e'⟩
        rintro (h | h | h)
        · exact n1 h
        · exact n2 h
        · exact n3 h
      have sz₄ : Sz (Ex2 S I D) h₄ := by
        rintro a (h | rfl | rfl)
        · obtain ⟨o, e⟩ := sz₃ a h
          exact ⟨o, hk a o (fun q => hSI (q ▸ h)) (fun q => hSC (q ▸ h)) (fun q => hSD (q ▸ h)) e⟩
        · exact hI
        · exact ⟨_, hD₄⟩
      have hrv' : Rd0 (hideP (Ex2 S I D) h₄) v d := hrv.over fun a o n e _ => ⟨id, hideP_get.mpr ⟨fun q => n (by
        rcases q with h | h | h
        · exact .inl h
        · exact .inr (.inl h)
        · exact .inr (.inr (.inl h))), e⟩⟩
      refine hsrc₂ C m₄ v d (hideP (Ex2 S I D) h₄) hmem kph (hm₄.at' fun o e => hideP_get.mpr ⟨nXe, e⟩) hmx hrv' _ _ _ (Ex2 S I D) ht₄ (Kn.hide _ _) sz₄ fun I' fp' P' St' g₁ g₂ t₅ ht₅ kg₁ kg₂ hI' W' hst' hfp' hlive' hit' hfs' => ?_
      have kg : Kp h₄ g₂ := kg₁.trans kg₂
      have fresh' : ∀ {b o}, h₄.get? b = some o → b ≠ I' := fun {b o} e q => by rw [q] at e; rw [kg₁ _ _ e] at hI'; cases hI'
      have hDI' : D ≠ I' := fresh' hD₄
      have hCI' : C ≠ I' := by obtain ⟨o, _, _, e, _⟩ := hm₄; exact fresh' e
      have hII' : I ≠ I' := by obtain ⟨o, e⟩ := hI; exact fresh' e
      have hmC : g₂.Ns C m₄ := hm₄.keeps kg
      have hDf' : D ∉ fp' := fun hb => (hfs' _ hb).1 (.inr (.inr rfl))
      have hCf' : C ∉ fp' := fun hb => by
        rcases (hfs' _ hb).2 with h | ⟨o, its, n, e, hd'⟩
        · exact hCI' h
        · obtain ⟨o', es', ep, e', hd'', _⟩ := hmC
          rw [e] at e'; cases e'
          rw [hd'] at hd''; cases hd''
      have T' : StoreAt (model prog w) A (compEnvC scope cl C env) y C (fun h => ∃ m, h.Ns C m ∧ m x = some v) (fun u h => ∃ m, h.Ns C m ∧ m x = some v ∧ m y = some u) :=
        StoreAt.local2 (cenv := compEnvC scope cl C env) hxy hkind (lookup_relabel_local hy)
      have step : ((ds.take (i + 1)).flatMap fun d => es.map (g d)) = ((ds.take i).flatMap fun d => es.map (g d)) ++ es.map (g d) := by
        rw [List.take_add_one, hd, List.flatMap_append]; simp
      have lenb : ∀ j, (((ds.take i).flatMap fun d => es.map (g d)) ++ (es.take j).map (g d)).length ≤ 1000 := fun j => by
        have h1 := hlen2 (i + 1)
        rw [step, List.length_append, List.length_map] at h1
        rw [List.length_append, List.length_map, List.length_take]
        have := Nat.min_le_right j es.length
        omega
      have inner : ∀ s₅ : Shared, s₅ = { s with heap := g₂, toks := t₅ } →
          codeAny (model prog w) A (.compLoop (lc2 elt x px iter₁ y py iter₂ scope pos) 1 (.ref I') (.ref D) (compEnvC scope cl C env)) (fun r s' => match r with | .ok _ => Q' s' | .error e => cameBackBy (model prog w) A (compEnvC scope cl C env) (notedBy (model prog w) A (compEnvC scope cl C env) fun e s' => RR (.ref D) C (.error e) s') e s') s₅ := by
        rintro s₅ rfl
        refine turns (S := fun a => S a ∨ a = I) (D := D) (out := fun j => ((ds.take i).flatMap fun d => es.map (g d)) ++ (es.take j).map (g d)) (px := py)
          (BT := fun Q'' s₆ => wpAny (model prog w) A (eval elt (compEnvC scope cl C env)) (fun z s₇ => wpAny (model prog w) A (call (.builtin "list.append") [.ref D, z]) (fun _ s₈ => Q'' s₈) (notedBy (model prog w) A (compEnvC scope cl C env) fun e s' => cameBackBy (model prog w) A (compEnvC scope cl C env) (notedBy (model prog w) A (compEnvC scope cl C env) fun e s' => RR (.ref D) C (.error e) s') e s') s₇)
            (notedBy (model prog w) A (compEnvC scope cl C env) fun e s' => cameBackBy (model prog w) A (compEnvC scope cl C env) (notedBy (model prog w) A (compEnvC scope cl C env) fun e s' => RR (.ref D) C (.error e) s') e s') s₆)
          (fun J turn n hJ => loop_in J turn n hJ) W' T' hlive' hDC hDI' hCI' hDf' hCf' ht₅ hst' ⟨_, hmC, hmx⟩ ⟨items, cnt, kg _ _ hD₄, ?_⟩ ?_ ?_ ?_
        · rw [List.take_zero, List.map_nil, List.append_nil]
          refine hrd.over fun a o n e _ => ⟨?_, kg _ _ e⟩
          rintro ((h | h) | h | h | h)
          · exact n (.inl h)
          · exact n (.inr (.inl h))
          · exact fresh' e h
          · exact n (.inr (.inr (.inl h)))
          · exact n (.inr (.inr (.inr h)))
        · intro j u e he hp
          refine (hit' j u e he hp).over fun a o n e sq => ⟨?_, kg₂ _ _ e⟩
          rintro ((h | h) | h | h | h)
          · exact n (.inl h)
          · exact n (.inr (.inl h))
          · rw [h, hI'] at e; cases e
          · exact n (.inr (.inr h))
          · obtain ⟨o', es', ep, e', hd'', _⟩ := hm₄.keeps kg₁
            rw [h, e'] at e; cases e
            obtain ⟨its, n, hd'⟩ := sq
            rw [hd''] at hd'; cases hd'
        · intro j e u h₅ t₆ items' cnt' Q'' hej ht₆ hhas' hru hD₅ hrd₅ hk₅ hI₅ post'
          obtain ⟨m₅, hm₅, hmx₅, hmy₅⟩ := hhas'
          have hmeme : e ∈ es := List.mem_of_getElem? hej
          have up₅ : ∀ {b o}, b ≠ C → b ≠ D → h₄.get? b = some o → h₅.get? b = some o := fun {b o} h1 h2 e => hk₅ b o (fresh' e) h1 h2 (kg _ _ e)
          have up₃ : ∀ {b o}, b ≠ I → b ≠ C → b ≠ D → h₃.get? b = some o → h₅.get? b = some o ∧ b ≠ I' := fun {b o} h0 h1 h2 e => ⟨up₅ h1 h2 (hk b o h0 h1 h2 e), fresh' (hk b o h0 h1 h2 e)⟩
          have nX5 : ¬ Ex2 (fun a => S a ∨ a = I) I' D C := by
            rintro ((h | h) | h | h)
            · exact hSC h
            · exact hCI h
            · exact hCI' h
            · exact hDC h.symm
          have sz₅ : Sz (Ex2 (fun a => S a ∨ a = I) I' D) h₅ := by
            rintro a ((h | rfl) | rfl | rfl)
            · obtain ⟨o, e⟩ := sz₃ a h
              exact ⟨o, (up₃ (fun q => hSI (q ▸ h)) (fun q => hSC (q ▸ h)) (fun q => hSD (q ▸ h)) e).1⟩
            · obtain ⟨o, e⟩ := hI
              exact ⟨o, up₅ (Ne.symm hCI) (Ne.symm hDI) e⟩
            · exact hI₅
            · exact ⟨_, hD₅⟩
          refine emit (s := s) T' (helt C m₅ v u d e (hideP (Ex2 (fun a => S a ∨ a = I) I' D) h₅) hmem hmeme ?_ (hm₅.at' fun o e => hideP_get.mpr ⟨nX5, e⟩) hmx₅ hmy₅ ?_ ?_) (Kn.hide _ _) sz₅ ht₆ ⟨m₅, hm₅, hmx₅⟩ hD₅ hrd₅ (lenb j) ?_
          · intro a o e
            obtain ⟨n1, n2, n3, n4, e'⟩ := hhh a o e
            obtain ⟨e5, n5⟩ := up₃ n2 n4 n3 e'
            refine hideP_get.mpr ⟨?_, e5⟩
            rintro ((h | h) | h | h)
            · exact n1 h
            · exact n2 h
            · exact n5 h
            · exact n3 h
          · refine hrv.over fun a o n e _ => ⟨id, hideP_get.mpr ⟨?_, up₅ (fun q => n (.inr (.inr (.inr q)))) (fun q => n (.inr (.inr (.inl q)))) e⟩⟩
            rintro ((h | h) | h | h)
            · exact n (.inl h)
            · exact n (.inr (.inl h))
            · exact fresh' e h
            · exact n (.inr (.inr (.inl h)))
          · refine hru.over fun a o n e _ => ⟨id, hideP_get.mpr ⟨?_, e⟩⟩
            rintro (h | h | h)
            · exact n (.inl h)
            · exact n (.inr (.inl h))
            · exact n (.inr (.inr (.inl h)))
          · intro h' tk' items'' cnt'' q1 q2 q3 q4
            refine post' h' tk' items'' cnt'' q1 ⟨m₅, hm₅.at' fun o e => q2 C o (Ne.symm hDC) e, hmx₅⟩ (fun b o hb _ e => q2 b o hb e) q3 ?_
            rw [List.take_add_one, hej, List.map_append, ← List.append_assoc]
            exact q4
        · intro h' tk' items' cnt' q1 q2 q3 q4 q5 _
          obtain ⟨m', hm', _⟩ := q2
          refine post h' tk' items' cnt' q1 ⟨m', hm'⟩ (fun b o h1 h2 e => q3 b o (fresh' e) h2 h1 (kg _ _ e)) q4 ?_
          show RdAll _ _ _ ((ds.take (i + 1)).flatMap fun d => es.map (g d))
          rw [step]
          refine (by simpa using q5 : RdAll (Ex (fun a => S a ∨ a = I) I' D C) h' items'.toList (((ds.take i).flatMap fun d => es.map (g d)) ++ es.map (g d))).over fun a o n e _ => ⟨?_, e⟩
          rintro (h | h | h | h)
          · exact n (.inl (.inl h))
          · exact n (.inl (.inr h))
          · exact n (.inr (.inr (.inl h)))
          · exact n (.inr (.inr (.inr h)))
      exact start_in (inner _ rfl) (W'.self 0 _ _ _ hst' (inner _ rfl))
    · intro h' tk' items cnt q1 q2 q3 q4 q5 _
      exact hfin h' tk' items cnt q1 q2 q3 q4 (by simpa using q5)
  exact codeAny_compStart_list (loop _ rfl) (W.self 0 _ _ _ hst₃ (loop _ rfl))
end
end Mine
end

section
open PySem PySem.W PyProof.Rows PySem.Calls
set_option maxRecDepth 100000
namespace Mine
/-- kept, but for the slots of the frames -/
noncomputable def KpF (fs : List Addr) (h h' : Heap) : Prop := ∀ b o, h.get? b = some o → (b ∉ fs → h'.get? b = some o) ∧ (b ∈ fs → ∃ sl, h'.get? b = some { o with slots := sl })
theorem KpF.of {fs : List Addr} {h h' : Heap} (k : Kp h h') : KpF fs h h' := fun b o e => ⟨fun _ => k _ _ e, fun _ => ⟨o.slots, k _ _ e⟩⟩
theorem KpF.refl (fs : List Addr) (h : Heap) : KpF fs h h := .of (.refl _)
theorem KpF.trans {fs : List Addr} {a b c : Heap} (x : KpF fs a b) (y : KpF fs b c) : KpF fs a c := fun i o e =>
  ⟨fun n => (y _ _ ((x _ _ e).1 n)).1 n, fun m => let ⟨_, e₁⟩ := (x _ _ e).2 m; let ⟨sl, e₂⟩ := (y _ _ e₁).2 m; ⟨sl, e₂⟩⟩
theorem KpF.ns {fs : List Addr} {h h' : Heap} {L : Addr} {m : Str → Option Value} (k : KpF fs h h') (n : h.Ns L m) : h'.Ns L m := by
  obtain ⟨o, es, ep, ho, hd, r⟩ := n
  by_cases hm : L ∈ fs
  · obtain ⟨sl, e⟩ := (k _ _ ho).2 hm; exact ⟨_, es, ep, e, hd, r⟩
  · exact ⟨o, es, ep, (k _ _ ho).1 hm, hd, r⟩
/-- the frames of the stack are tables of names -/
noncomputable def Stk (l : List Env) (h : Heap) : Prop := ∀ env ∈ l, env.scope.kind ≠ .module ∧ ∃ L m, env.frame = some L ∧ h.Ns L m
theorem Stk.up {l : List Env} {fs : List Addr} {h h' : Heap} (x : Stk l h) (k : KpF fs h h') : Stk l h' := fun env he =>
  let ⟨a, L, m, e, n⟩ := x env he; ⟨a, L, m, e, k.ns n⟩
theorem ns_notFields {h : Heap} {L : Addr} {m : Str → Option Value} (n : h.Ns L m) {o : Obj} (e : h.get? L = some o) : ∀ vs, o.data ≠ .fields vs := fun vs q => by
  obtain ⟨o', es, ep, ho, hd, _⟩ := n
  rw [e] at ho; cases ho
  rw [hd] at q; cases q
theorem Stk.fun {h base : Heap} : ∀ {l : List Env}, Stk l h → (∀ b ∈ l.filterMap (·.frame), base.get? b = none) → h.FunFrames base l
  | [], _, _ => trivial
  | env :: rest, x, hb => by
    obtain ⟨hk, L, m, hf, n⟩ := x env (.head _)
    obtain ⟨o, es, ep, ho, hd, _⟩ := n
    refine ⟨hk, ⟨L, o, hf, hb L (List.mem_filterMap.mpr ⟨env, .head _, hf⟩), ho, fun vs q => by rw [hd] at q; cases q⟩, Stk.fun (fun e he => x e (.tail _ he)) fun b hm => hb b ?_⟩
    obtain ⟨e, he, hf'⟩ := List.mem_filterMap.mp hm
    exact List.mem_filterMap.mpr ⟨e, .tail _ he, hf'⟩
section
variable {prog : Program} {w : World} {A : Around} {env : Env} {E : Value → Shared → Prop}
/-- a new exception of the frame's own, caught -/
theorem caught {s : Shared} {h : Heap} {outer : List Env} {L e : Addr} {X T : String} {x : Str} {np pos : Pos} {b₀ : Stmt} {suite : List Stmt} {rest : List ExceptHandler} {Q : Flow → Shared → Prop}
    (hfr : A.frames = some (env :: outer)) (hf : env.frame = some L) (st : Stk (env :: outer) h) (hx : Heap.NewExc h s.heap e X)
    (hname : NameK (model prog w) (A.mark (some (.ref e))) env x (hideP (fun a => a ∈ (env :: outer).filterMap (·.frame)) h) (.type T))
    (hexc : isSubtype (.type T) (.type "BaseException") = pure true) (hnt : isSubtype (.type ((Manifest.find? T).elim "type" fun y => y.metatype)) (.type "tuple") = pure false) (hsub : isSubtype (.type X) (.type T) = pure true)
    (k : ∀ h' (EE : Value → Shared → Prop), KpF ((env :: outer).filterMap (·.frame)) h h' → wpAny (model prog w) (A.mark (some (.ref e))) (execs (b₀ :: suite) env) Q EE { s with heap := h' }) :
    wpAny (model prog w) A (noteFrame (.ref e) env) (fun _ s₂ => wpAny (model prog w) A (setFlight (.ref e) none) (fun _ s₃ =>
      wpAny (model prog w) A (handleBy (.ref e) env (.ExceptHandler (some (.Name x np)) none (b₀ :: suite) pos :: rest)) Q E s₃) E s₂) E s := by
  generalize hfs : (env :: outer).filterMap (·.frame) = fs at hname k
  have gone : ∀ b ∈ (env :: outer).filterMap (·.frame), (hideP (fun a => a ∈ fs) h).get? b = none := fun b hb => hideP_pos (hfs ▸ hb)
  have kb : (hideP (fun a => a ∈ fs) h).StaysIn s.heap := fun b o e => hx.keeps _ _ (hideP_get.mp e).2
  have hen : (hideP (fun a => a ∈ fs) h).get? e = none := by
    cases q : (hideP (fun a => a ∈ fs) h).get? e with
    | none => rfl
    | some o => have := (hideP_get.mp q).2; rw [hx.new] at this; cases this
  have st' : Stk (env :: outer) s.heap := st.up (KpF.of (fs := fs) fun b o q => hx.keeps b o q)
  obtain ⟨ob, tp, he, hcls, hd⟩ := hx.there
  unfold noteFrame
  simp only [hf]
  refine wpAny_bind (wpAny_field he hd (x := .none) rfl ?_)
  rw [if_neg (by decide)]
  refine wpAny_entryW (a0 := tp) hfr (st'.fun gone) hf he kb hen hd (by show 1 < 6; decide) rfl fun h₁ hN => ?_
  obtain ⟨k1, k2, k3, k4⟩ := hN
  rw [hcls] at k3
  refine wpAny_setFlight_noneW k1 k2 k3 fun h₂ j1 j2 j3 j4 => ?_
  have u₂ : s.heap.UpToSlots h₂ := Heap.UpToSlots.trans k4 fun b o e hn => ⟨o.slots, j4 b o e hn⟩
  refine wpAny_handleBy_builtin (X := X) (T := T) (b := true) hexc hnt hsub (hname np _ _ _ (fun b o q => j1 b o q) ⟨rfl, j3.at.there, ?_⟩)
  rw [if_pos rfl]
  refine lands_againW ⟨j1, hen, j2, j3⟩ fun h₃ hfl hs₃ => ?_
  have u₃ : s.heap.UpToSlots h₃ := u₂.trans hs₃
  refine k h₃ _ fun b o q => ⟨fun n => hfl.1 b o (hideP_get.mpr ⟨n, q⟩), fun m => ?_⟩
  rw [← hfs] at m
  obtain ⟨env', he', hf'⟩ := List.mem_filterMap.mp m
  obtain ⟨_, L', m', hf'', hn'⟩ := st env' he'
  rw [hf'] at hf''; cases hf''
  exact u₃ b o (hx.keeps _ _ q) (ns_notFields hn' q)
end
end Mine
end

section
open PySem PySem.W PyProof.Rows PySem.Calls
set_option maxRecDepth 100000
namespace Mine
noncomputable def unInt : PyData → Int | .int k => k | _ => 0
noncomputable def unStr : PyData → Str | .str x => x | _ => ⟨#[]⟩
noncomputable def unInts : PyData → List Int | .list l => l.map unInt | _ => []
noncomputable def unStrs : PyData → List Str | .list l => l.map unStr | _ => []
theorem unInts_eq (l : List Int) : unInts (.list (l.map .int)) = l := by
  show (l.map PyData.int).map unInt = l
  rw [List.map_map]; exact (List.map_congr_left fun _ _ => rfl).trans (List.map_id _)
theorem unStrs_eq (l : List Str) : unStrs (.list (l.map .str)) = l := by
  show (l.map PyData.str).map unStr = l
  rw [List.map_map]; exact (List.map_congr_left fun _ _ => rfl).trans (List.map_id _)
section
variable {prog : Program} {w : World} {A : Around}
theorem comp_map {α : Type} (f : α → PyData) (u : PyData → α) (huf : ∀ a, u (f a) = a) (g : α → PyData) (xs : List α) {elt iter : Expr} {x : Str} {px : Pos} {scope : Scope} {cl : List (Str × Addr)} {pos : Pos} {env : Env} {h₀ : Heap}
    (hcell : ∀ y ∈ scope.names, y.2 ≠ .cell) (hkind : scope.kind = .function) (hx : scope.names.lookup x = some .local)
    (hsrc : SrcK prog w A iter env h₀ (xs.map f)) (hlen : xs.length ≤ 1000)
    (helt : ∀ C m v a h, a ∈ xs → Kp h₀ h → h.Ns C m → m x = some v → Rd0 h v (f a) → EvK (model prog w) A elt (compEnvC scope cl C env) h (g a)) :
    CompK prog w A (.ListComp elt [⟨.Name x px, iter, [], 0⟩] scope pos) iter scope cl env h₀ (.list (xs.map g)) := by
  have := comp_one (prog := prog) (w := w) (A := A) (elt := elt) (iter := iter) (x := x) (px := px) (ifs := []) (scope := scope) (cl := cl) (pos := pos) (env := env) (h₀ := h₀) (ds := xs.map f) (fun _ => true) (fun d => g (u d)) hcell hkind hx hsrc (by simpa using hlen) (fun _ _ _ _ _ _ _ _ _ _ => .inl ⟨rfl, rfl⟩) fun C m v d h hd _ k hn hv hr => by
    obtain ⟨a, ha, rfl⟩ := List.mem_map.mp hd
    rw [huf]
    exact helt C m v a h ha k hn hv hr
  rw [List.filter_eq_self.mpr (fun _ _ => rfl), List.map_map] at this
  rwa [show (fun d => g (u d)) ∘ f = g from funext fun a => by show g (u (f a)) = g a; rw [huf]] at this
theorem comp_mapcell {α : Type} (f : α → PyData) (u : PyData → α) (huf : ∀ a, u (f a) = a) (g : α → PyData) (xs : List α) {elt iter : Expr} {x : Str} {px : Pos} {scope : Scope} {cl : List (Str × Addr)} {pos : Pos} {env : Env} {h₀ : Heap}
    (hcf : ∀ n acc, cellsFrom n scope.names acc = (x, n) :: acc) (hpc : ∀ h, pushCells h scope.names = h.push { cls := .type "cell", data := .cell none }) (hkind : scope.kind = .function)
    (hx : ∀ C c, (compEnvC scope ((x, c) :: cl) C env).kindOf x = some .cell)
    (hsrc : SrcK prog w A iter env h₀ (xs.map f)) (hlen : xs.length ≤ 1000)
    (helt : ∀ C c v a h, a ∈ xs → Kp h₀ h → h.IsCell c (some v) → Rd0 h v (f a) → EvK (model prog w) A elt (compEnvC scope ((x, c) :: cl) C env) h (g a)) :
    CompK prog w A (.ListComp elt [⟨.Name x px, iter, [], 0⟩] scope pos) iter scope cl env h₀ (.list (xs.map g)) := by
  have := comp_cell (prog := prog) (w := w) (A := A) (elt := elt) (iter := iter) (x := x) (px := px) (ifs := []) (scope := scope) (cl := cl) (pos := pos) (env := env) (h₀ := h₀) (ds := xs.map f) (fun _ => true) (fun d => g (u d)) hcf hpc hkind hx hsrc (by simpa using hlen) (fun _ _ _ _ _ _ _ _ _ => .inl ⟨rfl, rfl⟩) fun C c v d h hd _ k hn hr => by
    obtain ⟨a, ha, rfl⟩ := List.mem_map.mp hd
    rw [huf]
    exact helt C c v a h ha k hn hr
  rw [List.filter_eq_self.mpr (fun _ _ => rfl), List.map_map] at this
  rwa [show (fun d => g (u d)) ∘ f = g from funext fun a => by show g (u (f a)) = g a; rw [huf]] at this
theorem comp_map2 {α : Type} (f : α → PyData) (u : PyData → α) (huf : ∀ a, u (f a) = a) (g : α → α → PyData) (xs : List α) {elt iter₁ iter₂ : Expr} {x y : Str} {px py : Pos} {scope : Scope} {cl : List (Str × Addr)} {pos : Pos} {env : Env} {h₀ : Heap}
    (hcell : ∀ y ∈ scope.names, y.2 ≠ .cell) (hkind : scope.kind = .function) (hx : scope.names.lookup x = some .local) (hy : scope.names.lookup y = some .local) (hxy : x ≠ y)
    (hs₂ : ∀ C v, foldedSetIterable iter₂ (compEnvC scope cl C env) v = pure v)
    (hsrc : SrcK prog w A iter₁ env h₀ (xs.map f)) (hlen : xs.length * xs.length ≤ 1000)
    (hsrc₂ : ∀ C h, Kp h₀ h → SrcK prog w A iter₂ (compEnvC scope cl C env) h (xs.map f))
    (helt : ∀ C m v u a b h, a ∈ xs → b ∈ xs → Kp h₀ h → h.Ns C m → m x = some v → m y = some u → Rd0 h v (f a) → Rd0 h u (f b) → EvK (model prog w) A elt (compEnvC scope cl C env) h (g a b)) :
    CompK prog w A (lc2 elt x px iter₁ y py iter₂ scope pos) iter₁ scope cl env h₀ (.list (xs.flatMap fun a => xs.map (g a))) := by
  have := comp_two (prog := prog) (w := w) (A := A) (elt := elt) (iter₁ := iter₁) (iter₂ := iter₂) (x := x) (y := y) (px := px) (py := py) (scope := scope) (cl := cl) (pos := pos) (env := env) (h₀ := h₀) (ds := xs.map f) (es := xs.map f) (fun d e => g (u d) (u e)) hcell hkind hx hy hxy hs₂ hsrc (by simpa using hlen) (fun C m v d h _ k _ _ _ => hsrc₂ C h k) fun C m v u' d e h hd he k hn hv hu hr hr' => by
    obtain ⟨a, ha, rfl⟩ := List.mem_map.mp hd
    obtain ⟨b, hb, rfl⟩ := List.mem_map.mp he
    rw [huf, huf]
    exact helt C m v u' a b h ha hb k hn hv hu hr hr'
  have e : ((xs.map f).flatMap fun d => (xs.map f).map fun e => g (u d) (u e)) = xs.flatMap fun a => xs.map (g a) := by
    rw [List.flatMap_map]
    congr 1; funext a
    rw [List.map_map, huf]
    exact List.map_congr_left fun b _ => by show g a (u (f b)) = g a b; rw [huf]
  exact e ▸ this

/-- x = value, x a cell -/
theorem do_cell {env : Env} {s : Shared} {S : Addr → Prop} {H : Heap} {tk : Nat} {E : Value → Shared → Prop} {x : Str} {px pos : Pos} {value : Expr} {d : PyData} {c : Addr} {v₀ : Option Value} {Q : Flow → Shared → Prop} (he : EvK (model prog w) A value env (hideP S H) d) (hc : env.cells.lookup x = some c) (hn : H.IsCell c v₀) (hb : s.heap.get? c = none) (kp : Kp s.heap H) (sz : Sz S s.heap) (ht : 0 < tk)
    (hk : env.scope.kind = .function) (hx : env.kindOf x = some .cell) (hs : swapsWith value (some (.Name x px)) pos.line env = pure false)
    (next : ∀ v h' tk', 0 < tk' → Kp s.heap h' → h'.IsCell c (some v) → Rd S h' v d → (∀ b o, b ≠ c → H.get? b = some o → h'.get? b = some o) → Q .next { s with heap := h', toks := tk' }) :
    wpAny (model prog w) A (exec (.Assign [.Name x px] value pos) env) Q E { s with heap := H, toks := tk } := by
  refine wpAny_Assign_Name (he _ _ _ S ht (Kn.hide _ _) (sz.up kp) fun v h₁ t₁ q₁ k₁ r₁ => ?_) hs
  have hn₁ : h₁.IsCell c v₀ := hn.keeps k₁
  refine wpAny_with_toks (n := 1) q₁ (wpAny_storeName_cell hk hx hc hn₁ fun h₂ hn₂ hs₂ hq₂ => ?_)
  have k₂ : ∀ b o, b ≠ c → h₁.get? b = some o → h₂.get? b = some o := fun b o hb e => hs₂.extBut b o hb e
  exact next v h₂ _ hq₂ (fun b o e => k₂ b o (fun q => by rw [q, hb] at e; cases e) (k₁ _ _ (kp _ _ e))) hn₂ (r₁.over (over_cell hn₁ k₂)) fun b o hb e => k₂ b o hb (k₁ _ _ e)
end
end Mine
end

section
open PySem PySem.W PyProof.Rows PySem.Calls
set_option maxRecDepth 100000
set_option maxHeartbeats 1000000
namespace Mine
/-- the numbers k below 9 with n // 2 ** k > 0, none: -1 -/
noncomputable def topL (n : Int) : List Int := [-1] ++ (((List.range 9).filter fun k : Nat => decide (0 < n.fdiv (2 ^ k))).map fun k : Nat => (k : Int))
noncomputable def topF (n : Int) : Int := (topL n).foldl max (-1)
theorem topF_mem (n : Int) : topF n ∈ topL n := by
  have : ∀ (l : List Int) (a : Int), l.foldl max a = a ∨ l.foldl max a ∈ l := by
    intro l
    induction l with
    | nil => intro a; exact .inl rfl
    | cons b l ih =>
      intro a
      rw [List.foldl_cons]
      rcases ih (max a b) with h | h
      · rw [h]
        rcases Int.le_total a b with q | q
        · rw [Int.max_eq_right q]; exact .inr (.head _)
        · rw [Int.max_eq_left q]; exact .inl rfl
      · exact .inr (.tail _ h)
  rcases this (topL n) (-1) with h | h
  · rw [topF, h]; exact .head _
  · exact h
theorem topF_max (n : Int) : ∀ a ∈ topL n, a ≤ topF n := by
  have : ∀ (l : List Int) (a : Int), a ≤ l.foldl max a ∧ ∀ b ∈ l, b ≤ l.foldl max a := by
    intro l
    induction l with
    | nil => intro a; exact ⟨Int.le_refl _, fun _ h => nomatch h⟩
    | cons b l ih =>
      intro a
      rw [List.foldl_cons]
      obtain ⟨h1, h2⟩ := ih (max a b)
      refine ⟨Int.le_trans (Int.le_max_left ..) h1, fun c hc => ?_⟩
      rcases List.mem_cons.mp hc with rfl | hc
      · exact Int.le_trans (Int.le_max_right ..) h1
      · exact h2 c hc
  exact (this (topL n) (-1)).2

theorem c_top {w : World} {A : Around} {mg mb : Str → Option Value} {h₀ : Heap} (G : Gr (hd.heap_39 w.params) mg mb h₀) (hh : A.handled = none) (hdp : A.depth + 2 < recursionLimit) (n : Int) :
    CallK (model Challenge.rw_oy0055_01.row.prog w) A (.ref 101) [.int n] h₀ (.int (topF n)) := .mk fun s Q E S vs ht kn sz rd post => by
  revert G; k_fill; intro G
  cases rd with | cons r₁ r₂ => cases r₂; cases r₁ with | int _ t =>
  refine' enterC [(Str.ofString "number", .int n t)] ?k1 ?k2 ?k3 ?k4 ?k5 ?k6 ?k7 ?k8 ?k9 ?k10 ?k11 ht ?_
  case k1 => exact (G.up kn.kp).K
  case k2 => exact (G.up kn.kp).lim
  case k3 => k_is
  case k4 => k_is
  case k5 => show A.depth < recursionLimit; omega
  case k6 => exact BindsTo.of_eq rfl
  case k7 => intro n x hx; simp only [List.mem_cons, List.not_mem_nil, or_false] at hx; rcases hx with rfl; exact .inr ⟨rfl, rfl⟩
  case k8 => decide
  case k9 => rfl
  case k10 => rfl
  case k11 => rfl
  intro L h₁ tk cells htk hL F N CA
  obtain ⟨oc, rfl, hoc⟩ := CellsAre.one CA
  clear CA
  have hc := N _ (List.mem_singleton.mpr rfl)
  have G' := G.at kn F.keep
  have sz' : Sz S h₁ := sz.up F.keep
  have hcell : (hideP S h₁).IsCell (L + 1) (some (.int n t)) := cell_hide ⟨oc, hc.1, hoc⟩ (sz.fresh hc.2.2)
  refine wpAny_execs_cons (wpAny_Return_some ?_)
  refine (?ev : EvK _ _ _ _ (hideP S h₁) (.int (topF n))) _ _ _ S htk (Kn.hide _ _) sz' fun v h' tk' _ k r => post v h' tk' (Kp.trans F.keep k) r
  refine ev_callb (ds := [.list ((topL n).map .int)]) (nm_max G' ⟨rfl, rfl, rfl⟩ rfl) (.cons rfl ?arg .nil) (call_max hh (topF_mem n) (topF_max n))
  refine ev_eq (ev_bin (ev_list (.cons rfl (ev_neg ev_int) .nil) (by decide)) (ev_comp (ds := (List.range 9).map fun i : Nat => PyData.int i) (cl := [(Str.ofString "number", L + 1)])
    (fun d => match d with | .int k => decide (0 < n.fdiv (2 ^ k.toNat)) | _ => false) id rfl (by decide) rfl (by decide) rfl (fun _ => rfl)
    (src_range1 hh (by decide) (nm_range G' ⟨rfl, rfl, rfl⟩ rfl) (.cons rfl ev_int .nil)) (by simp) ?t ?e) (op_addlist ?l)) ?q
  case l =>
    have := List.length_filter_le (fun d => match d with | PyData.int k => decide (0 < n.fdiv (2 ^ k.toNat)) | _ => false) ((List.range 9).map fun i : Nat => PyData.int i)
    simp only [List.length_map, List.length_range, List.length_cons, List.length_nil] at this ⊢
    omega
  case q =>
    simp only [topL, List.map_append, List.map_cons, List.map_nil, List.map_map, List.filter_map, List.map_id]
    rfl
  case e =>
    intro C m v d h hd hp k hn hv hr
    exact ev_of_name (name_local hn hv rfl rfl (by decide)) hr
  case t =>
    intro C m v d h hd k hn hv hr
    obtain ⟨i, hi, rfl⟩ := List.mem_map.mp hd
    have hi' := List.mem_range.mp hi
    refine .inr ⟨_, rfl, ?_⟩
    refine test_cmp (ev_bin (ev_of_name (name_cell (c := L + 1) rfl (hcell.keeps k) rfl rfl (by decide)) (.int n t)) (ev_bin ev_int (ev_of_name (name_local hn hv rfl rfl (by decide)) hr) (op_pow2 (by omega) (by omega))) (op_fdiv ?_ ?_)) ev_int cmp_gt_int rfl
    · exact Int.ne_of_gt (Int.pow_pos (by decide))
    · exact (by decide : ∀ i < 9, ((2 : Int) ^ ((i : Nat) : Int).toNat).natAbs < 2 ^ 60) i hi'
end Mine
end

section
open PySem PySem.W PyProof.Rows PySem.Calls
set_option maxRecDepth 100000
set_option maxHeartbeats 1000000
namespace Mine
noncomputable def cmpS (x y : Str) : Int := b2i (decide (y.cps.toList < x.cps.toList)) - b2i (decide (x.cps.toList < y.cps.toList))
theorem c_strcoll {w : World} {A : Around} {mg mb : Str → Option Value} {h₀ : Heap} (G : Gr (hd.heap_39 w.params) mg mb h₀) (hdp : A.depth + 2 < recursionLimit) (x y : Str) :
    CallK (model Challenge.rw_oy0055_01.row.prog w) A (.ref 21) [.str x, .str y] h₀ (.int (cmpS x y)) := .mk fun s Q E S vs ht kn sz rd post => by
  revert G; k_fill; intro G
  cases rd with | cons r₁ r₂ => cases r₂ with | cons r₂ r₃ => cases r₃; cases r₁ with | str _ t => cases r₂ with | str _ u =>
  refine' enter [(Str.ofString "a", .str x t), (Str.ofString "b", .str y u)] ?k1 ?k2 ?k3 ?k4 ?k5 ?k6 ?k7 ?k8 ?k9 ?k10 ?k11 ht ?_
  case k1 => exact (G.up kn.kp).K
  case k2 => exact (G.up kn.kp).lim
  case k3 => k_is
  case k4 => k_is
  case k5 => show A.depth < recursionLimit; omega
  case k6 => exact BindsTo.of_eq rfl
  case k7 => exact locs rfl
  case k8 => decide
  case k9 => rfl
  case k10 => rfl
  case k11 => rfl
  intro L h₁ tk htk hL F
  have hn := ns_hide F.ns (sz.fresh (get_none_size _ (Nat.le_of_eq hL.symm)))
  refine wpAny_execs_cons (wpAny_Return_some ?_)
  refine (?ev : EvK _ _ _ _ (hideP S h₁) (.int (cmpS x y))) _ _ _ S htk (Kn.hide _ _) (sz.up F.keep) fun v h' tk' _ k r => post v h' tk' (Kp.trans F.keep k) r
  exact ev_bin (ev_cmp (ev_of_name (name_local hn rfl rfl rfl (by decide)) (.str x t)) (ev_of_name (name_local hn rfl rfl rfl (by decide)) (.str y u)) cmp_gt_str rfl) (ev_cmp (ev_of_name (name_local hn rfl rfl rfl (by decide)) (.str x t)) (ev_of_name (name_local hn rfl rfl rfl (by decide)) (.str y u)) cmp_lt_str rfl) op_subbool
theorem c_three {w : World} {A : Around} {mg mb : Str → Option Value} {h₀ : Heap} (G : Gr (hd.heap_39 w.params) mg mb h₀) (hdp : A.depth + 2 < recursionLimit) (x y : Str) :
    CallK (model Challenge.rw_oy0055_01.row.prog w) A (.ref 89) [.str x, .str y] h₀ (.int (cmpS x y)) := .mk fun s Q E S vs ht kn sz rd post => by
  revert G; k_fill; intro G
  cases rd with | cons r₁ r₂ => cases r₂ with | cons r₂ r₃ => cases r₃; cases r₁ with | str _ t => cases r₂ with | str _ u =>
  refine' enter [(Str.ofString "x", .str x t), (Str.ofString "y", .str y u)] ?k1 ?k2 ?k3 ?k4 ?k5 ?k6 ?k7 ?k8 ?k9 ?k10 ?k11 ht ?_
  case k1 => exact (G.up kn.kp).K
  case k2 => exact (G.up kn.kp).lim
  case k3 => k_is
  case k4 => k_is
  case k5 => show A.depth < recursionLimit; omega
  case k6 => exact BindsTo.of_eq rfl
  case k7 => exact locs rfl
  case k8 => decide
  case k9 => rfl
  case k10 => rfl
  case k11 => rfl
  intro L h₁ tk htk hL F
  have hn := ns_hide F.ns (sz.fresh (get_none_size _ (Nat.le_of_eq hL.symm)))
  refine wpAny_execs_cons (wpAny_Return_some ?_)
  refine (?ev : EvK _ _ _ _ (hideP S h₁) (.int (cmpS x y))) _ _ _ S htk (Kn.hide _ _) (sz.up F.keep) fun v h' tk' _ k r => post v h' tk' (Kp.trans F.keep k) r
  exact ev_bin (ev_cmp (ev_of_name (name_local hn rfl rfl rfl (by decide)) (.str x t)) (ev_of_name (name_local hn rfl rfl rfl (by decide)) (.str y u)) cmp_gt_str rfl) (ev_cmp (ev_of_name (name_local hn rfl rfl rfl (by decide)) (.str x t)) (ev_of_name (name_local hn rfl rfl rfl (by decide)) (.str y u)) cmp_lt_str rfl) op_subbool
end Mine
end

section
open PySem PySem.W PyProof.Rows PySem.Calls
set_option maxRecDepth 100000
set_option maxHeartbeats 1000000
namespace Mine
theorem topF_lo (n : Int) : -1 ≤ topF n := topF_max n _ (by simp [topL])
theorem topF_hi (n : Int) : topF n ≤ 8 := by
  have h := topF_mem n
  generalize topF n = a at h
  unfold topL at h
  rcases List.mem_append.mp h with h | h
  · simp at h; omega
  · obtain ⟨k, hk, rfl⟩ := List.mem_map.mp h
    have := List.mem_range.mp (List.mem_filter.mp hk).1
    omega
noncomputable def charF (n k : Int) : Str := if ((n.fdiv (2 ^ k.toNat)).fmod 2 == 1) = true then ⟨#[([120, 119, 114] : List Nat).getD (k.fmod 3).toNat 0]⟩ else ⟨#[32]⟩
noncomputable def textF (n low : Int) : Str := Txt.join ⟨#[]⟩ (((List.range (topF n - (low - 1)).toNat).map fun i : Nat => topF n - i).map (charF n))
theorem charF_len (n k : Int) : (charF n k).length = 1 := by unfold charF; split <;> rfl
theorem joinOk_ones {xs : List Str} (h1 : ∀ x ∈ xs, x.length ≤ 1) (h2 : xs.length ≤ 1000) : JoinOk ⟨#[]⟩ xs = true := by
  have : ∀ (l : List Str) (a : Nat), (∀ x ∈ l, x.length ≤ 1) → l.foldl (fun a x => a + x.length + (⟨#[]⟩ : Str).length) a ≤ a + l.length := by
    intro l
    induction l with
    | nil => intro a _; exact Nat.le_refl _
    | cons x l ih =>
      intro a h
      rw [List.foldl_cons, List.length_cons]
      have h3 := h x (.head _)
      have h4 := ih (a + x.length + (⟨#[]⟩ : Str).length) fun y hy => h y (.tail _ hy)
      have h5 : (⟨#[]⟩ : Str).length = 0 := rfl
      omega
  have h6 := this xs 0 h1
  unfold JoinOk Builtin.Str.tooLong
  rw [List.foldl_toArray]
  have : (1000 : Nat) < sizeLine := by decide
  simp only [Bool.not_eq_true', decide_eq_false_iff_not]
  omega

theorem c_text {w : World} {A : Around} {mg mb : Str → Option Value} {h₀ : Heap} (G : Gr (hd.heap_39 w.params) mg mb h₀) (hh : A.handled = none) (hdp : A.depth + 4 < recursionLimit) (n low : Int) (hlo : 0 ≤ low) (hhi : low ≤ 9) :
    CallK (model Challenge.rw_oy0055_01.row.prog w) A (.ref 118) [.int n, .int low] h₀ (.str (textF n low)) := .mk fun s Q E S vs ht kn sz rd post => by
  revert G; k_fill; intro G
  cases rd with | cons r₁ r₂ => cases r₂ with | cons r₂ r₃ => cases r₃; cases r₁ with | int _ t => cases r₂ with | int _ u =>
  refine' enterC [(Str.ofString "number", .int n t), (Str.ofString "low", .int low u)] ?k1 ?k2 ?k3 ?k4 ?k5 ?k6 ?k7 ?k8 ?k9 ?k10 ?k11 ht ?_
  case k1 => exact (G.up kn.kp).K
  case k2 => exact (G.up kn.kp).lim
  case k3 => k_is
  case k4 => k_is
  case k5 => show A.depth < recursionLimit; omega
  case k6 => exact BindsTo.of_eq rfl
  case k7 => intro n x hx; simp only [List.mem_cons, List.not_mem_nil, or_false] at hx; rcases hx with rfl | rfl <;> first | exact .inl rfl | exact .inr ⟨rfl, rfl⟩
  case k8 => decide
  case k9 => rfl
  case k10 => rfl
  case k11 => rfl
  intro L h₁ tk cells htk hL F N CA
  obtain ⟨oc, rfl, hoc⟩ := CellsAre.one CA
  clear CA
  have hc := N _ (List.mem_singleton.mpr rfl)
  have G' := G.at kn F.keep
  have sz' : Sz S h₁ := sz.up F.keep
  have hcell : (hideP S h₁).IsCell (L + 1) (some (.int n t)) := cell_hide ⟨oc, hc.1, hoc⟩ (sz.fresh hc.2.2)
  have hn := ns_hide F.ns (sz.fresh (get_none_size _ (Nat.le_of_eq hL.symm)))
  refine wpAny_execs_cons (wpAny_Return_some ?_)
  refine (?ev : EvK _ _ _ _ (hideP S h₁) (.str (textF n low))) _ _ _ S htk (Kn.hide _ _) sz' fun v h' tk' _ k r => post v h' tk' (Kp.trans F.keep k) r
  have l1 := topF_lo n
  have l2 := topF_hi n
  obtain ⟨o, fd, ho, hfd⟩ := fn_law_top G'
  refine ev_join (xs := ((List.range (topF n - (low - 1)).toNat).map fun i : Nat => topF n - i).map (charF n)) ?arg (joinOk_ones ?j1 ?j2) rfl rfl
  case j1 => intro x hx; obtain ⟨k, _, rfl⟩ := List.mem_map.mp hx; rw [charF_len]; exact Nat.le_refl _
  case j2 => simp only [List.length_map, List.length_range]; omega
  refine ev_eq (ev_comp (ds := (List.range (topF n - (low - 1)).toNat).map fun i : Nat => PyData.int (topF n - i)) (cl := [(Str.ofString "number", L + 1)]) (fun _ => true) (fun d => match d with | .int k => .str (charF n k) | d => d)
    rfl (by decide) rfl (by decide) rfl (fun _ => rfl)
    (src_rangeDown hh (by omega) (by omega) (by omega) (by omega) rfl (nm_range G' ⟨rfl, rfl, rfl⟩ rfl)
      (.cons rfl (ev_call (nm_law_top G' ⟨rfl, rfl, rfl⟩ rfl) ho hfd (.cons rfl (ev_of_name (name_cell (c := L + 1) rfl hcell rfl rfl (by decide)) (.int n t)) .nil) (c_top (A := A.deeper _) G' hh (by show A.depth + 1 + 2 < recursionLimit; omega) n))
        (.cons rfl (ev_bin (ev_of_name (name_local hn rfl rfl rfl (by decide)) (.int low u)) ev_int op_sub) (.cons rfl (ev_neg ev_int) .nil))))
    (by simp only [List.length_map, List.length_range]; omega) (fun _ _ _ _ _ _ _ _ _ _ => .inl ⟨rfl, rfl⟩) ?e) ?q
  case q =>
    congr 1
    rw [List.filter_eq_self.mpr (fun _ _ => rfl)]
    simp only [List.map_map]
    rfl
  case e =>
    intro C m v d h hd hp k hn' hv hr
    obtain ⟨i, hi, rfl⟩ := List.mem_map.mp hd
    have hi' := List.mem_range.mp hi
    have hk0 : 0 ≤ topF n - (i : Int) := by omega
    have hk8 : topF n - (i : Int) ≤ 8 := by omega
    generalize topF n - (i : Int) = kk at hr hk0 hk8 ⊢
    have hp2 : ((2 : Int) ^ kk.toNat) ≠ 0 := Int.ne_of_gt (Int.pow_pos (by decide))
    have hp60 : ((2 : Int) ^ kk.toNat).natAbs < 2 ^ 60 := (by decide : ∀ i < 9, ((2 : Int) ^ i).natAbs < 2 ^ 60) kk.toNat (by omega)
    have hm0 : 0 ≤ kk.fmod 3 := Int.fmod_nonneg_of_pos _ (by decide)
    have hm3 : kk.fmod 3 < 3 := Int.fmod_lt_of_pos _ (by decide)
    refine ev_if (c := ((n.fdiv (2 ^ kk.toNat)).fmod 2 == 1)) (test_cmp (ev_bin (ev_bin (ev_of_name (name_cell (c := L + 1) rfl (hcell.keeps k) rfl rfl (by decide)) (.int n t))
      (ev_bin ev_int (ev_of_name (name_local hn' hv rfl rfl (by decide)) hr) (op_pow2 hk0 (by omega))) (op_fdiv hp2 hp60)) ev_int (op_mod (by decide))) ev_int cmp_eq_int rfl) (fun hc => ?a) (fun hc => ?b)
    case b => exact ev_eq ev_str (by simp only [charF, hc]; rfl)
    case a =>
      refine ev_eq (ev_sitem (c := ([120, 119, 114] : List Nat).getD (kk.fmod 3).toNat 0) ev_str (ev_bin (ev_of_name (name_local hn' hv rfl rfl (by decide)) hr) ev_int (op_mod (by decide))) hm0 (by omega) ?_ (fun _ _ => rfl)) (by simp only [charF, hc, if_true])
      have : ∀ i < 3, (Str.ofString "xwr").cps[i]? = some (([120, 119, 114] : List Nat).getD i 0) := by decide
      exact this _ (by omega)
end Mine
end

section
open PySem PySem.W PyProof.Rows PySem.Calls
set_option maxRecDepth 100000
set_option maxHeartbeats 1000000
namespace Mine
noncomputable def lowL (n : Int) : List Int := [9] ++ (((List.range 9).filter fun k : Nat => (n.fdiv (2 ^ k)).fmod 2 == 1).map fun k : Nat => (k : Int))
noncomputable def lowF (n : Int) : Int := (lowL n).foldl min 9
theorem lowF_mem (n : Int) : lowF n ∈ lowL n := by
  have : ∀ (l : List Int) (a : Int), l.foldl min a = a ∨ l.foldl min a ∈ l := by
    intro l
    induction l with
    | nil => intro a; exact .inl rfl
    | cons b l ih =>
      intro a
      rw [List.foldl_cons]
      rcases ih (min a b) with h | h
      · rw [h]
        rcases Int.le_total a b with q | q
        · rw [Int.min_eq_left q]; exact .inl rfl
        · rw [Int.min_eq_right q]; exact .inr (.head _)
      · exact .inr (.tail _ h)
  rcases this (lowL n) 9 with h | h
  · rw [lowF, h]; exact .head _
  · exact h
theorem lowF_min (n : Int) : ∀ a ∈ lowL n, lowF n ≤ a := by
  have : ∀ (l : List Int) (a : Int), l.foldl min a ≤ a ∧ ∀ b ∈ l, l.foldl min a ≤ b := by
    intro l
    induction l with
    | nil => intro a; exact ⟨Int.le_refl _, fun _ h => nomatch h⟩
    | cons b l ih =>
      intro a
      rw [List.foldl_cons]
      obtain ⟨h1, h2⟩ := ih (min a b)
      refine ⟨Int.le_trans h1 (Int.min_le_left ..), fun c hc => ?_⟩
      rcases List.mem_cons.mp hc with rfl | hc
      · exact Int.le_trans h1 (Int.min_le_right ..)
      · exact h2 c hc
  exact (this (lowL n) 9).2
theorem lowF_hi (n : Int) : lowF n ≤ 9 := lowF_min n _ (by simp [lowL])
theorem lowF_lo (n : Int) : 0 ≤ lowF n := by
  have h := lowF_mem n
  generalize lowF n = a at h
  unfold lowL at h
  rcases List.mem_append.mp h with h | h
  · simp at h; omega
  · obtain ⟨k, hk, rfl⟩ := List.mem_map.mp h
    omega
noncomputable def bareF (n : Int) : Str := textF n (lowF n)

theorem c_bare {w : World} {A : Around} {mg mb : Str → Option Value} {h₀ : Heap} (G : Gr (hd.heap_39 w.params) mg mb h₀) (hh : A.handled = none) (hdp : A.depth + 6 < recursionLimit) (n : Int) :
    CallK (model Challenge.rw_oy0055_01.row.prog w) A (.ref 123) [.int n] h₀ (.str (bareF n)) := .mk fun s Q E S vs ht kn sz rd post => by
  revert G; k_fill; intro G
  cases rd with | cons r₁ r₂ => cases r₂; cases r₁ with | int _ t =>
  refine' enterC [(Str.ofString "number", .int n t)] ?k1 ?k2 ?k3 ?k4 ?k5 ?k6 ?k7 ?k8 ?k9 ?k10 ?k11 ht ?_
  case k1 => exact (G.up kn.kp).K
  case k2 => exact (G.up kn.kp).lim
  case k3 => k_is
  case k4 => k_is
  case k5 => show A.depth < recursionLimit; omega
  case k6 => exact BindsTo.of_eq rfl
  case k7 => intro n x hx; simp only [List.mem_cons, List.not_mem_nil, or_false] at hx; rcases hx with rfl; exact .inr ⟨rfl, rfl⟩
  case k8 => decide
  case k9 => rfl
  case k10 => rfl
  case k11 => rfl
  intro L h₁ tk cells htk hL F N CA
  obtain ⟨oc, rfl, hoc⟩ := CellsAre.one CA
  clear CA
  have hc := N _ (List.mem_singleton.mpr rfl)
  have G' := G.at kn F.keep
  have sz' : Sz S h₁ := sz.up F.keep
  have hcell : (hideP S h₁).IsCell (L + 1) (some (.int n t)) := cell_hide ⟨oc, hc.1, hoc⟩ (sz.fresh hc.2.2)
  refine wpAny_execs_cons (wpAny_Return_some ?_)
  refine (?ev : EvK _ _ _ _ (hideP S h₁) (.str (bareF n))) _ _ _ S htk (Kn.hide _ _) sz' fun v h' tk' _ k r => post v h' tk' (Kp.trans F.keep k) r
  obtain ⟨o, fd, ho, hfd⟩ := fn_law_text G'
  refine ev_call (nm_law_text G' ⟨rfl, rfl, rfl⟩ rfl) ho hfd (.cons rfl (ev_of_name (name_cell (c := L + 1) rfl hcell rfl rfl (by decide)) (.int n t)) (.cons rfl ?low .nil))
    (c_text (A := A.deeper _) G' hh (by show A.depth + 1 + 4 < recursionLimit; omega) n (lowF n) (lowF_lo n) (lowF_hi n))
  refine ev_callb (ds := [.list ((lowL n).map .int)]) (nm_min G' ⟨rfl, rfl, rfl⟩ rfl) (.cons rfl ?arg .nil) (call_min hh (lowF_mem n) (lowF_min n))
  refine ev_eq (ev_bin (ev_list (.cons rfl ev_int .nil) (by decide)) (ev_comp (ds := (List.range 9).map fun i : Nat => PyData.int i) (cl := [(Str.ofString "number", L + 1)])
    (fun d => match d with | .int k => (n.fdiv (2 ^ k.toNat)).fmod 2 == 1 | _ => false) id rfl (by decide) rfl (by decide) rfl (fun _ => rfl)
    (src_range1 hh (by decide) (nm_range G' ⟨rfl, rfl, rfl⟩ rfl) (.cons rfl ev_int .nil)) (by simp) ?t ?e) (op_addlist ?l)) ?q
  case l =>
    have := List.length_filter_le (fun d => match d with | PyData.int k => (n.fdiv (2 ^ k.toNat)).fmod 2 == 1 | _ => false) ((List.range 9).map fun i : Nat => PyData.int i)
    simp only [List.length_map, List.length_range, List.length_cons, List.length_nil] at this ⊢
    omega
  case q =>
    simp only [lowL, List.map_append, List.map_cons, List.map_nil, List.map_map, List.filter_map, List.map_id]
    rfl
  case e =>
    intro C m v d h hd hp k hn hv hr
    exact ev_of_name (name_local hn hv rfl rfl (by decide)) hr
  case t =>
    intro C m v d h hd k hn hv hr
    obtain ⟨i, hi, rfl⟩ := List.mem_map.mp hd
    have hi' := List.mem_range.mp hi
    refine .inr ⟨_, rfl, ?_⟩
    refine test_cmp (ev_bin (ev_bin (ev_of_name (name_cell (c := L + 1) rfl (hcell.keeps k) rfl rfl (by decide)) (.int n t)) (ev_bin ev_int (ev_of_name (name_local hn hv rfl rfl (by decide)) hr) (op_pow2 (by omega) (by omega))) (op_fdiv ?_ ?_)) ev_int (op_mod (by decide))) ev_int cmp_eq_int rfl
    · exact Int.ne_of_gt (Int.pow_pos (by decide))
    · exact (by decide : ∀ i < 9, ((2 : Int) ^ ((i : Nat) : Int).toNat).natAbs < 2 ^ 60) i hi'
end Mine
end

section
open PySem PySem.W PyProof.Rows PySem.Calls
set_option maxRecDepth 100000
set_option maxHeartbeats 1000000
namespace Mine
noncomputable def keyF (n : Int) : PyData := if 0 < n then .tuple [.int (3 - (topF n).fmod 3), .int (n * 2 ^ (8 - topF n).toNat)] else .tuple [.int 0, .int 0]
theorem c_key {w : World} {A : Around} {mg mb : Str → Option Value} {h₀ : Heap} (G : Gr (hd.heap_39 w.params) mg mb h₀) (hh : A.handled = none) (hdp : A.depth + 4 < recursionLimit) (n : Int) (hn0 : 0 ≤ n) (hn1 : n < 512) :
    CallK (model Challenge.rw_oy0055_01.row.prog w) A (.ref 130) [.int n] h₀ (keyF n) := .mk fun s Q E S vs ht kn sz rd post => by
  revert G; k_fill; intro G
  cases rd with | cons r₁ r₂ => cases r₂; cases r₁ with | int _ t =>
  refine' enter [(Str.ofString "number", .int n t)] ?k1 ?k2 ?k3 ?k4 ?k5 ?k6 ?k7 ?k8 ?k9 ?k10 ?k11 ht ?_
  case k1 => exact (G.up kn.kp).K
  case k2 => exact (G.up kn.kp).lim
  case k3 => k_is
  case k4 => k_is
  case k5 => show A.depth < recursionLimit; omega
  case k6 => exact BindsTo.of_eq rfl
  case k7 => exact locs rfl
  case k8 => decide
  case k9 => rfl
  case k10 => rfl
  case k11 => rfl
  intro L h₁ tk htk hL F
  have hbL : s.heap.get? L = none := get_none_size _ (Nat.le_of_eq hL.symm)
  have hSL := sz.fresh hbL
  have hn := ns_hide F.ns hSL
  have G' := G.at kn F.keep
  obtain ⟨o, fd, ho, hfd⟩ := fn_law_top G'
  refine wpAny_execs_cons (do_local (d := .int (topF n)) (ev_call (nm_law_top G' ⟨rfl, rfl, rfl⟩ rfl) ho hfd (.cons rfl (ev_of_name (name_local hn rfl rfl rfl (by decide)) (.int n t)) .nil) (c_top (A := A.deeper _) G' hh (by show A.depth + 1 + 2 < recursionLimit; omega) n))
    rfl F.ns hbL F.keep sz htk rfl rfl rfl fun v h₂ t₂ q₂ k₂ hn₂ r₂ _ => ?_)
  cases r₂ with | int _ u =>
  refine wpAny_execs_cons (wpAny_Return_some ?_)
  refine (?ev : EvK _ _ _ _ (hideP S h₂) (keyF n)) _ _ _ S q₂ (Kn.hide _ _) (sz.up k₂) fun v h' tk' _ k r => post v h' tk' (Kp.trans k₂ k) r
  have hn₃ := ns_hide hn₂ hSL
  have l1 := topF_lo n
  have l2 := topF_hi n
  refine ev_if (c := decide (0 < n)) (test_cmp (ev_of_name (name_local hn₃ rfl rfl rfl (by decide)) (.int n t)) ev_int cmp_gt_int rfl) (fun hc => ?a) (fun hc => ?b)
  case b =>
    have : ¬ 0 < n := by simpa using hc
    exact ev_eq (ev_tuple (.cons rfl ev_int (.cons rfl ev_int .nil)) (by decide)) (by rw [keyF, if_neg this])
  case a =>
    have hc' : 0 < n := by simpa using hc
    exact ev_eq (ev_tuple (.cons rfl (ev_bin ev_int (ev_bin (ev_of_name (name_local hn₃ rfl rfl rfl (by decide)) (.int (topF n) u)) ev_int (op_mod (by decide))) op_sub)
      (.cons rfl (ev_bin (ev_of_name (name_local hn₃ rfl rfl rfl (by decide)) (.int n t)) (ev_bin ev_int (ev_bin ev_int (ev_of_name (name_local hn₃ rfl rfl rfl (by decide)) (.int (topF n) u)) op_sub) (op_pow2 (by omega) (by omega))) (op_mul (by omega))) .nil)) (by simp)) (by rw [keyF, if_pos hc'])
end Mine
end

section
open PySem PySem.W PyProof.Rows PySem.Calls
set_option maxRecDepth 100000
set_option maxHeartbeats 1000000
namespace Mine
noncomputable def divN : Nat → Int → Int
  | 0, n => n
  | f + 1, n => if (n.fmod 8 == 0 && decide (0 < n)) = true then divN f (n.fdiv 8) else n
noncomputable def divF (n : Int) : Int := divN 4 n
theorem div_facts : ∀ a : Nat, a < 512 → (if ((a : Int).fmod 8 == 0 && decide (0 < (a : Int))) = true then divF ((a : Int).fdiv 8) = divF a ∧ 0 ≤ (a : Int).fdiv 8 ∧ (a : Int).fdiv 8 < a else divF a = a) := by decide +kernel
theorem div_range : ∀ a : Nat, a < 512 → 0 ≤ divF a ∧ divF a < 512 := by decide +kernel

theorem c_divided {w : World} {A : Around} {mg mb : Str → Option Value} {h₀ : Heap} (G : Gr (hd.heap_39 w.params) mg mb h₀) (hdp : A.depth + 4 < recursionLimit) (n : Int) (hn0 : 0 ≤ n) (hn1 : n < 512) :
    CallK (model Challenge.rw_oy0055_01.row.prog w) A (.ref 113) [.int n] h₀ (.int (divF n)) := .mk fun s Q E S vs ht kn sz rd post => by
  revert G; k_fill; intro G
  cases rd with | cons r₁ r₂ => cases r₂; cases r₁ with | int _ t =>
  refine' enter [(Str.ofString "number", .int n t)] ?k1 ?k2 ?k3 ?k4 ?k5 ?k6 ?k7 ?k8 ?k9 ?k10 ?k11 ht ?_
  case k1 => exact (G.up kn.kp).K
  case k2 => exact (G.up kn.kp).lim
  case k3 => k_is
  case k4 => k_is
  case k5 => show A.depth < recursionLimit; omega
  case k6 => exact BindsTo.of_eq rfl
  case k7 => exact locs rfl
  case k8 => decide
  case k9 => rfl
  case k10 => rfl
  case k11 => rfl
  intro L h₁ tk htk hL F
  have hbL : s.heap.get? L = none := get_none_size _ (Nat.le_of_eq hL.symm)
  have hSL := sz.fresh hbL
  refine wpAny_execs_cons (do_while (S := S) (Inv := fun k m => ∃ a u, m (Str.ofString "number") = some (.int a u) ∧ 0 ≤ a ∧ a < 512 ∧ divF a = divF n ∧ k = a.toNat) (Fin := fun m => ∃ u, m (Str.ofString "number") = some (.int (divF n) u))
    n.toNat ⟨n, t, rfl, hn0, hn1, rfl, rfl⟩ F.ns F.keep sz htk ?turn ?next)
  case next =>
    rintro h₂ t₂ m₂ q₂ k₂ hn₂ ⟨u, hu⟩
    refine wpAny_execs_cons (wpAny_Return_some ?_)
    exact (ev_of_name (name_local (ns_hide hn₂ hSL) hu rfl rfl (by decide)) (.int (divF n) u)) _ _ _ S q₂ (Kn.hide _ _) (sz.up k₂) fun v h' tk' _ k r => post v h' tk' (Kp.trans k₂ k) r
  case turn =>
    rintro k m h kp hm ⟨a, u, hu, a0, a1, hd, rfl⟩
    have hm' := ns_hide hm hSL
    refine ⟨a.fmod 8 == 0 && decide (0 < a), test_and (test_cmp (ev_bin (ev_of_name (name_local hm' hu rfl rfl (by decide)) (.int a u)) ev_int (op_mod (by decide))) ev_int cmp_eq_int rfl)
      (fun _ => test_cmp (ev_of_name (name_local hm' hu rfl rfl (by decide)) (.int a u)) ev_int cmp_gt_int rfl), ?_, ?_⟩
    · intro hb
      refine ⟨u, ?_⟩
      have hf := div_facts a.toNat (by omega)
      rw [show ((a.toNat : Nat) : Int) = a by omega, if_neg (by rw [hb]; decide)] at hf
      rw [hu, ← hd, hf]
    · intro hb h' tk' Q' EE q' kp' hn' nxt
      have hf := div_facts a.toNat (by omega)
      rw [show ((a.toNat : Nat) : Int) = a by omega, if_pos hb] at hf
      obtain ⟨f1, f2, f3⟩ := hf
      refine wpAny_execs_cons (do_aug hu ev_int iop_div8 rfl hn' hbL kp' sz q' rfl rfl fun t'' h'' tk'' q'' kp'' hn'' _ => ?_)
      exact wpAny_execs_nil (nxt h'' tk'' _ _ q'' kp'' hn'' (show (a.fdiv 8).toNat < a.toNat by omega) ⟨a.fdiv 8, t'', by simp, f2, by omega, f1.trans hd, rfl⟩)
end Mine
end

section
open PySem PySem.W PyProof.Rows PySem.Calls
set_option maxRecDepth 100000
set_option maxHeartbeats 1000000
namespace Mine
theorem call_slen {prog : Program} {w : World} {A : Around} {h₀ : Heap} {x : Str} (hl : x.length ≤ 1000) : CallK (model prog w) A (.builtin "len") [.str x] h₀ (.int x.length) := .mk fun s Q E S vs ht kn sz rd post => by
  cases rd with | cons r₁ r₂ =>
  cases r₂
  cases r₁ with | str x t =>
  exact P.len_str (by omega) (post _ s.heap _ (.refl _) (.int _ _))
noncomputable def blank (x : Str) (i : Int) : Bool := (⟨#[x.cps.getD i.toNat 0]⟩ : Str) == Str.ofString " "
noncomputable def lgo : Nat → Str → Int → Int → Int × Int
  | 0, _, l, a => (l, a)
  | f + 1, x, l, a => if (!(a == 0) && blank x l) = true then lgo f x (l + 1) (a - 1) else (l, a)
noncomputable def rgo : Nat → Str → Int → Int → Int × Int
  | 0, _, r, a => (r, a)
  | f + 1, x, r, a => if (!(a == 0) && blank x r) = true then rgo f x (r - 1) (a - 1) else (r, a)
noncomputable def stripF (x : Str) (am : Int) : Str :=
  let l := lgo am.toNat x 0 am
  let r := rgo l.2.toNat x (x.length - 1) l.2
  Txt.slice x (some l.1) (some (r.1 + 1))
theorem getD_some {x : Str} {i : Int} (h0 : 0 ≤ i) (h1 : i < x.length) : x.cps[i.toNat]? = some (x.cps.getD i.toNat 0) := by
  have : i.toNat < x.cps.size := by unfold Str.length at h1; omega
  rw [Array.getElem?_eq_getElem this]
  simp [Array.getD, this]

theorem c_strip {w : World} {A : Around} {mg mb : Str → Option Value} {h₀ : Heap} (G : Gr (hd.heap_39 w.params) mg mb h₀) (hdp : A.depth + 4 < recursionLimit) (x : Str) (am : Int) (hx : x.length = 9) (ha0 : 0 ≤ am) (ha9 : am ≤ 9) :
    CallK (model Challenge.rw_oy0055_01.row.prog w) A (.ref 28) [.str x, .int am] h₀ (.str (stripF x am)) := .mk fun s Q E S vs ht kn sz rd post => by
  revert G; k_fill; intro G
  cases rd with | cons r₁ r₂ => cases r₂ with | cons r₂ r₃ => cases r₃; cases r₁ with | str _ t => cases r₂ with | int _ u =>
  refine' enter [(Str.ofString "s", .str x t), (Str.ofString "amount", .int am u)] ?k1 ?k2 ?k3 ?k4 ?k5 ?k6 ?k7 ?k8 ?k9 ?k10 ?k11 ht ?_
  case k1 => exact (G.up kn.kp).K
  case k2 => exact (G.up kn.kp).lim
  case k3 => k_is
  case k4 => k_is
  case k5 => show A.depth < recursionLimit; omega
  case k6 => exact BindsTo.of_eq rfl
  case k7 => exact locs rfl
  case k8 => decide
  case k9 => rfl
  case k10 => rfl
  case k11 => rfl
  intro L h₁ tk htk hL F
  have hbL : s.heap.get? L = none := get_none_size _ (Nat.le_of_eq hL.symm)
  have hSL := sz.fresh hbL
  refine wpAny_execs_cons (do_local (d := .int 0) ev_int rfl F.ns hbL F.keep sz htk rfl rfl rfl fun v h₂ t₂ q₂ k₂ hn₂ r₂ _ => ?_)
  cases r₂ with | int _ u₂ =>
  refine wpAny_execs_cons (do_while (S := S) (Inv := fun k m => ∃ l a v₁ v₂, m (Str.ofString "s") = some (.str x t) ∧ m (Str.ofString "lpos") = some (.int l v₁) ∧ m (Str.ofString "amount") = some (.int a v₂) ∧ 0 ≤ a ∧ 0 ≤ l ∧ l + a = am ∧ lgo a.toNat x l a = lgo am.toNat x 0 am ∧ k = a.toNat)
    (Fin := fun m => ∃ l a v₁ v₂, m (Str.ofString "s") = some (.str x t) ∧ m (Str.ofString "lpos") = some (.int l v₁) ∧ m (Str.ofString "amount") = some (.int a v₂) ∧ 0 ≤ a ∧ 0 ≤ l ∧ l + a = am ∧ (l, a) = lgo am.toNat x 0 am)
    am.toNat ⟨0, am, u₂, u, rfl, rfl, rfl, ha0, Int.le_refl _, by omega, rfl, rfl⟩ hn₂ k₂ sz q₂ ?turn ?next)
  case turn =>
    rintro k m h kp hm ⟨l, a, v₁, v₂, ms, ml, ma, a0, l0, la, hg, rfl⟩
    have hm' := ns_hide hm hSL
    refine ⟨!(a == 0) && blank x l, test_and (test_int (ev_of_name (name_local hm' ma rfl rfl (by decide)) (.int a v₂)) rfl)
      (fun ha => test_cmp (ev_sitem (ev_of_name (name_local hm' ms rfl rfl (by decide)) (.str x t)) (ev_of_name (name_local hm' ml rfl rfl (by decide)) (.int l v₁)) l0 (by omega) (getD_some l0 ?_) (fun _ _ => rfl)) ev_str cmp_eq_str rfl), ?_, ?_⟩
    · have : a ≠ 0 := by simpa using ha
      omega
    · intro hb
      refine ⟨l, a, v₁, v₂, ms, ml, ma, a0, l0, la, ?_⟩
      rw [← hg]
      cases e : a.toNat with
      | zero => rfl
      | succ f => rw [lgo, hb]; rfl
    · intro hb h' tk' Q' EE q' kp' hn' nxt
      have hane : a ≠ 0 := by
        intro h; rw [h] at hb; simp at hb
      refine wpAny_execs_cons (do_aug ml ev_int iop_add rfl hn' hbL kp' sz q' rfl rfl fun t₃ h₃ tk₃ q₃ kp₃ hn₃ _ => ?_)
      refine wpAny_execs_cons (do_aug (a := a) (t := v₂) (by show m _ = _; exact ma) ev_int iop_sub rfl hn₃ hbL kp₃ sz q₃ rfl rfl fun t₄ h₄ tk₄ q₄ kp₄ hn₄ _ => ?_)
      refine wpAny_execs_nil (nxt h₄ tk₄ _ _ q₄ kp₄ hn₄ (show (a - 1).toNat < a.toNat by omega) ⟨l + 1, a - 1, t₃, t₄, ms, rfl, rfl, by omega, by omega, by omega, ?_, rfl⟩)
      rw [← hg]
      have e : a.toNat = (a - 1).toNat + 1 := by omega
      rw [e, lgo, hb]; rfl
  case next =>
    rintro h₃ t₃ m₃ q₃ k₃ hn₃ ⟨l, a, v₁, v₂, ms, ml, ma, a0, l0, la, hg⟩
    have G' := G.at kn k₃
    refine wpAny_execs_cons (do_local (d := .int ((x.length : Int) - 1)) (ev_bin (ev_callb (nm_len G' ⟨rfl, rfl, rfl⟩ rfl) (.cons rfl (ev_of_name (name_local (ns_hide hn₃ hSL) ms rfl rfl (by decide)) (.str x t)) .nil) (call_slen (by omega))) ev_int op_sub)
      rfl hn₃ hbL k₃ sz q₃ rfl rfl rfl fun v h₄ t₄ q₄ k₄ hn₄ r₄ _ => ?_)
    cases r₄ with | int _ u₄ =>
    refine wpAny_execs_cons (do_while (S := S) (Inv := fun k m => ∃ r b v₃ v₄, m (Str.ofString "s") = some (.str x t) ∧ m (Str.ofString "lpos") = some (.int l v₁) ∧ m (Str.ofString "rpos") = some (.int r v₃) ∧ m (Str.ofString "amount") = some (.int b v₄) ∧ 0 ≤ b ∧ b ≤ r + 1 ∧ r ≤ 8 ∧ rgo b.toNat x r b = rgo a.toNat x (x.length - 1) a ∧ k = b.toNat)
      (Fin := fun m => ∃ r b v₃ v₄, m (Str.ofString "s") = some (.str x t) ∧ m (Str.ofString "lpos") = some (.int l v₁) ∧ m (Str.ofString "rpos") = some (.int r v₃) ∧ m (Str.ofString "amount") = some (.int b v₄) ∧ (r, b) = rgo a.toNat x (x.length - 1) a)
      a.toNat ⟨(x.length : Int) - 1, a, u₄, v₂, (by exact ms), (by exact ml), (by rfl), (by exact ma), a0, by omega, by omega, rfl, rfl⟩ hn₄ k₄ sz q₄ ?turn2 ?next2)
    case turn2 =>
      rintro k m h kp hm ⟨r, b, v₃, v₄, ms, ml, mr, mb', b0, br, r8, hg2, rfl⟩
      have hm' := ns_hide hm hSL
      refine ⟨!(b == 0) && blank x r, test_and (test_int (ev_of_name (name_local hm' mb' rfl rfl (by decide)) (.int b v₄)) rfl)
        (fun hb => test_cmp (ev_sitem (ev_of_name (name_local hm' ms rfl rfl (by decide)) (.str x t)) (ev_of_name (name_local hm' mr rfl rfl (by decide)) (.int r v₃)) ?_ (by omega) (getD_some ?_ ?_) (fun _ _ => rfl)) ev_str cmp_eq_str rfl), ?_, ?_⟩
      · have : b ≠ 0 := by simpa using hb
        omega
      · have : b ≠ 0 := by simpa using hb
        omega
      · omega
      · intro hb
        refine ⟨r, b, v₃, v₄, ms, ml, mr, mb', ?_⟩
        rw [← hg2]
        cases e : b.toNat with
        | zero => rfl
        | succ f => rw [rgo, hb]; rfl
      · intro hb h' tk' Q' EE q' kp' hn' nxt
        have hane : b ≠ 0 := by
          intro h; rw [h] at hb; simp at hb
        refine wpAny_execs_cons (do_aug mr ev_int iop_sub rfl hn' hbL kp' sz q' rfl rfl fun t₃ h₃ tk₃ q₃ kp₃ hn₃ _ => ?_)
        refine wpAny_execs_cons (do_aug (a := b) (t := v₄) (by show m _ = _; exact mb') ev_int iop_sub rfl hn₃ hbL kp₃ sz q₃ rfl rfl fun t₄ h₄ tk₄ q₄ kp₄ hn₄ _ => ?_)
        refine wpAny_execs_nil (nxt h₄ tk₄ _ _ q₄ kp₄ hn₄ (show (b - 1).toNat < b.toNat by omega) ⟨r - 1, b - 1, t₃, t₄, ms, ml, rfl, rfl, by omega, by omega, by omega, ?_, rfl⟩)
        rw [← hg2]
        have e : b.toNat = (b - 1).toNat + 1 := by omega
        rw [e, rgo, hb]; rfl
    case next2 =>
      rintro h₅ t₅ m₅ q₅ k₅ hn₅ ⟨r, b, v₃, v₄, ms, ml, mr, mb', hg2⟩
      have hm' := ns_hide hn₅ hSL
      refine wpAny_execs_cons (wpAny_Return_some ?_)
      refine (?ev : EvK _ _ _ _ (hideP S h₅) (.str (stripF x am))) _ _ _ S q₅ (Kn.hide _ _) (sz.up k₅) fun v h' tk' _ k r => post v h' tk' (Kp.trans k₅ k) r
      refine ev_eq (ev_sslice (ev_of_name (name_local hm' ms rfl rfl (by decide)) (.str x t)) (.some (ev_of_name (name_local hm' ml rfl rfl (by decide)) (.int l v₁))) (.some (ev_bin (ev_of_name (name_local hm' mr rfl rfl (by decide)) (.int r v₃)) ev_int op_add)) (by omega)) ?_
      unfold stripF
      simp only [← hg]
      rw [← hg2]
end Mine
end

section
open PySem PySem.W PyProof.Rows PySem.Calls
set_option maxRecDepth 100000
set_option maxHeartbeats 1000000
namespace Mine
theorem c_ifmt {w : World} {A : Around} {mg mb : Str → Option Value} {h₀ : Heap} (G : Gr (hd.heap_39 w.params) mg mb h₀) (hdp : A.depth + 2 < recursionLimit) (n : Int) :
    CallK (model Challenge.rw_oy0055_01.row.prog w) A (.ref 35) [.int n] h₀ (.int (Builtin.bitAnd n 61440)) := .mk fun s Q E S vs ht kn sz rd post => by
  revert G; k_fill; intro G
  cases rd with | cons r₁ r₂ => cases r₂; cases r₁ with | int _ t =>
  refine' enter [(Str.ofString "mode", .int n t)] ?k1 ?k2 ?k3 ?k4 ?k5 ?k6 ?k7 ?k8 ?k9 ?k10 ?k11 ht ?_
  case k1 => exact (G.up kn.kp).K
  case k2 => exact (G.up kn.kp).lim
  case k3 => k_is
  case k4 => k_is
  case k5 => show A.depth < recursionLimit; omega
  case k6 => exact BindsTo.of_eq rfl
  case k7 => exact locs rfl
  case k8 => decide
  case k9 => rfl
  case k10 => rfl
  case k11 => rfl
  intro L h₁ tk htk hL F
  have hn := ns_hide F.ns (sz.fresh (get_none_size _ (Nat.le_of_eq hL.symm)))
  refine wpAny_execs_cons (wpAny_Return_some ?_)
  exact (ev_bin (ev_of_name (name_local hn rfl rfl rfl (by decide)) (.int n t)) ev_int op_and) _ _ _ S htk (Kn.hide _ _) (sz.up F.keep) fun v h' tk' _ k r => post v h' tk' (Kp.trans F.keep k) r

noncomputable def rowD (r : List (Int × Str)) : PyData := .tuple (r.map fun p => .tuple [.int p.1, .str p.2])
/-- the state between filemode's turns -/
structure FMI (s : Shared) (L P : Addr) (md : Int) (out : List Str) (h : Heap) (m : Str → Option Value) : Prop where
  kp : Kp s.heap h
  ns : h.Ns L m
  mode : ∃ t, m "mode" = some (.int md t)
  perm : m "perm" = some (.ref P)
  list : ∃ items cnt, h.get? P = some (plist items cnt) ∧ RdAll0 h items.toList (out.map .str)
theorem rdStrs {S S' : Addr → Prop} {h h' : Heap} : ∀ {vs : List Value} {xs : List Str}, RdAll S h vs (xs.map .str) → RdAll S' h' vs (xs.map .str)
  | [], [], _ => .nil
  | [], _ :: _, x => by cases x
  | _ :: _, [], x => by cases x
  | _ :: _, _ :: _, x => by cases x with | cons a r => exact .cons (sc_str a) (rdStrs r)
theorem FMI.up {s : Shared} {L P : Addr} {md : Int} {out : List Str} {h h' : Heap} {m : Str → Option Value} (x : FMI s L P md out h m) (k : Kp h h') : FMI s L P md out h' m :=
  ⟨x.kp.trans k, x.ns.keeps k, x.mode, x.perm, let ⟨i, c, e, r⟩ := x.list; ⟨i, c, k _ _ e, r.up k⟩⟩
theorem FMI.but {s : Shared} {L P I : Addr} {md : Int} {out : List Str} {h h' : Heap} {m : Str → Option Value} (x : FMI s L P md out h m) (hI : s.heap.get? I = none) (hLI : L ≠ I) (hPI : P ≠ I) (k : ∀ b o, b ≠ I → h.get? b = some o → h'.get? b = some o) : FMI s L P md out h' m :=
  ⟨fun b o e => k b o (fun q => by rw [q, hI] at e; cases e) (x.kp _ _ e), x.ns.at' fun o e => k L o hLI e, x.mode, x.perm, let ⟨i, c, e, r⟩ := x.list; ⟨i, c, k _ _ hPI e, rdStrs r⟩⟩
theorem FMI.ne {s : Shared} {L P : Addr} {md : Int} {out : List Str} {h : Heap} {m : Str → Option Value} (x : FMI s L P md out h m) : L ≠ P := fun q => by
  obtain ⟨o, es, ep, e, hd, _⟩ := x.ns
  obtain ⟨i, c, e', _⟩ := x.list
  rw [q, e'] at e; cases e; cases hd

section
variable {prog : Program} {w : World} {A : Around} {env : Env} {s : Shared}
theorem for_row {P L T : Addr} {md : Int} {idx : Int} {ps : List (Int × Str)} {out : List Str} {h : Heap} {m : Str → Option Value} {tk : Nat} {px py pt ipos pos : Pos} {k : Nat} {body orelse : List Stmt} {Q : Flow → Shared → Prop} {E : Value → Shared → Prop}
    (mt : Int → Bool) (dflt : Str) (hh : A.handled = none) (hL : env.locals = L) (hk : env.scope.kind = .function) (hb : env.kindOf "bit" = some .local) (hc : env.kindOf "char" = some .local) (ht : env.kindOf "table" = some .local)
    (hsL : s.heap.get? L = none) (hsP : s.heap.get? P = none)
    (fm : FMI s L P md out h m) (htk : 0 < tk) (hidx : ∃ t, m "index" = some (.int idx t)) (htab : m "table" = some (.ref T)) (hT : Rd0 s.heap (.ref T) (rowD ps))
    (hbody : ∀ h m tk b c (Q : Flow → Shared → Prop) (E : Value → Shared → Prop), FMI s L P md out h m → (∃ t, m "index" = some (.int idx t)) → (∃ t, m "bit" = some (.int b t)) → (∃ t, m "char" = some (.str c t)) → 0 < tk →
      (mt b = true → ∀ h' tk', 0 < tk' → FMI s L P md (out ++ [c]) h' m → (∀ b o, b ≠ P → h.get? b = some o → h'.get? b = some o) → Q .brk { s with heap := h', toks := tk' }) →
      (mt b = false → ∀ h' tk', 0 < tk' → Kp h h' → Q .next { s with heap := h', toks := tk' }) → wpAny (model prog w) A (execs body env) Q E { s with heap := h, toks := tk })
    (helse : ∀ h m tk (Q : Flow → Shared → Prop) (E : Value → Shared → Prop), FMI s L P md out h m → (∃ t, m "index" = some (.int idx t)) → 0 < tk →
      (∀ h' tk', 0 < tk' → FMI s L P md (out ++ [dflt]) h' m → (∀ b o, b ≠ P → h.get? b = some o → h'.get? b = some o) → Q .next { s with heap := h', toks := tk' }) → wpAny (model prog w) A (execs orelse env) Q E { s with heap := h, toks := tk })
    (next : ∀ h' m' tk', 0 < tk' → FMI s L P md (out ++ [((ps.find? fun p => mt p.1).map (·.2)).getD dflt]) h' m' → (∀ b o, b ≠ L → b ≠ P → h.get? b = some o → h'.get? b = some o) → Q .next { s with heap := h', toks := tk' }) :
    wpAny (model prog w) A (exec (.For (.Tuple [.Name "bit" px, .Name "char" py] k pt) (.Name "table" ipos) body orelse pos) env) Q E { s with heap := h, toks := tk } := by
  refine wpAny_For (name_local (h₀ := h) (hL ▸ fm.ns) htab hk ht (by decide) ipos _ _ _ (.refl _) ?_)
  cases hT with | tuple hns hg hrd =>
  rename_i items cnt
  have hgT : h.get? T = some (ptup items cnt) := fm.kp _ _ hg
  refine wpAny_pyIter_tuple (items := items) ⟨_, hgT, rfl, _, rfl⟩ ?_
  have hlen := hrd.length
  rw [Array.length_toList, List.length_map] at hlen
  have hI0 : h.get? h.objs.size = none := get_none_size _ (Nat.le_refl _)
  generalize hIe : h.objs.size = I at hI0 ⊢
  have hsI : s.heap.get? I = none := by
    cases e : s.heap.get? I with
    | none => rfl
    | some o => rw [fm.kp _ _ e] at hI0; cases hI0
  have hLI : L ≠ I := fun q => by obtain ⟨o, _, _, e, _⟩ := fm.ns; rw [q, hI0] at e; cases e
  have hPI : P ≠ I := fun q => by obtain ⟨_, _, e, _⟩ := fm.list; rw [q, hI0] at e; cases e
  have hTI : T ≠ I := fun q => by rw [q, hI0] at hgT; cases hgT
  have hpush : Kp h (h.push { cls := .type "tuple_iterator", data := .fields #[.ref T, .int 0 0] }) := kp_push _ _
  have hIpush : (h.push { cls := .type "tuple_iterator", data := .fields #[.ref T, .int 0 0] }).IsTupleIter I T 0 := ⟨_, hIe ▸ Heap.get?_push_size _ rfl, rfl, rfl⟩
  refine codeAny_forLoop_any (fun n s' => ∃ j h₁ tk₁ m₁, s' = { s with heap := h₁, toks := tk₁ } ∧ 0 < tk₁ ∧ j ≤ ps.length ∧ n = ps.length + 1 - j ∧ FMI s L P md out h₁ m₁ ∧ (∃ t, m₁ "index" = some (.int idx t)) ∧ h₁.IsTupleIter I T j ∧ (∀ p ∈ ps.take j, mt p.1 = false) ∧
    (∀ b o, b ≠ L → b ≠ P → h.get? b = some o → h₁.get? b = some o)) ?_ (ps.length + 1)
    ⟨0, _, tk, m, rfl, htk, Nat.zero_le _, rfl, fm.up hpush, hidx, hIpush, by simp, fun b o _ _ e => hpush _ _ e⟩
  rintro n s' ⟨j, h₁, tk₁, m₁, rfl, htk₁, hj, rfl, fm₁, hidx₁, hit, hno, hkeep⟩
  have hT₁ : h₁.IsTuple T items := ⟨_, fm₁.kp _ _ hg, rfl, _, rfl⟩
  by_cases hlt : j < ps.length
  · obtain ⟨v, hv, hrv⟩ := hrd.get j (.tuple [.int ps[j].1, .str ps[j].2]) (by rw [List.getElem?_map, List.getElem?_eq_getElem hlt]; rfl)
    cases hrv with | tuple hns2 hgv hrv =>
    rename_i Tj its cj
    generalize hits : its.toList = lits at hrv
    cases hrv with | cons ra rb =>
    cases rb with | cons rb rc =>
    cases rc
    cases ra with | int _ tb =>
    cases rb with | str _ tc =>
    have hits' : its = #[.int ps[j].1 tb, .str ps[j].2 tc] := by rw [← Array.toList_inj]; exact hits
    subst hits'
    refine wpAny_pyNext_tuple_item hit hT₁ (x := .ref Tj) (by simpa using hv) fun h₂ hit₂ hs₂ => ?_
    have k₂ : ∀ b o, b ≠ I → h₁.get? b = some o → h₂.get? b = some o := fun b o hb e => hs₂.extBut b o hb e
    have fm₂ := fm₁.but hsI hLI hPI k₂
    refine owned_tupleiter hit₂ ?_
    refine asg_pair hh hL fm₂.ns ⟨_, fm₂.kp _ _ hgv, rfl, _, rfl⟩ hk hb hc fun h₃ t₃ q₃ hn₃ k₃ => ?_
    have fm₃ : FMI s L P md out h₃ (fun z => if z = "char" then some (.str ps[j].2 tc) else if z = "bit" then some (.int ps[j].1 tb) else m₁ z) :=
      ⟨fun b o e => k₃ b o (fun q => by rw [q, hsL] at e; cases e) (fm₂.kp _ _ e), hn₃, fm₂.mode, fm₂.perm, let ⟨i, c, e, r⟩ := fm₂.list; ⟨i, c, k₃ _ _ (Ne.symm fm₂.ne) e, rdStrs r⟩⟩
    refine hbody h₃ _ t₃ ps[j].1 ps[j].2 _ _ fm₃ hidx₁ ⟨tb, rfl⟩ ⟨tc, rfl⟩ q₃ (fun hm h₄ t₄ q₄ fm₄ k₄ => ?_) (fun hm h₄ t₄ q₄ k₄ => ?_)
    · have : (ps.find? fun p => mt p.1) = some ps[j] := by
        rw [List.find?_eq_some_iff_getElem]
        refine ⟨hm, j, hlt, rfl, fun i hi => ?_⟩
        have := hno ps[i] (by rw [List.mem_take_iff_getElem]; exact ⟨i, by omega, rfl⟩)
        simpa using this
      exact next h₄ _ t₄ q₄ ((congrArg (fun r : Option (Int × Str) => FMI s L P md (out ++ [(r.map (·.2)).getD dflt]) h₄ _) this).mpr fm₄)
        fun b o h1 h2 e => k₄ b o h2 (k₃ b o h1 (k₂ b o (fun q => by rw [q, hI0] at e; cases e) (hkeep b o h1 h2 e)))
    · refine ⟨ps.length + 1 - (j + 1), by omega, j + 1, h₄, t₄, _, rfl, q₄, hlt, rfl, fm₃.up k₄, hidx₁, ?_, ?_, fun b o h1 h2 e => ?_⟩
      · obtain ⟨o, e, r⟩ := hit₂
        exact ⟨o, k₄ _ _ (k₃ I o (Ne.symm hLI) e), r⟩
      · intro p hp
        rw [List.take_add_one, List.getElem?_eq_getElem hlt] at hp
        rcases List.mem_append.mp hp with hp | hp
        · exact hno p hp
        · simp at hp; rw [hp]; exact hm
      · exact k₄ _ _ (k₃ b o h1 (k₂ b o (fun q => by rw [q, hI0] at e; cases e) (hkeep b o h1 h2 e)))
  · have hjn : j = ps.length := by omega
    subst hjn
    refine wpAny_pyNext_tuple_end hh hit hT₁ (by simp [hlen]) fun h₂ he₂ => ?_
    have k₂ : ∀ b o, b ≠ I → h₁.get? b = some o → h₂.get? b = some o := fun b o hb e => he₂ b o hb e
    refine helse h₂ m₁ tk₁ _ _ (fm₁.but hsI hLI hPI k₂) hidx₁ htk₁ fun h₃ t₃ q₃ fm₃ k₃ => ?_
    have : (ps.find? fun p => mt p.1) = none := by
      rw [List.find?_eq_none]
      intro p hp
      have := hno p (by rw [List.take_length]; exact hp)
      simp [this]
    exact next h₃ _ t₃ q₃ ((congrArg (fun r : Option (Int × Str) => FMI s L P md (out ++ [(r.map (·.2)).getD dflt]) h₃ _) this).mpr fm₃)
      fun b o h1 h2 e => k₃ b o h2 (k₂ b o (fun q => by rw [q, hI0] at e; cases e) (hkeep b o h1 h2 e))
end
end Mine
end

section
open PySem PySem.W PyProof.Rows PySem.Calls
set_option maxRecDepth 100000
set_option maxHeartbeats 2000000
namespace Mine
theorem joinOk_one {sep : Str} {xs : List Str} (h0 : sep = ⟨#[]⟩) (h1 : ∀ x ∈ xs, x.length ≤ 1) (h2 : xs.length ≤ 1000) : JoinOk sep xs = true := by
  subst h0
  have : ∀ (l : List Str) (a : Nat), (∀ x ∈ l, x.length ≤ 1) → l.foldl (fun a x => a + x.length + (⟨#[]⟩ : Str).length) a ≤ a + l.length := by
    intro l
    induction l with
    | nil => intro a _; exact Nat.le_refl _
    | cons x l ih =>
      intro a h
      rw [List.foldl_cons, List.length_cons]
      have h3 := h x (.head _)
      have h4 := ih (a + x.length + (⟨#[]⟩ : Str).length) fun y hy => h y (.tail _ hy)
      have h5 : (⟨#[]⟩ : Str).length = 0 := rfl
      omega
  have h6 := this xs 0 h1
  unfold JoinOk Builtin.Str.tooLong
  rw [List.foldl_toArray]
  have : (1000 : Nat) < sizeLine := by decide
  simp only [Bool.not_eq_true', decide_eq_false_iff_not]
  omega
noncomputable def tableRows : List (List (Int × Str)) :=
  [[(40960, ⟨#[108]⟩), (49152, ⟨#[115]⟩), (32768, ⟨#[45]⟩), (24576, ⟨#[98]⟩), (16384, ⟨#[100]⟩), (8192, ⟨#[99]⟩), (4096, ⟨#[112]⟩)],
   [(256, ⟨#[114]⟩)], [(128, ⟨#[119]⟩)], [(2112, ⟨#[115]⟩), (2048, ⟨#[83]⟩), (64, ⟨#[120]⟩)],
   [(32, ⟨#[114]⟩)], [(16, ⟨#[119]⟩)], [(1032, ⟨#[115]⟩), (1024, ⟨#[83]⟩), (8, ⟨#[120]⟩)],
   [(4, ⟨#[114]⟩)], [(2, ⟨#[119]⟩)], [(513, ⟨#[116]⟩), (512, ⟨#[84]⟩), (1, ⟨#[120]⟩)]]
noncomputable def mtF (md idx b : Int) : Bool := if (idx == 0) = true then Builtin.bitAnd md 61440 == b else Builtin.bitAnd md b == b
noncomputable def dfF (idx : Int) : Str := if (idx == 0) = true then Str.ofString "?" else Str.ofString "-"
noncomputable def pickF (md : Int) (i : Nat) : Str := (((tableRows.getD i []).find? fun p => mtF md i p.1).map (·.2)).getD (dfF i)
noncomputable def outF (md : Int) (i : Nat) : List Str := (List.range i).map (pickF md)
noncomputable def fmF (md : Int) : Str := Txt.join ⟨#[]⟩ (outF md 10)
theorem table_rd {w : World} {mg mb : Str → Option Value} {h : Heap} (G : Gr (hd.heap_39 w.params) mg mb h) : Rd0 h (.ref 68) (.tuple (tableRows.map rowD)) :=
  readsK_rd G.K 3 _ _ (by kernel_rfl)
theorem pickF_len (md : Int) (i : Nat) : (pickF md i).length ≤ 1 := by
  have hall : ∀ i : Nat, ∀ p ∈ tableRows.getD i [], p.2.length ≤ 1 := by
    intro i
    by_cases hi : i < 10
    · exact (by decide : ∀ i < 10, ∀ p ∈ tableRows.getD i [], p.2.length ≤ 1) i hi
    · intro p hp
      have hn : tableRows[i]? = none := List.getElem?_eq_none (by simp [tableRows]; omega)
      simp [List.getD, hn] at hp
  unfold pickF
  cases e : (tableRows.getD i []).find? fun p => mtF md i p.1 with
  | none =>
    show (dfF i).length ≤ 1
    unfold dfF; split <;> decide
  | some p => exact hall i p (List.mem_of_find?_eq_some e)
theorem FMI.but2 {s : Shared} {L P : Addr} {Wr : Addr → Prop} {md : Int} {out : List Str} {h h' : Heap} {m : Str → Option Value} (x : FMI s L P md out h m) (hw : ∀ b, Wr b → s.heap.get? b = none ∧ b ≠ L ∧ b ≠ P) (k : ∀ b o, ¬ Wr b → h.get? b = some o → h'.get? b = some o) : FMI s L P md out h' m :=
  ⟨fun b o e => k b o (fun q => by rw [(hw b q).1] at e; cases e) (x.kp _ _ e), x.ns.at' fun o e => k L o (fun q => (hw L q).2.1 rfl) e, x.mode, x.perm, let ⟨i, c, e, r⟩ := x.list; ⟨i, c, k _ _ (fun q => (hw P q).2.2 rfl) e, rdStrs r⟩⟩
theorem FMI.app {s : Shared} {L P : Addr} {md : Int} {out : List Str} {c : Str} {h h' : Heap} {m : Str → Option Value} {items : Array Value} {cnt' : Nat} {v : Value} (x : FMI s L P md out h m) (hsP : s.heap.get? P = none) (k : ∀ b o, b ≠ P → h.get? b = some o → h'.get? b = some o)
    (hi : RdAll0 h items.toList (out.map .str)) (e : h'.get? P = some (plist (items.push v) cnt')) (r : Rd (fun _ => False) h' v (.str c)) : FMI s L P md (out ++ [c]) h' m :=
  ⟨fun b o e => k b o (fun q => by rw [q, hsP] at e; cases e) (x.kp _ _ e), x.ns.at' fun o e => k L o x.ne e, x.mode, x.perm, _, _, e, by
    rw [Array.toList_push, List.map_append]
    exact (rdStrs hi).append (.cons r .nil)⟩
theorem szF (h : Heap) : Sz (fun _ => False) h := fun _ q => q.elim
theorem ns0 {h : Heap} {L : Addr} {m : Str → Option Value} (n : h.Ns L m) : (hideP (fun _ => False) h).Ns L m := ns_hide n id

theorem fm_append {prog : Program} {w : World} {A : Around} {env : Env} {s : Shared} {L P : Addr} {md : Int} {out : List Str} {h : Heap} {m : Str → Option Value} {tk : Nat} {e : Expr} {c : Str} {p apos pos spos : Pos} {Q : Flow → Shared → Prop} {E : Value → Shared → Prop}
    (hL : env.locals = L) (hk : env.scope.kind = .function) (hp : env.kindOf "perm" = some .local) (fm : FMI s L P md out h m) (hsP : s.heap.get? P = none) (htk : 0 < tk) (he : EvK (model prog w) A e env (hideP (fun _ => False) h) (.str c)) (hout : out.length ≤ 1000)
    (hline : (apos.endLine == pos.line) = true) (hs : backTo pos (starEach [e] env) = [(false, eval e env)])
    (hi : interactive env = false) (hsw : swapsWith (.Call (.Attribute (.Name "perm" p) "append" apos) [e] [] pos) none spos.line env = pure false)
    (next : ∀ h' tk', 0 < tk' → FMI s L P md (out ++ [c]) h' m → (∀ b o, b ≠ P → h.get? b = some o → h'.get? b = some o) → Q .next { s with heap := h', toks := tk' }) :
    wpAny (model prog w) A (exec (.Expr (.Call (.Attribute (.Name "perm" p) "append" apos) [e] [] pos) spos) env) Q E { s with heap := h, toks := tk } := by
  obtain ⟨items, cnt, hgP, hrP⟩ := fm.list
  have hsz : items.size ≤ 1000 := by
    have := hrP.length
    rw [Array.length_toList, List.length_map] at this
    rw [this]; exact hout
  refine do_append (fun Q' E' k => name_local (h₀ := h) (hL ▸ fm.ns) fm.perm hk hp (by decide) p _ _ _ (.refl _) (k h tk htk (.refl _))) he sc_str (szF _) hgP hsz rfl hline hs hi hsw fun v h' tk' q k e' r => ?_
  exact next h' tk' q (fm.app hsP k hrP e' r) k

theorem c_filemode {w : World} {A : Around} {mg mb : Str → Option Value} {h₀ : Heap} (G : Gr (hd.heap_39 w.params) mg mb h₀) (hh : A.handled = none) (hdp : A.depth + 4 < recursionLimit) (md : Int) :
    CallK (model Challenge.rw_oy0055_01.row.prog w) A (.ref 75) [.int md] h₀ (.str (fmF md)) := .mk fun s Q E S vs ht kn sz rd post => by
  revert G; k_fill; intro G
  cases rd with | cons r₁ r₂ => cases r₂; cases r₁ with | int _ t =>
  refine' enter [(Str.ofString "mode", .int md t)] ?k1 ?k2 ?k3 ?k4 ?k5 ?k6 ?k7 ?k8 ?k9 ?k10 ?k11 ht ?_
  case k1 => exact (G.up kn.kp).K
  case k2 => exact (G.up kn.kp).lim
  case k3 => k_is
  case k4 => k_is
  case k5 => show A.depth < recursionLimit; omega
  case k6 => exact BindsTo.of_eq rfl
  case k7 => exact locs rfl
  case k8 => decide
  case k9 => rfl
  case k10 => rfl
  case k11 => rfl
  intro L h₁ tk htk hL F
  have hbL : s.heap.get? L = none := get_none_size _ (Nat.le_of_eq hL.symm)
  have Gs := G.up kn.kp
  have hG : ∀ {h : Heap}, Kp s.heap h → Gr (hd.heap_39 w.params) mg mb (hideP (fun _ => False) h) := fun k => Gs.up fun a o e => hideP_get.mpr ⟨id, k _ _ e⟩
  refine wpAny_execs_cons (do_local (S := fun a => ∃ o, s.heap.get? a = some o) (d := .list []) (ev_list .nil (by decide)) rfl F.ns hbL F.keep (fun a q => q) htk rfl rfl rfl fun v h₂ t₂ q₂ k₂ hn₂ r₂ _ => ?_)
  cases r₂ with | list hP hg hq =>
  rename_i P items cnt
  have hsP : s.heap.get? P = none := by
    cases e : s.heap.get? P with
    | none => rfl
    | some o => exact absurd ⟨o, e⟩ hP
  have fm₂ : FMI s L P md (outF md 0) h₂ (fun y => if y = Str.ofString "perm" then some (.ref P) else List.lookup y [(Str.ofString "mode", .int md t)].reverse) :=
    ⟨k₂, hn₂, ⟨t, rfl⟩, rfl, items, cnt, hg, (by cases hitems : items.toList with | nil => exact .nil | cons a b => rw [hitems] at hq; cases hq)⟩
  generalize (fun y => if y = Str.ofString "perm" then some (Value.ref P) else List.lookup y [(Str.ofString "mode", Value.int md t)].reverse) = m₂ at fm₂
  refine wpAny_execs_cons (wpAny_For ?_)
  have G2 := hG fm₂.kp
  refine Call_Name (trees := backTo _ (starEach [.Name (Str.ofString "_filemode_table") _] _)) rfl (nm_enumerate G2 ⟨rfl, rfl, rfl⟩ rfl _ _ _ _ (Kn.hide (fun _ => False) h₂).kp ?_)
  refine Pv.callWith_type1 (spliced_more (nm_filemode_table G2 ⟨rfl, rfl, rfl⟩ rfl _ _ _ _ (Kn.hide (fun _ => False) h₂).kp (spliced_none ?_)) rfl) rfl rfl
  have hrd := table_rd Gs
  cases hrd with | tuple hns hgt hrd =>
  rename_i trows tcnt
  have hlen := hrd.length
  rw [Array.length_toList, List.length_map] at hlen
  have hlen10 : trows.size = 10 := hlen
  refine call_enumerate_tuple (items := trows) ⟨_, fm₂.kp _ _ hgt, rfl, _, rfl⟩ fun h₃ hE₃ hI₃ k₃ => ?_
  refine wpAny_pyIter_enum hE₃ ?_
  have hit0 : h₂.get? h₂.objs.size = none := get_none_size _ (Nat.le_refl _)
  have he0 : h₂.get? (h₂.objs.size + 1) = none := get_none_size _ (Nat.le_succ _)
  generalize hit' : h₂.objs.size = it at hE₃ hI₃ hit0 he0 ⊢
  generalize he' : it + 1 = e at hE₃ he0 ⊢
  have hei : e ≠ it := by omega
  have old : ∀ {b}, h₂.get? b = none → s.heap.get? b = none ∧ b ≠ L ∧ b ≠ P := fun {b} hb => by
    refine ⟨?_, fun q => ?_, fun q => ?_⟩
    · cases e : s.heap.get? b with
      | none => rfl
      | some o => rw [fm₂.kp _ _ e] at hb; cases hb
    · obtain ⟨o, _, _, e, _⟩ := fm₂.ns; rw [← q, hb] at e; cases e
    · obtain ⟨_, _, e, _⟩ := fm₂.list; rw [← q, hb] at e; cases e
  have h68 : ∀ {b}, h₂.get? b = none → (68 : Nat) ≠ b := fun {b} hb q => by rw [← q, fm₂.kp _ _ hgt] at hb; cases hb
  have hwr : ∀ b, (b = e ∨ b = it) → s.heap.get? b = none ∧ b ≠ L ∧ b ≠ P := by
    rintro b (rfl | rfl)
    · exact old he0
    · exact old hit0
  have W := fun (A' : Around) (hh' : A'.handled = none) => WalksT.enumerateD (prog := Challenge.rw_oy0055_01.row.prog) (w := w) (A := A') (draws_tuple (prog := Challenge.rw_oy0055_01.row.prog) (w := w) (A := A'.in1) hh' it 68 (h68 hit0) trows) e hei (by
    intro q
    rcases List.mem_cons.mp q with q | q
    · exact hei q
    · exact h68 he0 (List.mem_singleton.mp q).symm) (List.mem_cons_self ..)
  refine codeAny_forLoop_any (fun n s' => ∃ i h tk m, s' = { s with heap := h, toks := tk } ∧ 0 < tk ∧ i ≤ 10 ∧ n = 11 - i ∧ FMI s L P md (outF md i) h m ∧ (∃ old, IsEnum h e it i old) ∧ h.IsTupleIter it 68 i ∧ h.IsTuple 68 trows) ?_ 11
    ⟨0, h₃, t₂, m₂, rfl, q₂, by decide, rfl, fm₂.up k₃, ⟨.none, hE₃⟩, hI₃, ⟨_, k₃ _ _ (fm₂.kp _ _ hgt), rfl, _, rfl⟩⟩
  rintro n s' ⟨i, h, tk', m, rfl, htk', hi, rfl, fm, hen, hiter, htup⟩
  by_cases hlt : i < 10
  · refine wpAny_with_toks (n := 1) htk' ((W (A.deeper _) hh).item i _ _ _ (by omega) ⟨hen, hiter, htup⟩ fun T vals h₄ t₄ hPt hTle hT₄ hMid k₄ q₄ => ?_)
    have k₄' : ∀ b o, ¬ (b = e ∨ b = it) → h.get? b = some o → h₄.get? b = some o := fun b o hb x => k₄ b o (by simpa using hb) x
    have fm₄ := fm.but2 hwr k₄'
    obtain ⟨tt, xv, hxv, rfl⟩ := hPt
    obtain ⟨dd, hdd, hrx⟩ := hrd.at i xv (by simpa using hxv)
    rw [List.getElem?_map, Option.map_eq_some_iff] at hdd
    obtain ⟨ps, hps, rfl⟩ := hdd
    have hTap := (W A hh).apart i T _ hMid
    refine (W (A.deeper _) hh).go _ _ _ i T _ _ _ hMid fun h₅ hst₅ k₅ => ?_
    have k₅' : ∀ b o, ¬ (b = e ∨ b = it) → h₄.get? b = some o → h₅.get? b = some o := fun b o hb x => k₅ b o (by simpa using hb) x
    have fm₅ := fm₄.but2 hwr k₅'
    have hT₅ : h₅.IsTuple T #[.int i tt, xv] := hT₄.at fun o x => k₅ T o hTap x
    refine asg_pair (L := L) hh rfl fm₅.ns hT₅ rfl rfl rfl fun h₆ t₆ q₆ hn₆ k₆ => ?_
    have fm₆ : FMI s L P md (outF md i) h₆ (fun z => if z = Str.ofString "table" then some xv else if z = Str.ofString "index" then some (.int i tt) else m z) :=
      ⟨fun b o x => k₆ b o (fun q => by rw [q, hbL] at x; cases x) (fm₅.kp _ _ x), hn₆, fm₅.mode, fm₅.perm, let ⟨i, c, x, r⟩ := fm₅.list; ⟨i, c, k₆ _ _ (Ne.symm fm₅.ne) x, rdStrs r⟩⟩
    obtain ⟨Tr, rfl⟩ : ∃ Tr, xv = .ref Tr := by cases hrx; exact ⟨_, rfl⟩
    refine wpAny_execs_cons (for_row (s := s) (P := P) (L := L) (T := Tr) (md := md) (idx := i) (ps := ps) (out := outF md i) (mtF md i) (dfF i) hh rfl rfl rfl rfl rfl hbL hsP fm₆ q₆ ⟨tt, rfl⟩ rfl hrx ?body ?els ?nxt)
    case nxt =>
      intro h₇ m₇ t₇ q₇ fm₇ k₇
      refine wpAny_execs_nil ⟨11 - (i + 1), by omega, i + 1, h₇, t₇, m₇, rfl, q₇, hlt, rfl, ?_, ?_⟩
      · have : outF md (i + 1) = outF md i ++ [((ps.find? fun p => mtF md i p.1).map (·.2)).getD (dfF i)] := by
          unfold outF
          rw [List.range_succ, List.map_append]
          congr 1
          simp only [List.map_cons, List.map_nil, pickF, List.getD, hps, Option.getD_some]
        rw [this]; exact fm₇
      · have hst₇ := (W A hh).frame (i + 1) h₅ h₇ hst₅ fun b hb o x => by
          have hbn : b ≠ L ∧ b ≠ P := by
            rcases List.mem_cons.mp hb with rfl | hb
            · exact (old he0).2
            · rcases List.mem_cons.mp hb with rfl | hb
              · exact (old hit0).2
              · rw [List.mem_singleton.mp hb]
                exact ⟨(fun q => by rw [← q, hgt] at hbL; cases hbL), (fun q => by rw [← q, hgt] at hsP; cases hsP)⟩
          exact k₇ b o hbn.1 hbn.2 (k₆ b o hbn.1 x)
        exact hst₇
    case els =>
      intro h m tk Q' E' fm ⟨ti, hi⟩ htk next
      have hn := ns0 fm.ns
      refine wpAny_execs_cons (wpAny_If (test_cmp (ev_of_name (name_local hn hi rfl rfl (by decide)) (.int _ ti)) ev_int cmp_eq_int rfl _ _ _ (fun _ => False) htk (Kn.hide _ _) (szF _) fun h₇ t₇ q₇ k₇ => ?_))
      have fm₇ := fm.up k₇
      have hout : (outF md i).length ≤ 1000 := by simp [outF]; omega
      cases hc : ((i : Int) == 0) with
      | true =>
        rw [if_pos rfl]
        refine wpAny_execs_cons (fm_append (s := s) (L := L) rfl rfl rfl fm₇ hsP q₇ ev_str hout rfl rfl rfl rfl fun h₈ t₈ q₈ fm₈ k₈ => ?_)
        refine wpAny_execs_nil (wpAny_execs_nil (next h₈ t₈ q₈ ?_ fun b o hb x => k₈ b o hb (k₇ _ _ x)))
        have : dfF i = Str.ofString "?" := by unfold dfF; rw [if_pos hc]
        rw [this]; exact fm₈
      | false =>
        rw [if_neg (by decide)]
        refine wpAny_execs_cons (fm_append (s := s) (L := L) rfl rfl rfl fm₇ hsP q₇ ev_str hout rfl rfl rfl rfl fun h₈ t₈ q₈ fm₈ k₈ => ?_)
        refine wpAny_execs_nil (wpAny_execs_nil (next h₈ t₈ q₈ ?_ fun b o hb x => k₈ b o hb (k₇ _ _ x)))
        have : dfF i = Str.ofString "-" := by unfold dfF; rw [if_neg (by rw [hc]; decide)]
        rw [this]; exact fm₈
    case body =>
      intro h m tk b c Q' E' fm ⟨ti, hi⟩ ⟨tb, hbit⟩ ⟨tc, hch⟩ htk hbrk hnxt
      have hn := ns0 fm.ns
      obtain ⟨tm, hmode⟩ := fm.mode
      have hout : (outF md i).length ≤ 1000 := by simp [outF]; omega
      refine wpAny_execs_cons (wpAny_If (test_cmp (ev_of_name (name_local hn hi rfl rfl (by decide)) (.int _ ti)) ev_int cmp_eq_int rfl _ _ _ (fun _ => False) htk (Kn.hide _ _) (szF _) fun h₇ t₇ q₇ k₇ => ?_))
      have fm₇ := fm.up k₇
      have hn₇ := ns0 fm₇.ns
      have G₇ := hG fm₇.kp
      obtain ⟨o, fd, ho, hfd⟩ := fn_S_IFMT G₇
      cases hc : ((i : Int) == 0) with
      | true =>
        rw [if_pos rfl]
        have hmt : mtF md i b = (Builtin.bitAnd md 61440 == b) := by unfold mtF; rw [if_pos hc]
        rw [hmt] at hbrk hnxt
        refine wpAny_execs_cons (wpAny_If (test_cmp (ev_call (nm_S_IFMT G₇ ⟨rfl, rfl, rfl⟩ rfl) ho hfd (.cons rfl (ev_of_name (name_local hn₇ hmode rfl rfl (by decide)) (.int md tm)) .nil) (c_ifmt (A := A.deeper _) G₇ (by show A.depth + 1 + 2 < recursionLimit; omega) md))
          (ev_of_name (name_local hn₇ hbit rfl rfl (by decide)) (.int b tb)) cmp_eq_int rfl _ _ _ (fun _ => False) q₇ (Kn.hide _ _) (szF _) fun h₈ t₈ q₈ k₈ => ?_))
        have fm₈ := fm₇.up k₈
        cases hm : (Builtin.bitAnd md 61440 == b) with
        | true =>
          rw [if_pos rfl]
          refine wpAny_execs_cons (fm_append (s := s) (L := L) rfl rfl rfl fm₈ hsP q₈ (ev_of_name (name_local (ns0 fm₈.ns) hch rfl rfl (by decide)) (.str c tc)) hout rfl rfl rfl rfl fun h₉ t₉ q₉ fm₉ k₉ => ?_)
          exact wpAny_execs_cons (wpAny_Break (hbrk hm h₉ t₉ q₉ fm₉ fun b o hb x => k₉ b o hb (k₈ _ _ (k₇ _ _ x))))
        | false =>
          rw [if_neg (by decide)]
          exact wpAny_execs_nil (wpAny_execs_nil (wpAny_execs_nil (hnxt hm h₈ t₈ q₈ (k₇.trans k₈))))
      | false =>
        rw [if_neg (by decide)]
        have hmt : mtF md i b = (Builtin.bitAnd md b == b) := by unfold mtF; rw [if_neg (by rw [hc]; decide)]
        rw [hmt] at hbrk hnxt
        refine wpAny_execs_cons (wpAny_If (test_cmp (ev_bin (ev_of_name (name_local hn₇ hmode rfl rfl (by decide)) (.int md tm)) (ev_of_name (name_local hn₇ hbit rfl rfl (by decide)) (.int b tb)) op_and)
          (ev_of_name (name_local hn₇ hbit rfl rfl (by decide)) (.int b tb)) cmp_eq_int rfl _ _ _ (fun _ => False) q₇ (Kn.hide _ _) (szF _) fun h₈ t₈ q₈ k₈ => ?_))
        have fm₈ := fm₇.up k₈
        cases hm : (Builtin.bitAnd md b == b) with
        | true =>
          rw [if_pos rfl]
          refine wpAny_execs_cons (fm_append (s := s) (L := L) rfl rfl rfl fm₈ hsP q₈ (ev_of_name (name_local (ns0 fm₈.ns) hch rfl rfl (by decide)) (.str c tc)) hout rfl rfl rfl rfl fun h₉ t₉ q₉ fm₉ k₉ => ?_)
          exact wpAny_execs_cons (wpAny_Break (hbrk hm h₉ t₉ q₉ fm₉ fun b o hb x => k₉ b o hb (k₈ _ _ (k₇ _ _ x))))
        | false =>
          rw [if_neg (by decide)]
          exact wpAny_execs_nil (wpAny_execs_nil (wpAny_execs_nil (hnxt hm h₈ t₈ q₈ (k₇.trans k₈))))
  · have hi10 : i = 10 := by omega
    subst hi10
    refine wpAny_with_toks (n := 1) htk' ((W (A.deeper _) hh).done _ _ _ (by rw [hlen10]; exact ⟨hen, hiter, htup⟩) fun h₄ t₄ k₄ q₄ => ?_)
    have k₄' : ∀ b o, ¬ (b = e ∨ b = it) → h.get? b = some o → h₄.get? b = some o := fun b o hb x => k₄ b o (by simpa using hb) x
    have fm₄ := fm.but2 hwr k₄'
    refine wpAny_execs_nil ?_
    refine wpAny_execs_cons (wpAny_Return_some ?_)
    obtain ⟨items, cnt, hgP, hrP⟩ := fm₄.list
    refine (ev_join (xs := outF md 10) (ev_of_name (name_local (ns0 fm₄.ns) fm₄.perm rfl rfl (by decide)) (.list id (hideP_get.mpr ⟨id, hgP⟩) (rdStrs hrP))) (joinOk_one rfl ?_ (by simp [outF])) rfl rfl) _ _ _ (fun _ => False) q₄ (Kn.hide _ _) (szF _) fun v h' tk'' _ k r => ?_
    · intro x hx
      obtain ⟨j, _, rfl⟩ := List.mem_map.mp hx
      exact pickF_len md j
    · exact post v h' tk'' (fm₄.kp.trans k) (sc_str r)
end Mine
end

section
open PySem PySem.W PyProof.Rows PySem.Calls
set_option maxRecDepth 100000
set_option maxHeartbeats 2000000
namespace Mine
noncomputable def stepL (p : List Int × List Int) (n : Int) : List Int × List Int := if (n.fmod 2 == 0) = true then (p.1 ++ [(n.fdiv 2).fmod 512], p.2) else (p.1, p.2 ++ [(n.fdiv 2).fmod 512])
noncomputable def startL : List Int × List Int := ([256, 56, 7, 40, 0], [4, 448, 5, 5, 384])
noncomputable def listsF (ns : List Int) : List Int × List Int := (ns.take 4).foldl stepL startL
noncomputable def intsD (l : List Int) : PyData := .list (l.map .int)
theorem rdInts {S S' : Addr → Prop} {h h' : Heap} : ∀ {vs : List Value} {xs : List Int}, RdAll S h vs (xs.map .int) → RdAll S' h' vs (xs.map .int)
  | [], [], _ => .nil
  | [], _ :: _, x => by cases x
  | _ :: _, [], x => by cases x
  | _ :: _, _ :: _, x => by cases x with | cons a r => exact .cons (sc_int a) (rdInts r)
/-- the state between the turns of _law_lists -/
structure LLI (s : Shared) (L O P₀ P₁ : Addr) (p : List Int × List Int) (h : Heap) (m : Str → Option Value) : Prop where
  kp : Kp s.heap h
  ns : h.Ns L m
  name : m "lists" = some (.ref O)
  out : ∃ c, h.get? O = some (plist #[.ref P₀, .ref P₁] c)
  one : ∃ items c, h.get? P₀ = some (plist items c) ∧ RdAll0 h items.toList (p.1.map .int)
  two : ∃ items c, h.get? P₁ = some (plist items c) ∧ RdAll0 h items.toList (p.2.map .int)
theorem LLI.but {s : Shared} {L O P₀ P₁ I : Addr} {p : List Int × List Int} {h h' : Heap} {m : Str → Option Value} (x : LLI s L O P₀ P₁ p h m) (hI : s.heap.get? I = none) (hLI : L ≠ I) (hO : O ≠ I) (h0 : P₀ ≠ I) (h1 : P₁ ≠ I)
    (k : ∀ b o, b ≠ I → h.get? b = some o → h'.get? b = some o) : LLI s L O P₀ P₁ p h' m :=
  ⟨fun b o e => k b o (fun q => by rw [q, hI] at e; cases e) (x.kp _ _ e), x.ns.at' fun o e => k L o hLI e, x.name, let ⟨c, e⟩ := x.out; ⟨c, k _ _ hO e⟩,
    let ⟨i, c, e, r⟩ := x.one; ⟨i, c, k _ _ h0 e, rdInts r⟩, let ⟨i, c, e, r⟩ := x.two; ⟨i, c, k _ _ h1 e, rdInts r⟩⟩
theorem LLI.live {s : Shared} {L O P₀ P₁ I : Addr} {p : List Int × List Int} {h : Heap} {m : Str → Option Value} (x : LLI s L O P₀ P₁ p h m) (hI : h.get? I = none) : s.heap.get? I = none ∧ L ≠ I ∧ O ≠ I ∧ P₀ ≠ I ∧ P₁ ≠ I := by
  refine ⟨?_, ?_, ?_, ?_, ?_⟩
  · cases e : s.heap.get? I with
    | none => rfl
    | some o => rw [x.kp _ _ e] at hI; cases hI
  · rintro rfl; obtain ⟨o, _, _, e, _⟩ := x.ns; rw [hI] at e; cases e
  · rintro rfl; obtain ⟨c, e⟩ := x.out; rw [hI] at e; cases e
  · rintro rfl; obtain ⟨_, c, e, _⟩ := x.one; rw [hI] at e; cases e
  · rintro rfl; obtain ⟨_, c, e, _⟩ := x.two; rw [hI] at e; cases e
theorem listsF_len (l : List Int) : ∀ p : List Int × List Int, (l.foldl stepL p).1.length ≤ p.1.length + l.length ∧ (l.foldl stepL p).2.length ≤ p.2.length + l.length := by
  induction l with
  | nil => intro p; exact ⟨Nat.le_refl _, Nat.le_refl _⟩
  | cons n l ih =>
    intro p
    rw [List.foldl_cons]
    have h := ih (stepL p n)
    have e : (stepL p n).1.length ≤ p.1.length + 1 ∧ (stepL p n).2.length ≤ p.2.length + 1 := by
      unfold stepL; split <;> simp
    rw [List.length_cons]
    omega

theorem c_lists {w : World} {A : Around} {mg mb : Str → Option Value} {h₀ : Heap} (G : Gr (hd.heap_39 w.params) mg mb h₀) (hh : A.handled = none) (hdp : A.depth + 4 < recursionLimit) (a : Addr) (vs : List Value) (ns : List Int) (hints : IntsAre vs ns) (hlen : vs.length ≤ 1000)
    (s : Shared) (Q E : Value → Shared → Prop) (S : Addr → Prop) (ht : 0 < s.toks) (kn : Kn h₀ S s.heap) (sz : Sz S s.heap) (ha : s.heap.IsList a vs.toArray)
    (post : ∀ v h' tk, 0 < tk → Kp s.heap h' → Rd S h' v (.list [intsD (listsF ns).1, intsD (listsF ns).2]) → Q v { s with heap := h', toks := tk }) :
    wpAny (model Challenge.rw_oy0055_01.row.prog w) A (call (.ref 96) [.ref a]) Q E s := by
  revert G; k_fill; intro G
  refine' enter [(Str.ofString "script", .ref a)] ?k1 ?k2 ?k3 ?k4 ?k5 ?k6 ?k7 ?k8 ?k9 ?k10 ?k11 ht ?_
  case k1 => exact (G.up kn.kp).K
  case k2 => exact (G.up kn.kp).lim
  case k3 => k_is
  case k4 => k_is
  case k5 => show A.depth < recursionLimit; omega
  case k6 => exact BindsTo.of_eq rfl
  case k7 => exact locs rfl
  case k8 => decide
  case k9 => rfl
  case k10 => rfl
  case k11 => rfl
  intro L h₁ tk htk hL F
  have hbL : s.heap.get? L = none := get_none_size _ (Nat.le_of_eq hL.symm)
  refine wpAny_execs_cons ?_
  generalize hvv : (Expr.List _ _ : Expr) = vv
  refine do_local (L := L) (S := fun a => ∃ o, s.heap.get? a = some o) (d := .list [.list [.int 256, .int 56, .int 7, .int 40, .int 0], .list [.int 4, .int 448, .int 5, .int 5, .int 384]]) ?hev
    rfl F.ns hbL F.keep (fun a q => q) htk rfl rfl ?hsw fun v h₂ t₂ q₂ k₂ hn₂ r₂ _ => ?_
  case hev =>
    subst hvv
    exact ev_list (.cons rfl (ev_list (.cons rfl ev_int (.cons rfl ev_int (.cons rfl ev_int (.cons rfl ev_int (.cons rfl ev_int .nil))))) (by simp)) (.cons rfl (ev_list (.cons rfl ev_int (.cons rfl ev_int (.cons rfl ev_int (.cons rfl ev_int (.cons rfl ev_int .nil))))) (by simp)) .nil)) (by simp)
  case hsw => subst hvv; rfl
  clear hvv
  cases r₂ with | list hO hgO hqO =>
  rename_i O its cO
  generalize hits : its.toList = lits at hqO
  cases hqO with | cons r₀ rr =>
  cases rr with | cons r₁ rr =>
  cases rr
  cases r₀ with | list hP₀ hg₀ hq₀ =>
  cases r₁ with | list hP₁ hg₁ hq₁ =>
  rename_i P₀ i₀ c₀ P₁ i₁ c₁
  have hits' : its = #[.ref P₀, .ref P₁] := by rw [← Array.toList_inj]; exact hits
  subst hits'
  have fresh : ∀ {b}, ¬ (∃ o, s.heap.get? b = some o) → s.heap.get? b = none := fun {b} hb => by
    cases e : s.heap.get? b with
    | none => rfl
    | some o => exact absurd ⟨o, e⟩ hb
  have n01 : P₀ ≠ P₁ := by
    rintro rfl
    rw [hg₀] at hg₁; cases hg₁
    generalize i₀.toList = l at hq₀ hq₁
    cases hq₀ with | cons x _ => cases hq₁ with | cons y _ => cases x; cases y
  have nO0 : O ≠ P₀ := by
    rintro rfl
    rw [hgO] at hg₀; cases hg₀
    cases hq₀ with | cons x _ => cases x
  have nO1 : O ≠ P₁ := by
    rintro rfl
    rw [hgO] at hg₁; cases hg₁
    cases hq₁ with | cons x _ => cases x
  have nL : ∀ {b items c}, h₂.get? b = some (plist items c) → L ≠ b := fun {b items c} e q => by
    obtain ⟨o, es, ep, e', hd, _⟩ := hn₂
    rw [q, e] at e'; cases e'; cases hd
  have lli : LLI s L O P₀ P₁ startL h₂ (fun y => if y = Str.ofString "lists" then some (.ref O) else List.lookup y [(Str.ofString "script", .ref a)].reverse) :=
    ⟨k₂, hn₂, rfl, ⟨_, hgO⟩, ⟨_, _, hg₀, rdInts hq₀⟩, ⟨_, _, hg₁, rdInts hq₁⟩⟩
  have hscr : (fun y => if y = Str.ofString "lists" then some (Value.ref O) else List.lookup y [(Str.ofString "script", Value.ref a)].reverse) (Str.ofString "script") = some (.ref a) := rfl
  have nLO := nL hgO
  have nL0 := nL hg₀
  have nL1 := nL hg₁
  generalize (fun y => if y = Str.ofString "lists" then some (Value.ref O) else List.lookup y [(Str.ofString "script", Value.ref a)].reverse) = m₂ at lli hscr
  refine wpAny_execs_cons (wpAny_For ?_)
  refine wpAny_Subscript_list_slice (name_local (h₀ := h₂) lli.ns hscr rfl rfl (by decide) _ _ _ _ (.refl _) ?_) (fun _ _ => rfl)
  rw [evalPart_none, evalPart_some]
  refine wpAny_pure (wpAny_Constant_int ?_)
  have ha₂ : h₂.IsList a vs.toArray := let ⟨o, e, r⟩ := ha; ⟨o, k₂ _ _ e, r⟩
  refine ⟨a, vs.toArray, none, some 4, rfl, ha₂, ?_, .none, .int _ _, ?_⟩
  · rw [List.size_toArray]; exact Nat.le_trans hlen (by decide)
  have e4 : slicePick vs.toArray none (some 4) none = (vs.take 4).toArray := by
    have := slicePick_upto' vs.toArray 4
    simpa using this
  rw [e4]
  dsimp only
  generalize hh₃ : ((h₂.push { cls := .type "slice", data := .fields #[.none, .int 4 t₂, .none] }).push { cls := .type "list", data := .seq (vs.take 4).toArray }) = h₃
  have k₃ : Kp h₂ h₃ := by rw [← hh₃]; exact (kp_push _ _).trans (kp_push _ _)
  have hsl : h₃.IsList (h₂.objs.size + 1) (vs.take 4).toArray := ⟨_, by
    rw [← hh₃]
    have := Heap.get?_push_size (h₂.push { cls := .type "slice", data := .fields #[.none, .int 4 t₂, .none] }) (o := { cls := .type "list", data := .seq (vs.take 4).toArray }) rfl
    rw [Heap.size_push] at this; exact this, rfl, _, rfl⟩
  have hB₂ : h₂.get? (h₂.objs.size + 1) = none := get_none_size _ (Nat.le_succ _)
  generalize h₂.objs.size + 1 = B at hsl hB₂ ⊢
  refine wpAny_pyIter_list hsl ?_
  have hI₃ : h₃.get? h₃.objs.size = none := get_none_size _ (Nat.le_refl _)
  have hk₄ : Kp h₃ (h₃.push { cls := .type "list_iterator", data := .fields #[.ref B, .int 0 0] }) := kp_push _ _
  have hit₄ : (h₃.push { cls := .type "list_iterator", data := .fields #[.ref B, .int 0 0] }).IsListIter h₃.objs.size B 0 := ⟨_, Heap.get?_push_size _ rfl, rfl, rfl⟩
  generalize (h₃.push { cls := .type "list_iterator", data := .fields #[.ref B, .int 0 0] }) = h₄ at hk₄ hit₄
  generalize h₃.objs.size = I at hI₃ hit₄
  have hI₂ : h₂.get? I = none := by
    cases e : h₂.get? I with
    | none => rfl
    | some o => rw [k₃ _ _ e] at hI₃; cases hI₃
  obtain ⟨nI, nIL, nIO, nI0, nI1⟩ := lli.live hI₂
  obtain ⟨nB, nBL, nBO, nB0, nB1⟩ := lli.live hB₂
  have nBI : B ≠ I := fun q => by obtain ⟨o, e, _⟩ := hsl; rw [q, hI₃] at e; cases e
  have hi4 : IntsAre (vs.take 4) (ns.take 4) := hints.take 4
  have hl4 := hi4.length
  have hl4' : (ns.take 4).length ≤ 4 := by rw [List.length_take]; exact Nat.min_le_left _ _
  refine codeAny_forLoop (fun n s' => ∃ j h tk m, s' = { s with heap := h, toks := tk } ∧ 0 < tk ∧ j ≤ (ns.take 4).length ∧ n = (ns.take 4).length + 1 - j ∧ LLI s L O P₀ P₁ (((ns.take 4).take j).foldl stepL startL) h m ∧ h.IsListIter I B j ∧ h.IsList B (vs.take 4).toArray) ?_ ((ns.take 4).length + 1)
    ⟨0, h₄, _, m₂, rfl, Nat.succ_pos _, Nat.zero_le _, rfl, ⟨k₂.trans (k₃.trans hk₄), lli.ns.keeps (k₃.trans hk₄), lli.name, let ⟨c, e⟩ := lli.out; ⟨c, (k₃.trans hk₄) _ _ e⟩, let ⟨i, c, e, r⟩ := lli.one; ⟨i, c, (k₃.trans hk₄) _ _ e, rdInts r⟩, let ⟨i, c, e, r⟩ := lli.two; ⟨i, c, (k₃.trans hk₄) _ _ e, rdInts r⟩⟩, hit₄, let ⟨o, e, r⟩ := hsl; ⟨o, hk₄ _ _ e, r⟩⟩
  rintro n s' ⟨j, h, tk', m, rfl, htk', hj, rfl, li, hit, hlB⟩
  by_cases hlt : j < (ns.take 4).length
  · have hv : (vs.take 4)[j]? = some ((vs.take 4)[j]'(by omega)) := List.getElem?_eq_getElem (by omega)
    obtain ⟨x, tx, ex, hx⟩ := hi4.at j _ hv
    rw [ex] at hv
    refine wpAny_pyNext_list_item hit hlB (x := .int x tx) (by simpa using hv) fun h₅ hit₅ hs₅ => ?_
    have k₅ : ∀ b o, b ≠ I → h.get? b = some o → h₅.get? b = some o := fun b o hb e => hs₅.extBut b o hb e
    have li₅ := li.but nI nIL nIO nI0 nI1 k₅
    have hlB₅ : h₅.IsList B (vs.take 4).toArray := hlB.extBut hs₅.extBut nBI
    refine wpAny_assign_Name (wpAny_storeName_local rfl li₅.ns (fun h₆ hn₆ hs₆ => ?_) rfl)
    have k₆ : ∀ b o, b ≠ L → h₅.get? b = some o → h₆.get? b = some o := fun b o hb e => hs₆.extBut b o hb e
    have li₆ : LLI s L O P₀ P₁ (((ns.take 4).take j).foldl stepL startL) h₆ (fun y => if y = Str.ofString "n" then some (.int x tx) else m y) :=
      ⟨fun b o e => k₆ b o (fun q => by rw [q, hbL] at e; cases e) (li₅.kp _ _ e), hn₆, li₅.name, let ⟨c, e⟩ := li₅.out; ⟨c, k₆ _ _ (Ne.symm nLO) e⟩, let ⟨i, c, e, r⟩ := li₅.one; ⟨i, c, k₆ _ _ (Ne.symm nL0) e, rdInts r⟩, let ⟨i, c, e, r⟩ := li₅.two; ⟨i, c, k₆ _ _ (Ne.symm nL1) e, rdInts r⟩⟩
    have hit₆ : h₆.IsListIter I B (j + 1) := let ⟨o, e, r⟩ := hit₅; ⟨o, k₆ _ _ (Ne.symm nIL) e, r⟩
    have hlB₆ : h₆.IsList B (vs.take 4).toArray := let ⟨o, e, r⟩ := hlB₅; ⟨o, k₆ _ _ (Ne.symm nBL) e, r⟩
    have hstep : ((ns.take 4).take (j + 1)).foldl stepL startL = stepL (((ns.take 4).take j).foldl stepL startL) x := by
      rw [List.take_add_one, hx, List.foldl_append]; rfl
    have hln := listsF_len ((ns.take 4).take j) startL
    have hl5 : ((ns.take 4).take j).length ≤ 4 := Nat.le_trans (by rw [List.length_take]; exact Nat.min_le_right _ _) hl4'
    have hs5 : startL.1.length = 5 ∧ startL.2.length = 5 := ⟨rfl, rfl⟩
    have hnn : (hideP (fun _ => False) h₆).Ns L (fun y => if y = Str.ofString "n" then some (.int x tx) else m y) := ns_hide hn₆ id
    obtain ⟨cO', hgO'⟩ := li₆.out
    have hm0 : 0 ≤ x.fmod 2 := Int.fmod_nonneg_of_pos _ (by decide)
    have hm2 : x.fmod 2 < 2 := Int.fmod_lt_of_pos _ (by decide)
    have hobj : ∀ (P : Addr), (#[Value.ref P₀, .ref P₁] : Array Value)[(x.fmod 2).toNat]? = some (.ref P) → True := fun _ _ => trivial
    cases hc : (x.fmod 2 == 0) with
    | true =>
      have hx0 : x.fmod 2 = 0 := by simpa using hc
      obtain ⟨i0, c0, e0, r0⟩ := li₆.one
      have hsz0 : i0.size ≤ 1000 := by
        have := r0.length
        rw [Array.length_toList, List.length_map] at this
        omega
      refine wpAny_execs_cons (do_append (s := s) (S := fun _ => False) (P := P₀) (items := i0) (cnt := c0) (d := .int ((x.fdiv 2).fmod 512)) (fun Q' E' k => ?_) (ev_bin (ev_bin (ev_of_name (name_local hnn rfl rfl rfl (by decide)) (.int x tx)) ev_int (op_fdiv (by decide) (by decide))) ev_int (op_mod (by decide))) sc_int (fun _ q => q.elim) e0 hsz0 rfl rfl rfl rfl rfl fun v h₇ t₇ q₇ k₇ g₇ r₇ => ?_)
      · refine Subscript_ (name_local (h₀ := h₆) hn₆ li₆.name rfl rfl (by decide) _ _ _ _ (.refl _) ?_)
        refine (ev_bin (ev_of_name (name_local hnn rfl rfl rfl (by decide)) (.int x tx)) ev_int (op_mod (by decide))) _ _ _ (fun _ => False) (Nat.succ_pos _) (Kn.hide _ _) (fun _ q => q.elim) fun v h₇ t₇ q₇ k₇ r₇ => ?_
        cases r₇
        exact tail_any (T := "list") ⟨_, k₇ _ _ hgO', rfl⟩ slot_list_getitem.lookup (wpAny_getItem_list ⟨_, k₇ _ _ hgO', rfl, _, rfl⟩ hm0 (by omega) (by rw [hx0]; rfl) (k h₇ t₇ q₇ k₇)) rfl
      · refine wpAny_execs_nil ⟨(ns.take 4).length + 1 - (j + 1), by omega, j + 1, h₇, t₇, (fun y => if y = Str.ofString "n" then some (.int x tx) else m y), rfl, q₇, hlt, rfl, ?_, let ⟨o, e, r⟩ := hit₆; ⟨o, k₇ _ _ (Ne.symm nI0) e, r⟩, let ⟨o, e, r⟩ := hlB₆; ⟨o, k₇ _ _ (Ne.symm nB0) e, r⟩⟩
        rw [hstep]
        refine ⟨fun b o e => k₇ b o (fun q => ?_) (li₆.kp _ _ e), hn₆.at' fun o e => k₇ L o nL0 e, li₆.name, ⟨_, k₇ _ _ nO0 hgO'⟩, ⟨_, _, g₇, ?_⟩, ?_⟩
        · rw [q, fresh hP₀] at e; cases e
        · unfold stepL; rw [if_pos hc]
          rw [Array.toList_push, List.map_append]
          exact (rdInts r0).append (.cons r₇ .nil)
        · unfold stepL; rw [if_pos hc]
          obtain ⟨i1, c1, e1, r1⟩ := li₆.two
          exact ⟨i1, c1, k₇ _ _ (Ne.symm n01) e1, rdInts r1⟩
    | false =>
      have hx1 : x.fmod 2 = 1 := by
        have : x.fmod 2 ≠ 0 := by simpa using hc
        omega
      obtain ⟨i1, c1, e1, r1⟩ := li₆.two
      have hsz1 : i1.size ≤ 1000 := by
        have := r1.length
        rw [Array.length_toList, List.length_map] at this
        omega
      refine wpAny_execs_cons (do_append (s := s) (S := fun _ => False) (P := P₁) (items := i1) (cnt := c1) (d := .int ((x.fdiv 2).fmod 512)) (fun Q' E' k => ?_) (ev_bin (ev_bin (ev_of_name (name_local hnn rfl rfl rfl (by decide)) (.int x tx)) ev_int (op_fdiv (by decide) (by decide))) ev_int (op_mod (by decide))) sc_int (fun _ q => q.elim) e1 hsz1 rfl rfl rfl rfl rfl fun v h₇ t₇ q₇ k₇ g₇ r₇ => ?_)
      · refine Subscript_ (name_local (h₀ := h₆) hn₆ li₆.name rfl rfl (by decide) _ _ _ _ (.refl _) ?_)
        refine (ev_bin (ev_of_name (name_local hnn rfl rfl rfl (by decide)) (.int x tx)) ev_int (op_mod (by decide))) _ _ _ (fun _ => False) (Nat.succ_pos _) (Kn.hide _ _) (fun _ q => q.elim) fun v h₇ t₇ q₇ k₇ r₇ => ?_
        cases r₇
        exact tail_any (T := "list") ⟨_, k₇ _ _ hgO', rfl⟩ slot_list_getitem.lookup (wpAny_getItem_list ⟨_, k₇ _ _ hgO', rfl, _, rfl⟩ hm0 (by omega) (by rw [hx1]; rfl) (k h₇ t₇ q₇ k₇)) rfl
      · refine wpAny_execs_nil ⟨(ns.take 4).length + 1 - (j + 1), by omega, j + 1, h₇, t₇, (fun y => if y = Str.ofString "n" then some (.int x tx) else m y), rfl, q₇, hlt, rfl, ?_, let ⟨o, e, r⟩ := hit₆; ⟨o, k₇ _ _ (Ne.symm nI1) e, r⟩, let ⟨o, e, r⟩ := hlB₆; ⟨o, k₇ _ _ (Ne.symm nB1) e, r⟩⟩
        rw [hstep]
        refine ⟨fun b o e => k₇ b o (fun q => ?_) (li₆.kp _ _ e), hn₆.at' fun o e => k₇ L o nL1 e, li₆.name, ⟨_, k₇ _ _ nO1 hgO'⟩, ?_, ⟨_, _, g₇, ?_⟩⟩
        · rw [q, fresh hP₁] at e; cases e
        · unfold stepL; rw [if_neg (by rw [hc]; decide)]
          obtain ⟨i0, c0, e0, r0⟩ := li₆.one
          exact ⟨i0, c0, k₇ _ _ n01 e0, rdInts r0⟩
        · unfold stepL; rw [if_neg (by rw [hc]; decide)]
          rw [Array.toList_push, List.map_append]
          exact (rdInts r1).append (.cons r₇ .nil)
  · have hjn : j = (ns.take 4).length := by omega
    subst hjn
    refine wpAny_pyNext_list_end hh hit hlB (by rw [← hl4]; exact Array.getElem?_eq_none (by rw [List.size_toArray]; exact Nat.le_refl _)) fun h₅ he₅ => ?_
    have k₅ : ∀ b o, b ≠ I → h.get? b = some o → h₅.get? b = some o := fun b o hb e => he₅ b o hb e
    have li₅ := li.but nI nIL nIO nI0 nI1 k₅
    refine wpAny_execs_nil ?_
    refine wpAny_execs_cons (wpAny_Return_some (name_local (h₀ := h₅) li₅.ns li₅.name rfl rfl (by decide) _ _ _ _ (.refl _) ?_))
    rw [List.take_length] at li₅
    obtain ⟨cO', hgO'⟩ := li₅.out
    obtain ⟨i0, c0, e0, r0⟩ := li₅.one
    obtain ⟨i1, c1, e1, r1⟩ := li₅.two
    have nS : ∀ {b}, ¬ (∃ o, s.heap.get? b = some o) → ¬ S b := fun hb q => hb (sz _ q)
    exact post _ h₅ tk' htk' li₅.kp (.list (nS hO) hgO' (.cons (.list (nS hP₀) e0 (rdInts r0)) (.cons (.list (nS hP₁) e1 (rdInts r1)) .nil)))
end Mine
end

section
open PySem PySem.W PyProof.Rows PySem.Calls
set_option maxRecDepth 100000
set_option maxHeartbeats 2000000
namespace Mine
noncomputable def strsD (l : List Str) : PyData := .list (l.map .str)
/-- unorderable_list_difference, the first list from its end on -/
noncomputable def uldR : List Str → List Str → List Str → List Str × List Str
  | [], act, miss => (miss, act)
  | x :: r, act, miss => if x ∈ act then uldR r (act.erase x) miss else uldR r act (miss ++ [x])
noncomputable def uldF (exp act : List Str) : List Str × List Str := uldR exp.reverse act []
theorem RdAll.erase {S : Addr → Prop} {h : Heap} : ∀ {vs : List Value} {ds : List PyData}, RdAll S h vs ds → ∀ (i : Nat), RdAll S h (vs.eraseIdx i) (ds.eraseIdx i)
  | _, _, .nil, i => by simpa using RdAll.nil
  | _, _, .cons a r, 0 => by simpa using r
  | _, _, .cons a r, i + 1 => by simpa using RdAll.cons a (r.erase i)
theorem erase_idx (x : Str) : ∀ (l : List Str), l.erase x = l.eraseIdx (l.idxOf x)
  | [] => rfl
  | y :: l => by
    by_cases h : y = x
    · subst h; simp
    · have h' : (y == x) = false := by simpa using h
      rw [List.erase_cons, if_neg (by rw [h']; decide), List.idxOf_cons, h', cond_false, List.eraseIdx_cons_succ, erase_idx x l]
theorem map_eraseIdx {α β : Type} (f : α → β) : ∀ (l : List α) (i : Nat), (l.map f).eraseIdx i = (l.eraseIdx i).map f
  | [], _ => by simp
  | _ :: _, 0 => by simp
  | _ :: l, i + 1 => by simp [map_eraseIdx f l i]
/-- the state between the turns -/
structure UI (h₁ : Heap) (fs : List Addr) (L P R N : Addr) (exp act miss : List Str) (h : Heap) (m : Str → Option Value) : Prop where
  keep : ∀ b o, b ≠ P → b ≠ R → h₁.get? b = some o → (b ∉ fs → h.get? b = some o) ∧ (b ∈ fs → ∃ sl, h.get? b = some { o with slots := sl })
  ns : h.Ns L m
  ne : m "expected" = some (.ref P)
  na : m "actual" = some (.ref R)
  nm : m "missing" = some (.ref N)
  pe : ∃ items c, h.get? P = some (plist items c) ∧ RdAll0 h items.toList (exp.map .str)
  pa : ∃ items c, h.get? R = some (plist items c) ∧ RdAll0 h items.toList (act.map .str)
  pm : ∃ items c, h.get? N = some (plist items c) ∧ RdAll0 h items.toList (miss.map .str)
noncomputable def eqS (x : Str) : Value → Bool := fun y => match y with | .str z _ => z.cps.toList == x.cps.toList | _ => false
theorem eqS_iff {x z : Str} {t : Tok} : eqS x (.str z t) = true ↔ z = x := by
  unfold eqS
  simp only [beq_iff_eq]
  constructor
  · intro h; cases z; cases x; simp at h; simp [h]
  · rintro rfl; rfl

theorem c_uld {w : World} {A : Around} {mg mb : Str → Option Value} {h₀ : Heap} (G : Gr (hd.heap_39 w.params) mg mb h₀) (hh : A.handled = none) (hdp : A.depth + 2 < recursionLimit) {outer : List Env} (hfr : A.frames = some outer)
    (P R : Addr) (exp act : List Str) (hle : exp.length ≤ 500) (hla : act.length ≤ 500)
    (s : Shared) (Q E : Value → Shared → Prop) (S : Addr → Prop) (ht : 0 < s.toks) (kn : Kn h₀ S s.heap) (st : Stk outer s.heap) (hSf : ∀ b ∈ outer.filterMap (·.frame), S b) (hSP : S P) (hSR : S R) (hPR : P ≠ R)
    (hP : ∃ items c, s.heap.get? P = some (plist items c) ∧ RdAll0 s.heap items.toList (exp.map .str)) (hR : ∃ items c, s.heap.get? R = some (plist items c) ∧ RdAll0 s.heap items.toList (act.map .str))
    (post : ∀ v h' tk, 0 < tk → (∀ b o, b ≠ P → b ≠ R → s.heap.get? b = some o → (b ∉ outer.filterMap (·.frame) → h'.get? b = some o) ∧ (b ∈ outer.filterMap (·.frame) → ∃ sl, h'.get? b = some { o with slots := sl })) →
      Rd (fun b => (∃ o, s.heap.get? b = some o) ∧ b ≠ R) h' v (.tuple [strsD (uldF exp act).1, strsD (uldF exp act).2]) → Q v { s with heap := h', toks := tk }) :
    wpAny (model Challenge.rw_oy0055_01.row.prog w) A (call (.ref 82) [.ref P, .ref R]) Q E s := by
  revert G; k_fill; intro G
  refine' enter [(Str.ofString "expected", .ref P), (Str.ofString "actual", .ref R)] ?k1 ?k2 ?k3 ?k4 ?k5 ?k6 ?k7 ?k8 ?k9 ?k10 ?k11 ht ?_
  case k1 => exact (G.up kn.kp).K
  case k2 => exact (G.up kn.kp).lim
  case k3 => k_is
  case k4 => k_is
  case k5 => show A.depth < recursionLimit; omega
  case k6 => exact BindsTo.of_eq rfl
  case k7 => exact locs rfl
  case k8 => decide
  case k9 => rfl
  case k10 => rfl
  case k11 => rfl
  intro L h₁ tk htk hL Fz
  have hbL : s.heap.get? L = none := get_none_size _ (Nat.le_of_eq hL.symm)
  refine wpAny_execs_cons (do_local (L := L) (s := s) (S := fun a => ∃ o, s.heap.get? a = some o) (d := .list []) (ev_list .nil (by simp)) rfl Fz.ns hbL Fz.keep (fun a q => q) htk rfl rfl rfl fun v h₂ t₂ q₂ k₂ hn₂ r₂ o₂ => ?_)
  cases r₂ with | list hN hgN hqN =>
  rename_i N its cN
  have live : ∀ {b o}, s.heap.get? b = some o → b ≠ L ∧ b ≠ N := fun {b o} e => ⟨fun q => (by rw [q, hbL] at e; cases e), fun q => hN ⟨o, q ▸ e⟩⟩
  obtain ⟨iP, cP, eP, rP⟩ := hP
  obtain ⟨iR, cR, eR, rR⟩ := hR
  have nPL := (live eP).1; have nPN := (live eP).2; have nRL := (live eR).1; have nRN := (live eR).2
  have nNL : N ≠ L := fun q => by
    obtain ⟨o, es, ep, e', hd, _⟩ := hn₂
    rw [← q, hgN] at e'; cases e'; cases hd
  have nfs : ∀ {b o items c}, o.data = .seq items c → s.heap.get? b = some o → b ∉ outer.filterMap (·.frame) := fun {b o items c} hd e hm => by
    obtain ⟨env', he', hf'⟩ := List.mem_filterMap.mp hm
    obtain ⟨_, L', m', hf'', o', es, ep, e', hd', _⟩ := st env' he'
    rw [hf'] at hf''; cases hf''
    rw [e] at e'; cases e'
    rw [hd] at hd'; cases hd'
  have pfs : P ∉ outer.filterMap (·.frame) := nfs rfl eP
  have rfs : R ∉ outer.filterMap (·.frame) := nfs rfl eR
  have nfsN : N ∉ outer.filterMap (·.frame) := fun hm => by
    obtain ⟨env', he', hf'⟩ := List.mem_filterMap.mp hm
    obtain ⟨_, L', m', hf'', o', es, ep, e', hd', _⟩ := st env' he'
    rw [hf'] at hf''; cases hf''
    exact hN ⟨_, e'⟩
  have hk₀ : ∀ {a o}, h₀.get? a = some o → s.heap.get? a = some o ∧ a ≠ P ∧ a ≠ R ∧ a ∉ outer.filterMap (·.frame) ∧ a ≠ L := fun {a o} e => by
    obtain ⟨n1, e1⟩ := kn _ _ e
    exact ⟨e1, fun q => n1 (q ▸ hSP), fun q => n1 (q ▸ hSR), fun q => n1 (hSf _ q), (live e1).1⟩
  have ui : UI s.heap (outer.filterMap (·.frame)) L P R N exp act [] h₂ (fun y => if y = Str.ofString "missing" then some (.ref N) else List.lookup y [(Str.ofString "expected", .ref P), (Str.ofString "actual", .ref R)].reverse) :=
    ⟨fun b o _ _ e => ⟨fun _ => k₂ _ _ e, fun _ => ⟨o.slots, k₂ _ _ e⟩⟩, hn₂, rfl, rfl, rfl, ⟨_, _, k₂ _ _ eP, rdStrs rP⟩, ⟨_, _, k₂ _ _ eR, rdStrs rR⟩, ⟨_, _, hgN, by generalize its.toList = l at hqN; cases hqN; exact .nil⟩⟩
  generalize (fun y => if y = Str.ofString "missing" then some (.ref N) else List.lookup y [(Str.ofString "expected", Value.ref P), (Str.ofString "actual", Value.ref R)].reverse) = m₂ at ui
  clear hn₂ hqN
  refine wpAny_execs_cons (wpAny_While (codeAny_whileLoop (fun n s' => ∃ e' a' mi h tk m, s' = { s with heap := h, toks := tk } ∧ 0 < tk ∧ n = e'.length ∧ e'.length + mi.length ≤ 500 ∧ a'.length ≤ 500 ∧ uldR e'.reverse a' mi = uldF exp act ∧ UI s.heap (outer.filterMap (·.frame)) L P R N e' a' mi h m) ?_ exp.length
    ⟨exp, act, [], h₂, t₂, m₂, rfl, q₂, rfl, by simpa using hle, hla, rfl, ui⟩))
  rintro n s' ⟨e', a', mi, h, tk', m, rfl, htk', rfl, hl1, hl2, hspec, u⟩
  obtain ⟨iE, cE, gE, rE⟩ := u.pe
  obtain ⟨iA, cA, gA, rA⟩ := u.pa
  obtain ⟨iM, cM, gM, rM⟩ := u.pm
  have lE : iE.size = e'.length := by have := rE.length; simpa using this
  have lA : iA.size = a'.length := by have := rA.length; simpa using this
  have lM : iM.size = mi.length := by have := rM.length; simpa using this
  refine isTrue_plain (name_local (h₀ := h) u.ns u.ne rfl rfl (by decide) _ _ _ _ (.refl _) (wpAny_truthy_list ⟨_, gE, rfl, _, rfl⟩ (by omega) ?_)) rfl
  cases hemp : iE.isEmpty with
  | true =>
    refine wpAny_execs_nil ?_
    have he0 : e' = [] := by
      have : iE.size = 0 := by simpa using hemp
      rw [lE] at this; exact List.length_eq_zero_iff.mp this
    subst he0
    obtain ⟨r1, r2⟩ : mi = (uldF exp act).1 ∧ a' = (uldF exp act).2 := by rw [← hspec]; exact ⟨rfl, rfl⟩
    subst r1 r2
    refine wpAny_execs_cons (wpAny_Return_some ?_)
    refine Tuple_ (spliced_more (name_local (h₀ := h) u.ns u.nm rfl rfl (by decide) _ _ _ _ (.refl _) (spliced_more (name_local (h₀ := h) u.ns u.na rfl rfl (by decide) _ _ _ _ (.refl _) (spliced_none ?_)) rfl)) rfl)
    refine wpAny_newObj_type ?_ (by show (2 : Nat) ≤ sizeLine; decide)
    refine post _ _ _ (Nat.succ_pos _) (fun b o h1 h2 e => ⟨fun n => kp_push _ _ _ _ ((u.keep b o h1 h2 e).1 n), fun n => let ⟨sl, q⟩ := (u.keep b o h1 h2 e).2 n; ⟨sl, kp_push _ _ _ _ q⟩⟩) (.tuple ?_ (Heap.get?_push_size _ rfl) (.cons (.list ?_ (kp_push _ _ _ _ gM) (rdStrs rM)) (.cons (.list ?_ (kp_push _ _ _ _ gA) (rdStrs rA)) .nil)))
    · rintro ⟨⟨o, e⟩, hne⟩
      have hz : h.get? h.objs.size = none := get_none_size _ (Nat.le_refl _)
      have hnP : h.objs.size ≠ P := fun q => by rw [q, gE] at hz; cases hz
      have := u.keep _ o hnP hne e
      by_cases hm : h.objs.size ∈ outer.filterMap (·.frame)
      · obtain ⟨sl, q⟩ := this.2 hm; rw [hz] at q; cases q
      · have := this.1 hm; rw [hz] at this; cases this
    · rintro ⟨e, _⟩; exact hN e
    · rintro ⟨_, e⟩; exact e rfl
  | false =>
    obtain ⟨init, x, rfl⟩ : ∃ init x, e' = init ++ [x] := by
      rcases List.eq_nil_or_concat e' with h | ⟨i, y, h⟩
      · subst h
        have : iE.size ≠ 0 := by simpa using hemp
        exact absurd lE this
      · exact ⟨i, y, by simpa using h⟩
    have lE' : iE.size - 1 = init.length := by rw [lE]; simp
    obtain ⟨vx, hvx, rx⟩ := rE.get init.length (.str x) (by simp)
    cases rx with | str _ tx =>
    have hvx' : iE[iE.size - 1]? = some (.str x tx) := by rw [lE']; simpa using hvx
    refine wpAny_execs_cons (wpAny_Assign_Name (wpAny_Call_method0_late rfl rfl (name_local (h₀ := h) u.ns u.ne rfl rfl (by decide) _ _ _ _ (.refl _) ⟨"list", "list.pop", F.plainAttrs_list, F.slot_list_pop, F.type_list_pop, ⟨_, gE, rfl⟩, (fun b e => by cases e; exact ⟨_, gE, rfl⟩), PySem.P.pop_list gE hvx' ?_ (by show iE.size ≤ sizeLine; rw [lE]; exact Nat.le_trans (by simp at hl1 ⊢; omega) (by decide : 1000 ≤ sizeLine))⟩)) rfl)
    dsimp only
    have gE₃ := IsL.update gE (fun xs => xs.eraseIdxIfInBounds (iE.size - 1))
    have k₃ : ∀ b o, b ≠ P → h.get? b = some o → (h.update P (Obj.mapSeq fun xs => xs.eraseIdxIfInBounds (iE.size - 1))).get? b = some o := fun b o hb e => (Heap.get?_update_ne _ _ _ _ hb).trans e
    generalize h.update P (Obj.mapSeq fun xs => xs.eraseIdxIfInBounds (iE.size - 1)) = h₃ at gE₃ k₃ ⊢
    generalize (if (iE.eraseIdxIfInBounds (iE.size - 1)).size == iE.size then cE else cE + 1) = cE₃ at gE₃
    have nsL₃ : h₃.Ns L m := u.ns.at' fun o e => k₃ L o (Ne.symm nPL) e
    refine wpAny_storeName_local rfl nsL₃ (fun h₄ hn₄ hs₄ => ?_) rfl
    have k₄ : ∀ b o, b ≠ L → h₃.get? b = some o → h₄.get? b = some o := fun b o hb e => hs₄.extBut b o hb e
    have rE₃ : RdAll0 h₄ (iE.eraseIdxIfInBounds (iE.size - 1)).toList (init.map .str) := by
      have := rE.erase init.length
      rw [lE']
      have e1 : (List.map PyData.str (init ++ [x])).eraseIdx init.length = init.map .str := by
        rw [List.map_append, List.eraseIdx_append_of_length_le (by simp)]; simp
      rw [e1] at this
      have e2 : (iE.eraseIdxIfInBounds init.length).toList = iE.toList.eraseIdx init.length := by simp
      rw [e2]; exact rdStrs this
    have u₄ : UI s.heap (outer.filterMap (·.frame)) L P R N init a' mi h₄ (fun y => if y = Str.ofString "item" then some (.str x tx) else m y) := by
      refine ⟨fun b o h1 h2 e => ⟨fun n => k₄ b o (live e).1 (k₃ b o h1 ((u.keep b o h1 h2 e).1 n)), fun n => let ⟨sl, q⟩ := (u.keep b o h1 h2 e).2 n; ⟨sl, k₄ _ _ (live e).1 (k₃ _ _ h1 q)⟩⟩, hn₄, u.ne, u.na, u.nm, ⟨_, _, k₄ _ _ nPL gE₃, rE₃⟩, ⟨_, _, k₄ _ _ nRL (k₃ _ _ (Ne.symm hPR) gA), rdStrs rA⟩, ⟨_, _, k₄ _ _ nNL (k₃ _ _ (Ne.symm nPN) gM), rdStrs rM⟩⟩
    have hitem : (fun y => if y = Str.ofString "item" then some (Value.str x tx) else m y) (Str.ofString "item") = some (.str x tx) := rfl
    clear gE gA gM rE nsL₃ hn₄ u k₃ k₄ gE₃ rE₃ hs₄
    generalize (fun y => if y = Str.ofString "item" then some (Value.str x tx) else m y) = m₄ at u₄ hitem
    rw [List.reverse_append] at hspec
    have hspec' : (if x ∈ a' then uldR init.reverse (a'.erase x) mi else uldR init.reverse a' (mi ++ [x])) = uldF exp act := hspec
    obtain ⟨iA, cA, gA, rA⟩ := u₄.pa
    obtain ⟨iM, cM, gM, rM⟩ := u₄.pm
    have lA : iA.size = a'.length := by have := rA.length; simpa using this
    have lM : iM.size = mi.length := by have := rM.length; simpa using this
    have heq : ∀ y, y ∈ iA → MeetsSeq.EqGives y (.str x tx) (eqS x y) := fun y hy => by
      obtain ⟨i, hi⟩ := List.getElem?_of_mem (Array.mem_toList_iff.mpr hy)
      obtain ⟨d, hd, rd⟩ := rA.at i y hi
      rw [List.getElem?_map, Option.map_eq_some_iff] at hd
      obtain ⟨b, _, rfl⟩ := hd
      cases rd
      exact SeqRoads2.EqGives.str _ _ _ _
    have hat : ∀ j (hj : j < iA.size), ∃ t, iA[j] = .str (a'[j]'(by omega)) t := fun j hj => by
      obtain ⟨v, hv, rv⟩ := rA.get j (.str (a'[j]'(by omega))) (by simp)
      cases rv with | str _ t =>
      refine ⟨t, ?_⟩
      have := Array.getElem?_eq_getElem hj
      rw [Array.getElem?_toList] at hv
      rw [hv] at this; exact (Option.some.inj this).symm
    refine wpAny_execs_cons (wpAny_Try_except (wpAny_execs_cons (wpAny_Expr_any (wpAny_Call_method1_late rfl rfl rfl (name_local (h₀ := h₄) u₄.ns u₄.na rfl rfl (by decide) _ _ _ _ (.refl _) ⟨"list", "list.remove", F.plainAttrs_list, F.slot_list_remove, F.type_list_remove, ⟨_, gA, rfl⟩, (fun b e => by cases e; exact ⟨_, gA, rfl⟩), ?_⟩)) rfl rfl)))
    by_cases hmem : x ∈ a'
    · rw [if_pos hmem] at hspec'
      have hj : a'.idxOf x < iA.size := by rw [lA]; exact List.idxOf_lt_length_iff.mpr hmem
      refine PySem.P.remove_list (name_local (h₀ := h₄) u₄.ns hitem rfl rfl (by decide) _ _ _ _ (.refl _) ⟨iA, cA, eqS x, a'.idxOf x, hj, ?_, gA, heq, ?_, ?_, ?_⟩)
      · rw [lA]; exact Nat.le_trans hl2 (by decide)
      · obtain ⟨t, e⟩ := hat _ hj
        rw [e, eqS_iff]; exact List.getElem_idxOf _
      · intro i hi hlt
        obtain ⟨t, e⟩ := hat _ hi
        rw [e]
        cases q : eqS x (.str (a'[i]'(by omega)) t) with
        | false => rfl
        | true =>
          have := eqS_iff.mp q
          exact absurd this (by simpa using List.not_of_lt_findIdx hlt)
      · dsimp only
        have gA₅ := IsL.update gA (fun xs => xs.eraseIdxIfInBounds (a'.idxOf x))
        have k₅ : ∀ b o, b ≠ R → h₄.get? b = some o → (h₄.update R (Obj.mapSeq fun xs => xs.eraseIdxIfInBounds (a'.idxOf x))).get? b = some o := fun b o hb e => (Heap.get?_update_ne _ _ _ _ hb).trans e
        generalize h₄.update R (Obj.mapSeq fun xs => xs.eraseIdxIfInBounds (a'.idxOf x)) = h₅ at gA₅ k₅ ⊢
        have rA₅ : RdAll0 h₅ (iA.eraseIdxIfInBounds (a'.idxOf x)).toList ((a'.erase x).map .str) := by
          have := rA.erase (a'.idxOf x)
          have e1 : (a'.map PyData.str).eraseIdx (a'.idxOf x) = (a'.erase x).map .str := by
            rw [erase_idx, map_eraseIdx]
          rw [e1] at this
          have e2 : (iA.eraseIdxIfInBounds (a'.idxOf x)).toList = iA.toList.eraseIdx (a'.idxOf x) := by simp
          rw [e2]; exact rdStrs this
        refine wpAny_execs_nil (wpAny_execs_nil (wpAny_execs_nil ?_))
        refine ⟨init.length, by simp, init, a'.erase x, mi, h₅, _, m₄, rfl, Nat.succ_pos _, rfl, by simp at hl1; omega, Nat.le_trans (List.length_erase_le ..) hl2, hspec', ?_⟩
        refine ⟨fun b o h1 h2 e => ⟨fun n => k₅ b o h2 ((u₄.keep b o h1 h2 e).1 n), fun n => let ⟨sl, q⟩ := (u₄.keep b o h1 h2 e).2 n; ⟨sl, k₅ _ _ h2 q⟩⟩, u₄.ns.at' fun o e => k₅ L o (Ne.symm nRL) e, u₄.ne, u₄.na, u₄.nm, ?_, ⟨_, _, gA₅, rA₅⟩, ⟨_, _, k₅ _ _ (Ne.symm nRN) gM, rdStrs rM⟩⟩
        obtain ⟨i, c, g, r⟩ := u₄.pe
        exact ⟨i, c, k₅ _ _ hPR g, rdStrs r⟩
    · rw [if_neg hmem] at hspec'
      have hno : ∀ i (hi : i < iA.size), eqS x iA[i] = false := fun i hi => by
        obtain ⟨t, e⟩ := hat _ hi
        rw [e]
        cases q : eqS x (.str (a'[i]'(by omega)) t) with
        | false => rfl
        | true => exact absurd (eqS_iff.mp q ▸ List.getElem_mem _) hmem
      refine wpAny_with_toks (n := 1) (Nat.succ_pos _) ?_
      refine seqMethod1_meets F.slot_list_remove F.entry_list_remove (name_local (h₀ := h₄) u₄.ns hitem rfl rfl (by decide) _ _ _ _ (.refl _) ⟨⟨_, gA, rfl⟩, F.args_list_remove_2 _ _, _, MeetsSeq.list_remove_none R iA cA (.str x tx) (eqS x) heq hno, gA, hh, fun h₅ t₅ e₅ hx ht₅ => ?_⟩)
      dsimp only at hx ht₅
      refine caught (Around.frames_deeper hfr) rfl ?stL hx ?nm PySem.F.isExc_ValueError PySem.F.notTuple_ValueError (by rw [isSubtype_type]; kernel_rfl) fun h₆ EE kf => ?_
      case stL =>
        intro env he
        rcases List.mem_cons.mp he with rfl | he
        · exact ⟨by show ScopeKind.function ≠ .module; decide, L, m₄, rfl, u₄.ns⟩
        · obtain ⟨q1, L', m', q2, q3⟩ := st env he
          refine ⟨q1, L', m', q2, ?_⟩
          obtain ⟨o, es, ep, ho, hd, r⟩ := q3
          have hm : L' ∈ outer.filterMap (·.frame) := List.mem_filterMap.mpr ⟨env, he, q2⟩
          obtain ⟨sl, e⟩ := (u₄.keep L' o (fun q => pfs (q ▸ hm)) (fun q => rfs (q ▸ hm)) ho).2 hm
          exact ⟨_, es, ep, e, hd, r⟩
      case nm =>
        refine nm_ValueError (G.up fun a o e => ?_) ⟨rfl, rfl, rfl⟩ rfl
        obtain ⟨e1, n1, n2, n3, n4⟩ := hk₀ e
        refine hideP_get.mpr ⟨fun hm => ?_, (u₄.keep a o n1 n2 e1).1 n3⟩
        rcases List.mem_cons.mp hm with q | q
        · exact n4 q
        · exact n3 q
      have k₆ : ∀ b o, b ≠ L → b ∉ outer.filterMap (·.frame) → h₄.get? b = some o → h₆.get? b = some o := fun b o h1 h2 e => (kf b o e).1 fun hm => by
        rcases List.mem_cons.mp hm with q | q
        · exact h1 q
        · exact h2 q
      have n₆ : h₆.Ns L m₄ := kf.ns u₄.ns
      have gM₆ := k₆ _ _ nNL nfsN gM
      refine wpAny_execs_cons (do_append (s := s) (H := h₆) (tk := t₅) (S := fun _ => False) (P := N) (items := iM) (cnt := cM) (d := .str x) (fun Q' E' kk => name_local (h₀ := h₆) n₆ u₄.nm rfl rfl (by decide) _ _ _ _ (.refl _) (kk h₆ t₅ ht₅ (.refl _)))
        (ev_of_name (name_local (ns_hide n₆ id) hitem rfl rfl (by decide)) (.str x tx)) sc_str (fun _ q => q.elim) gM₆ (by rw [lM]; simp at hl1; omega) rfl rfl rfl rfl rfl fun v h₇ t₇ q₇ k₇ g₇ r₇ => ?_)
      refine wpAny_execs_nil (wpAny_execs_nil ?_)
      refine ⟨init.length, by simp, init, a', mi ++ [x], h₇, t₇, m₄, rfl, q₇, rfl, by simp at hl1 ⊢; omega, hl2, hspec', ?_⟩
      refine ⟨fun b o h1 h2 e => ⟨fun n => k₇ b o (live e).2 (k₆ b o (live e).1 n ((u₄.keep b o h1 h2 e).1 n)), fun n => ?_⟩, n₆.at' fun o e => k₇ L o (Ne.symm nNL) e, u₄.ne, u₄.na, u₄.nm, ?_, ⟨_, _, k₇ _ _ nRN (k₆ _ _ nRL rfs gA), rdStrs rA⟩, ⟨_, _, g₇, ?_⟩⟩
      · obtain ⟨sl, q⟩ := (u₄.keep b o h1 h2 e).2 n
        obtain ⟨sl', q'⟩ := (kf _ _ q).2 (List.mem_cons_of_mem _ n)
        exact ⟨sl', k₇ _ _ (live e).2 q'⟩
      · obtain ⟨i, c, g, r⟩ := u₄.pe
        exact ⟨i, c, k₇ _ _ nPN (k₆ _ _ nPL pfs g), rdStrs r⟩
      · rw [Array.toList_push, List.map_append]
        exact (rdStrs rM).append (.cons r₇ .nil)
end Mine
end

section
open PySem PySem.W PyProof.Rows PySem.Calls
set_option maxRecDepth 100000
namespace Mine
theorem cell_ne {h : Heap} {L c : Addr} {m : Str → Option Value} {v : Option Value} (hn : h.Ns L m) (hc : h.IsCell c v) : c ≠ L := by
  rintro rfl
  obtain ⟨o, es, ep, e, hd, _⟩ := hn
  obtain ⟨o', e', hd'⟩ := hc
  rw [e] at e'; cases e'
  rw [hd] at hd'; cases hd'
theorem cell_but {h h' : Heap} {b c : Addr} {v : Option Value} (hc : h.IsCell c v) (hne : c ≠ b) (k : ∀ a o, a ≠ b → h.get? a = some o → h'.get? a = some o) : h'.IsCell c v :=
  let ⟨o, e, d⟩ := hc; ⟨o, k _ _ hne e, d⟩
theorem ns_but {h h' : Heap} {b L : Addr} {m : Str → Option Value} (hn : h.Ns L m) (hne : L ≠ b) (k : ∀ a o, a ≠ b → h.get? a = some o → h'.get? a = some o) : h'.Ns L m :=
  hn.at' fun o e => k L o hne e
/-- a state of the text's own frame with cells -/
structure Own3 (s : Shared) (L c₁ c₂ c₃ : Addr) (h : Heap) (m : Str → Option Value) (v₁ v₂ v₃ : Option Value) : Prop where
  kp : Kp s.heap h
  ns : h.Ns L m
  a : h.IsCell c₁ v₁
  b : h.IsCell c₂ v₂
  c : h.IsCell c₃ v₃
section
variable {s : Shared} {L c₁ c₂ c₃ : Addr} {h h' : Heap} {m m' : Str → Option Value} {v₁ v₂ v₃ : Option Value}
theorem Own3.loc (x : Own3 s L c₁ c₂ c₃ h m v₁ v₂ v₃) (kp : Kp s.heap h') (n : h'.Ns L m') (k : ∀ a o, a ≠ L → h.get? a = some o → h'.get? a = some o) : Own3 s L c₁ c₂ c₃ h' m' v₁ v₂ v₃ :=
  ⟨kp, n, cell_but x.a (cell_ne x.ns x.a) k, cell_but x.b (cell_ne x.ns x.b) k, cell_but x.c (cell_ne x.ns x.c) k⟩
theorem Own3.one {w : Option Value} (x : Own3 s L c₁ c₂ c₃ h m v₁ v₂ v₃) (h12 : c₁ ≠ c₂) (h13 : c₁ ≠ c₃) (kp : Kp s.heap h') (n : h'.IsCell c₁ w) (k : ∀ a o, a ≠ c₁ → h.get? a = some o → h'.get? a = some o) : Own3 s L c₁ c₂ c₃ h' m w v₂ v₃ :=
  ⟨kp, ns_but x.ns (Ne.symm (cell_ne x.ns x.a)) k, n, cell_but x.b (Ne.symm h12) k, cell_but x.c (Ne.symm h13) k⟩
theorem Own3.two {w : Option Value} (x : Own3 s L c₁ c₂ c₃ h m v₁ v₂ v₃) (h12 : c₁ ≠ c₂) (h23 : c₂ ≠ c₃) (kp : Kp s.heap h') (n : h'.IsCell c₂ w) (k : ∀ a o, a ≠ c₂ → h.get? a = some o → h'.get? a = some o) : Own3 s L c₁ c₂ c₃ h' m v₁ w v₃ :=
  ⟨kp, ns_but x.ns (Ne.symm (cell_ne x.ns x.b)) k, cell_but x.a h12 k, n, cell_but x.c (Ne.symm h23) k⟩
theorem Own3.three {w : Option Value} (x : Own3 s L c₁ c₂ c₃ h m v₁ v₂ v₃) (h13 : c₁ ≠ c₃) (h23 : c₂ ≠ c₃) (kp : Kp s.heap h') (n : h'.IsCell c₃ w) (k : ∀ a o, a ≠ c₃ → h.get? a = some o → h'.get? a = some o) : Own3 s L c₁ c₂ c₃ h' m v₁ v₂ w :=
  ⟨kp, ns_but x.ns (Ne.symm (cell_ne x.ns x.c)) k, cell_but x.a h13 k, cell_but x.b h23 k, n⟩
end
theorem map_range_get {α β : Type} (l : List α) (d : α) (f : α → β) : (List.range l.length).map (fun j => f (l.getD j d)) = l.map f := by
  apply List.ext_getElem
  · simp
  · intro i h1 h2
    simp at h1 h2
    simp [List.getD, h1]
section
variable {prog : Program} {w : World} {A : Around} {env : Env} {h₀ : Heap}
/-- xs[:], a new list -/
theorem run_lall {value : Expr} {p pos : Pos} {ds : List PyData} (hv : EvK (model prog w) A value env h₀ (.list ds)) (hsz : ds.length ≤ 1000)
    (s : Shared) (Q E : Value → Shared → Prop) (S : Addr → Prop) (ht : 0 < s.toks) (kn : Kn h₀ S s.heap) (sz : Sz S s.heap)
    (post : ∀ P items c h' tk, 0 < tk → Kp s.heap h' → s.heap.get? P = none → h'.get? P = some (plist items c) → RdAll S h' items.toList ds → Q (.ref P) { s with heap := h', toks := tk }) :
    wpAny (model prog w) A (eval (.Subscript value (.Slice none none none p) pos) env) Q E s := by
  refine Subscript_ (hv s _ _ S ht kn sz fun a h₁ t₁ p₁ k₁ r₁ => wpAny_Slice ?_)
  rw [evalPart_none]
  refine wpAny_pure (wpAny_pure (wpAny_pure ?_))
  cases r₁ with | list n g q =>
  rename_i a items cnt
  refine tail_any (T := "list") ⟨_, Heap.get?_push_of_some _ g, rfl⟩ slot_list_getitem.lookup (wpAny_getItem_list_slice (items := items) ⟨_, Heap.get?_push_of_some _ g, rfl, _, rfl⟩ (Heap.IsSliceOf.new ..) .none .none .none (by simp) ?_ ?_) (ops := _) rfl
  · rw [slicePick_all]
    have kk := k₁.trans ((kp_push h₁ { cls := .type "slice", data := .fields #[.none, .none, .none] }).trans (kp_push _ { cls := .type "list", data := .seq items }))
    refine post _ items _ _ _ p₁ kk ?_ (Heap.get?_push_size _ rfl) (q.up ((kp_push _ _).trans (kp_push _ _)))
    cases e : s.heap.get? (h₁.push { cls := .type "slice", data := .fields #[.none, .none, .none] }).objs.size with
    | none => rfl
    | some o =>
      have := k₁ _ _ e
      rw [Heap.size_push, get_none_size _ (Nat.le_succ _)] at this; cases this
  · have e := q.length
    rw [Array.length_toList] at e
    rw [e]; exact Nat.le_trans hsz (by decide)
/-- a call of a def with two arguments, by hand -/
theorem run_call2 {x : Str} {p pos : Pos} {e₁ e₂ : Expr} {f : Addr} {o : Obj} {fd : FuncData} (hn : NameK (model prog w) A env x h₀ (.ref f)) (hd : o.data = .func fd)
    (hs₁ : starEach [e₁, e₂] env = (false, eval e₁ env) :: starEach [e₂] env) (hs₂ : starEach [e₂] env = (false, eval e₂ env) :: starEach [] env)
    {s : Shared} {Q E : Value → Shared → Prop} (k₀ : Kp h₀ s.heap)
    (h : wpAny (model prog w) A (eval e₁ env) (fun v₁ s₁ => wpAny (model prog w) A (eval e₂ env) (fun v₂ s₂ => s₂.heap.get? f = some o ∧ wpAny (model prog w) A (call (.ref f) [v₁, v₂]) Q E s₂) E s₁) E s) :
    wpAny (model prog w) A (eval (.Call (.Name x p) [e₁, e₂] [] pos) env) Q E s := by
  refine Call_Name (trees := backTo pos (starEach [e₁, e₂] env)) rfl (hn p s _ _ k₀ ?_)
  refine callWith_function (o := o) (fd := fd) ?_
  have hs : ∃ x rest, backTo pos (starEach [e₁, e₂] env) = (false, x) :: rest := by rw [hs₁]; exact ⟨_, _, rfl⟩
  obtain ⟨x', rest, e'⟩ := hs
  rw [e']
  refine evalArgs_plain ?_
  rw [← e']
  refine spliced_more (wpAny_mono h (fun v₁ s₁ h₁ => spliced_more (wpAny_mono h₁ (fun v₂ s₂ h₂ => spliced_none ⟨⟨h₂.1, hd⟩, h₂.2⟩) fun _ _ x => x) hs₂) fun _ _ x => x) hs₁
end
end Mine
end

section
open PySem PySem.W PyProof.Rows PySem.Calls
set_option maxRecDepth 100000
namespace Mine
noncomputable def pairI (p : Int × Int) : PyData := .tuple [.int p.1, .int p.2]
noncomputable def unPair : PyData → Int × Int | .tuple [.int a, .int b] => (a, b) | _ => (0, 0)
theorem unPair_eq (p : Int × Int) : unPair (pairI p) = p := rfl
noncomputable def ltP (p q : Int × Int) : Bool := if (p.1 == q.1) = true then (if (p.2 == q.2) = true then false else decide (p.2 < q.2)) else decide (p.1 < q.1)
section
variable {prog : Program} {w : World} {A : Around} {E : Value → Shared → Prop}
theorem rd_pair {S : Addr → Prop} {h : Heap} {v : Value} {p : Int × Int} (r : Rd S h v (pairI p)) : ∃ a t u n, v = .ref a ∧ h.get? a = some (ptup #[.int p.1 t, .int p.2 u] n) := by
  unfold pairI at r
  cases r with | tuple n g q =>
  rename_i a items c
  generalize hl : items.toList = l at q
  cases q with | cons r₁ q => cases q with | cons r₂ q => cases q; cases r₁ with | int _ t => cases r₂ with | int _ u =>
  have : items = #[.int p.1 t, .int p.2 u] := by rw [← Array.toList_inj]; exact hl
  subst this
  exact ⟨a, t, u, c, rfl, g⟩
theorem lt_tree {s : Shared} {a b : Addr} {a1 a2 b1 b2 : Int} {t1 t2 u1 u2 : Tok} {n k : Nat} {P : Fin → Shared → Prop} (ha : s.heap.get? a = some (ptup #[.int a1 t1, .int a2 t2] n)) (hb : s.heap.get? b = some (ptup #[.int b1 u1, .int b2 u2] k))
    (h : P (.done (.ret (.bool (ltP (a1, a2) (b1, b2))))) s) : wpAny (model prog w) A (Builtin.«tuple.__lt__» ⟨[.ref a, .ref b], []⟩) P E s := by
  show wpAny _ _ (isInstance (.ref b) (.type "tuple") >>= _) _ _ s
  refine wpAny_bind (wpAny_isInstance (T := "tuple") ⟨_, hb, rfl⟩ isSubtype_tuple_tuple ?_)
  simp only [Bool.not_true, Bool.false_eq_true, if_false]
  refine wpAny_bind (wpAny_tupleItemsOf ha rfl ?_)
  refine wpAny_bind (wpAny_tupleItemsOf hb rfl ?_)
  refine wpAny_bind ?_
  show wpAny _ _ (forIn [(Value.int a1 t1, Value.int b1 u1), (Value.int a2 t2, Value.int b2 u2)] _ _) _ _ s
  unfold ltP at h
  dsimp only at h
  rw [List.forIn_cons]
  refine wpAny_bind (wpAny_bind (MeetsSeq.EqGives.int a1 b1 t1 u1 _ _ _ _ _ _ ?_))
  cases h1 : (a1 == b1) with
  | false =>
    rw [h1] at h
    simp only [Bool.false_eq_true, if_false] at h
    simp only [Bool.not_false, if_true]
    refine wpAny_bind (wpAny_rule (wpAny_bind ?_))
    show wpAny _ _ (compareOp .Lt (.int a1 t1) (.int b1 u1)) _ _ s
    exact PyProof.Rows.lt_int (wpAny_bind (wpAny_pure (wpAny_pure (wpAny_pure (wpAny_pure h)))))
  | true =>
    rw [h1] at h
    simp only [if_true] at h
    simp only [Bool.not_true, Bool.false_eq_true, if_false]
    refine wpAny_pure ?_
    dsimp only
    rw [List.forIn_cons]
    refine wpAny_bind (wpAny_bind (MeetsSeq.EqGives.int a2 b2 t2 u2 _ _ _ _ _ _ ?_))
    cases h2 : (a2 == b2) with
    | false =>
      rw [h2] at h
      simp only [Bool.false_eq_true, if_false] at h
      simp only [Bool.not_false, if_true]
      refine wpAny_bind (wpAny_rule (wpAny_bind ?_))
      show wpAny _ _ (compareOp .Lt (.int a2 t2) (.int b2 u2)) _ _ s
      exact PyProof.Rows.lt_int (wpAny_bind (wpAny_pure (wpAny_pure (wpAny_pure (wpAny_pure h)))))
    | true =>
      rw [h2] at h
      simp only [if_true] at h
      simp only [Bool.not_true, Bool.false_eq_true, if_false]
      refine wpAny_pure ?_
      dsimp only
      rw [List.forIn_nil]
      exact wpAny_pure (wpAny_pure h)
theorem op_lt_pair {p q : Int × Int} (hu : A.units < cLine) : Op2K (model prog w) A (compareOp .Lt) (pairI p) (pairI q) (.bool (ltP p q)) := .mk fun s Q E S x y _ _ r₁ r₂ post => by
  obtain ⟨a, t1, t2, n, rfl, ha⟩ := rd_pair r₁
  obtain ⟨b, u1, u2, k, rfl, hb⟩ := rd_pair r₂
  show wpAny _ _ (richCompare .Lt (.ref a) (.ref b)) _ _ s
  refine wpAny_richCompare_same_room (op := .Lt) (T := "tuple") ⟨_, ha, rfl⟩ ⟨_, hb, rfl⟩ F.slot_tuple_lt
      (wpAny_call_entry F.slot_tuple_lt ⟨_, ha, rfl⟩ F.entry_tuple_lt (lt_tree ha hb ⟨_, rfl, (fun e => nomatch e), post _ s.heap s.toks (.refl _) (.bool _)⟩) (F.args_tuple_lt_2 _ _)) hu
theorem op_eq_pair {p q : Int × Int} (hu : A.units + 64 < cLine) : Op2K (model prog w) A (compareOp .Eq) (pairI p) (pairI q) (.bool (PyData.eqv (pairI p) (pairI q))) := .mk fun s Q E S x y _ _ r₁ r₂ post => by
  obtain ⟨_, r₁⟩ := r₁.reads
  obtain ⟨_, r₂⟩ := r₂.reads
  exact eq_dataH r₁ r₂ rfl rfl hu (post _ s.heap s.toks (.refl _) (.bool _))
/-- unpacking a list of two -/
theorem unpack_two {s : Shared} {l : Addr} {v₁ v₂ : Value} {Q : List Value → Shared → Prop} (hh : A.handled = none) (hl : s.heap.IsList l #[v₁, v₂]) (hQ : ∀ h', Kp s.heap h' → Q [v₁, v₂] { s with heap := h' }) :
    wpAny (model prog w) A (unpackItems (.ref l) 2 none) Q E s := by
  have hne : l ≠ s.heap.objs.size := by obtain ⟨o, ho, _⟩ := hl; exact Nat.ne_of_lt (Heap.lt_size ho)
  unfold unpackItems
  refine wpAny_bind ?_
  unfold notIterableAtAll
  refine wpAny_bind (wpAny_specialOf hl.typeIs slot_list_iter.lookup ?_)
  refine wpAny_pure ?_
  simp only [Bool.false_eq_true, if_false]
  refine wpAny_bind (wpAny_holding (wpAny_pyIter_list hl ?_))
  refine wpAny_bind (wpAny_holding ?_)
  have up : ∀ {h : Heap}, s.heap.IsList l #[v₁, v₂] → (∀ b o, b ≠ s.heap.objs.size → s.heap.get? b = some o → h.get? b = some o) → h.IsList l #[v₁, v₂] := fun ⟨o, e, r⟩ k => ⟨o, k _ _ hne e, r⟩
  have k₁ : ∀ b o, b ≠ s.heap.objs.size → s.heap.get? b = some o → (s.heap.push { cls := .type "list_iterator", data := .fields #[.ref l, .int 0 0] }).get? b = some o := fun b o _ e => Heap.get?_push_of_some _ e
  show wpAny _ _ (pyNext (.ref s.heap.objs.size) >>= _) _ _ _
  refine wpAny_bind (wpAny_pyNext_list_item (i := 0) ⟨_, Heap.get?_push_size _ rfl, rfl, rfl⟩ (up hl k₁) (x := v₁) rfl fun h₂ hit₂ hs₂ => ?_)
  have k₂ : ∀ b o, b ≠ s.heap.objs.size → s.heap.get? b = some o → h₂.get? b = some o := fun b o n e => hs₂.extBut b o n (k₁ b o n e)
  refine wpAny_bind (wpAny_holding ?_)
  show wpAny _ _ (pyNext (.ref s.heap.objs.size) >>= _) _ _ _
  refine wpAny_bind (wpAny_pyNext_list_item (i := 1) hit₂ (up hl k₂) (x := v₂) rfl fun h₃ hit₃ hs₃ => ?_)
  have k₃ : ∀ b o, b ≠ s.heap.objs.size → s.heap.get? b = some o → h₃.get? b = some o := fun b o n e => hs₃.extBut b o n (k₂ b o n e)
  refine wpAny_bind (wpAny_holding ?_)
  show wpAny _ _ (pure []) _ _ _
  refine wpAny_pure (wpAny_pure (wpAny_pure ?_))
  rw [if_neg (by simp)]
  refine wpAny_bind (wpAny_holding (wpAny_pyNext_list_end hh hit₃ (up hl k₃) rfl fun h₄ he₄ => ?_))
  simp only [Option.isSome_none, Bool.false_eq_true, if_false]
  exact wpAny_pure (hQ h₄ fun b o e => he₄ b o (Nat.ne_of_lt (Heap.lt_size e)) (k₃ b o (Nat.ne_of_lt (Heap.lt_size e)) e))
end
end Mine
end

section
open PySem PySem.W PyProof.Rows PySem.Calls
set_option maxRecDepth 100000
namespace Mine
section
variable {prog : Program} {w : World} {A : Around}
theorem comp_filt {α : Type} (f : α → PyData) (u : PyData → α) (huf : ∀ a, u (f a) = a) (p : α → Bool) (g : α → PyData) (xs : List α) {elt iter : Expr} {x : Str} {px : Pos} {c : Expr} {scope : Scope} {cl : List (Str × Addr)} {pos : Pos} {env : Env} {h₀ : Heap}
    (hcell : ∀ y ∈ scope.names, y.2 ≠ .cell) (hkind : scope.kind = .function) (hx : scope.names.lookup x = some .local)
    (hsrc : SrcK prog w A iter env h₀ (xs.map f)) (hlen : xs.length ≤ 1000)
    (htest : ∀ C m v a h, a ∈ xs → Kp h₀ h → h.Ns C m → m x = some v → Rd0 h v (f a) → BoolK (model prog w) A (isTrue c (compEnvC scope cl C env) (eval c (compEnvC scope cl C env))) h (p a))
    (helt : ∀ C m v a h, a ∈ xs → Kp h₀ h → h.Ns C m → m x = some v → Rd0 h v (f a) → EvK (model prog w) A elt (compEnvC scope cl C env) h (g a)) :
    CompK prog w A (.ListComp elt [⟨.Name x px, iter, [c], 0⟩] scope pos) iter scope cl env h₀ (.list ((xs.filter p).map g)) := by
  have := comp_one (prog := prog) (w := w) (A := A) (elt := elt) (iter := iter) (x := x) (px := px) (ifs := [c]) (scope := scope) (cl := cl) (pos := pos) (env := env) (h₀ := h₀) (ds := xs.map f) (fun d => p (u d)) (fun d => g (u d)) hcell hkind hx hsrc (by simpa using hlen)
    (fun C m v d h hd k hn hv hr => by
      obtain ⟨a, ha, rfl⟩ := List.mem_map.mp hd
      rw [huf]
      exact .inr ⟨c, rfl, htest C m v a h ha k hn hv hr⟩)
    fun C m v d h hd _ k hn hv hr => by
      obtain ⟨a, ha, rfl⟩ := List.mem_map.mp hd
      rw [huf]
      exact helt C m v a h ha k hn hv hr
  rw [List.filter_map, List.map_map] at this
  rwa [show (fun d => g (u d)) ∘ f = g from funext fun a => by show g (u (f a)) = g a; rw [huf], show (fun d => p (u d)) ∘ f = p from funext fun a => by show p (u (f a)) = p a; rw [huf]] at this
theorem comp_eq {e iter : Expr} {scope : Scope} {cl : List (Str × Addr)} {env : Env} {h₀ : Heap} {d d' : PyData} (h : CompK prog w A e iter scope cl env h₀ d) (q : d = d') : CompK prog w A e iter scope cl env h₀ d' := q ▸ h
/-- x, y = z, a list of two; x and y cells -/
theorem do_two {env : Env} {s : Shared} {H : Heap} {tk : Nat} {E : Value → Shared → Prop} {x y : Str} {px py tpos pos : Pos} {k : Nat} {value : Expr} {l c₁ c₂ : Addr} {v₁ v₂ : Value} {w₁ w₂ : Option Value} {Q : Flow → Shared → Prop} (hh : A.handled = none)
    (hv : ∀ (s : Shared) (Q E : Value → Shared → Prop), Kp H s.heap → Q (.ref l) s → wpAny (model prog w) A (eval value env) Q E s) (hl : H.IsList l #[v₁, v₂])
    (hc₁ : env.cells.lookup x = some c₁) (hc₂ : env.cells.lookup y = some c₂) (hn₁ : H.IsCell c₁ w₁) (hn₂ : H.IsCell c₂ w₂) (hne : c₁ ≠ c₂) (ht : 0 < tk)
    (hk : env.scope.kind = .function) (hx : env.kindOf x = some .cell) (hy : env.kindOf y = some .cell)
    (hs : swapsWithSole [.Tuple [.Name x px, .Name y py] k tpos] value pos.line env = pure false)
    (hw : swappedStores [.Tuple [.Name x px, .Name y py] k tpos] value env = pure none)
    (next : ∀ h' tk', 0 < tk' → h'.IsCell c₁ (some v₁) → h'.IsCell c₂ (some v₂) → (∀ b o, b ≠ c₁ → b ≠ c₂ → H.get? b = some o → h'.get? b = some o) → Q .next { s with heap := h', toks := tk' }) :
    wpAny (model prog w) A (exec (.Assign [.Tuple [.Name x px, .Name y py] k tpos] value pos) env) Q E { s with heap := H, toks := tk } := by
  refine Assign_Tuple (hv _ _ _ (.refl _) ?_) hs hw
  rw [arm_assign_Tuple]
  refine wpAny_bind (wpAny_standAt ?_)
  show wpAny _ _ (holding [.ref l] (unpackItems (.ref l) 2 none) >>= fun items => assignInOrder [assign (.Name x px) env, assign (.Name y py) env] items) _ _ _
  refine wpAny_bind (wpAny_holding (unpack_two hh hl fun h₁ k₁ => ?_))
  dsimp only at k₁ ⊢
  refine assignInOrder_cons (wpAny_assign_Name (wpAny_with_toks (n := 1) ht (wpAny_storeName_cell hk hx hc₁ (hn₁.keeps k₁) fun h₂ hn₂' hs₂ q₂ => ?_)))
  have k₂ : ∀ b o, b ≠ c₁ → h₁.get? b = some o → h₂.get? b = some o := fun b o hb e => hs₂.extBut b o hb e
  refine assignInOrder_cons (wpAny_assign_Name (wpAny_with_toks (n := 1) q₂ (wpAny_storeName_cell hk hy hc₂ (cell_but (hn₂.keeps k₁) (Ne.symm hne) k₂) fun h₃ hn₃ hs₃ q₃ => ?_)))
  have k₃ : ∀ b o, b ≠ c₂ → h₂.get? b = some o → h₃.get? b = some o := fun b o hb e => hs₃.extBut b o hb e
  exact assignInOrder_nil (next h₃ _ q₃ (cell_but hn₂' hne k₃) hn₃ fun b o n1 n2 e => k₃ b o n2 (k₂ b o n1 (k₁ _ _ e)))
end
end Mine
end

section
open PySem PySem.W PyProof.Rows PySem.Calls
set_option maxRecDepth 100000
set_option maxHeartbeats 2000000
namespace Mine
noncomputable def rowS (x : Int) : Str := Txt.replace (Txt.slice (fmF (32768 + x)) (some 1) none) (Str.ofString "-") (Str.ofString " ")
noncomputable def bareS (x : Int) : Str := stripF (rowS x) 9
noncomputable def frontS (x : Int) : Str := stripF (rowS x) (8 - topF x)
noncomputable def pairD (x y : Str) : PyData := .tuple [.int (cmpS x y), .int (cmpS x y)]
noncomputable def signsT (l : List Str) : PyData := .list (l.flatMap fun x => l.map (pairD x))
noncomputable def toldD (l0 l1 : List Int) : PyData := .list [.list [strsD (l0.map bareS), strsD (l1.map bareS)], .list [strsD (l0.map frontS), strsD (l1.map frontS)], signsT (l0.map bareS ++ l1.map bareS),
  .tuple [strsD (uldF (l0.map bareS) (l1.map bareS)).1, strsD (uldF (l0.map bareS) (l1.map bareS)).2]]
theorem fmF_len (md : Int) : (fmF md).length ≤ 10 := by
  unfold fmF
  have h := StrLaws.join_length_le ⟨#[]⟩ (outF md 10)
  have e : Txt.join ⟨#[]⟩ (outF md 10) = Str.join ⟨#[]⟩ (outF md 10) := by
    show Builtin.Str.glued _ _ = _
    rw [StrLaws.glued_eq_join]
  rw [e]
  refine Nat.le_trans h ?_
  have h0 : (⟨#[]⟩ : Str).length = 0 := rfl
  rw [h0, Nat.mul_zero, Nat.add_zero]
  unfold outF
  have : ∀ l : List Nat, ((l.map (pickF md)).map (·.length)).sum ≤ l.length := by
    intro l
    induction l with
    | nil => simp
    | cons a l ih => have := pickF_len md a; simp only [List.map_cons, List.sum_cons, List.length_cons] at ih ⊢; omega
  exact this (List.range 10)

theorem c_told {w : World} {A : Around} {mg mb : Str → Option Value} {h₀ : Heap} (G : Gr (hd.heap_39 w.params) mg mb h₀) (hh : A.handled = none) (hdp : A.depth + 10 < recursionLimit) {outer : List Env} (hfr : A.frames = some outer)
    (l0 l1 : List Int) (hrow : ∀ x ∈ l0 ++ l1, (rowS x).length = 9) (hlen : l0.length + l1.length ≤ 14)
    (s : Shared) (Q E : Value → Shared → Prop) (S : Addr → Prop) (v : Value) (ht : 0 < s.toks) (kn : Kn h₀ S s.heap) (sz : Sz S s.heap) (st : Stk outer s.heap) (hSf : ∀ b ∈ outer.filterMap (·.frame), S b)
    (rd : Rd S s.heap v (.list ([l0, l1].map intsD)))
    (post : ∀ v' h' tk, 0 < tk → KpF (outer.filterMap (·.frame)) s.heap h' → Rd S h' v' (toldD l0 l1) → Q v' { s with heap := h', toks := tk }) :
    wpAny (model Challenge.rw_oy0055_01.row.prog w) A (call (.ref 106) [v]) Q E s := by
  revert G; k_fill; intro G
  refine' enterC [(Str.ofString "lists", v)] ?k1 ?k2 ?k3 ?k4 ?k5 ?k6 ?k7 ?k8 ?k9 ?k10 ?k11 ht ?_
  case k1 => exact (G.up kn.kp).K
  case k2 => exact (G.up kn.kp).lim
  case k3 => k_is
  case k4 => k_is
  case k5 => show A.depth < recursionLimit; omega
  case k6 => exact BindsTo.of_eq rfl
  case k7 => intro n x hx; simp only [List.mem_cons, List.not_mem_nil, or_false] at hx; rcases hx with rfl; exact .inr ⟨rfl, rfl⟩
  case k8 => decide
  case k9 => rfl
  case k10 => rfl
  case k11 => rfl
  intro L h₁ tk cells htk hL F N CA
  obtain ⟨o₃, o₂, o₁, rfl, hoc₃, hoc₂, hoc₁⟩ := CellsAre.three CA
  clear CA
  have hc₃ := N _ (.head _)
  have hc₂ := N _ (.tail _ (.head _))
  have hc₁ := N _ (.tail _ (.tail _ (.head _)))
  dsimp only at hc₁ hc₂ hc₃
  have n₁ := sz.fresh hc₁.2.2
  have n₂ := sz.fresh hc₂.2.2
  have n₃ := sz.fresh hc₃.2.2
  have hbL : s.heap.get? L = none := get_none_size _ (Nat.le_of_eq hL.symm)
  have nL := sz.fresh hbL
  have st₁ : Own3 s L (L + 1) (L + 1 + 1) (L + 1 + 1 + 1) h₁ _ (some v) none none := ⟨F.keep, F.ns, ⟨o₁, hc₁.1, hoc₁⟩, ⟨o₂, hc₂.1, hoc₂⟩, ⟨o₃, hc₃.1, hoc₃⟩⟩
  have b₁ := hc₁.2.2
  have b₂ := hc₂.2.2
  have b₃ := hc₃.2.2
  have h12 : L + 1 ≠ L + 1 + 1 := by omega
  have h13 : L + 1 ≠ L + 1 + 1 + 1 := by omega
  have h23 : L + 1 + 1 ≠ L + 1 + 1 + 1 := by omega
  clear hc₁ hc₂ hc₃ hoc₁ hoc₂ hoc₃ N
  have rd₁ := rd.up F.keep
  refine wpAny_execs_cons ?_
  have len2 : ∀ l ∈ [l0, l1], l.length ≤ 14 := by
    intro l hl
    rcases List.mem_cons.mp hl with rfl | hl
    · omega
    · rw [List.mem_singleton.mp hl]; omega
  have row2 : ∀ l ∈ [l0, l1], ∀ x ∈ l, (rowS x).length = 9 := by
    intro l hl x hx
    rcases List.mem_cons.mp hl with rfl | hl
    · exact hrow x (List.mem_append_left _ hx)
    · rw [List.mem_singleton.mp hl] at hx; exact hrow x (List.mem_append_right _ hx)
  refine do_cell (S := S) (d := .list ([l0, l1].map fun l => strsD (l.map rowS))) (c := L + 1 + 1) ?ev1 rfl st₁.b b₂ st₁.kp sz htk rfl rfl rfl fun vr h₂ t₂ q₂ k₂ c₂ r₂ o₂ => ?_
  case ev1 =>
    have G₁ := G.at kn st₁.kp
    refine ev_of_comp (cl := []) (comp_map intsD unInts unInts_eq (fun l => strsD (l.map rowS)) [l0, l1] (by decide) rfl (by decide) (src_list hh (ev_of_name (name_cell (c := L + 1) rfl (cell_hide st₁.a n₁) rfl rfl (by decide)) (rd₁.over .hide))) (by simp) ?_) rfl rfl (by decide) (fun _ => rfl)
    intro C m u l h hl k hn hu hr
    refine ev_eq (ev_of_comp (cl := []) (comp_map PyData.int unInt (fun _ => rfl) (fun x => .str (rowS x)) l (by decide) rfl (by decide) (src_list hh (ev_of_name (name_local hn hu rfl rfl (by decide)) hr)) (Nat.le_trans (len2 l hl) (by decide)) ?_) rfl rfl (by decide) (fun _ => rfl)) (by show PyData.list _ = PyData.list _; rw [List.map_map]; rfl)
    intro C' m' u' x h' hx k' hn' hu' hr'
    have G₂ := G₁.up (k.trans k')
    obtain ⟨o, fd, ho, hfd⟩ := fn_filemode G₂
    exact ev_replace (ev_sslice (ev_call (nm_filemode G₂ ⟨rfl, rfl, rfl⟩ rfl) ho hfd (.cons rfl (ev_bin (ev_of_name (nm_S_IFREG G₂ ⟨rfl, rfl, rfl⟩ rfl) (.int _ _)) (ev_of_name (name_local hn' hu' rfl rfl (by decide)) hr') op_add) .nil)
      (c_filemode (A := A.deeper _) G₂ hh (by show A.depth + 1 + 4 < recursionLimit; omega) (32768 + x))) (.some ev_int) .none (Nat.le_trans (fmF_len _) (by decide))) (by decide) (Nat.le_trans (Txt.slice_le _ _ _) (Nat.le_trans (fmF_len _) (by decide))) (by decide) rfl rfl
  have st₂ := st₁.two h12 h23 k₂ c₂ o₂
  have rd₂ := rd₁.over (over_cell (S := S) st₁.b o₂)
  clear st₁ rd₁ o₂ c₂ k₂
  have r₂' : Rd S h₂ vr (.list ([l0.map rowS, l1.map rowS].map strsD)) := r₂
  clear r₂
  have mem2 : ∀ l ∈ [l0.map rowS, l1.map rowS], l.length ≤ 14 ∧ ∀ x ∈ l, x.length = 9 := by
    intro l hl
    rcases List.mem_cons.mp hl with rfl | hl
    · refine ⟨by rw [List.length_map]; omega, fun x hx => ?_⟩
      obtain ⟨y, hy, rfl⟩ := List.mem_map.mp hx
      exact hrow y (List.mem_append_left _ hy)
    · rw [List.mem_singleton.mp hl]
      refine ⟨by rw [List.length_map]; omega, fun x hx => ?_⟩
      obtain ⟨y, hy, rfl⟩ := List.mem_map.mp hx
      exact hrow y (List.mem_append_right _ hy)
  refine wpAny_execs_cons ?_
  refine do_comp (s := s) (S := S) (L := L) (cl := []) (d := .list [strsD (l0.map bareS), strsD (l1.map bareS)]) ?ev2 rfl rfl (by decide) (fun _ => rfl) rfl rfl st₂.ns hbL st₂.kp sz q₂ rfl rfl fun vb h₃ t₃ q₃ k₃ c₃ r₃ o₃ => ?_
  case ev2 =>
    have G₁ := G.at kn st₂.kp
    refine comp_eq (comp_map strsD unStrs unStrs_eq (fun l => strsD (l.map (stripF · 9))) [l0.map rowS, l1.map rowS] (by decide) rfl (by decide) (src_list hh (ev_of_name (name_cell (c := L + 1 + 1) rfl (cell_hide st₂.b n₂) rfl rfl (by decide)) (r₂'.over .hide))) (by simp) ?_) (by simp only [List.map_cons, List.map_nil, List.map_map]; rfl)
    intro C m u l h hl k hn hu hr
    refine ev_eq (ev_of_comp (cl := []) (comp_map PyData.str unStr (fun _ => rfl) (fun x => .str (stripF x 9)) l (by decide) rfl (by decide) (src_list hh (ev_of_name (name_local hn hu rfl rfl (by decide)) hr)) (Nat.le_trans (mem2 l hl).1 (by decide)) ?_) rfl rfl (by decide) (fun _ => rfl)) (by show PyData.list _ = PyData.list _; rw [List.map_map]; rfl)
    intro C' m' u' x h' hx k' hn' hu' hr'
    have G₂ := G₁.up (k.trans k')
    obtain ⟨o, fd, ho, hfd⟩ := fn_strip_padding G₂
    exact ev_call (nm_strip_padding G₂ ⟨rfl, rfl, rfl⟩ rfl) ho hfd (.cons rfl (ev_of_name (name_local hn' hu' rfl rfl (by decide)) hr') (.cons rfl ev_int .nil))
      (c_strip (A := A.deeper _) G₂ (by show A.depth + 1 + 4 < recursionLimit; omega) x 9 ((mem2 l hl).2 x hx) (by decide) (by decide))
  have st₃ := st₂.loc k₃ c₃ o₃
  have rd₃ := rd₂.over (over_ns (S := S) st₂.ns o₃)
  have rr₃ := r₂'.over (over_ns (S := S) st₂.ns o₃)
  clear st₂ rd₂ r₂' o₃ c₃ k₃
  refine wpAny_execs_cons ?_
  refine do_comp (s := s) (S := S) (L := L) (cl := [(Str.ofString "rows", L + 1 + 1), (Str.ofString "lists", L + 1)]) (d := .list [strsD (l0.map frontS), strsD (l1.map frontS)]) ?ev3 rfl rfl (by decide) (fun _ => rfl) rfl rfl st₃.ns hbL st₃.kp sz q₃ rfl rfl fun vf h₄ t₄ q₄ k₄ c₄ r₄ o₄ => ?_
  case ev3 =>
    have G₁ := G.at kn st₃.kp
    refine comp_eq (comp_mapcell PyData.int unInt (fun _ => rfl) (fun k : Int => strsD ((if k = 0 then l0 else l1).map frontS)) [0, 1] (fun _ _ => rfl) (fun _ => rfl) rfl (fun _ _ => rfl) (src_list hh (ev_list (.cons rfl ev_int (.cons rfl ev_int .nil)) (by simp))) (by simp) ?_) rfl
    intro C c u kk h hkk k hc hr
    have hkk' : kk = 0 ∨ kk = 1 := by simpa using hkk
    have cr := (cell_hide st₃.b n₂).keeps k
    have cl := (cell_hide st₃.a n₁).keeps k
    have er := (rr₃.over .hide).up k
    have el := (rd₃.over .hide).up k
    generalize hlk : (if kk = 0 then l0 else l1) = lk
    have hlk0 : ([l0.map rowS, l1.map rowS].map strsD)[kk.toNat]? = some (strsD (lk.map rowS)) := by rcases hkk' with rfl | rfl <;> (subst hlk; rfl)
    have hlk1 : ([l0, l1].map intsD)[kk.toNat]? = some (intsD lk) := by rcases hkk' with rfl | rfl <;> (subst hlk; rfl)
    have hmem : lk ∈ [l0, l1] := by rcases hkk' with rfl | rfl <;> (subst hlk; simp)
    have k0 : 0 ≤ kk := by omega
    have k1 : kk < 1000 := by omega
    have G₂ := G₁.up k
    refine ev_eq (ev_of_comp (cl := [(Str.ofString "rows", L + 1 + 1), (Str.ofString "lists", L + 1), (Str.ofString "k", c)]) (comp_map (fun i : Nat => PyData.int i) (fun d => (unInt d).toNat) (fun _ => rfl) (fun j : Nat => .str (frontS (lk.getD j 0))) (List.range lk.length) (by decide) rfl (by decide) ?src (by simpa using Nat.le_trans (len2 lk hmem) (by decide)) ?_) rfl rfl (by decide) (fun _ => rfl)) ?fin
    case fin =>
      show PyData.list _ = PyData.list _
      rw [List.map_map]
      exact congrArg PyData.list (map_range_get lk 0 fun x => PyData.str (frontS x))
    case src =>
      refine src_range1 (N := lk.length) hh (Nat.le_trans (len2 lk hmem) (by decide)) (nm_range G₂ ⟨rfl, rfl, rfl⟩ rfl) (.cons rfl (ev_eq (ev_callb (nm_len G₂ ⟨rfl, rfl, rfl⟩ rfl) (.cons rfl (ev_item (ev_of_name (name_cell (c := L + 1 + 1) rfl cr rfl rfl (by decide)) er) (ev_of_name (name_cell (c := c) rfl hc rfl rfl (by decide)) hr) k0 k1 hlk0 (fun _ _ => rfl)) .nil) (call_len ?_)) ?_) .nil)
      · simpa using Nat.le_trans (len2 lk hmem) (by decide)
      · simp
    intro C' m' u' j h' hj k' hn' hu' hr'
    have hj' : j < lk.length := List.mem_range.mp hj
    have hx9 := row2 lk hmem (lk.getD j 0) (by simp [List.getD, hj'])
    have l1' := topF_lo (lk.getD j 0)
    have l2' := topF_hi (lk.getD j 0)
    have hlen' := len2 lk hmem
    have G₃ := G₂.up k'
    obtain ⟨o, fd, ho, hfd⟩ := fn_strip_padding G₃
    obtain ⟨o', fd', ho', hfd'⟩ := fn_law_top G₃
    have j1 : ((lk.map rowS).map PyData.str)[(j : Int).toNat]? = some (.str (rowS (lk.getD j 0))) := by simp [List.getD, hj']
    have j2 : (lk.map PyData.int)[(j : Int).toNat]? = some (.int (lk.getD j 0)) := by simp [List.getD, hj']
    refine ev_call (nm_strip_padding G₃ ⟨rfl, rfl, rfl⟩ rfl) ho hfd (.cons rfl (ev_item (ev_item (ev_of_name (name_cell (c := L + 1 + 1) rfl (cr.keeps k') rfl rfl (by decide)) (er.up k')) (ev_of_name (name_cell (c := c) rfl (hc.keeps k') rfl rfl (by decide)) (hr.up k')) k0 k1 hlk0 (fun _ _ => rfl)) (ev_of_name (name_local hn' hu' rfl rfl (by decide)) hr') (by omega) (by omega) j1 (fun _ _ => rfl))
      (.cons rfl (ev_bin ev_int (ev_call (nm_law_top G₃ ⟨rfl, rfl, rfl⟩ rfl) ho' hfd' (.cons rfl (ev_item (ev_item (ev_of_name (name_cell (c := L + 1) rfl (cl.keeps k') rfl rfl (by decide)) (el.up k')) (ev_of_name (name_cell (c := c) rfl (hc.keeps k') rfl rfl (by decide)) (hr.up k')) k0 k1 hlk1 (fun _ _ => rfl)) (ev_of_name (name_local hn' hu' rfl rfl (by decide)) hr') (by omega) (by omega) j2 (fun _ _ => rfl)) .nil) (c_top (A := A.deeper _) G₃ hh (by show A.depth + 1 + 2 < recursionLimit; omega) _)) op_sub) .nil))
      (c_strip (A := A.deeper _) G₃ (by show A.depth + 1 + 4 < recursionLimit; omega) _ _ hx9 (by omega) (by omega))
  have st₄ := st₃.loc k₄ c₄ o₄
  have rb₄ := r₃.over (over_ns (S := S) st₃.ns o₄)
  clear st₃ rd₃ rr₃ r₃ o₄ c₄ k₄
  refine wpAny_execs_cons ?_
  refine do_cell (S := S) (d := strsD (l0.map bareS ++ l1.map bareS)) (c := L + 1 + 1 + 1) ?ev4 rfl st₄.c b₃ st₄.kp sz q₄ rfl rfl rfl fun ve h₅ t₅ q₅ k₅ c₅ r₅ o₅ => ?_
  case ev4 =>
    have hb := ns_hide st₄.ns nL
    refine ev_eq (ev_bin (ev_item (ev_of_name (name_local hb rfl rfl rfl (by decide)) (rb₄.over .hide)) ev_int (by decide) (by decide) rfl (fun _ _ => rfl)) (ev_item (ev_of_name (name_local hb rfl rfl rfl (by decide)) (rb₄.over .hide)) ev_int (by decide) (by decide) rfl (fun _ _ => rfl)) (op_addlist (by simp only [List.length_map]; omega))) (by simp only [strsD, List.map_append])
  have st₅ := st₄.three h13 h23 k₅ c₅ o₅
  have rb₅ := rb₄.over (over_cell (S := S) st₄.c o₅)
  have rf₅ := r₄.over (over_cell (S := S) st₄.c o₅)
  clear st₄ rb₄ r₄ o₅ c₅ k₅
  have lene : (l0.map bareS ++ l1.map bareS).length ≤ 14 := by simp only [List.length_append, List.length_map]; omega
  refine wpAny_execs_cons ?_
  refine do_comp (s := s) (S := S) (L := L) (cl := [(Str.ofString "every", L + 1 + 1 + 1)]) (d := signsT (l0.map bareS ++ l1.map bareS)) ?ev5 rfl rfl (by decide) (fun _ => rfl) rfl rfl st₅.ns hbL st₅.kp sz q₅ rfl rfl fun vs h₆ t₆ q₆ k₆ c₆ r₆ o₆ => ?_
  case ev5 =>
    have G₁ := G.at kn st₅.kp
    have ce := cell_hide st₅.c n₃
    have re := r₅.over (Over.hide (S := S))
    generalize l0.map bareS ++ l1.map bareS = le at re lene
    refine comp_map2 PyData.str unStr (fun _ => rfl) pairD le (by decide) rfl (by decide) (by decide) (by decide) (fun _ _ => rfl) (src_list hh (ev_of_name (name_cell (c := L + 1 + 1 + 1) rfl ce rfl rfl (by decide)) re)) ?len (fun C h k => src_list hh (ev_of_name (name_cell (c := L + 1 + 1 + 1) rfl (ce.keeps k) rfl rfl (by decide)) (re.up k))) ?_
    case len => exact Nat.le_trans (Nat.mul_le_mul lene lene) (by decide)
    intro C m u u' x y h hx hy k hn hu hu' hr hr'
    have G₂ := G₁.up k
    obtain ⟨o, fd, ho, hfd⟩ := fn_strcoll G₂
    obtain ⟨o', fd', ho', hfd'⟩ := fn_three_way_cmp G₂
    exact ev_tuple (.cons rfl (ev_call (nm_strcoll G₂ ⟨rfl, rfl, rfl⟩ rfl) ho hfd (.cons rfl (ev_of_name (name_local hn hu rfl rfl (by decide)) hr) (.cons rfl (ev_of_name (name_local hn hu' rfl rfl (by decide)) hr') .nil)) (c_strcoll (A := A.deeper _) G₂ (by show A.depth + 1 + 2 < recursionLimit; omega) x y))
      (.cons rfl (ev_call (nm_three_way_cmp G₂ ⟨rfl, rfl, rfl⟩ rfl) ho' hfd' (.cons rfl (ev_of_name (name_local hn hu rfl rfl (by decide)) hr) (.cons rfl (ev_of_name (name_local hn hu' rfl rfl (by decide)) hr') .nil)) (c_three (A := A.deeper _) G₂ (by show A.depth + 1 + 2 < recursionLimit; omega) x y)) .nil)) (by simp)
  have st₆ := st₅.loc k₆ c₆ o₆
  have rb₆ := rb₅.over (over_ns (S := S) st₅.ns o₆)
  have rf₆ := rf₅.over (over_ns (S := S) st₅.ns o₆)
  clear st₅ rb₅ rf₅ r₅ o₆ c₆ k₆
  refine wpAny_execs_cons (wpAny_Return_some ?_)
  refine List_ (spliced_more (name_local (h₀ := h₆) st₆.ns rfl rfl rfl (by decide) _ _ _ _ (.refl _) (spliced_more (name_local (h₀ := h₆) st₆.ns rfl rfl rfl (by decide) _ _ _ _ (.refl _) (spliced_more (name_local (h₀ := h₆) st₆.ns rfl rfl rfl (by decide) _ _ _ _ (.refl _) (spliced_more ?_ rfl)) rfl)) rfl)) rfl)
  have hb := ns_hide st₆.ns nL
  have G₆ := G.at kn st₆.kp
  obtain ⟨o, fd, ho, hfd⟩ := fn_unorderable_list_difference G₆
  have rb₆' := rb₆.over (Over.hide (S := S))
  have ll0 : (l0.map bareS).length ≤ 500 := by rw [List.length_map]; omega
  have ll1 : (l1.map bareS).length ≤ 500 := by rw [List.length_map]; omega
  refine run_call2 (nm_unorderable_list_difference G₆ ⟨rfl, rfl, rfl⟩ rfl) hfd rfl rfl (Kn.hide S h₆).kp ?_
  refine run_lall (S := S) (ds := (l0.map bareS).map .str) (ev_item (ev_of_name (name_local hb rfl rfl rfl (by decide)) rb₆') ev_int (by decide) (by decide) rfl (fun _ _ => rfl)) (by rw [List.length_map]; omega) _ _ _ q₆ (Kn.hide _ _) (sz.up st₆.kp) fun P ip cp h₇ t₇ q₇ k₇ nP gP rP => ?_
  refine run_lall (S := S) (ds := (l1.map bareS).map .str) (ev_item (ev_of_name (name_local hb rfl rfl rfl (by decide)) rb₆') ev_int (by decide) (by decide) rfl (fun _ _ => rfl)) (by rw [List.length_map]; omega) _ _ _ q₇ ((Kn.hide _ _).up k₇) ((sz.up st₆.kp).up k₇) fun R ir cr h₈ t₈ q₈ k₈ nR gR rR => ?_
  dsimp only at k₇ nP k₈ nR
  have k₈' : Kp h₆ h₈ := k₇.trans k₈
  have ks₈ : Kp s.heap h₈ := st₆.kp.trans k₈'
  have hPR : P ≠ R := fun q => by rw [q, nR] at gP; cases gP
  have gP₈ := k₈ _ _ gP
  have nR₆ : h₆.get? R = none := by
    cases e : h₆.get? R with
    | none => rfl
    | some o => rw [k₇ _ _ e] at nR; cases nR
  have ns₈ := st₆.ns.keeps k₈'
  have liveS : ∀ {b o}, s.heap.get? b = some o → b ≠ L ∧ b ≠ P ∧ b ≠ R := fun {b o} e =>
    ⟨fun q => (by rw [q, hbL] at e; cases e), fun q => (by have := st₆.kp _ _ e; rw [q, nP] at this; cases this), fun q => (by have := st₆.kp _ _ e; rw [q, nR₆] at this; cases this)⟩
  refine ⟨k₈' _ _ (hideP_get.mp ho).2, ?_⟩
  refine c_uld (A := A.deeper _) G hh (by show A.depth + 1 + 2 < recursionLimit; omega) (Around.frames_deeper hfr) P R (l0.map bareS) (l1.map bareS) ll0 ll1 _ _ _ (fun a => S a ∨ a = L ∨ a = P ∨ a = R) q₈ ?kn ?st ?sf (.inr (.inr (.inl rfl))) (.inr (.inr (.inr rfl))) hPR ⟨ip, cp, gP₈, rdStrs rP⟩ ⟨ir, cr, gR, rdStrs rR⟩ ?_
  case kn =>
    intro a o e
    obtain ⟨n1, e1⟩ := kn a o e
    obtain ⟨n2, n3, n4⟩ := liveS e1
    refine ⟨?_, ks₈ _ _ e1⟩
    rintro (h | h | h | h)
    · exact n1 h
    · exact n2 h
    · exact n3 h
    · exact n4 h
  case st =>
    intro env he
    rcases List.mem_cons.mp he with rfl | he
    · exact ⟨by show ScopeKind.function ≠ .module; decide, L, _, rfl, ns₈⟩
    · exact (st.up (KpF.of (fs := []) ks₈)) env he
  case sf =>
    intro b hb
    rcases List.mem_cons.mp hb with q | q
    · exact .inr (.inl q)
    · exact .inl (hSf b q)
  intro vu h₉ t₉ q₉ hk₉ ru
  dsimp only at hk₉ ru
  have nfs : ∀ {b o items c}, o.data = .seq items c → h₈.get? b = some o → b ∉ L :: outer.filterMap (·.frame) := fun {b o items c} hd e hm => by
    rcases List.mem_cons.mp hm with q | hm
    · obtain ⟨o', es, ep, e', hd', _⟩ := ns₈
      rw [q, e'] at e; cases e
      rw [hd] at hd'; cases hd'
    · obtain ⟨env', he', hf'⟩ := List.mem_filterMap.mp hm
      obtain ⟨_, L', m', hf'', o', es, ep, e', hd', _⟩ := st env' he'
      rw [hf'] at hf''; cases hf''
      have := ks₈ _ _ e'
      rw [e] at this; cases this
      rw [hd] at hd'; cases hd'
  have ov : Over S h₆ S h₉ := fun a o n e sq => by
    obtain ⟨items, c, hd⟩ := sq
    have nP' : a ≠ P := fun q => by rw [q, nP] at e; cases e
    have nR' : a ≠ R := fun q => by rw [q, nR₆] at e; cases e
    exact ⟨n, (hk₉ a o nP' nR' (k₈' _ _ e)).1 (nfs hd (k₈' _ _ e))⟩
  refine spliced_none ?_
  refine wpAny_newObj_type ?_ (by show (4 : Nat) ≤ sizeLine; decide)
  have kf : KpF (outer.filterMap (·.frame)) s.heap h₉ := fun b o e => by
    obtain ⟨n2, n3, n4⟩ := liveS e
    have := hk₉ b o n3 n4 (ks₈ _ _ e)
    refine ⟨fun n => this.1 fun hm => ?_, fun n => this.2 (List.mem_cons_of_mem _ n)⟩
    rcases List.mem_cons.mp hm with q | q
    · exact n2 q
    · exact n q
  have szS : ∀ {a}, S a → (∃ o, h₈.get? a = some o) ∧ a ≠ R := fun {a} q => by
    obtain ⟨o, e⟩ := sz a q
    exact ⟨⟨o, ks₈ _ _ e⟩, (liveS e).2.2⟩
  have ru' : Rd S h₉ vu (.tuple [strsD (uldF (l0.map bareS) (l1.map bareS)).1, strsD (uldF (l0.map bareS) (l1.map bareS)).2]) := ru.over fun a o n e _ => ⟨fun q => n (szS q), e⟩
  have szN : h₉.get? h₉.objs.size = none := get_none_size _ (Nat.le_refl _)
  refine post _ _ _ q₉ (kf.trans (KpF.of (kp_push _ _))) (.list ?_ (Heap.get?_push_size _ rfl) (.cons ((rb₆.over ov).up (kp_push _ _)) (.cons ((rf₆.over ov).up (kp_push _ _)) (.cons ((r₆.over ov).up (kp_push _ _)) (.cons (ru'.up (kp_push _ _)) .nil)))))
  intro q
  obtain ⟨o, e⟩ := sz _ q
  have e' := kf _ _ e
  by_cases hm : h₉.objs.size ∈ outer.filterMap (·.frame)
  · obtain ⟨sl, e''⟩ := e'.2 hm; rw [szN] at e''; cases e''
  · have := e'.1 hm; rw [szN] at this; cases this
end Mine
end

section
open PySem PySem.W PyProof.Rows PySem.Calls
set_option maxRecDepth 100000
set_option maxHeartbeats 2000000
namespace Mine
noncomputable def keyP (n : Int) : Int × Int := if 0 < n then (3 - (topF n).fmod 3, n * 2 ^ (8 - topF n).toNat) else (0, 0)
theorem keyP_eq (n : Int) : keyF n = pairI (keyP n) := by
  unfold keyF keyP; split <;> rfl
noncomputable def sgnP (p q : Int × Int) : Int := if ltP p q = true then -1 else if PyData.eqv (pairI p) (pairI q) = true then 0 else 1
noncomputable def pL (one two : List Int) (k : Int) : Bool := decide ((two.count (one.getD k.toNat 0) : Int) ≤ ((one.drop (k.toNat + 1)).count (one.getD k.toNat 0) : Int))
noncomputable def lacksF (one two : List Int) : List Int := (((List.range one.length).map fun i : Nat => ((one.length : Int) - 1 - i)).filter (pL one two)).map fun k => one.getD k.toNat 0
noncomputable def pM (one two : List Int) (k : Nat) : Bool := decide ((one.count (two.getD k 0) : Int) ≤ ((two.take k).count (two.getD k 0) : Int))
noncomputable def moreF (one two : List Int) : List Int := ((List.range two.length).filter (pM one two)).map fun k => two.getD k 0
noncomputable def signsF (l : List Int) : List Int := (l.map keyP).flatMap fun x => (l.map keyP).map (sgnP x)
noncomputable def twice (x : Int) : PyData := .tuple [.int x, .int x]
noncomputable def dueD (l0 l1 : List Int) : PyData := .list [.list [strsD ((l0.map divF).map bareF), strsD ((l1.map divF).map bareF)], .list [strsD (l0.map (textF · 0)), strsD (l1.map (textF · 0))], .list ((signsF (l0 ++ l1)).map twice),
  .tuple [strsD ((lacksF (l0.map divF) (l1.map divF)).map bareF), strsD ((moreF (l0.map divF) (l1.map divF)).map bareF)]]

theorem rd_two {S : Addr → Prop} {h : Heap} {v : Value} {d₁ d₂ : PyData} (r : Rd S h v (.list [d₁, d₂])) : ∃ a v₁ v₂ n, v = .ref a ∧ h.get? a = some (plist #[v₁, v₂] n) ∧ Rd S h v₁ d₁ ∧ Rd S h v₂ d₂ := by
  cases r with | list n g q =>
  rename_i a items c
  generalize hl : items.toList = l at q
  cases q with | cons r₁ q =>
  cases q with | cons r₂ q =>
  cases q
  rename_i v₁ v₂
  have : items = #[v₁, v₂] := by rw [← Array.toList_inj]; exact hl
  subst this
  exact ⟨a, v₁, v₂, c, rfl, g, r₁, r₂⟩
theorem over_cells {S : Addr → Prop} {h h' : Heap} {c₁ c₂ : Addr} {v₁ v₂ : Option Value} (h₁ : h.IsCell c₁ v₁) (h₂ : h.IsCell c₂ v₂) (k : ∀ b o, b ≠ c₁ → b ≠ c₂ → h.get? b = some o → h'.get? b = some o) : Over S h S h' := fun a o n e sq => by
  obtain ⟨items, c, hq⟩ := sq
  refine ⟨n, k a o (fun q => ?_) (fun q => ?_) e⟩
  · obtain ⟨o', e', hd⟩ := h₁
    rw [q, e'] at e; cases e
    rw [hd] at hq; cases hq
  · obtain ⟨o', e', hd⟩ := h₂
    rw [q, e'] at e; cases e
    rw [hd] at hq; cases hq
theorem src_eq {prog : Program} {w : World} {A : Around} {e : Expr} {env : Env} {h₀ : Heap} {ds ds' : List PyData} (h : SrcK prog w A e env h₀ ds) (q : ds = ds') : SrcK prog w A e env h₀ ds' := q ▸ h
theorem signsF_len (l : List Int) : (signsF l).length = l.length * l.length := by
  have : ∀ (xs ys : List (Int × Int)), (xs.flatMap fun x => ys.map (sgnP x)).length = xs.length * ys.length := by
    intro xs ys
    induction xs with
    | nil => simp
    | cons a xs ih => simp [List.flatMap_cons, ih, Nat.add_mul, Nat.add_comm]
  unfold signsF
  rw [this, List.length_map]
theorem lacksF_len (one two : List Int) : (lacksF one two).length ≤ one.length := by
  unfold lacksF
  rw [List.length_map]
  exact Nat.le_trans (List.length_filter_le _ _) (by rw [List.length_map, List.length_range]; exact Nat.le_refl _)
theorem moreF_len (one two : List Int) : (moreF one two).length ≤ two.length := by
  unfold moreF
  rw [List.length_map]
  exact Nat.le_trans (List.length_filter_le _ _) (by rw [List.length_range]; exact Nat.le_refl _)

theorem c_due {w : World} {A : Around} {mg mb : Str → Option Value} {h₀ : Heap} (G : Gr (hd.heap_39 w.params) mg mb h₀) (hh : A.handled = none) (hdp : A.depth + 10 < recursionLimit) (hu : A.units + 100 < cLine)
    (l0 l1 : List Int) (hrng : ∀ x ∈ l0 ++ l1, 0 ≤ x ∧ x < 512) (hlen : l0.length + l1.length ≤ 14) :
    CallK (model Challenge.rw_oy0055_01.row.prog w) A (.ref 135) [.list ([l0, l1].map intsD)] h₀ (dueD l0 l1) := fun s Q E S vs ht kn sz rds post => by
  revert G; k_fill; intro G
  cases rds with | cons rd r₂ =>
  cases r₂
  rename_i v
  refine' enterC [(Str.ofString "lists", v)] ?k1 ?k2 ?k3 ?k4 ?k5 ?k6 ?k7 ?k8 ?k9 ?k10 ?k11 ht ?_
  case k1 => exact (G.up kn.kp).K
  case k2 => exact (G.up kn.kp).lim
  case k3 => k_is
  case k4 => k_is
  case k5 => show A.depth < recursionLimit; omega
  case k6 => exact BindsTo.of_eq rfl
  case k7 => intro n x hx; simp only [List.mem_cons, List.not_mem_nil, or_false] at hx; rcases hx with rfl; exact .inl rfl
  case k8 => decide
  case k9 => rfl
  case k10 => rfl
  case k11 => rfl
  intro L h₁ tk cells htk hL F N CA
  obtain ⟨o₃, o₂, o₁, rfl, hoc₃, hoc₂, hoc₁⟩ := CellsAre.three CA
  clear CA
  have hc₃ := N _ (.head _)
  have hc₂ := N _ (.tail _ (.head _))
  have hc₁ := N _ (.tail _ (.tail _ (.head _)))
  dsimp only at hc₁ hc₂ hc₃
  have n₁ := sz.fresh hc₁.2.2
  have n₂ := sz.fresh hc₂.2.2
  have n₃ := sz.fresh hc₃.2.2
  have hbL : s.heap.get? L = none := get_none_size _ (Nat.le_of_eq hL.symm)
  have nL := sz.fresh hbL
  have st₁ : Own3 s L (L + 1) (L + 1 + 1) (L + 1 + 1 + 1) h₁ _ none none none := ⟨F.keep, F.ns, ⟨o₁, hc₁.1, hoc₁⟩, ⟨o₂, hc₂.1, hoc₂⟩, ⟨o₃, hc₃.1, hoc₃⟩⟩
  have b₁ := hc₁.2.2
  have b₂ := hc₂.2.2
  have b₃ := hc₃.2.2
  have h12 : L + 1 ≠ L + 1 + 1 := by omega
  have h13 : L + 1 ≠ L + 1 + 1 + 1 := by omega
  have h23 : L + 1 + 1 ≠ L + 1 + 1 + 1 := by omega
  clear hc₁ hc₂ hc₃ hoc₁ hoc₂ hoc₃ N
  have rd₁ := rd.up F.keep
  have len2 : ∀ l ∈ [l0, l1], l.length ≤ 14 := by
    intro l hl
    rcases List.mem_cons.mp hl with rfl | hl
    · omega
    · rw [List.mem_singleton.mp hl]; omega
  have rng2 : ∀ l ∈ [l0, l1], ∀ x ∈ l, 0 ≤ x ∧ x < 512 := by
    intro l hl x hx
    rcases List.mem_cons.mp hl with rfl | hl
    · exact hrng x (List.mem_append_left _ hx)
    · rw [List.mem_singleton.mp hl] at hx; exact hrng x (List.mem_append_right _ hx)
  -- plain
  refine wpAny_execs_cons ?_
  refine do_comp (s := s) (S := S) (L := L) (cl := []) (d := .list [intsD (l0.map divF), intsD (l1.map divF)]) ?ev1 rfl rfl (by decide) (fun _ => rfl) rfl rfl st₁.ns hbL st₁.kp sz htk rfl rfl fun vp h₂ t₂ q₂ k₂ c₂ r₂ o₂ => ?_
  case ev1 =>
    have G₁ := G.at kn st₁.kp
    refine comp_eq (comp_map intsD unInts unInts_eq (fun l => intsD (l.map divF)) [l0, l1] (by decide) rfl (by decide) (src_list hh (ev_of_name (name_local (ns_hide st₁.ns nL) rfl rfl rfl (by decide)) (rd₁.over .hide))) (by simp) ?_) rfl
    intro C m u l h hl k hn hu hr
    refine ev_eq (ev_of_comp (cl := []) (comp_map PyData.int unInt (fun _ => rfl) (fun x => .int (divF x)) l (by decide) rfl (by decide) (src_list hh (ev_of_name (name_local hn hu rfl rfl (by decide)) hr)) (Nat.le_trans (len2 l hl) (by decide)) ?_) rfl rfl (by decide) (fun _ => rfl)) (by show PyData.list _ = PyData.list _; rw [List.map_map]; rfl)
    intro C' m' u' x h' hx k' hn' hu' hr'
    have G₂ := G₁.up (k.trans k')
    obtain ⟨o, fd, ho, hfd⟩ := fn_law_divided G₂
    obtain ⟨x0, x1⟩ := rng2 l hl x hx
    exact ev_call (nm_law_divided G₂ ⟨rfl, rfl, rfl⟩ rfl) ho hfd (.cons rfl (ev_of_name (name_local hn' hu' rfl rfl (by decide)) hr') .nil)
      (c_divided (A := A.deeper _) G₂ (by show A.depth + 1 + 4 < recursionLimit; omega) x x0 x1)
  have st₂ := st₁.loc k₂ c₂ o₂
  have rd₂ := rd₁.over (over_ns (S := S) st₁.ns o₂)
  clear st₁ rd₁ o₂ c₂ k₂
  -- keys
  refine wpAny_execs_cons ?_
  refine do_cell (S := S) (d := .list (((l0 ++ l1).map keyP).map pairI)) (c := L + 1) ?ev2 rfl st₂.a b₁ st₂.kp sz q₂ rfl rfl rfl fun vk h₃ t₃ q₃ k₃ c₃ r₃ o₃ => ?_
  case ev2 =>
    have G₁ := G.at kn st₂.kp
    have hb := ns_hide st₂.ns nL
    have rl := rd₂.over (Over.hide (S := S))
    refine ev_eq (ev_of_comp (cl := []) (comp_map PyData.int unInt (fun _ => rfl) keyF (l0 ++ l1) (by decide) rfl (by decide) (src_list hh (ev_eq (ev_bin (ev_item (ev_of_name (name_local hb rfl rfl rfl (by decide)) rl) ev_int (by decide) (by decide) rfl (fun _ _ => rfl)) (ev_item (ev_of_name (name_local hb rfl rfl rfl (by decide)) rl) ev_int (by decide) (by decide) rfl (fun _ _ => rfl)) (op_addlist (by simp only [List.length_map]; omega))) (by simp only [List.map_append])))
      (by rw [List.length_append]; omega) ?_) rfl rfl (by decide) (fun _ => rfl)) (by rw [List.map_map]; exact congrArg PyData.list (List.map_congr_left fun x _ => keyP_eq x))
    intro C m u x h hx k hn hu hr
    have G₂ := G₁.up k
    obtain ⟨o, fd, ho, hfd⟩ := fn_law_key G₂
    obtain ⟨x0, x1⟩ := hrng x hx
    exact ev_call (nm_law_key G₂ ⟨rfl, rfl, rfl⟩ rfl) ho hfd (.cons rfl (ev_of_name (name_local hn hu rfl rfl (by decide)) hr) .nil)
      (c_key (A := A.deeper _) G₂ hh (by show A.depth + 1 + 4 < recursionLimit; omega) x x0 x1)
  have st₃ := st₂.one h12 h13 k₃ c₃ o₃
  have rd₃ := rd₂.over (over_cell (S := S) st₂.a o₃)
  have rp₃ := r₂.over (over_cell (S := S) st₂.a o₃)
  clear st₂ rd₂ r₂ o₃ c₃ k₃
  -- signs
  refine wpAny_execs_cons ?_
  refine do_comp (s := s) (S := S) (L := L) (cl := [(Str.ofString "keys", L + 1)]) (d := .list ((signsF (l0 ++ l1)).map .int)) ?ev3 rfl rfl (by decide) (fun _ => rfl) rfl rfl st₃.ns hbL st₃.kp sz q₃ rfl rfl fun vs h₄ t₄ q₄ k₄ c₄ r₄ o₄ => ?_
  case ev3 =>
    have ce := cell_hide st₃.a n₁
    have re := r₃.over (Over.hide (S := S))
    unfold signsF
    have lene : ((l0 ++ l1).map keyP).length ≤ 14 := by rw [List.length_map, List.length_append]; omega
    generalize (l0 ++ l1).map keyP = le at re lene ⊢
    refine comp_eq (comp_map2 pairI unPair unPair_eq (fun x y => .int (sgnP x y)) le (by decide) rfl (by decide) (by decide) (by decide) (fun _ _ => rfl) (src_list hh (ev_of_name (name_cell (c := L + 1) rfl ce rfl rfl (by decide)) re)) ?len (fun C h k => src_list hh (ev_of_name (name_cell (c := L + 1) rfl (ce.keeps k) rfl rfl (by decide)) (re.up k))) ?_) ?q
    case len => exact Nat.le_trans (Nat.mul_le_mul lene lene) (by decide)
    case q =>
      rw [List.map_flatMap]
      congr 2
      funext a
      rw [List.map_map]; rfl
    intro C m u u' x y h hx hy k hn hu1 hu2 hr hr'
    refine ev_if (c := ltP x y) (test_cmp (ev_of_name (name_local hn hu1 rfl rfl (by decide)) hr) (ev_of_name (name_local hn hu2 rfl rfl (by decide)) hr') (op_lt_pair (A := A.deeper _) (by show A.units + 3 < cLine; omega)) rfl) (fun hc => ?ia) (fun hc => ?ib)
    case ia => exact ev_eq (ev_neg ev_int) (by unfold sgnP; rw [if_pos hc])
    case ib =>
      refine ev_if (c := PyData.eqv (pairI x) (pairI y)) (test_cmp (ev_of_name (name_local hn hu1 rfl rfl (by decide)) hr) (ev_of_name (name_local hn hu2 rfl rfl (by decide)) hr') (op_eq_pair (A := A.deeper _) (by show A.units + 3 + 64 < cLine; omega)) rfl) (fun hc' => ?ic) (fun hc' => ?id)
      case ic => exact ev_eq ev_int (by unfold sgnP; rw [if_neg (by rw [hc]; decide), if_pos hc'])
      case id => exact ev_eq ev_int (by unfold sgnP; rw [if_neg (by rw [hc]; decide), if_neg (by rw [hc']; decide)])
  have st₄ := st₃.loc k₄ c₄ o₄
  have rd₄ := rd₃.over (over_ns (S := S) st₃.ns o₄)
  have rp₄ := rp₃.over (over_ns (S := S) st₃.ns o₄)
  clear st₃ rd₃ rp₃ r₃ o₄ c₄ k₄
  -- one, two
  refine wpAny_execs_cons ?_
  have lO : (l0.map divF).length ≤ 14 := by rw [List.length_map]; omega
  have lT : (l1.map divF).length ≤ 14 := by rw [List.length_map]; omega
  have hdue : dueD l0 l1 = .list [.list [strsD ((l0.map divF).map bareF), strsD ((l1.map divF).map bareF)], .list [strsD (l0.map (textF · 0)), strsD (l1.map (textF · 0))], .list ((signsF (l0 ++ l1)).map twice),
    .tuple [strsD ((lacksF (l0.map divF) (l1.map divF)).map bareF), strsD ((moreF (l0.map divF) (l1.map divF)).map bareF)]] := rfl
  rw [hdue] at post
  clear hdue
  have lS : (signsF (l0 ++ l1)).length ≤ 1000 := by
    rw [signsF_len, List.length_append]
    exact Nat.le_trans (Nat.mul_le_mul hlen hlen) (by decide)
  generalize signsF (l0 ++ l1) = sg at *
  generalize l0.map divF = O at *
  generalize l1.map divF = T at *
  obtain ⟨lp, vo, vt, cp, rfl, gp, ro, rt⟩ := rd_two rp₄
  refine do_two (s := s) (l := lp) (c₁ := L + 1 + 1) (c₂ := L + 1 + 1 + 1) hh (fun s Q E k q => name_local (h₀ := h₄) st₄.ns rfl rfl rfl (by decide) _ _ _ _ k q) ⟨_, gp, rfl, _, rfl⟩ rfl rfl st₄.b st₄.c h23 q₄ rfl rfl rfl rfl rfl fun h₅ t₅ q₅ c₅ d₅ o₅ => ?_
  have ov₅ := over_cells (S := S) st₄.b st₄.c o₅
  have st₅ : Own3 s L (L + 1) (L + 1 + 1) (L + 1 + 1 + 1) h₅ _ (some vk) (some vo) (some vt) :=
    ⟨fun b o e => o₅ b o (fun q => by rw [q, b₂] at e; cases e) (fun q => by rw [q, b₃] at e; cases e) (st₄.kp _ _ e), st₄.ns.at' fun o e => o₅ L o (Ne.symm (cell_ne st₄.ns st₄.b)) (Ne.symm (cell_ne st₄.ns st₄.c)) e, let ⟨o, e, d⟩ := st₄.a; ⟨o, o₅ _ _ h12 h13 e, d⟩, c₅, d₅⟩
  have rd₅ := rd₄.over ov₅
  have rs₅ := r₄.over ov₅
  have ro₅ := ro.over ov₅
  have rt₅ := rt.over ov₅
  have rp₅ := rp₄.over ov₅
  clear st₄ rd₄ rp₄ r₄ ro rt gp o₅ c₅ d₅ ov₅
  -- lacks
  refine wpAny_execs_cons ?_
  refine do_comp (s := s) (S := S) (L := L) (cl := [(Str.ofString "two", L + 1 + 1 + 1), (Str.ofString "one", L + 1 + 1)]) (d := .list ((lacksF O T).map .int)) ?ev5 rfl rfl (by decide) (fun _ => rfl) rfl rfl st₅.ns hbL st₅.kp sz q₅ rfl rfl fun vl h₆ t₆ q₆ k₆ c₆ r₆ o₆ => ?_
  case ev5 =>
    have G₁ := G.at kn st₅.kp
    have co := cell_hide st₅.b n₂
    have ct := cell_hide st₅.c n₃
    have eo := ro₅.over (Over.hide (S := S))
    have et := rt₅.over (Over.hide (S := S))
    refine comp_eq (comp_filt PyData.int unInt (fun _ => rfl) (pL O T) (fun k : Int => .int (O.getD k.toNat 0)) ((List.range O.length).map fun i : Nat => ((O.length : Int) - 1 - i)) (by decide) rfl (by decide) ?src (by rw [List.length_map, List.length_range]; omega) ?test ?elt) (by unfold lacksF; rw [List.map_map]; rfl)
    case src =>
      refine src_eq (src_rangeDown (a := (O.length : Int) - 1) (b := -1) (n := O.length) hh (by omega) (by omega) (by omega) (by omega) (by omega) (nm_range G₁ ⟨rfl, rfl, rfl⟩ rfl)
        (.cons rfl (ev_bin (ev_eq (ev_callb (nm_len G₁ ⟨rfl, rfl, rfl⟩ rfl) (.cons rfl (ev_of_name (name_cell (c := L + 1 + 1) rfl co rfl rfl (by decide)) eo) .nil) (call_len (by rw [List.length_map]; omega))) (by rw [List.length_map])) ev_int op_sub) (.cons rfl (ev_neg ev_int) (.cons rfl (ev_neg ev_int) .nil)))) ?_
      rw [List.map_map]; rfl
    case elt =>
      intro C m u kk h hkk k hn hu1 hr
      obtain ⟨i, hi, rfl⟩ := List.mem_map.mp hkk
      have hi' := List.mem_range.mp hi
      have hk0 : 0 ≤ (O.length : Int) - 1 - (i : Int) := by omega
      have hk1 : ((O.length : Int) - 1 - (i : Int)).toNat < O.length := by omega
      generalize (O.length : Int) - 1 - (i : Int) = kk at hr hk0 hk1 ⊢
      exact ev_item (ev_of_name (name_cell (c := L + 1 + 1) rfl (co.keeps k) rfl rfl (by decide)) (eo.up k)) (ev_of_name (name_local hn hu1 rfl rfl (by decide)) hr) hk0 (by omega) (by simp [List.getD, hk1]) (fun _ _ => rfl)
    case test =>
      intro C m u kk h hkk k hn hu1 hr
      obtain ⟨i, hi, rfl⟩ := List.mem_map.mp hkk
      have hi' := List.mem_range.mp hi
      have hk0 : 0 ≤ (O.length : Int) - 1 - (i : Int) := by omega
      have hk1 : ((O.length : Int) - 1 - (i : Int)).toNat < O.length := by omega
      generalize (O.length : Int) - 1 - (i : Int) = kk at hr hk0 hk1 ⊢
      have hget : (O.map PyData.int)[kk.toNat]? = some (.int (O.getD kk.toNat 0)) := by simp [List.getD, hk1]
      refine test_cmp (ev_count (ns := O.drop (kk.toNat + 1)) (ev_eq (ev_lfrom (a := kk.toNat + 1) (ev_of_name (name_cell (c := L + 1 + 1) rfl (co.keeps k) rfl rfl (by decide)) (eo.up k)) (ev_eq (ev_bin (ev_of_name (name_local hn hu1 rfl rfl (by decide)) hr) ev_int op_add) (by congr 1; omega)) (by rw [List.length_map]; omega)) (by rw [List.map_drop]))
          (ev_item (ev_of_name (name_cell (c := L + 1 + 1) rfl (co.keeps k) rfl rfl (by decide)) (eo.up k)) (ev_of_name (name_local hn hu1 rfl rfl (by decide)) hr) hk0 (by omega) hget (fun _ _ => rfl)) rfl rfl rfl)
        (ev_count (ns := T) (ev_of_name (name_cell (c := L + 1 + 1 + 1) rfl (ct.keeps k) rfl rfl (by decide)) (et.up k)) (ev_item (ev_of_name (name_cell (c := L + 1 + 1) rfl (co.keeps k) rfl rfl (by decide)) (eo.up k)) (ev_of_name (name_local hn hu1 rfl rfl (by decide)) hr) hk0 (by omega) hget (fun _ _ => rfl)) rfl rfl rfl) cmp_ge_int rfl
  have st₆ := st₅.loc k₆ c₆ o₆
  have ov₆ := over_ns (S := S) st₅.ns o₆
  have rd₆ := rd₅.over ov₆
  have rs₆ := rs₅.over ov₆
  have ro₆ := ro₅.over ov₆
  have rt₆ := rt₅.over ov₆
  have rp₆ := rp₅.over ov₆
  clear st₅ rd₅ rs₅ ro₅ rt₅ rp₅ ov₆ o₆ c₆ k₆
  -- more
  refine wpAny_execs_cons ?_
  refine do_comp (s := s) (S := S) (L := L) (cl := [(Str.ofString "two", L + 1 + 1 + 1), (Str.ofString "one", L + 1 + 1)]) (d := .list ((moreF O T).map .int)) ?ev6 rfl rfl (by decide) (fun _ => rfl) rfl rfl st₆.ns hbL st₆.kp sz q₆ rfl rfl fun vm h₇ t₇ q₇ k₇ c₇ r₇ o₇ => ?_
  case ev6 =>
    have G₁ := G.at kn st₆.kp
    have co := cell_hide st₆.b n₂
    have ct := cell_hide st₆.c n₃
    have eo := ro₆.over (Over.hide (S := S))
    have et := rt₆.over (Over.hide (S := S))
    refine comp_eq (comp_filt (fun i : Nat => PyData.int i) (fun d => (unInt d).toNat) (fun _ => rfl) (pM O T) (fun k : Nat => .int (T.getD k 0)) (List.range T.length) (by decide) rfl (by decide) ?src (by rw [List.length_range]; omega) ?test ?elt) (by unfold moreF; rw [List.map_map]; rfl)
    case src =>
      exact src_range1 (N := T.length) hh (by omega) (nm_range G₁ ⟨rfl, rfl, rfl⟩ rfl) (.cons rfl (ev_eq (ev_callb (nm_len G₁ ⟨rfl, rfl, rfl⟩ rfl) (.cons rfl (ev_of_name (name_cell (c := L + 1 + 1 + 1) rfl ct rfl rfl (by decide)) et) .nil) (call_len (by rw [List.length_map]; omega))) (by rw [List.length_map])) .nil)
    case elt =>
      intro C m u kk h hkk k hn hu1 hr
      have hk1 := List.mem_range.mp hkk
      exact ev_item (ev_of_name (name_cell (c := L + 1 + 1 + 1) rfl (ct.keeps k) rfl rfl (by decide)) (et.up k)) (ev_of_name (name_local hn hu1 rfl rfl (by decide)) hr) (by omega) (by omega) (by simp [List.getD, hk1]) (fun _ _ => rfl)
    case test =>
      intro C m u kk h hkk k hn hu1 hr
      have hk1 := List.mem_range.mp hkk
      have hget : (T.map PyData.int)[(kk : Int).toNat]? = some (.int (T.getD kk 0)) := by simp [List.getD, hk1]
      refine test_cmp (ev_count (ns := T.take kk) (ev_eq (ev_lupto (b := kk) (ev_of_name (name_cell (c := L + 1 + 1 + 1) rfl (ct.keeps k) rfl rfl (by decide)) (et.up k)) (ev_of_name (name_local hn hu1 rfl rfl (by decide)) hr) (by rw [List.length_map]; omega)) (by rw [List.map_take]))
          (ev_item (ev_of_name (name_cell (c := L + 1 + 1 + 1) rfl (ct.keeps k) rfl rfl (by decide)) (et.up k)) (ev_of_name (name_local hn hu1 rfl rfl (by decide)) hr) (by omega) (by omega) hget (fun _ _ => rfl)) rfl rfl rfl)
        (ev_count (ns := O) (ev_of_name (name_cell (c := L + 1 + 1) rfl (co.keeps k) rfl rfl (by decide)) (eo.up k)) (ev_item (ev_of_name (name_cell (c := L + 1 + 1 + 1) rfl (ct.keeps k) rfl rfl (by decide)) (et.up k)) (ev_of_name (name_local hn hu1 rfl rfl (by decide)) hr) (by omega) (by omega) hget (fun _ _ => rfl)) rfl rfl rfl) cmp_ge_int rfl
  have st₇ := st₆.loc k₇ c₇ o₇
  have ov₇ := over_ns (S := S) st₆.ns o₇
  have rd₇ := rd₆.over ov₇
  have rs₇ := rs₆.over ov₇
  have rl₇ := r₆.over ov₇
  have rp₇ := rp₆.over ov₇
  clear st₆ rd₆ rs₆ ro₆ rt₆ rp₆ r₆ ov₇ o₇ c₇ k₇
  -- bare
  refine wpAny_execs_cons ?_
  refine do_comp (s := s) (S := S) (L := L) (cl := []) (d := .list [strsD (O.map bareF), strsD (T.map bareF)]) ?ev7 rfl rfl (by decide) (fun _ => rfl) rfl rfl st₇.ns hbL st₇.kp sz q₇ rfl rfl fun vb h₈ t₈ q₈ k₈ c₈ r₈ o₈ => ?_
  case ev7 =>
    have G₁ := G.at kn st₇.kp
    have rp' : Rd S h₇ (.ref lp) (.list ([O, T].map intsD)) := rp₇
    refine comp_eq (comp_map intsD unInts unInts_eq (fun l => strsD (l.map bareF)) [O, T] (by decide) rfl (by decide) (src_list hh (ev_of_name (name_local (ns_hide st₇.ns nL) rfl rfl rfl (by decide)) (rp'.over .hide))) (by simp) ?_) rfl
    intro C m u l h hl k hn hu1 hr
    have ll : l.length ≤ 1000 := by
      rcases List.mem_cons.mp hl with rfl | hl
      · omega
      · rw [List.mem_singleton.mp hl]; omega
    refine ev_eq (ev_of_comp (cl := []) (comp_map PyData.int unInt (fun _ => rfl) (fun x => .str (bareF x)) l (by decide) rfl (by decide) (src_list hh (ev_of_name (name_local hn hu1 rfl rfl (by decide)) hr)) ll ?_) rfl rfl (by decide) (fun _ => rfl)) (by show PyData.list _ = PyData.list _; rw [List.map_map]; rfl)
    intro C' m' u' x h' hx k' hn' hu' hr'
    have G₂ := G₁.up (k.trans k')
    obtain ⟨o, fd, ho, hfd⟩ := fn_law_bare G₂
    exact ev_call (nm_law_bare G₂ ⟨rfl, rfl, rfl⟩ rfl) ho hfd (.cons rfl (ev_of_name (name_local hn' hu' rfl rfl (by decide)) hr') .nil)
      (c_bare (A := A.deeper _) G₂ hh (by show A.depth + 1 + 6 < recursionLimit; omega) x)
  have st₈ := st₇.loc k₈ c₈ o₈
  have ov₈ := over_ns (S := S) st₇.ns o₈
  have rd₈ := rd₇.over ov₈
  have rs₈ := rs₇.over ov₈
  have rl₈ := rl₇.over ov₈
  have rm₈ := r₇.over ov₈
  clear st₇ rd₇ rs₇ rl₇ rp₇ r₇ ov₈ o₈ c₈ k₈
  -- front
  refine wpAny_execs_cons ?_
  refine do_comp (s := s) (S := S) (L := L) (cl := []) (d := .list [strsD (l0.map (textF · 0)), strsD (l1.map (textF · 0))]) ?ev8 rfl rfl (by decide) (fun _ => rfl) rfl rfl st₈.ns hbL st₈.kp sz q₈ rfl rfl fun vf h₉ t₉ q₉ k₉ c₉ r₉ o₉ => ?_
  case ev8 =>
    have G₁ := G.at kn st₈.kp
    refine comp_eq (comp_map intsD unInts unInts_eq (fun l => strsD (l.map (textF · 0))) [l0, l1] (by decide) rfl (by decide) (src_list hh (ev_of_name (name_local (ns_hide st₈.ns nL) rfl rfl rfl (by decide)) (rd₈.over .hide))) (by simp) ?_) rfl
    intro C m u l h hl k hn hu1 hr
    refine ev_eq (ev_of_comp (cl := []) (comp_map PyData.int unInt (fun _ => rfl) (fun x => .str (textF x 0)) l (by decide) rfl (by decide) (src_list hh (ev_of_name (name_local hn hu1 rfl rfl (by decide)) hr)) (Nat.le_trans (len2 l hl) (by decide)) ?_) rfl rfl (by decide) (fun _ => rfl)) (by show PyData.list _ = PyData.list _; rw [List.map_map]; rfl)
    intro C' m' u' x h' hx k' hn' hu' hr'
    have G₂ := G₁.up (k.trans k')
    obtain ⟨o, fd, ho, hfd⟩ := fn_law_text G₂
    exact ev_call (nm_law_text G₂ ⟨rfl, rfl, rfl⟩ rfl) ho hfd (.cons rfl (ev_of_name (name_local hn' hu' rfl rfl (by decide)) hr') (.cons rfl ev_int .nil))
      (c_text (A := A.deeper _) G₂ hh (by show A.depth + 1 + 4 < recursionLimit; omega) x 0 (by decide) (by decide))
  have st₉ := st₈.loc k₉ c₉ o₉
  have ov₉ := over_ns (S := S) st₈.ns o₉
  have rs₉ := (rs₈.over ov₉).over (Over.hide (S := S))
  have rl₉ := (rl₈.over ov₉).over (Over.hide (S := S))
  have rm₉ := (rm₈.over ov₉).over (Over.hide (S := S))
  have rb₉ := (r₈.over ov₉).over (Over.hide (S := S))
  have rf₉ := r₉.over (Over.hide (S := S))
  clear st₈ rd₈ rs₈ rl₈ rm₈ r₈ r₉ ov₉ o₉ c₉ k₉
  refine wpAny_execs_cons (wpAny_Return_some ?_)
  refine (?ev9 : EvK _ _ _ _ (hideP S h₉) (.list [.list [strsD (O.map bareF), strsD (T.map bareF)], .list [strsD (l0.map (textF · 0)), strsD (l1.map (textF · 0))], .list (sg.map twice), .tuple [strsD ((lacksF O T).map bareF), strsD ((moreF O T).map bareF)]])) _ _ _ S q₉ (Kn.hide _ _) (sz.up st₉.kp) fun v h' tk' q k r => post v h' tk' q (Kp.trans st₉.kp k) r
  have G₁ := G.at kn st₉.kp
  have hb := ns_hide st₉.ns nL
  have lL := lacksF_len O T
  have lM := moreF_len O T
  generalize lacksF O T = la at *
  generalize moreF O T = mo at *
  refine ev_list (.cons rfl (ev_of_name (name_local hb rfl rfl rfl (by decide)) rb₉) (.cons rfl (ev_of_name (name_local hb rfl rfl rfl (by decide)) rf₉) (.cons rfl ?sgn (.cons rfl (ev_tuple (.cons rfl ?lac (.cons rfl ?mor .nil)) (by simp)) .nil)))) (by simp)
  case sgn =>
    refine ev_of_comp (cl := []) (comp_map PyData.int unInt (fun _ => rfl) twice sg (by decide) rfl (by decide) (src_list hh (ev_of_name (name_local hb rfl rfl rfl (by decide)) rs₉)) lS ?_) rfl rfl (by decide) (fun _ => rfl)
    intro C m u x h hx k hn hu1 hr
    exact ev_tuple (.cons rfl (ev_of_name (name_local hn hu1 rfl rfl (by decide)) hr) (.cons rfl (ev_of_name (name_local hn hu1 rfl rfl (by decide)) hr) .nil)) (by simp)
  case lac =>
    refine ev_eq (ev_of_comp (cl := []) (comp_map PyData.int unInt (fun _ => rfl) (fun x => .str (bareF x)) la (by decide) rfl (by decide) (src_list hh (ev_of_name (name_local hb rfl rfl rfl (by decide)) rl₉)) (by omega) ?_) rfl rfl (by decide) (fun _ => rfl)) (by show PyData.list _ = PyData.list _; rw [List.map_map]; rfl)
    intro C m u x h hx k hn hu1 hr
    have G₂ := G₁.up k
    obtain ⟨o, fd, ho, hfd⟩ := fn_law_bare G₂
    exact ev_call (nm_law_bare G₂ ⟨rfl, rfl, rfl⟩ rfl) ho hfd (.cons rfl (ev_of_name (name_local hn hu1 rfl rfl (by decide)) hr) .nil)
      (c_bare (A := A.deeper _) G₂ hh (by show A.depth + 1 + 6 < recursionLimit; omega) x)
  case mor =>
    refine ev_eq (ev_of_comp (cl := []) (comp_map PyData.int unInt (fun _ => rfl) (fun x => .str (bareF x)) mo (by decide) rfl (by decide) (src_list hh (ev_of_name (name_local hb rfl rfl rfl (by decide)) rm₉)) (by omega) ?_) rfl rfl (by decide) (fun _ => rfl)) (by show PyData.list _ = PyData.list _; rw [List.map_map]; rfl)
    intro C m u x h hx k hn hu1 hr
    have G₂ := G₁.up k
    obtain ⟨o, fd, ho, hfd⟩ := fn_law_bare G₂
    exact ev_call (nm_law_bare G₂ ⟨rfl, rfl, rfl⟩ rfl) ho hfd (.cons rfl (ev_of_name (name_local hn hu1 rfl rfl (by decide)) hr) .nil)
      (c_bare (A := A.deeper _) G₂ hh (by show A.depth + 1 + 6 < recursionLimit; omega) x)
end Mine
end

section
open PySem PySem.W PyProof.Rows PySem.Calls
set_option maxRecDepth 100000
namespace Mine
section
variable {α : Type} [DecidableEq α]
/-- the rest of a list, less the first f x likes of each x -/
noncomputable def keepG : (α → Nat) → List α → List α
  | _, [] => []
  | f, x :: l => if f x = 0 then x :: keepG f l else keepG (fun y => if y = x then f x - 1 else f y) l
theorem keepG_zero : ∀ (l : List α) (f : α → Nat), (∀ x ∈ l, f x = 0) → keepG f l = l
  | [], _, _ => rfl
  | x :: l, f, h => by rw [keepG, if_pos (h x (.head _)), keepG_zero l f fun y hy => h y (.tail _ hy)]
/-- by places -/
noncomputable def pickG (d : α) (f : α → Nat) (l : List α) : List α := ((List.range l.length).filter fun k => decide (f (l.getD k d) ≤ (l.take k).count (l.getD k d))).map fun k => l.getD k d
theorem pickG_pre (d : α) (f : α → Nat) : ∀ (l pre : List α), ((List.range l.length).filter fun k => decide (f ((pre ++ l).getD (pre.length + k) d) ≤ ((pre ++ l).take (pre.length + k)).count ((pre ++ l).getD (pre.length + k) d))).map (fun k => (pre ++ l).getD (pre.length + k) d) = keepG (fun y => f y - pre.count y) l
  | [], pre => rfl
  | x :: l, pre => by
    rw [List.length_cons, List.range_succ_eq_map, List.filter_cons, Nat.add_zero]
    have e0 : (pre ++ x :: l).getD pre.length d = x := by simp [List.getD]
    have e1 : (pre ++ x :: l).take pre.length = pre := by simp
    rw [e0, e1, List.filter_map]
    have ih := pickG_pre d f l (pre ++ [x])
    have e2 : pre ++ [x] ++ l = pre ++ x :: l := by simp
    rw [e2] at ih
    simp only [List.length_append, List.length_cons, List.length_nil, Nat.zero_add, Nat.add_assoc] at ih
    have ih' : (List.map Nat.succ ((List.range l.length).filter ((fun k => decide (f ((pre ++ x :: l).getD (pre.length + k) d) ≤ ((pre ++ x :: l).take (pre.length + k)).count ((pre ++ x :: l).getD (pre.length + k) d))) ∘ Nat.succ))).map (fun k => (pre ++ x :: l).getD (pre.length + k) d) = keepG (fun y => f y - (pre ++ [x]).count y) l := by
      rw [← ih, List.map_map]
      have : ∀ k, pre.length + Nat.succ k = pre.length + (1 + k) := fun k => by omega
      congr 1
      · funext k; simp only [Function.comp, this]
      · congr 1; funext k; simp only [Function.comp, this]
    rw [keepG]
    by_cases hc : f x ≤ pre.count x
    · rw [if_pos (by simpa using hc), if_pos (by omega), List.map_cons, Nat.add_zero, e0, ih']
      congr 1
      congr 1
      funext y
      rw [List.count_append]
      by_cases hy : y = x
      · subst hy; simp; omega
      · have : List.count y [x] = 0 := by rw [List.count_eq_zero]; simpa using hy
        rw [this]; omega
    · rw [if_neg (by simpa using hc), if_neg (by omega), ih']
      congr 1
      funext y
      rw [List.count_append]
      by_cases hy : y = x
      · subst hy; simp; omega
      · have : List.count y [x] = 0 := by rw [List.count_eq_zero]; simpa using hy
        rw [this, if_neg hy]; omega
theorem pickG_eq (d : α) (f : α → Nat) (l : List α) : pickG d f l = keepG f l := by
  have := pickG_pre d f l []
  simpa [pickG] using this
theorem keepG_erase (x : α) : ∀ (l : List α) (f : α → Nat), (keepG f l).erase x = keepG (fun y => if y = x then f x + 1 else f y) l
  | [], f => rfl
  | z :: l, f => by
    rw [keepG, keepG]
    by_cases hz : z = x
    · subst hz
      rw [if_pos rfl, if_neg (Nat.succ_ne_zero _)]
      by_cases h0 : f z = 0
      · rw [if_pos h0, List.erase_cons_head]
        congr 1
        funext y
        by_cases hy : y = z
        · subst hy; simp
        · simp [hy]
      · rw [if_neg h0, keepG_erase z l]
        congr 1
        funext y
        by_cases hy : y = z
        · subst hy; simp; omega
        · simp [hy]
    · rw [if_neg hz]
      by_cases h0 : f z = 0
      · rw [if_pos h0, if_pos h0, List.erase_cons_tail (by simpa using hz), keepG_erase x l]
      · rw [if_neg h0, if_neg h0, keepG_erase x l]
        congr 1
        funext y
        by_cases hy : y = x
        · subst hy; simp [Ne.symm hz]
        · by_cases hy' : y = z
          · subst hy'; simp [hz]
          · simp [hy, hy']
/-- the difference, over any kind -/
noncomputable def uldG : List α → List α → List α → List α × List α
  | [], act, miss => (miss, act)
  | x :: r, act, miss => if x ∈ act then uldG r (act.erase x) miss else uldG r act (miss ++ [x])
theorem uldG_eq : ∀ (r act miss : List α), uldG r act miss = (miss ++ keepG (fun y => act.count y) r, r.foldl List.erase act)
  | [], act, miss => by simp [uldG, keepG]
  | x :: r, act, miss => by
    rw [uldG, keepG, List.foldl_cons]
    by_cases h : x ∈ act
    · have hc : act.count x ≠ 0 := by have := List.count_pos_iff.mpr h; omega
      rw [if_pos h, uldG_eq r, if_neg hc]
      congr 2
      congr 1
      funext y
      by_cases hy : y = x
      · subst hy; rw [List.count_erase_self, if_pos rfl]
      · rw [List.count_erase_of_ne hy, if_neg hy]
    · rw [if_neg h, uldG_eq r, if_pos (List.count_eq_zero.mpr h), List.erase_of_not_mem h]
      simp
theorem foldl_erase (two : List α) : ∀ (r : List α) (f : α → Nat), r.foldl List.erase (keepG f two) = keepG (fun y => f y + r.count y) two
  | [], f => by simp
  | x :: r, f => by
    rw [List.foldl_cons, keepG_erase, foldl_erase two r]
    congr 1
    funext y
    rw [List.count_cons]
    by_cases hy : y = x
    · subst hy; simp; omega
    · simp [hy, Ne.symm hy]
theorem uldG_whole (one two : List α) : uldG one.reverse two [] = (keepG (fun y => two.count y) one.reverse, keepG (fun y => one.count y) two) := by
  rw [uldG_eq]
  congr 1
  have := foldl_erase two one.reverse (fun _ => 0)
  rw [keepG_zero two _ (fun _ _ => rfl)] at this
  rw [this]
  congr 1
  funext y
  rw [List.count_reverse, Nat.zero_add]
end
theorem uldR_map (f : Int → Str) : ∀ (r act miss : List Int), (∀ x ∈ r, ∀ y ∈ act, f x = f y → x = y) → uldR (r.map f) (act.map f) (miss.map f) = ((uldG r act miss).1.map f, (uldG r act miss).2.map f)
  | [], act, miss, _ => rfl
  | x :: r, act, miss, h => by
    have hm : f x ∈ act.map f ↔ x ∈ act := by
      constructor
      · intro q
        obtain ⟨y, hy, e⟩ := List.mem_map.mp q
        rw [h x (.head _) y hy e.symm]; exact hy
      · exact List.mem_map_of_mem
    have he : ∀ (act : List Int), (∀ y ∈ act, f x = f y → x = y) → (act.map f).erase (f x) = (act.erase x).map f := by
      intro act
      induction act with
      | nil => intro _; rfl
      | cons y l ih =>
        intro h
        rw [List.map_cons]
        by_cases hy : y = x
        · subst hy; rw [List.erase_cons_head, List.erase_cons_head]
        · have : f y ≠ f x := fun q => hy (h y (.head _) q.symm).symm
          rw [List.erase_cons_tail (by simpa using this), List.erase_cons_tail (by simpa using hy), List.map_cons, ih fun z hz => h z (.tail _ hz)]
    rw [List.map_cons, uldR, uldG]
    by_cases hx : x ∈ act
    · rw [if_pos (hm.mpr hx), if_pos hx, he act (h x (.head _)), uldR_map f r _ miss fun a ha b hb => h a (.tail _ ha) b (List.mem_of_mem_erase hb)]
    · rw [if_neg (fun q => hx (hm.mp q)), if_neg hx]
      have := uldR_map f r act (miss ++ [x]) fun a ha b hb => h a (.tail _ ha) b hb
      rw [List.map_append] at this
      exact this
theorem lacksF_eq (one two : List Int) : lacksF one two = keepG (fun y => two.count y) one.reverse := by
  rw [← pickG_eq 0]
  unfold lacksF pickG
  rw [List.length_reverse, List.filter_map, List.map_map]
  have key : ∀ i, i < one.length → ((one.length : Int) - 1 - (i : Int)).toNat < one.length ∧ one.reverse.getD i 0 = one.getD ((one.length : Int) - 1 - (i : Int)).toNat 0 ∧ ∀ y, (one.reverse.take i).count y = (one.drop (((one.length : Int) - 1 - (i : Int)).toNat + 1)).count y := by
    intro i hi
    refine ⟨by omega, ?_, ?_⟩
    · have e : ((one.length : Int) - 1 - (i : Int)).toNat = one.length - 1 - i := by omega
      have h2 : one.length - 1 - i < one.length := by omega
      rw [e]
      simp [List.getD, hi, h2]
    · have e : ((one.length : Int) - 1 - (i : Int)).toNat + 1 = one.length - i := by omega
      intro y
      rw [e, List.take_reverse, List.count_reverse]
  have hf : (List.range one.length).filter (pL one two ∘ fun i : Nat => ((one.length : Int) - 1 - (i : Int))) = (List.range one.length).filter fun k => decide (two.count (one.reverse.getD k 0) ≤ (one.reverse.take k).count (one.reverse.getD k 0)) := by
    apply List.filter_congr
    intro i hi
    obtain ⟨k1, k2, k3⟩ := key i (List.mem_range.mp hi)
    rw [k2, k3]
    show pL one two _ = _
    unfold pL
    rw [decide_eq_decide]
    exact Int.ofNat_le
  rw [hf]
  apply List.map_congr_left
  intro i hi
  obtain ⟨k1, k2, k3⟩ := key i (List.mem_range.mp (List.mem_filter.mp hi).1)
  exact k2.symm
theorem moreF_eq (one two : List Int) : moreF one two = keepG (fun y => one.count y) two := by
  rw [← pickG_eq 0]
  unfold moreF pickG
  congr 1
  apply List.filter_congr
  intro i _
  unfold pM
  rw [decide_eq_decide]
  exact Int.ofNat_le
theorem uldF_eq (f : Int → Str) (one two : List Int) (h : ∀ x ∈ one, ∀ y ∈ two, f x = f y → x = y) :
    uldF (one.map f) (two.map f) = ((lacksF one two).map f, (moreF one two).map f) := by
  unfold uldF
  rw [← List.map_reverse]
  have := uldR_map f one.reverse two [] fun x hx => h x (List.mem_reverse.mp hx)
  rw [List.map_nil] at this
  rw [this, uldG_whole, lacksF_eq, moreF_eq]
end Mine
end

section
open PySem PySem.W PyProof.Rows PySem.Calls
open PySem.Builtin PySem.Builtin.Str
set_option maxRecDepth 100000
set_option maxHeartbeats 4000000
namespace Mine
/-- strings by their code points -/
theorem str_ext {x y : Str} (h : x.cps.toList = y.cps.toList) : x = y := by
  cases x; cases y; simp only [Str.mk.injEq]; rw [← Array.toList_inj]; exact h
theorem join_chars (l : List Nat) : Txt.join ⟨#[]⟩ (l.map fun k => (⟨#[k]⟩ : Str)) = ⟨l.toArray⟩ :=
  (eq_of_beq (join_closes (sep := ⟨#[]⟩) rfl)).trans (join_ones l)
noncomputable def swapC (c d k : Nat) : Nat := if k = c then d else k
theorem swap_free (c d : Nat) (l : List Nat) (h : c ∉ l) : l.map (swapC c d) = l := by
  have : l.map (swapC c d) = l.map fun k => k := List.map_congr_left fun k hk => by
    have : k ≠ c := fun e => h (e ▸ hk)
    unfold swapC
    rw [if_neg this]
  rw [this, List.map_id']
theorem swap_join (c d : Nat) : ∀ parts : List Str, (∀ p ∈ parts, c ∉ p.cps.toList) → (Str.join ⟨#[c]⟩ parts).cps.toList.map (swapC c d) = (Str.join ⟨#[d]⟩ parts).cps.toList
  | [], _ => rfl
  | [p], h => swap_free c d _ (h p (List.mem_singleton.mpr rfl))
  | p :: q :: r, h => by
    have ih := swap_join c d (q :: r) fun a ha => h a (List.mem_cons_of_mem _ ha)
    show (p ++ ⟨#[c]⟩ ++ Str.join ⟨#[c]⟩ (q :: r)).cps.toList.map (swapC c d) = (p ++ ⟨#[d]⟩ ++ Str.join ⟨#[d]⟩ (q :: r)).cps.toList
    simp only [Str.cps_append, Array.toList_append, List.map_append]
    rw [ih, swap_free c d _ (h p (List.mem_cons_self ..))]
    simp [swapC]
theorem replace_swap (x : Str) (c d : Nat) : Txt.replace x ⟨#[c]⟩ ⟨#[d]⟩ = ⟨(x.cps.toList.map (swapC c d)).toArray⟩ := by
  refine str_ext ?_
  rw [StrLaws.replace_one, ← swap_join c d _ (StrLaws.split_free x c), StrLaws.join_split]
/-- checks that the kernel runs fast: one Bool over the numbers below n -/
noncomputable def allN (p : Nat → Bool) (n : Nat) : Bool := Nat.rec true (fun k r => p k && r) n
theorem allN_get (p : Nat → Bool) : ∀ n, allN p n = true → ∀ a, a < n → p a = true
  | 0, _, _, h => absurd h (Nat.not_lt_zero _)
  | n + 1, h, a, ha => by
    have h' : (p n && allN p n) = true := h
    obtain ⟨h1, h2⟩ := Bool.and_eq_true_iff.mp h'
    rcases Nat.lt_succ_iff_lt_or_eq.mp ha with q | rfl
    · exact allN_get p n h2 a q
    · exact h1
noncomputable def eqL (x : List Nat) : List Nat → Bool := List.rec (fun y => y.isEmpty) (fun a _ r y => match y with | [] => false | b :: y => Nat.beq a b && r y) x
theorem eqL_eq : ∀ x y, eqL x y = true → x = y
  | [], [], _ => rfl
  | [], _ :: _, h => nomatch h
  | _ :: _, [], h => nomatch h
  | a :: x, b :: y, h => by
    have h' : (Nat.beq a b && eqL x y) = true := h
    obtain ⟨h1, h2⟩ := Bool.and_eq_true_iff.mp h'
    rw [Nat.eq_of_beq_eq_true h1, eqL_eq x y h2]
theorem beqN (x y : Nat) : Nat.beq x y = (x == y) := by rw [Bool.eq_iff_iff, Nat.beq_eq, beq_iff_eq]
/-- the nine signs -/
noncomputable def letC (k : Nat) : Nat := ([120, 119, 114] : List Nat).getD (Nat.mod k 3) 0
noncomputable def bitN (a k : Nat) : Bool := Nat.beq (Nat.land (Nat.shiftRight a k) 1) 1
noncomputable def sgnC (off : Nat) (a k : Nat) : Nat := bif bitN a k then letC k else off
noncomputable def rowL (a : Nat) : List Nat := [8, 7, 6, 5, 4, 3, 2, 1, 0].map (sgnC 32 a)
noncomputable def rowsN : List (List (Nat × Nat)) := [[(40960, 108), (49152, 115), (32768, 45), (24576, 98), (16384, 100), (8192, 99), (4096, 112)],
    [(256, 114)], [(128, 119)], [(2112, 115), (2048, 83), (64, 120)],
    [(32, 114)], [(16, 119)], [(1032, 115), (1024, 83), (8, 120)],
    [(4, 114)], [(2, 119)], [(513, 116), (512, 84), (1, 120)]]
noncomputable def entN (p : Nat × Nat) : Int × Str := ((p.1 : Int), ⟨#[p.2]⟩)
theorem rows_eq : tableRows = rowsN.map (List.map entN) := by decide +kernel
theorem hyphen : Str.ofString "-" = ⟨#[45]⟩ := by decide +kernel
theorem blankS : Str.ofString " " = ⟨#[32]⟩ := by decide +kernel
noncomputable def mtN (a idx b : Nat) : Bool := bif Nat.beq idx 0 then Nat.beq (Nat.land (Nat.add 32768 a) 61440) b else Nat.beq (Nat.land (Nat.add 32768 a) b) b
theorem mt_eq (a idx b : Nat) : mtF (32768 + (a : Int)) idx b = mtN a idx b := by
  have h : (32768 + (a : Int)) = ((32768 + a : Nat) : Int) := by omega
  have h' : mtN a idx b = if idx = 0 then (32768 + a) &&& 61440 == b else (32768 + a) &&& b == b := by
    unfold mtN
    rw [beqN, beqN, beqN]
    by_cases hi : idx = 0
    · subst hi; rfl
    · rw [if_neg hi, show (idx == 0) = false from by simpa using hi]; rfl
  rw [h']
  unfold mtF
  have e : ∀ m : Nat, bitAnd (32768 + (a : Int)) m = (((32768 + a) &&& m : Nat) : Int) := by
    intro m
    rw [h]
    unfold bitAnd
    rw [decide_eq_true (Int.natCast_nonneg _), decide_eq_true (Int.natCast_nonneg _)]
    simp only [Int.toNat_natCast]
  have e' : bitAnd (32768 + (a : Int)) 61440 = (((32768 + a) &&& 61440 : Nat) : Int) := e 61440
  have c : ∀ x y : Nat, ((x : Int) == (y : Int)) = (x == y) := by
    intro x y
    rw [Bool.eq_iff_iff, beq_iff_eq, beq_iff_eq]; omega
  by_cases hi : idx = 0
  · subst hi
    rw [if_pos (show (((0 : Nat) : Int) == 0) = true from rfl), if_pos (show (0 : Nat) = 0 from rfl), e', c]
  · rw [if_neg hi, if_neg (by simpa using hi), e, c]

noncomputable def fmC (a : Nat) : List Nat := 45 :: [8, 7, 6, 5, 4, 3, 2, 1, 0].map (sgnC 45 a)
noncomputable def pickN (a i : Nat) : Nat := (((rowsN.getD i []).find? fun p => mtN a i p.1).map (·.2)).getD (if i = 0 then 63 else 45)
theorem pick_n (a i : Nat) : pickF (32768 + (a : Int)) i = ⟨#[pickN a i]⟩ := by
  unfold pickF pickN
  rw [rows_eq]
  have e1 : (rowsN.map (List.map entN)).getD i [] = (rowsN.getD i []).map entN := by
    simp only [List.getD, List.getElem?_map]
    cases rowsN[i]? <;> rfl
  have e2 : ((fun p : Int × Str => mtF (32768 + (a : Int)) (i : Int) p.1) ∘ entN) = fun p : Nat × Nat => mtN a i p.1 := by
    funext p
    exact mt_eq a i p.1
  have e3 : dfF (i : Int) = ⟨#[if i = 0 then 63 else 45]⟩ := by
    unfold dfF
    by_cases h : i = 0
    · subst h; decide +kernel
    · rw [if_neg (by simpa using h), if_neg h, hyphen]
  rw [e1, List.find?_map, e2, e3]
  cases (rowsN.getD i []).find? fun p => mtN a i p.1 <;> rfl
theorem pick_b : allN (fun a => eqL [pickN a 0, pickN a 1, pickN a 2, pickN a 3, pickN a 4, pickN a 5, pickN a 6, pickN a 7, pickN a 8, pickN a 9] (fmC a)) 512 = true := by decide +kernel
theorem pick_c (a : Nat) (h : a < 512) : (List.range 10).map (pickN a) = fmC a := eqL_eq _ _ (allN_get _ _ pick_b a h)
theorem fm_eq (a : Nat) (h : a < 512) : fmF (32768 + (a : Int)) = ⟨(fmC a).toArray⟩ := by
  unfold fmF outF
  rw [← join_chars (fmC a), ← pick_c a h, List.map_map]
  congr 1
  exact List.map_congr_left fun i _ => pick_n a i
theorem row_eq (a : Nat) (h : a < 512) : rowS (a : Int) = ⟨(rowL a).toArray⟩ := by
  unfold rowS
  rw [fm_eq a h, hyphen, blankS, eq_of_beq (slice_closes_from (by simp [fmC])), replace_swap]
  congr 2
  show List.map _ [_, _, _, _, _, _, _, _, _] = _
  have : ∀ k, swapC 45 32 (sgnC 45 a k) = sgnC 32 a k := by
    intro k
    unfold sgnC swapC
    cases bitN a k
    case true =>
      rw [cond_true, cond_true]
      have : letC k ≠ 45 := by
        unfold letC
        have : ∀ i, i < 3 → ([120, 119, 114] : List Nat).getD i 0 ≠ 45 := by decide
        exact this _ (Nat.mod_lt _ (by decide))
      rw [if_neg this]
    case false => rfl
  simp only [List.map_cons, List.map_nil, this, rowL]
end Mine
end

section
open PySem PySem.W PyProof.Rows PySem.Calls
open PySem.Builtin PySem.Builtin.Str
set_option maxRecDepth 100000
set_option maxHeartbeats 4000000
namespace Mine
noncomputable def blankL (l : List Nat) (i : Int) : Bool := l.getD i.toNat 0 == 32
theorem blank_eq (l : List Nat) (i : Int) : blank ⟨l.toArray⟩ i = blankL l i := by
  unfold blank blankL
  rw [blankS, Bool.eq_iff_iff, beq_iff_eq, beq_iff_eq]
  rw [Array.getD_eq_getD_getElem?, List.getElem?_toArray, ← List.getD_eq_getElem?_getD]
  simp
noncomputable def lgoL : Nat → List Nat → Int → Int → Int × Int
  | 0, _, l, a => (l, a)
  | f + 1, x, l, a => if (!(a == 0) && blankL x l) = true then lgoL f x (l + 1) (a - 1) else (l, a)
noncomputable def rgoL : Nat → List Nat → Int → Int → Int × Int
  | 0, _, r, a => (r, a)
  | f + 1, x, r, a => if (!(a == 0) && blankL x r) = true then rgoL f x (r - 1) (a - 1) else (r, a)
theorem lgo_eq (x : List Nat) : ∀ f l a, lgo f ⟨x.toArray⟩ l a = lgoL f x l a
  | 0, _, _ => rfl
  | f + 1, l, a => by rw [lgo, lgoL, blank_eq, lgo_eq x f]
theorem rgo_eq (x : List Nat) : ∀ f l a, rgo f ⟨x.toArray⟩ l a = rgoL f x l a
  | 0, _, _ => rfl
  | f + 1, l, a => by rw [rgo, rgoL, blank_eq, rgo_eq x f]
noncomputable def endsL (x : List Nat) (am : Int) : Int × Int := ((lgoL am.toNat x 0 am).1, (rgoL (lgoL am.toNat x 0 am).2.toNat x (x.length - 1) (lgoL am.toNat x 0 am).2).1 + 1)
noncomputable def cutL (x : List Nat) (p : Int × Int) : List Nat := (x.drop p.1.toNat).take (p.2 - p.1).toNat
abbrev okL (x : List Nat) (p : Int × Int) (r : List Nat) : Prop := 0 ≤ p.1 ∧ p.1 ≤ p.2 ∧ p.2 ≤ x.length ∧ cutL x p = r
theorem strip_eq (x : List Nat) (am : Int) (r : List Nat) (h : okL x (endsL x am) r) : stripF ⟨x.toArray⟩ am = ⟨r.toArray⟩ := by
  obtain ⟨h1, h2, h3, rfl⟩ := h
  unfold stripF
  dsimp only
  rw [lgo_eq, rgo_eq]
  have e : (⟨x.toArray⟩ : Str).length = x.length := rfl
  rw [e]
  exact eq_of_beq (slice_closes ⟨h1, h2, h3⟩)
noncomputable def charC (n k : Int) : Nat := if ((n.fdiv (2 ^ k.toNat)).fmod 2 == 1) = true then ([120, 119, 114] : List Nat).getD (k.fmod 3).toNat 0 else 32
theorem char_eq (n k : Int) : charF n k = ⟨#[charC n k]⟩ := by
  unfold charF charC
  split <;> rfl
noncomputable def textL (n low : Int) : List Nat := (List.range (topF n - (low - 1)).toNat).map fun i : Nat => charC n (topF n - i)
theorem text_eq (n low : Int) : textF n low = ⟨(textL n low).toArray⟩ := by
  unfold textF textL
  rw [← join_chars ((List.range (topF n - (low - 1)).toNat).map fun i : Nat => charC n (topF n - i)), List.map_map, List.map_map]
  congr 1
  exact List.map_congr_left fun i _ => char_eq _ _
/-- the same, over numbers -/
noncomputable def topN (a : Nat) : Nat := match a with | 0 => 0 | b + 1 => Nat.add (Nat.log2 (Nat.succ b)) 1
noncomputable def lowG (a : Nat) : Nat → Nat → Nat
  | 0, k => k
  | f + 1, k => bif bitN a k then k else lowG a f (Nat.succ k)
noncomputable def lowN (a : Nat) : Nat := lowG a 9 0
noncomputable def divM (a : Nat) : Nat := bif Nat.beq (Nat.land a 7) 0 then (bif Nat.beq (Nat.land a 63) 0 then Nat.div a 64 else Nat.div a 8) else a
noncomputable def textN (a low : Nat) : List Nat := (List.range (Nat.sub (topN a) low)).map fun i => sgnC 32 a (Nat.sub (Nat.sub (topN a) 1) i)
theorem topN_succ (a : Nat) (h : 0 < a) : topN a = Nat.log2 a + 1 := by
  cases a with
  | zero => exact absurd h (Nat.lt_irrefl _)
  | succ b => rfl
theorem top_n (a : Nat) (h : a < 512) : topF a = (topN a : Int) - 1 := by
  by_cases h0 : a = 0
  · subst h0; decide
  have hpos : 0 < a := Nat.pos_of_ne_zero h0
  rw [topN_succ a hpos]
  have hd : ∀ k : Nat, ((a : Int).fdiv (2 ^ k)) = ((a / 2 ^ k : Nat) : Int) := fun k => by
    have e : ((2 : Int) ^ k) = ((2 ^ k : Nat) : Int) := by rw [Int.natCast_pow]; rfl
    rw [e, Int.fdiv_eq_ediv_of_nonneg _ (Int.natCast_nonneg _)]; rfl
  have h9 : Nat.log2 a < 9 := (Nat.log2_lt h0).mpr h
  have m1 : ((Nat.log2 a : Nat) : Int) ≤ topF a := by
    refine topF_max a _ (List.mem_append_right _ (List.mem_map.mpr ⟨Nat.log2 a, List.mem_filter.mpr ⟨List.mem_range.mpr h9, ?_⟩, rfl⟩))
    rw [hd, decide_eq_true_iff]
    have := Nat.div_pos (Nat.log2_self_le h0) (Nat.two_pow_pos (Nat.log2 a))
    omega
  have m2 : topF a ≤ ((Nat.log2 a : Nat) : Int) := by
    have hm := topF_mem a
    generalize topF a = t at hm ⊢
    rcases List.mem_append.mp hm with hm | hm
    · rw [List.mem_singleton.mp hm]; omega
    · obtain ⟨k, hk, rfl⟩ := List.mem_map.mp hm
      have hk' := (List.mem_filter.mp hk).2
      rw [hd, decide_eq_true_iff] at hk'
      have hp : 0 < a / 2 ^ k := by omega
      have : 2 ^ k ≤ a := by
        have := (Nat.div_pos_iff).mp hp
        exact this.2
      have := (Nat.le_log2 h0).mpr this
      omega
  omega
noncomputable def isN (x : Int) (n : Nat) : Bool := match x with | .ofNat k => Nat.beq k n | _ => false
theorem isN_eq (x : Int) (n : Nat) (h : isN x n = true) : x = (n : Int) := by
  cases x with
  | ofNat k => rw [Nat.eq_of_beq_eq_true h]; rfl
  | negSucc k => cases h
theorem low_b : allN (fun a => isN (lowF a) (lowN a)) 512 = true := by decide +kernel
theorem low_n (a : Nat) (h : a < 512) : lowF a = (lowN a : Int) := isN_eq _ _ (allN_get _ _ low_b a h)
theorem div_b : allN (fun a => isN (divF a) (divM a)) 512 = true := by decide +kernel
theorem div_n (a : Nat) (h : a < 512) : divF a = (divM a : Int) := isN_eq _ _ (allN_get _ _ div_b a h)
theorem divM_lt (a : Nat) (h : a < 512) : divM a < 512 := by
  have := div_range a h
  rw [div_n a h] at this
  omega
theorem bit_n (a k : Nat) : bitN a k = ((((a : Int).fdiv (2 ^ k)).fmod 2) == 1) := by
  have e : ((2 : Int) ^ k) = ((2 ^ k : Nat) : Int) := by rw [Int.natCast_pow]; rfl
  rw [e, Int.fdiv_eq_ediv_of_nonneg _ (Int.natCast_nonneg _), Int.fmod_eq_emod_of_nonneg _ (by decide)]
  unfold bitN
  rw [beqN]
  show (((a >>> k) &&& 1) == 1) = _
  rw [Nat.and_one_is_mod, Nat.shiftRight_eq_div_pow, Bool.eq_iff_iff, beq_iff_eq, beq_iff_eq]
  have : (a : Int) / ((2 ^ k : Nat) : Int) = ((a / 2 ^ k : Nat) : Int) := rfl
  rw [this]
  omega
theorem char_n (a k : Nat) : charC a k = sgnC 32 a k := by
  unfold charC sgnC
  rw [bit_n, Int.toNat_natCast]
  have e : ((k : Int).fmod 3).toNat = Nat.mod k 3 := by
    rw [Int.fmod_eq_emod_of_nonneg _ (by decide)]
    show ((k : Int) % 3).toNat = k % 3
    omega
  rw [e]
  cases ((a : Int).fdiv (2 ^ k)).fmod 2 == 1 <;> rfl
theorem text_n (a l : Nat) (h : a < 512) : textL a l = textN a l := by
  unfold textL textN
  rw [top_n a h]
  have e : ((topN a : Int) - 1 - ((l : Int) - 1)).toNat = Nat.sub (topN a) l := by
    show _ = topN a - l
    omega
  rw [e]
  refine List.map_congr_left fun i hi => ?_
  have hi' : i < topN a - l := List.mem_range.mp hi
  have e2 : (topN a : Int) - 1 - (i : Int) = ((Nat.sub (Nat.sub (topN a) 1) i : Nat) : Int) := by
    show _ = ((topN a - 1 - i : Nat) : Int)
    omega
  rw [e2, char_n]
noncomputable def okB (x : List Nat) (p : Int × Int) (r : List Nat) : Bool := match p with
  | (.ofNat l, .ofNat h) => Nat.ble l h && (Nat.ble h x.length && eqL ((x.drop l).take (Nat.sub h l)) r)
  | _ => false
theorem okB_ok (x : List Nat) (p : Int × Int) (r : List Nat) (h : okB x p r = true) : okL x p r := by
  obtain ⟨p1, p2⟩ := p
  cases p1 with
  | negSucc k => cases h
  | ofNat l =>
    cases p2 with
    | negSucc k => cases h
    | ofNat u =>
      have h' : (Nat.ble l u && (Nat.ble u x.length && eqL ((x.drop l).take (Nat.sub u l)) r)) = true := h
      obtain ⟨h1, h2⟩ := Bool.and_eq_true_iff.mp h'
      obtain ⟨h2, h3⟩ := Bool.and_eq_true_iff.mp h2
      have h1 := Nat.le_of_ble_eq_true h1
      have h2 := Nat.le_of_ble_eq_true h2
      refine ⟨Int.natCast_nonneg _, Int.ofNat_le.mpr h1, Int.ofNat_le.mpr h2, ?_⟩
      rw [← eqL_eq _ _ h3]
      unfold cutL
      have e : ((Int.ofNat u) - (Int.ofNat l)).toNat = Nat.sub u l := by
        show ((u : Int) - (l : Int)).toNat = u - l
        omega
      rw [e]; rfl
theorem bare_b : allN (fun a => okB (rowL a) (endsL (rowL a) 9) (textN (divM a) (lowN (divM a)))) 512 = true := by decide +kernel
theorem front_b : allN (fun a => okB (rowL a) (endsL (rowL a) (.ofNat (Nat.sub 9 (topN a)))) (textN a 0)) 512 = true := by decide +kernel
theorem bareF_n (a : Nat) (h : a < 512) : bareF (divF a) = ⟨(textN (divM a) (lowN (divM a))).toArray⟩ := by
  unfold bareF
  rw [div_n a h, low_n _ (divM_lt a h), text_eq, text_n _ _ (divM_lt a h)]
theorem bare_eq (a : Nat) (h : a < 512) : bareS a = bareF (divF a) := by
  unfold bareS
  rw [row_eq a h, bareF_n a h, strip_eq _ _ _ (okB_ok _ _ _ (allN_get _ _ bare_b a h))]
theorem front_eq (a : Nat) (h : a < 512) : frontS a = textF a 0 := by
  unfold frontS
  have ht : topN a ≤ 9 := by
    have := topF_hi a
    rw [top_n a h] at this
    omega
  have e : 8 - ((topN a : Int) - 1) = Int.ofNat (Nat.sub 9 (topN a)) := by
    show 8 - ((topN a : Int) - 1) = ((9 - topN a : Nat) : Int)
    omega
  have e0 : textL (a : Int) 0 = textN a 0 := text_n a 0 h
  rw [row_eq a h, text_eq, e0, top_n a h, e, strip_eq _ _ _ (okB_ok _ _ _ (allN_get _ _ front_b a h))]
end Mine
end

section
open PySem PySem.W PyProof.Rows PySem.Calls
open PySem.Builtin PySem.Builtin.Str
set_option maxRecDepth 100000
set_option maxHeartbeats 4000000
namespace Mine
/-- the keys over numbers: class, number made twice as great -/
noncomputable def clsN (a : Nat) : Nat := match a with | 0 => 0 | b + 1 => Nat.add (Nat.mod (Nat.sub 9 (topN (Nat.succ b))) 3) 1
noncomputable def dblN (a : Nat) : Nat := Nat.mul a (Nat.pow 2 (Nat.sub 9 (topN a)))
noncomputable def rankK (c m : Nat) : Nat := match c with | 0 => 0 | c + 1 => Nat.add (Nat.add (Nat.mul c 256) (Nat.sub m 256)) 1
noncomputable def textC (c m : Nat) : List Nat := (List.range (Nat.sub 9 (lowN m))).map fun i => bif bitN m (Nat.sub 8 i) then ([114, 119, 120] : List Nat).getD (Nat.mod (Nat.add c i) 3) 0 else 32
/-- the strings in their order -/
noncomputable def rankD (r : Nat) : List Nat := match r with | 0 => [] | r + 1 => textC (Nat.div r 256) (Nat.add 256 (Nat.mod r 256))
noncomputable def rankN (r : Nat) : Nat := match r with | 0 => 0 | r + 1 => divM (Nat.div (Nat.add 256 (Nat.mod r 256)) (Nat.pow 2 (Nat.div r 256)))
theorem rank_b : allN (fun a => eqL (textN (divM a) (lowN (divM a))) (rankD (rankK (clsN a) (dblN a)))) 512 = true := by decide +kernel
theorem num_b : allN (fun a => Nat.beq (rankN (rankK (clsN a) (dblN a))) (divM a)) 512 = true := by decide +kernel
theorem step_b : allN (fun r => decide (rankD r < rankD (Nat.succ r))) 768 = true := by decide +kernel
theorem dbl_b : allN (fun a => Nat.beq a 0 || (Nat.ble 256 (dblN a) && Nat.ble (dblN a) 511)) 512 = true := by decide +kernel
theorem key_eq (a : Nat) (h : a < 512) : keyP a = ((clsN a : Int), (dblN a : Int)) := by
  unfold keyP
  by_cases h0 : a = 0
  · subst h0; rfl
  have hpos : 0 < a := Nat.pos_of_ne_zero h0
  have ht : topN a ≤ 9 ∧ 1 ≤ topN a := by
    have := topF_hi a
    rw [top_n a h] at this
    rw [topN_succ a hpos] at *
    omega
  obtain ⟨t9, t1⟩ := ht
  rw [if_pos (by omega), top_n a h]
  have e1 : (3 : Int) - ((topN a : Int) - 1).fmod 3 = (clsN a : Int) := by
    have e : clsN a = (9 - topN a) % 3 + 1 := by
      cases a with
      | zero => exact absurd rfl h0
      | succ b => rfl
    rw [e, Int.fmod_eq_emod_of_nonneg _ (by decide)]
    omega
  have e2 : (a : Int) * 2 ^ (8 - ((topN a : Int) - 1)).toNat = (dblN a : Int) := by
    have e : (8 - ((topN a : Int) - 1)).toNat = 9 - topN a := by omega
    rw [e]
    show _ = ((a * 2 ^ (9 - topN a) : Nat) : Int)
    rw [Int.natCast_mul, Int.natCast_pow]; rfl
  rw [e1, e2]
noncomputable def okK (p : Nat × Nat) : Prop := (p.1 = 0 ∧ p.2 = 0) ∨ (1 ≤ p.1 ∧ p.1 ≤ 3 ∧ 256 ≤ p.2 ∧ p.2 ≤ 511)
theorem key_ok (a : Nat) (h : a < 512) : okK (clsN a, dblN a) := by
  by_cases h0 : a = 0
  · subst h0; exact .inl ⟨rfl, rfl⟩
  have hb := allN_get _ _ dbl_b a h
  rw [show Nat.beq a 0 = false from by rw [beqN]; simpa using h0, Bool.false_or] at hb
  obtain ⟨h1, h2⟩ := Bool.and_eq_true_iff.mp hb
  have h3 : clsN a = (9 - topN a) % 3 + 1 := by
    cases a with
    | zero => exact absurd rfl h0
    | succ b => rfl
  exact .inr ⟨by rw [h3]; exact Nat.succ_pos _, by show clsN a ≤ 3; omega, Nat.le_of_ble_eq_true h1, Nat.le_of_ble_eq_true h2⟩
theorem rankK_eq (c m : Nat) (h : okK (c, m)) : (c = 0 ∧ m = 0 ∧ rankK c m = 0) ∨ (1 ≤ c ∧ c ≤ 3 ∧ 256 ≤ m ∧ m ≤ 511 ∧ rankK c m + 511 = c * 256 + m) := by
  rcases h with ⟨h1, h2⟩ | ⟨h1, h2, h3, h4⟩
  · dsimp only at h1 h2
    subst h1 h2; exact .inl ⟨rfl, rfl, rfl⟩
  · dsimp only at h1 h2 h3 h4
    refine .inr ⟨h1, h2, h3, h4, ?_⟩
    cases c with
    | zero => exact absurd h1 (by decide)
    | succ c =>
      show c * 256 + (m - 256) + 1 + 511 = _
      omega
theorem rank_hi {c m : Nat} (h : okK (c, m)) : rankK c m ≤ 768 := by
  rcases rankK_eq c m h with ⟨_, _, h⟩ | ⟨_, _, _, _, h⟩ <;> omega
theorem rank_lt_iff {c m d n : Nat} (h : okK (c, m)) (k : okK (d, n)) : rankK c m < rankK d n ↔ c < d ∨ (c = d ∧ m < n) := by
  have h := rankK_eq c m h
  have k := rankK_eq d n k
  generalize rankK c m = u at h
  generalize rankK d n = v at k
  constructor
  · intro q; rcases h with h | h <;> rcases k with k | k <;> omega
  · intro q; rcases h with h | h <;> rcases k with k | k <;> omega
theorem rank_inj {c m d n : Nat} (h : okK (c, m)) (k : okK (d, n)) (q : rankK c m = rankK d n) : c = d ∧ m = n := by
  have h1 := fun z => (rank_lt_iff h k).mpr z
  have h2 := fun z => (rank_lt_iff k h).mpr z
  have a1 : ¬ (c < d ∨ (c = d ∧ m < n)) := fun z => by have := h1 z; omega
  have a2 : ¬ (d < c ∨ (d = c ∧ n < m)) := fun z => by have := h2 z; omega
  omega
theorem rank_lt : ∀ s r : Nat, r < s → s ≤ 768 → rankD r < rankD s
  | 0, r, h, _ => absurd h (Nat.not_lt_zero _)
  | s + 1, r, h, hs => by
    have st : rankD s < rankD (s + 1) := of_decide_eq_true (allN_get _ _ step_b s hs)
    rcases Nat.lt_succ_iff_lt_or_eq.mp h with q | rfl
    · exact List.lt_trans (rank_lt s r q (Nat.le_of_succ_le hs)) st
    · exact st
theorem rank_text (a : Nat) (h : a < 512) : bareF (divF a) = ⟨(rankD (rankK (clsN a) (dblN a))).toArray⟩ := by
  rw [bareF_n a h, eqL_eq _ _ (allN_get _ _ rank_b a h)]
theorem rank_num (a : Nat) (h : a < 512) : rankN (rankK (clsN a) (dblN a)) = divM a := Nat.eq_of_beq_eq_true (allN_get _ _ num_b a h)
theorem bareS_eq (a : Nat) (h : a < 512) : bareS a = ⟨(rankD (rankK (clsN a) (dblN a))).toArray⟩ := by
  rw [bare_eq a h, rank_text a h]
theorem rankD_inj {u v : Nat} (hu : u ≤ 768) (hv : v ≤ 768) (e : rankD u = rankD v) : u = v := by
  rcases Nat.lt_trichotomy u v with q | q | q
  · have := rank_lt _ _ q hv; rw [e] at this; exact absurd this (List.lt_irrefl _)
  · exact q
  · have := rank_lt _ _ q hu; rw [e] at this; exact absurd this (List.lt_irrefl _)
theorem bare_inj (a b : Nat) (ha : a < 512) (hb : b < 512) (e : bareF (divF a) = bareF (divF b)) : divF a = divF b := by
  rw [rank_text a ha, rank_text b hb] at e
  have e' : rankD (rankK (clsN a) (dblN a)) = rankD (rankK (clsN b) (dblN b)) := by
    injection e with e
    exact List.toArray_inj e
  have e2 := rankD_inj (rank_hi (key_ok a ha)) (rank_hi (key_ok b hb)) e'
  rw [div_n a ha, div_n b hb, ← rank_num a ha, ← rank_num b hb, e2]
theorem ltP_nat (c m d n : Nat) : ltP ((c : Int), (m : Int)) ((d : Int), (n : Int)) = decide (c < d ∨ (c = d ∧ m < n)) := by
  unfold ltP
  dsimp only
  by_cases h1 : c = d
  · subst h1
    rw [if_pos (beq_self_eq_true _)]
    by_cases h2 : m = n
    · subst h2
      rw [if_pos (beq_self_eq_true _)]; simp
    · rw [if_neg (by simp; omega)]; simp
  · rw [if_neg (by simp; omega)]; simp [h1]
theorem eqv_nat (c m d n : Nat) : PyData.eqv (pairI ((c : Int), (m : Int))) (pairI ((d : Int), (n : Int))) = decide (c = d ∧ m = n) := by
  have : PyData.eqv (pairI ((c : Int), (m : Int))) (pairI ((d : Int), (n : Int))) = (((c : Int) == (d : Int)) && (((m : Int) == (n : Int)) && true)) := by
    simp only [pairI, PyData.eqv, PyData.eqvAll]
  rw [this, Bool.and_true, Bool.eq_iff_iff, Bool.and_eq_true, beq_iff_eq, beq_iff_eq, decide_eq_true_iff]
  omega
theorem cmp_eq (a b : Nat) (ha : a < 512) (hb : b < 512) : cmpS (bareS a) (bareS b) = sgnP (keyP a) (keyP b) := by
  rw [bareS_eq a ha, bareS_eq b hb, key_eq a ha, key_eq b hb]
  unfold cmpS sgnP
  rw [ltP_nat, eqv_nat]
  have ka := key_ok a ha
  have kb := key_ok b hb
  generalize clsN a = c at *
  generalize dblN a = m at *
  generalize clsN b = d at *
  generalize dblN b = n at *
  have i1 := rank_lt_iff ka kb
  have i2 := rank_lt_iff kb ka
  have i3 := fun q => rank_inj ka kb q
  have la := rank_lt (rankK d n) (rankK c m)
  have lb := rank_lt (rankK c m) (rankK d n)
  have ua := rank_hi ka
  have ub := rank_hi kb
  generalize rankK c m = u at *
  generalize rankK d n = v at *
  show b2i (decide (rankD v < rankD u)) - b2i (decide (rankD u < rankD v)) = _
  rcases Nat.lt_trichotomy u v with h | h | h
  · have t := la h ub
    rw [decide_eq_false (List.lt_asymm t), decide_eq_true t, decide_eq_true (i1.mp h)]; rfl
  · subst h
    have n' : ¬ (c < d ∨ (c = d ∧ m < n)) := fun z => Nat.lt_irrefl _ (i1.mpr z)
    rw [decide_eq_false (List.lt_irrefl (rankD u)), decide_eq_false n', decide_eq_true (i3 rfl)]; rfl
  · have t := lb h ua
    have n1 : ¬ (c < d ∨ (c = d ∧ m < n)) := fun z => Nat.lt_asymm (i1.mpr z) h
    have n2 : ¬ (c = d ∧ m = n) := fun z => by
      have := i2.mp h; omega
    rw [decide_eq_false (List.lt_asymm t), decide_eq_true t, decide_eq_false n1, decide_eq_false n2]; rfl
theorem nat_of {x : Int} (h : 0 ≤ x ∧ x < 512) : ∃ a : Nat, a < 512 ∧ x = a := ⟨x.toNat, by omega, by omega⟩
/-- the plain law -/
theorem told_due (l0 l1 : List Int) (h : ∀ x ∈ l0 ++ l1, 0 ≤ x ∧ x < 512) : toldD l0 l1 = dueD l0 l1 := by
  have b : ∀ x ∈ l0 ++ l1, bareS x = bareF (divF x) := fun x hx => by
    obtain ⟨a, ha, rfl⟩ := nat_of (h x hx)
    exact bare_eq a ha
  have f : ∀ x ∈ l0 ++ l1, frontS x = textF x 0 := fun x hx => by
    obtain ⟨a, ha, rfl⟩ := nat_of (h x hx)
    exact front_eq a ha
  have c : ∀ x ∈ l0 ++ l1, ∀ y ∈ l0 ++ l1, cmpS (bareS x) (bareS y) = sgnP (keyP x) (keyP y) := fun x hx y hy => by
    obtain ⟨a, ha, rfl⟩ := nat_of (h x hx)
    obtain ⟨a', ha', rfl⟩ := nat_of (h y hy)
    exact cmp_eq a a' ha ha'
  have i : ∀ x ∈ l0 ++ l1, ∀ y ∈ l0 ++ l1, bareF (divF x) = bareF (divF y) → divF x = divF y := fun x hx y hy => by
    obtain ⟨a, ha, rfl⟩ := nat_of (h x hx)
    obtain ⟨a', ha', rfl⟩ := nat_of (h y hy)
    exact bare_inj a a' ha ha'
  have b0 : l0.map bareS = (l0.map divF).map bareF := by
    rw [List.map_map]; exact List.map_congr_left fun x hx => b x (List.mem_append_left _ hx)
  have b1 : l1.map bareS = (l1.map divF).map bareF := by
    rw [List.map_map]; exact List.map_congr_left fun x hx => b x (List.mem_append_right _ hx)
  have f0 : l0.map frontS = l0.map (textF · 0) := List.map_congr_left fun x hx => f x (List.mem_append_left _ hx)
  have f1 : l1.map frontS = l1.map (textF · 0) := List.map_congr_left fun x hx => f x (List.mem_append_right _ hx)
  have u : uldF ((l0.map divF).map bareF) ((l1.map divF).map bareF) = ((lacksF (l0.map divF) (l1.map divF)).map bareF, (moreF (l0.map divF) (l1.map divF)).map bareF) := by
    refine uldF_eq bareF _ _ fun x hx y hy => ?_
    obtain ⟨x', hx', rfl⟩ := List.mem_map.mp hx
    obtain ⟨y', hy', rfl⟩ := List.mem_map.mp hy
    exact i x' (List.mem_append_left _ hx') y' (List.mem_append_right _ hy')
  have s : signsT (l0.map bareS ++ l1.map bareS) = .list ((signsF (l0 ++ l1)).map twice) := by
    unfold signsT signsF
    rw [← List.map_append]
    congr 1
    generalize l0 ++ l1 = l at c
    have : ∀ (xs : List Int), (∀ x ∈ xs, x ∈ l) → (xs.map bareS).flatMap (fun x => (l.map bareS).map (pairD x)) = ((xs.map keyP).flatMap fun x => (l.map keyP).map (sgnP x)).map twice := by
      intro xs
      induction xs with
      | nil => intro _; rfl
      | cons x xs ih =>
        intro hs
        rw [List.map_cons, List.map_cons, List.flatMap_cons, List.flatMap_cons, List.map_append, ih fun y hy => hs y (.tail _ hy)]
        congr 1
        rw [List.map_map, List.map_map, List.map_map]
        refine List.map_congr_left fun y hy => ?_
        show PyData.tuple [.int (cmpS (bareS x) (bareS y)), .int (cmpS (bareS x) (bareS y))] = twice (sgnP (keyP x) (keyP y))
        rw [c x (hs x (.head _)) y hy]; rfl
    exact this l fun _ h => h
  unfold toldD dueD
  rw [s, b0, b1, f0, f1, u]
end Mine
end

section
open PySem PySem.W PyProof.Rows PySem.Calls
set_option maxRecDepth 100000
set_option maxHeartbeats 2000000
namespace Mine
section
variable {prog : Program} {w : World} {A : Around} {env : Env} {h₀ : Heap}
/-- a call of a def with one argument, by hand -/
theorem run_call1 {x : Str} {p pos : Pos} {e₁ : Expr} {f : Addr} {o : Obj} {fd : FuncData} (hn : NameK (model prog w) A env x h₀ (.ref f)) (hd : o.data = .func fd)
    (hs₁ : starEach [e₁] env = (false, eval e₁ env) :: starEach [] env)
    {s : Shared} {Q E : Value → Shared → Prop} (k₀ : Kp h₀ s.heap)
    (h : wpAny (model prog w) A (eval e₁ env) (fun v₁ s₁ => s₁.heap.get? f = some o ∧ wpAny (model prog w) A (call (.ref f) [v₁]) Q E s₁) E s) :
    wpAny (model prog w) A (eval (.Call (.Name x p) [e₁] [] pos) env) Q E s := by
  refine Call_Name (trees := backTo pos (starEach [e₁] env)) rfl (hn p s _ _ k₀ ?_)
  refine callWith_function (o := o) (fd := fd) ?_
  have hs : ∃ x rest, backTo pos (starEach [e₁] env) = (false, x) :: rest := by rw [hs₁]; exact ⟨_, _, rfl⟩
  obtain ⟨x', rest, e'⟩ := hs
  rw [e']
  refine evalArgs_plain ?_
  rw [← e']
  exact spliced_more (wpAny_mono h (fun v₁ s₁ h₁ => spliced_none ⟨⟨h₁.1, hd⟩, h₁.2⟩) fun _ _ x => x) hs₁
end
/-- a call of a def without cells, from a state whose counter may stand at 0 -/
theorem enter0 {prog : Program} {w : World} {A : Around} {s : Shared} {K : Frag} {Q E : Value → Shared → Prop}
    {name qual : Str} {params : Arguments} {body : List Stmt} {scope : Scope} {dV kV doc pm cdv ct oc : Value} {an od : Option Addr} {osl : Array (Option Value)} {f : Addr} {vs : List Value} (binds : List (Str × Value))
    (X : K.In s.heap) (hlim : s.heap.NoLimit)
    (ho : K.lookup f = some ⟨oc, od, .func (fnOf name qual params body scope dV kV doc pm an cdv ct), osl⟩) (hcd : codeIn K cdv qual = true) (hroom : A.depth < recursionLimit)
    (hbind : BindsTo s (fnOf name qual params body scope dV kV doc pm an cdv ct) ⟨vs, []⟩ binds) (hloc : ∀ y ∈ binds, scope.names.lookup y.1 = some .local)
    (hcell : ∀ x ∈ scope.names, x.2 ≠ .cell)
    (hco : scope.isCoroutine = false) (hgen : scope.isGenerator = false) (hk : scope.kind = .function)
    (ht : 0 < s.toks + binds.length)
    (h : ∀ L h₁ tk, 0 < tk → L = s.heap.objs.size → Fr s.heap L h₁ (fun y => binds.reverse.lookup y) →
      wpAny (model prog w) (A.deeper (envOf qual scope L f cdv)) (execs body (envOf qual scope L f cdv))
        (fun fl s' => Q (retOf fl) s') (fun _ _ => False) { s with heap := h₁, toks := tk }) :
    wpAny (model prog w) A (call (.ref f) vs) Q E s := by
  refine wpAny_call ?_
  refine codeAny_call_def (fd := fnOf name qual params body scope dV kV doc pm an cdv ct) (body := body) (binds := binds) hroom (X _ _ ho) rfl hlim (codeRec_of X hcd) rfl hbind hcell hloc (fun h₁ hns hk₁ => ?_) hco hgen hk
  exact wpAny_mono (h _ h₁ _ ht rfl ⟨hns, hk₁, Nat.le_refl _⟩) (fun _ _ x => x) (fun _ _ x => x.elim)
/-- the data may be compared -/
noncomputable def Shp (n : Nat) (d : PyData) : Prop := d.canLay0 = true ∧ d.depth ≤ n
noncomputable def ShpAll (n : Nat) (ds : List PyData) : Prop := PyData.canLayAll0 ds = true ∧ PyData.depthAll ds ≤ n
theorem Shp.nil {n : Nat} : ShpAll n [] := ⟨rfl, Nat.zero_le _⟩
theorem Shp.cons {n : Nat} {d : PyData} {ds : List PyData} (x : Shp n d) (y : ShpAll n ds) : ShpAll n (d :: ds) :=
  ⟨by show (d.canLay0 && PyData.canLayAll0 ds) = true; rw [x.1, y.1]; rfl, by show max d.depth (PyData.depthAll ds) ≤ n; exact Nat.max_le.mpr ⟨x.2, y.2⟩⟩
theorem Shp.map {α : Type} {n : Nat} {f : α → PyData} (h : ∀ a, Shp n (f a)) : ∀ l : List α, ShpAll n (l.map f)
  | [] => Shp.nil
  | a :: l => Shp.cons (h a) (Shp.map h l)
theorem Shp.list {n : Nat} {ds : List PyData} (x : ShpAll n ds) : Shp (n + 1) (.list ds) := ⟨x.1, Nat.succ_le_succ x.2⟩
theorem Shp.tuple {n : Nat} {ds : List PyData} (x : ShpAll n ds) : Shp (n + 1) (.tuple ds) := ⟨x.1, Nat.succ_le_succ x.2⟩
theorem Shp.str {n : Nat} {x : Str} (h : PyData.strOk x = true) : Shp n (.str x) := ⟨h, Nat.zero_le _⟩
theorem Shp.int {n : Nat} (x : Int) : Shp n (.int x) := ⟨rfl, Nat.zero_le _⟩
theorem text_ok (n low : Int) : PyData.strOk (textF n low) = true := by
  rw [text_eq]
  unfold PyData.strOk textL
  rw [List.all_toArray, List.all_eq_true]
  intro c hc
  obtain ⟨k, _, rfl⟩ := List.mem_map.mp hc
  generalize topF n - (k : Int) = j
  unfold charC
  have hm0 : 0 ≤ j.fmod 3 := Int.fmod_nonneg_of_pos _ (by decide)
  have hm3 : j.fmod 3 < 3 := Int.fmod_lt_of_pos _ (by decide)
  split
  · have : ∀ i, i < 3 → ([120, 119, 114] : List Nat).getD i 0 < 0x110000 := by decide
    exact decide_eq_true (this _ (by omega))
  · rfl
theorem Shp.strs {n : Nat} {α : Type} {f : α → Str} (h : ∀ a, PyData.strOk (f a) = true) (l : List α) : Shp (n + 1) (strsD (l.map f)) := by
  unfold strsD
  rw [List.map_map]
  exact Shp.list (Shp.map (fun a => Shp.str (h a)) l)
theorem due_shp (l0 l1 : List Int) : Shp 3 (dueD l0 l1) :=
  have b : ∀ n, PyData.strOk (bareF n) = true := fun n => text_ok _ _
  have f : ∀ n, PyData.strOk (textF n 0) = true := fun n => text_ok _ _
  Shp.list (Shp.cons (Shp.list (Shp.cons (Shp.strs b _) (Shp.cons (Shp.strs b _) Shp.nil))) (Shp.cons (Shp.list (Shp.cons (Shp.strs f _) (Shp.cons (Shp.strs f _) Shp.nil)))
    (Shp.cons (Shp.list (Shp.map (fun x => Shp.tuple (Shp.cons (Shp.int x) (Shp.cons (Shp.int x) Shp.nil))) _)) (Shp.cons (Shp.tuple (Shp.cons (Shp.strs b _) (Shp.cons (Shp.strs b _) Shp.nil))) Shp.nil))))
theorem due_shaped (l0 l1 : List Int) : SeqAt.shaped (dueD l0 l1) = true := by
  unfold SeqAt.shaped
  rw [(due_shp l0 l1).1, Bool.true_and, decide_eq_true_iff]
  exact Nat.le_trans (due_shp l0 l1).2 (by decide)
theorem lists_range (l : List Int) : ∀ p : List Int × List Int, (∀ x ∈ p.1 ++ p.2, 0 ≤ x ∧ x < 512) → ∀ x ∈ (l.foldl stepL p).1 ++ (l.foldl stepL p).2, 0 ≤ x ∧ x < 512 := by
  induction l with
  | nil => intro p h; exact h
  | cons n l ih =>
    intro p h
    rw [List.foldl_cons]
    refine ih _ fun x hx => ?_
    have h0 : 0 ≤ (n.fdiv 2).fmod 512 := Int.fmod_nonneg_of_pos _ (by decide)
    have h1 : (n.fdiv 2).fmod 512 < 512 := Int.fmod_lt_of_pos _ (by decide)
    unfold stepL at hx
    simp only [List.mem_append] at h
    split at hx <;> simp only [List.mem_append, List.mem_singleton] at hx
    · rcases hx with (hx | rfl) | hx
      · exact h x (.inl hx)
      · exact ⟨h0, h1⟩
      · exact h x (.inr hx)
    · rcases hx with hx | hx | rfl
      · exact h x (.inl hx)
      · exact h x (.inr hx)
      · exact ⟨h0, h1⟩
theorem listsF_len14 (ns : List Int) : (listsF ns).1.length + (listsF ns).2.length ≤ 14 := by
  have : ∀ (l : List Int) (p : List Int × List Int), (l.foldl stepL p).1.length + (l.foldl stepL p).2.length = p.1.length + p.2.length + l.length := by
    intro l
    induction l with
    | nil => intro p; rfl
    | cons n l ih =>
      intro p
      rw [List.foldl_cons, ih, List.length_cons]
      have e : (stepL p n).1.length + (stepL p n).2.length = p.1.length + p.2.length + 1 := by
        unfold stepL; split <;> simp <;> omega
      omega
  have h := this (ns.take 4) startL
  have h4 : (ns.take 4).length ≤ 4 := by rw [List.length_take]; omega
  have h0 : startL.1.length = 5 := rfl
  have h1 : startL.2.length = 5 := rfl
  unfold listsF
  omega
theorem row_len9 (x : Int) (h : 0 ≤ x ∧ x < 512) : (rowS x).length = 9 := by
  obtain ⟨a, ha, rfl⟩ := nat_of h
  rw [row_eq a ha]; rfl

theorem c_law {w : World} {A : Around} {mg mb : Str → Option Value} {s : Shared} (G : Gr (hd.heap_39 w.params) mg mb s.heap) (hh : A.handled = none) (hdp : A.depth + 20 < recursionLimit) (hu : A.units + 300 < cLine) (hfr : A.frames = some [])
    (a : Addr) (vs : List Value) (ns : List Int) (hints : IntsAre vs ns) (hlen : vs.length ≤ 1000) (Q E : Value → Shared → Prop) (ha : s.heap.IsList a vs.toArray)
    (post : ∀ h' tk, Kp s.heap h' → Q (.bool true) { s with heap := h', toks := tk }) :
    wpAny (model Challenge.rw_oy0055_01.row.prog w) A (call (.ref 142) [.ref a]) Q E s := by
  revert G; k_fill; intro G
  refine' enter0 [(Str.ofString "script", .ref a)] ?k1 ?k2 ?k3 ?k4 ?k5 ?k6 ?k7 ?k8 ?k9 ?k10 ?k11 (Nat.succ_pos _) ?_
  case k1 => exact G.K
  case k2 => exact G.lim
  case k3 => k_is
  case k4 => k_is
  case k5 => show A.depth < recursionLimit; omega
  case k6 => exact BindsTo.of_eq rfl
  case k7 => exact locs rfl
  case k8 => decide
  case k9 => rfl
  case k10 => rfl
  case k11 => rfl
  intro L h₁ tk htk hL Fz
  have hbL : s.heap.get? L = none := get_none_size _ (Nat.le_of_eq hL.symm)
  have neL : ∀ {b o}, s.heap.get? b = some o → b ≠ L := fun {b o} e q => by rw [q, hbL] at e; cases e
  have kn₁ : Kn s.heap (fun b => b = L) h₁ := fun b o e => ⟨neL e, Fz.keep _ _ e⟩
  have sz₁ : Sz (fun b => b = L) h₁ := fun b q => by
    obtain ⟨o, _, _, e, _⟩ := Fz.ns
    exact ⟨o, q ▸ e⟩
  obtain ⟨o₁, f₁, ho₁, hf₁⟩ := fn_law_lists G
  obtain ⟨o₂, f₂, ho₂, hf₂⟩ := fn_law_told G
  obtain ⟨o₃, f₃, ho₃, hf₃⟩ := fn_law_due G
  have ha₁ : h₁.IsList a vs.toArray := by
    obtain ⟨o, e, r⟩ := ha
    exact ⟨o, Fz.keep _ _ e, r⟩
  refine wpAny_execs_cons (wpAny_Assign_Name (run_call1 (nm_law_lists G ⟨rfl, rfl, rfl⟩ rfl) hf₁ rfl Fz.keep (name_local (h₀ := h₁) Fz.ns rfl rfl rfl (by decide) _ _ _ _ (.refl _) ⟨Fz.keep _ _ ho₁, ?_⟩)) rfl)
  refine c_lists (A := A.deeper _) G hh (by show A.depth + 1 + 4 < recursionLimit; omega) a vs ns hints hlen _ _ _ (fun b => b = L) htk kn₁ sz₁ ha₁ fun v h₂ t₂ q₂ k₂ r₂ => ?_
  dsimp only at k₂ r₂
  have hrng := lists_range (ns.take 4) startL (by decide)
  have hlen14 := listsF_len14 ns
  change ∀ x ∈ (listsF ns).1 ++ (listsF ns).2, 0 ≤ x ∧ x < 512 at hrng
  generalize (listsF ns).1 = l0 at r₂ hrng hlen14
  generalize (listsF ns).2 = l1 at r₂ hrng hlen14
  have ns₂ := Fz.ns.keeps k₂
  refine wpAny_storeName_local rfl ns₂ (fun h₃ hn₃ hs₃ => ?_) rfl
  have k₃ : ∀ b o, b ≠ L → h₂.get? b = some o → h₃.get? b = some o := fun b o hb e => hs₃.extBut b o hb e
  have r₃ : Rd (fun b => b = L) h₃ v (.list [intsD l0, intsD l1]) := r₂.over fun b o n e _ => ⟨n, k₃ _ _ n e⟩
  have ks₃ : Kp s.heap h₃ := fun b o e => k₃ _ _ (neL e) (k₂ _ _ (Fz.keep _ _ e))
  have kn₃ : Kn s.heap (fun b => b = L) h₃ := fun b o e => ⟨neL e, ks₃ _ _ e⟩
  have sz₃ : Sz (fun b => b = L) h₃ := fun b q => by
    obtain ⟨o, _, _, e, _⟩ := hn₃
    exact ⟨o, q ▸ e⟩
  clear k₂ r₂ ns₂ hs₃ k₃
  refine wpAny_execs_cons (wpAny_Return_some ?_)
  refine wpAny_Compare1 ?_ rfl
  refine run_call1 (nm_law_told G ⟨rfl, rfl, rfl⟩ rfl) hf₂ rfl ks₃ (name_local (h₀ := h₃) hn₃ rfl rfl rfl (by decide) _ _ _ _ (.refl _) ⟨ks₃ _ _ ho₂, ?_⟩)
  refine c_told (A := A.deeper _) G hh (by show A.depth + 1 + 10 < recursionLimit; omega) (Around.frames_deeper hfr) l0 l1 (fun x hx => row_len9 x (hrng x hx)) hlen14 _ _ _ (fun b => b = L) v (Nat.succ_pos _) kn₃ sz₃ ?st ?sf r₃ fun v₄ h₄ t₄ q₄ k₄ r₄ => ?_
  case st =>
    intro env he
    rw [List.mem_singleton.mp he]
    exact ⟨by show ScopeKind.function ≠ .module; decide, L, _, rfl, hn₃⟩
  case sf =>
    intro b hb
    exact List.mem_singleton.mp hb
  dsimp only at k₄ r₄
  have ks₄ : Kp s.heap h₄ := fun b o e => (k₄ _ _ (ks₃ _ _ e)).1 fun hm => neL e (List.mem_singleton.mp hm)
  have kn₄ : Kn s.heap (fun b => b = L) h₄ := fun b o e => ⟨neL e, ks₄ _ _ e⟩
  have hn₄ := k₄.ns hn₃
  have sz₄ : Sz (fun b => b = L) h₄ := fun b q => by
    obtain ⟨o, _, _, e, _⟩ := hn₄
    exact ⟨o, q ▸ e⟩
  have rl₄ : Rd (fun b => b = L) h₄ v (.list [intsD l0, intsD l1]) := r₃.over fun b o n e _ => ⟨n, (k₄ _ _ e).1 fun hm => n (List.mem_singleton.mp hm)⟩
  refine run_call1 (nm_law_due G ⟨rfl, rfl, rfl⟩ rfl) hf₃ rfl ks₄ (name_local (h₀ := h₄) hn₄ rfl rfl rfl (by decide) _ _ _ _ (.refl _) ⟨ks₄ _ _ ho₃, ?_⟩)
  refine c_due (A := A.deeper _) G hh (by show A.depth + 1 + 10 < recursionLimit; omega) (by show A.units + 3 + 100 < cLine; omega) l0 l1 hrng hlen14 _ _ _ (fun b => b = L) [v] q₄ kn₄ sz₄ (.cons rl₄ .nil) fun v₅ h₅ t₅ q₅ k₅ r₅ => ?_
  dsimp only at k₅ r₅
  have r₄' := r₄.up k₅
  rw [told_due l0 l1 hrng] at r₄'
  obtain ⟨_, e₄⟩ := r₄'.reads
  obtain ⟨_, e₅⟩ := r₅.reads
  refine eq_dataH e₄ e₅ (due_shaped l0 l1) (due_shaped l0 l1) (by show A.units + 3 + 64 < cLine; omega) ?_
  rw [SeqAt.eqv_refl _ (due_shp l0 l1).1]
  exact post h₅ t₅ fun b o e => k₅ _ _ (ks₄ _ _ e)
end Mine
end

open PySem PySem.W PyProof.Rows PySem.Calls
set_option maxRecDepth 100000 in
set_option maxHeartbeats 8000000 in
theorem PySem.Challenge.cw_oy0055_01_holds : PySem.Challenge.rw_oy0055_01.Holds := by
  refine Mine.hd ?_
  intro w s₀ s₁ mg mb G Y fa o pm cd doc dV kV ho hd' hcd hD hmg hg args vals as hpre hlay hrd hwl hlo
  have KX := kIn_of Y
  have hfa : fa = 142 := by
    have e := mg_of KX G.T.g (n := Str.ofString "law") (v := .ref 142) (by kernel_rfl)
    rw [show mg (Str.ofString "law") = some (.ref fa) from hmg] at e
    cases e; rfl
  clear ho hd' hcd hD hmg
  subst hfa
  have GG : Mine.Gr (Mine.hd.heap_39 w.params) mg mb s₁.heap := ⟨KX, G.T.g, G.T.b, G.T.nolimit, G.T.builtins⟩
  clear Y G KX
  wrow_args hpre hlay hrd hwl hlo
  rename_i ns _ _ _ _ _ _ _ a vs _ hL _ _ _ hI _ hlen _
  have hvl : vs.length ≤ 1000 := by
    have e : vs.length = ns.length := hI.length
    omega
  refine Mine.c_law GG rfl (by decide) (by decide) rfl a vs ns hI hvl _ _ hL fun h' tk k => ?_
  exact GoodW.toG ⟨.inl ⟨.bool true, .bool true, [], rfl, fun _ => rfl, .bool _, by with_unfolding_all rfl, fun _ => ⟨List.nodup_nil, fun _ q => nomatch q⟩⟩, k, rfl, hg⟩
