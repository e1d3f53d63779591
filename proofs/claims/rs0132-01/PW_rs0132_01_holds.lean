import PyProof.Rows.All
import PyProof.FactsAll.int
import PyProof.Seq
import PyProof.Methods
import PyProof.FactsAll.list
import PyProof.AutoIntG2
import PyProof.AutoIntG4
import PyProof.AutoIntG6
import PyProof.AutoIntG9
import PyProof.AutoListH
import PyProof.PureStr
import PyProof.ListIndex
import PyProof.SliceList
import PyProof.MeetsStr
import PyProof.Walks
import PyProof.MeetsSeq
import PyProof.SeqRoads
import PyProof.MeetsDict
import PyProof.EnumMake
import PyProof.MeetsSeq3
import PyProof.SliceStr
import PyProof.ListNew
import PyProof.ListStr
import PyProof.StrLawsOccR
import PyProof.SliceMore
import PyProof.StrLawsReplace
import PyProof.SumAny
import Wide.FinOn
import OpenK.AllK
import Wide.All
import Lean
import PySem.Challenge.RW_rs0132_01
set_option Elab.async false
set_option linter.unusedVariables false
set_option linter.unusedSimpArgs false
-- part Eng
section
set_option maxRecDepth 100000
namespace Mine
open PySem PySem.Spec PySem.Calls PyProof.Rows PySem.W PySem.W.X

noncomputable abbrev Lg := List (Nat × Obj)
noncomputable abbrev Gg := List (Nat × GenState)

/-- no code table -/
noncomputable def solid (o : Obj) : Bool := match o.cls with
  | .none => match o.data with
    | .fields _ => false
    | _ => true
  | _ => true
/-- what is known of the heap: the old objects are as they were but for code tables that have grown; the objects of the ledger are new, or such tables -/
structure Led (h₀ h : Heap) (chg L : Lg) (N : Nat) : Prop where
  size : h.objs.size = N
  le : h₀.objs.size ≤ N
  old : ∀ b o, h₀.get? b = some o → h.get? b = some o ∨ ∃ c ps more, h₀.TableAt c b ps ∧ o = tableObj ps ∧ h.get? b = some (tableObj (ps ++ more))
  nw : ∀ p ∈ L, h.get? p.1 = some p.2 ∧ (h₀.objs.size ≤ p.1 ∨ ∃ c ps more, h₀.TableAt c p.1 ps ∧ p.2 = tableObj (ps ++ more))
  nd : (L.map (·.1)).Nodup

section
variable {h₀ h : Heap} {chg L : Lg} {N : Nat}
theorem Led.at (D : Led h₀ h chg L N) {i : Nat} {a : Addr} {o : Obj} (hi : L[i]? = some (a, o)) : h.get? a = some o := (D.nw _ (List.mem_of_getElem? hi)).1
theorem Led.keep (D : Led h₀ h chg L N) {b : Addr} {o : Obj} (e : h₀.get? b = some o) (hc : solid o = true) : h.get? b = some o := by
  rcases D.old b o e with x | ⟨c, ps, more, _, rfl, _⟩
  · exact x
  · cases hc
theorem Led.alloc (D : Led h₀ h chg L N) {o : Obj} (hf : o.isFreed = false) : Led h₀ (h.push o) chg ((N, o) :: L) (N + 1) := by
  have hs := D.size
  subst hs
  refine ⟨by rw [Heap.size_push], Nat.le_trans D.le (Nat.le_succ _), fun b o' e => ?_, fun p hp => ?_, ?_⟩
  · rcases D.old b o' e with x | ⟨c, ps, more, t, q, x⟩
    · exact .inl (Heap.get?_push_of_some _ x)
    · exact .inr ⟨c, ps, more, t, q, Heap.get?_push_of_some _ x⟩
  · rcases List.mem_cons.mp hp with rfl | hp
    · exact ⟨Heap.get?_push_size _ hf, .inl D.le⟩
    · exact ⟨Heap.get?_push_of_some _ (D.nw p hp).1, (D.nw p hp).2⟩
  · refine List.nodup_cons.mpr ⟨fun hm => ?_, D.nd⟩
    obtain ⟨p, hp, hpa⟩ := List.mem_map.mp hm
    have := Heap.lt_size (D.nw p hp).1
    rw [hpa] at this
    exact absurd this (Nat.lt_irrefl _)
theorem mem_set_ne {L : Lg} (nd : (L.map (·.1)).Nodup) {i : Nat} {a : Addr} {o o' : Obj} (hi : L[i]? = some (a, o)) {p : Nat × Obj} (hp : p ∈ L.set i (a, o')) : p = (a, o') ∨ (p ∈ L ∧ p.1 ≠ a) := by
  obtain ⟨j, hj⟩ := List.getElem?_of_mem hp
  rw [List.getElem?_set] at hj
  by_cases hij : i = j
  · subst hij
    rw [if_pos rfl] at hj
    split at hj
    · left; exact (Option.some.inj hj).symm
    · cases hj
  · rw [if_neg hij] at hj
    right
    refine ⟨List.mem_of_getElem? hj, fun hpa => hij ?_⟩
    obtain ⟨li, ei⟩ := List.getElem?_eq_some_iff.mp hi
    obtain ⟨lj, ej⟩ := List.getElem?_eq_some_iff.mp hj
    have h1 : (L.map (·.1))[i]'(by rw [List.length_map]; exact li) = (L.map (·.1))[j]'(by rw [List.length_map]; exact lj) := by
      rw [List.getElem_map, List.getElem_map, ei, ej]; exact hpa.symm
    exact (List.getElem_inj nd).mp h1
theorem map_set_fst {L : Lg} {i : Nat} {a : Addr} {o o' : Obj} (hi : L[i]? = some (a, o)) : (L.set i (a, o')).map (·.1) = L.map (·.1) := by
  rw [List.map_set]
  exact set_same (by rw [List.getElem?_map, hi]; rfl)
/-- an entry of the ledger is written, its old part, if it has one, kept -/
theorem Led.upd (D : Led h₀ h chg L N) {i : Nat} {a : Addr} {o : Obj} {f : Obj → Obj} (hi : L[i]? = some (a, o)) (hf : (f o).isFreed = false)
    (hn : h₀.objs.size ≤ a ∨ ∃ c ps more, h₀.TableAt c a ps ∧ f o = tableObj (ps ++ more)) : Led h₀ (h.update a f) chg (L.set i (a, f o)) N := by
  have ho := D.at hi
  have hs : Heap.SameBut a h (h.update a f) := Heap.SameBut.update ..
  have ge : (h.update a f).get? a = some (f o) := by first | exact Heap.get?_update_self f ho hf | exact Heap.get?_update_self _ ho hf
  refine ⟨by rw [hs.1, D.size], D.le, fun b o' e' => ?_, fun p hp => ?_, ?_⟩
  · by_cases hb : b = a
    · subst hb
      rcases hn with hn | ⟨c, ps, more, t, q⟩
      · exact absurd (Heap.lt_size e') (Nat.not_lt.mpr hn)
      · exact .inr ⟨c, ps, more, t, Option.some.inj (e'.symm.trans t.2), q ▸ ge⟩
    · rcases D.old b o' e' with x | ⟨c, ps, more, t, q, x⟩
      · exact .inl ((hs.2 b hb).trans x)
      · exact .inr ⟨c, ps, more, t, q, (hs.2 b hb).trans x⟩
  · rcases mem_set_ne D.nd hi hp with rfl | ⟨hp', hne⟩
    · exact ⟨ge, hn⟩
    · have y := D.nw p hp'
      exact ⟨(hs.2 _ hne).trans y.1, y.2⟩
  · rw [map_set_fst hi]; exact D.nd
theorem Led.update (D : Led h₀ h chg L N) {i : Nat} {a : Addr} {o : Obj} {f : Obj → Obj} (hi : L[i]? = some (a, o)) (hf : (f o).isFreed = false) (hc : solid o = true := by rfl) : Led h₀ (h.update a f) chg (L.set i (a, f o)) N := by
  refine D.upd hi hf ?_
  rcases (D.nw (a, o) (List.mem_of_getElem? hi)).2 with x | ⟨c, ps, more, _, q⟩
  · exact .inl x
  · have : solid o = false := by rw [show o = tableObj (ps ++ more) from q]; rfl
    rw [hc] at this; cases this
/-- a code table grows -/
theorem Led.grow (D : Led h₀ h chg L N) {i : Nat} {a : Addr} {ps more : Array Value} {f : Obj → Obj} (hi : L[i]? = some (a, tableObj ps)) (hn : f (tableObj ps) = tableObj (ps ++ more)) : Led h₀ (h.update a f) chg (L.set i (a, f (tableObj ps))) N := by
  refine D.upd hi (by rw [hn]; rfl) ?_
  rcases (D.nw (a, tableObj ps) (List.mem_of_getElem? hi)).2 with x | ⟨c, qs, more', t, q⟩
  · exact .inl x
  · have e : ps = qs ++ more' := by
      have q' : tableObj ps = tableObj (qs ++ more') := q
      unfold tableObj at q'
      injection q' with _ _ q3 _
      injection q3
    exact .inr ⟨c, qs, more' ++ more, t, by rw [hn, e, Array.append_assoc]⟩
/-- any list of entries that are in the ledger, each once -/
theorem Led.sub (D : Led h₀ h chg L N) {L' : Lg} (hs : ∀ p ∈ L', p ∈ L) (nd : (L'.map (·.1)).Nodup) : Led h₀ h chg L' N :=
  ⟨D.size, D.le, D.old, fun p hp => D.nw p (hs p hp), nd⟩
theorem Led.perm (D : Led h₀ h chg L N) {L' : Lg} (hp : L'.Perm L) : Led h₀ h chg L' N :=
  D.sub (fun _ h => hp.subset h) ((hp.map _).nodup_iff.mpr D.nd)
theorem Led.sublist (D : Led h₀ h chg L N) {L' : Lg} (hp : L'.Sublist L) : Led h₀ h chg L' N :=
  D.sub (fun _ h => hp.subset h) ((hp.map _).nodup D.nd)
end
structure Gen (gens : Array GenState) (GL : Gg) (G : Nat) : Prop where
  size : gens.size = G
  its : ∀ p ∈ GL, gens[p.1]? = some p.2
  nd : (GL.map (·.1)).Nodup
  bare : AllBare gens
theorem gmem_set_ne {L : Gg} (nd : (L.map (·.1)).Nodup) {i : Nat} {a : Nat} {o o' : GenState} (hi : L[i]? = some (a, o)) {p : Nat × GenState} (hp : p ∈ L.set i (a, o')) : p = (a, o') ∨ (p ∈ L ∧ p.1 ≠ a) := by
  obtain ⟨j, hj⟩ := List.getElem?_of_mem hp
  rw [List.getElem?_set] at hj
  by_cases hij : i = j
  · subst hij
    rw [if_pos rfl] at hj
    split at hj
    · left; exact (Option.some.inj hj).symm
    · cases hj
  · rw [if_neg hij] at hj
    right
    refine ⟨List.mem_of_getElem? hj, fun hpa => hij ?_⟩
    obtain ⟨li, ei⟩ := List.getElem?_eq_some_iff.mp hi
    obtain ⟨lj, ej⟩ := List.getElem?_eq_some_iff.mp hj
    have h1 : (L.map (·.1))[i]'(by rw [List.length_map]; exact li) = (L.map (·.1))[j]'(by rw [List.length_map]; exact lj) := by
      rw [List.getElem_map, List.getElem_map, ei, ej]; exact hpa.symm
    exact (List.getElem_inj nd).mp h1
theorem Gen.set {gens : Array GenState} {GL : Gg} {G : Nat} (D : Gen gens GL G) {i g : Nat} {x y : GenState} (hi : GL[i]? = some (g, x)) (hb : y.bare = true) : Gen (gens.setIfInBounds g y) (GL.set i (g, y)) G := by
  have hg := D.its _ (List.mem_of_getElem? hi)
  obtain ⟨lt, _⟩ := Array.getElem?_eq_some_iff.mp hg
  refine ⟨by simp [D.size], fun p hp => ?_, ?_, fun z hz => ?_⟩
  · rcases gmem_set_ne D.nd hi hp with rfl | ⟨hp', hne⟩
    · simp [Array.getElem?_setIfInBounds, lt]
    · rw [Array.getElem?_setIfInBounds, if_neg (Ne.symm hne)]
      exact D.its p hp'
  · have : (GL.set i (g, y)).map (·.1) = GL.map (·.1) := by
      rw [List.map_set]
      exact set_same (by rw [List.getElem?_map, hi]; rfl)
    rw [this]; exact D.nd
  · rcases Array.mem_or_eq_of_mem_setIfInBounds hz with h | h
    · exact D.bare z h
    · rw [h]; exact hb
theorem Gen.push {gens : Array GenState} {GL : Gg} {G : Nat} (D : Gen gens GL G) {x : GenState} (hb : x.bare = true) : Gen (gens.push x) ((G, x) :: GL) (G + 1) := by
  have hs := D.size
  subst hs
  refine ⟨by simp, fun p hp => ?_, ?_, D.bare.push hb⟩
  · rcases List.mem_cons.mp hp with rfl | hp
    · simp
    · have := D.its p hp
      obtain ⟨lt, e⟩ := Array.getElem?_eq_some_iff.mp this
      rw [Array.getElem?_push, if_neg (Nat.ne_of_lt lt)]
      exact this
  · refine List.nodup_cons.mpr ⟨fun hm => ?_, D.nd⟩
    obtain ⟨p, hp, hpa⟩ := List.mem_map.mp hm
    obtain ⟨lt, _⟩ := Array.getElem?_eq_some_iff.mp (D.its p hp)
    rw [hpa] at lt
    exact absurd lt (Nat.lt_irrefl _)
theorem Gen.sublist {gens : Array GenState} {GL GL' : Gg} {G : Nat} (D : Gen gens GL G) (h : GL'.Sublist GL) : Gen gens GL' G :=
  ⟨D.size, fun p hp => D.its p (h.subset hp), (h.map _).nodup D.nd, D.bare⟩
end Mine
end
-- part Rz
section
set_option maxRecDepth 100000
namespace Mine
open PySem PySem.Spec PySem.Calls PyProof.Rows PySem.W PySem.W.X
/-- a comparison of two objects of one type, the first one's own method answering; no look at the stack -/
noncomputable def richL (op : CmpOp) (a b : Value) : Sem Value := PySem.holding [a, b] (Sem.bind (typeOf a) fun ta => Sem.bind (typeOf b) fun tb =>
  match ta != tb with
  | true => .unsupported "alt"
  | false => Sem.bind (tryCompare a (cmpInfo op).2.1 b) fun r => match r with
    | some v => .pure v
    | none => .unsupported "alt")
/-- a comparison -/
noncomputable def cmpL (op : CmpOp) (a b : Value) : Sem Value := match a, b with
  | .ref x, .ref y => match op with
    | .Eq => richL .Eq (.ref x) (.ref y)
    | .NotEq => richL .NotEq (.ref x) (.ref y)
    | _ => .unsupported "alt"
  | _, _ => .unsupported "alt"
noncomputable def opL (op : CmpOp) (a b : Value) : Sem Value := Sem.bind (PySem.holding [a, b] (cmpL op a b)) fun r => Sem.bind (release [a, b] [r]) fun _ => .pure r
/-- a test that is one comparison -/
noncomputable def testL (e : PySem.Expr) (env : PySem.Env) : Sem Bool := match e with
  | .Compare left ops cs pos => Sem.bind (eval left env) fun l => match ops, markedEach ops cs (evalEach cs env) with
    | [op], [r] => Sem.bind (PySem.holding [l] r) fun rv => Sem.bind (standAt pos) fun _ => Sem.bind (opL op l rv) fun c => PySem.holding [c] (truthy c)
    | _, _ => .unsupported "alt"
  | _ => .unsupported "alt"
/-- an expression's code: one thing if a comparison holds, else another -/
noncomputable def exprL (c : Code) : Sem Fin := match c with
  | .expr e env => match e with
    | .IfExp test body orelse _ => Sem.bind point fun _ => Sem.bind (Sem.onRaise (Sem.bind (testL test env) fun b => match b with
        | true => eval body env
        | false => eval orelse env) (leaving env)) fun v => ret v
    | _ => .unsupported "alt"
  | _ => .unsupported "alt"
noncomputable def whileL (c : Code) : Sem Fin := match c with
  | .whileLoop test body orelse env => Sem.onRaise (Sem.bind (testL test env) fun b => match b with
      | true => Sem.bind (execs body env) fun f => match f with
        | .next => again (.whileLoop test body orelse env)
        | .cont => again (.whileLoop test body orelse env)
        | .brk => .pure (.done .next)
        | .ret v => .pure (.done (.ret v))
      | false => Sem.bind (execs orelse env) fun f => .pure (.done f)) (fun x => Sem.bind (noteFrame x env) fun _ => theTreesLotGoes x)
  | _ => .unsupported "alt"
/-! the same, in the words that are reckoned fast -/
noncomputable def richZ (op : CmpOp) (a b : Value) : Sem Value := PySem.W.ZFast.zw17359229931016689406 [a, b] (R.bindR (PySem.W.ZFast.zw14684505520029207082 a) fun ta => R.bindR (PySem.W.ZFast.zw14684505520029207082 b) fun tb =>
  match ta != tb with
  | true => .unsupported "alt"
  | false => R.bindR (PySem.W.ZFast.zw3989567798202555795 a (PySem.W.ZFast.zw363932546726248868 op).2.1 b) fun r => match r with
    | some v => .pure v
    | none => .unsupported "alt")
theorem richZ_eq : richL = richZ := by
  funext op a b
  unfold richL richZ
  rw [R.bindR_eq, PySem.W.ZFast.ze17359229931016689406, PySem.W.ZFast.ze14684505520029207082, PySem.W.ZFast.ze3989567798202555795, PySem.W.ZFast.ze363932546726248868]
noncomputable def cmpZ (op : CmpOp) (a b : Value) : Sem Value := match a, b with
  | .ref x, .ref y => match op with
    | .Eq => richZ .Eq (.ref x) (.ref y)
    | .NotEq => richZ .NotEq (.ref x) (.ref y)
    | _ => .unsupported "alt"
  | _, _ => .unsupported "alt"
theorem cmpZ_eq : cmpL = cmpZ := by
  funext op a b
  unfold cmpL cmpZ
  rw [richZ_eq]
noncomputable def opZ (op : CmpOp) (a b : Value) : Sem Value := R.bindR (PySem.W.ZFast.zw17359229931016689406 [a, b] (cmpZ op a b)) fun r => R.bindR (release [a, b] [r]) fun _ => .pure r
theorem opZ_eq : opL = opZ := by
  funext op a b
  unfold opL opZ
  rw [R.bindR_eq, PySem.W.ZFast.ze17359229931016689406, cmpZ_eq]
noncomputable def testZ (e : PySem.Expr) (env : PySem.Env) : Sem Bool := match e with
  | .Compare left ops cs pos => R.bindR (PySem.W.ZFast.zw14044960220447912780 left env) fun l => match ops, PySem.W.ZFast.zw2344580865713695371 ops cs (PySem.W.ZFast.zw10458482166411082596 cs env) with
    | [op], [r] => R.bindR (PySem.W.ZFast.zw17359229931016689406 [l] r) fun rv => R.bindR (standAt pos) fun _ => R.bindR (opZ op l rv) fun c => PySem.W.ZFast.zw17359229931016689406 [c] (PySem.W.ZFast.zw15245631507167962100 c)
    | _, _ => .unsupported "alt"
  | _ => .unsupported "alt"
theorem testZ_eq : testL = testZ := by
  funext e env
  unfold testL testZ
  rw [R.bindR_eq, PySem.W.ZFast.ze14044960220447912780, PySem.W.ZFast.ze2344580865713695371, PySem.W.ZFast.ze10458482166411082596, PySem.W.ZFast.ze17359229931016689406, PySem.W.ZFast.ze15245631507167962100, opZ_eq]
noncomputable def exprZ (c : Code) : Sem Fin := match c with
  | .expr e env => match e with
    | .IfExp test body orelse _ => R.bindR point fun _ => R.bindR (R.onRaiseR (R.bindR (testZ test env) fun b => match b with
        | true => PySem.W.ZFast.zw14044960220447912780 body env
        | false => PySem.W.ZFast.zw14044960220447912780 orelse env) (PySem.W.ZFast.zw9442747609961115081 env)) fun v => PySem.W.ZFast.zw6905046200447255374 v
    | _ => .unsupported "alt"
  | _ => .unsupported "alt"
theorem exprZ_eq : exprL = exprZ := by
  funext c
  unfold exprL exprZ
  rw [R.bindR_eq, R.onRaiseR_eq, PySem.W.ZFast.ze14044960220447912780, PySem.W.ZFast.ze9442747609961115081, PySem.W.ZFast.ze6905046200447255374, testZ_eq]
noncomputable def whileZ (c : Code) : Sem Fin := match c with
  | .whileLoop test body orelse env => R.onRaiseR (R.bindR (testZ test env) fun b => match b with
      | true => R.bindR (PySem.W.ZFast.zw12563942051412417395 body env) fun f => match f with
        | .next => PySem.W.ZFast.zw12377390311714414960 (.whileLoop test body orelse env)
        | .cont => PySem.W.ZFast.zw12377390311714414960 (.whileLoop test body orelse env)
        | .brk => .pure (.done .next)
        | .ret v => .pure (.done (.ret v))
      | false => R.bindR (PySem.W.ZFast.zw12563942051412417395 orelse env) fun f => .pure (.done f)) (fun x => R.bindR (noteFrame x env) fun _ => PySem.W.ZFast.zw1623429502029203251 x)
  | _ => .unsupported "alt"
theorem whileZ_eq : whileL = whileZ := by
  funext c
  unfold whileL whileZ
  rw [R.bindR_eq, R.onRaiseR_eq, PySem.W.ZFast.ze12563942051412417395, PySem.W.ZFast.ze12377390311714414960, PySem.W.ZFast.ze1623429502029203251, testZ_eq]
/-- a code that begins with a comparison, without a look at the stack -/
noncomputable def rmZ (c : Code) : Sem Fin := match c with
  | .expr e env => exprZ (.expr e env)
  | .whileLoop test body orelse env => whileZ (.whileLoop test body orelse env)
  | _ => .unsupported "alt"
end Mine
end
-- part Sm
section
set_option maxRecDepth 100000
namespace Mine
open PySem PySem.Spec PySem.Calls PyProof.Rows PySem.W PySem.W.X

noncomputable def denZ : Code → Sem Fin := PySem.W.ZFast.zw11892475500146522536 PySem.W.ZFast.tableZ
theorem denZ_eq : denote table = denZ := by
  unfold denZ
  rw [← PySem.W.ZFast.ze11892475500146522536, ← PySem.W.ZFast.tableZ_eq]
noncomputable abbrev quietZ : Code → Bool := PySem.W.ZFast.zw17772548960776305114
noncomputable abbrev weightZ : Code → Nat := PySem.W.ZFast.zw1243936422450756474

/-- enterFrame without a look at the stack -/
noncomputable def enterL : Sem Unit := Sem.bind currentRecursionLimit fun limit => cond (Nat.beq limit recursionLimit) (.pure ()) (.unsupported "limit")
noncomputable def enterLZ : Sem Unit := R.bindR PySem.W.ZFast.zw2211186353215096513 fun limit => cond (Nat.beq limit recursionLimit) (.pure ()) (.unsupported "limit")
noncomputable def restA (self : Addr) (fd : FuncData) (args : Args) (compiled : Str) : Sem Fin :=
  Sem.bind (bindArgs fd args) fun binds =>
  Sem.bind (newFunctionEnv fd.scope fd.globals fd.closure binds (compiled ++ ".<locals>.") (some self) fd.code none fd.builtins) fun env =>
  Sem.bind enterL fun _ =>
  match fd.scope.isGenerator, fd.scope.isCoroutine with
  | false, false => .pure (.again (match fd.body with
    | .stmts b => .func b env
    | .expr e => .expr e env))
  | true, false => Sem.bind (newGenerator (match fd.body with
    | .stmts b => .func b env
    | .expr e => .expr e env) fd.name fd.qualname) fun v => .pure (.done (.ret v))
  | _, _ => .unsupported "alt"
noncomputable def callFnA (self : Addr) (fd : FuncData) (args : Args) : Sem Fin := match fd.code with
  | .none => restA self fd args fd.qualname
  | c => Sem.bind (field c 1) fun v => match v with
    | .str q _ => restA self fd args q
    | _ => restA self fd args fd.qualname
noncomputable def restZ (self : Addr) (fd : FuncData) (args : Args) (compiled : Str) : Sem Fin :=
  R.bindR (PySem.W.ZFast.zw9782568553167038054 fd args) fun binds =>
  R.bindR (PySem.W.ZFast.zw11113344188204177931 fd.scope fd.globals fd.closure binds (compiled ++ ⟨#[46, 60, 108, 111, 99, 97, 108, 115, 62, 46]⟩) (some self) fd.code none fd.builtins) fun env =>
  R.bindR enterLZ fun _ =>
  match fd.scope.isGenerator, fd.scope.isCoroutine with
  | false, false => .pure (.again (match fd.body with
    | .stmts b => .func b env
    | .expr e => .expr e env))
  | true, false => R.bindR (PySem.W.ZFast.zw2426001476595277715 (match fd.body with
    | .stmts b => .func b env
    | .expr e => .expr e env) fd.name fd.qualname) fun v => .pure (.done (.ret v))
  | _, _ => .unsupported "alt"
noncomputable def callFnZ (self : Addr) (fd : FuncData) (args : Args) : Sem Fin := match fd.code with
  | .none => restZ self fd args fd.qualname
  | c => R.bindR (PySem.W.ZFast.zw6609576154772507232 c 1) fun v => match v with
    | .str q _ => restZ self fd args q
    | _ => restZ self fd args fd.qualname
theorem enterLZ_eq : enterL = enterLZ := by
  unfold enterL enterLZ
  rw [R.bindR_eq, PySem.W.ZFast.ze2211186353215096513]
theorem restZ_eq : restA = restZ := by
  funext self fd args compiled
  unfold restA restZ
  rw [R.bindR_eq, enterLZ_eq, PySem.W.ZFast.ze9782568553167038054, PySem.W.ZFast.ze11113344188204177931, PySem.W.ZFast.ze2426001476595277715]
  rw [show (PySem.Str.ofString ".<locals>." : Str) = ⟨#[46, 60, 108, 111, 99, 97, 108, 115, 62, 46]⟩ from by decide +kernel]
theorem callFnZ_eq : callFnA = callFnZ := by
  funext self fd args
  unfold callFnA callFnZ
  rw [R.bindR_eq, restZ_eq, PySem.W.ZFast.ze6609576154772507232]

/-- a call of a def of the text, without a look at the stack -/
noncomputable def fnA (c : Code) : Sem Fin := match c with
  | .call (.ref a) args => .load a none fun o => match o.data with
    | .func fd => callFnZ a fd args
    | _ => .unsupported "alt"
  | _ => .unsupported "alt"


/-- the next item of a generator, without a look at the stack -/
noncomputable def gnA (c : Code) : Sem Fin := match c with
  | .builtin id ⟨[g], []⟩ => match S.eqLit 8395602706694450420893107072773897535317608 id with
    | false => .unsupported "alt"
    | true => R.bindR (PySem.W.ZFast.zw12255447999362386569 g) fun n => R.bindR (genState n) fun b => match b with
      | .fresh | .suspended => R.bindR enterLZ fun _ => R.bindR (resume n (.send .none)) fun r => match r with
        | .yielded v => .pure (.done (.ret v))
        | .returned v => match v with
          | .none => R.bindR (PySem.W.ZFast.zw11364817496384490316 (.type "StopIteration") []) fun e => R.bindR (PySem.W.ZFast.zw17609497360097468838 e) fun (_ : Unit) => .unsupported "alt"
          | _ => .unsupported "alt"
        | _ => .unsupported "alt"
      | _ => .unsupported "alt"
  | _ => .unsupported "alt"

structure St where
  c : Code
  md : Option (List PySem.Frame)
  κ : Kont
  t : Sem Fin
  chg : Lg
  L : Lg
  N : Nat
  i : Nat
  GL : Gg
  G : Nat

/-- the code's weight, for the depth and for the units -/
noncomputable def mwt (c : Code) : Nat := 4 * weightZ c + 1
noncomputable def fwt : List PySem.Frame → Nat
  | [] => 0
  | .ret _ _ _ _ c _ _ :: fs => mwt c + fwt fs
  | .gen _ _ _ c _ :: fs => mwt c + fwt fs
noncomputable def kwt : Kont → Nat
  | .base => 0
  | .ret c _ _ κ => mwt c + kwt κ
  | .gen _ c _ κ => mwt c + kwt κ
  | .genS _ c fs _ κ => mwt c + fwt fs + kwt κ
/-- no exception is being handled -/
noncomputable def fno : List PySem.Frame → Bool
  | [] => true
  | .ret _ none _ _ _ _ _ :: fs => fno fs
  | _ => false
noncomputable def kno : Kont → Bool
  | .base => true
  | .ret _ none _ κ => kno κ
  | .ret _ (some _) _ _ => false
  | .gen _ _ _ κ => kno κ
  | .genS _ _ fs _ κ => fno fs && kno κ
noncomputable def swt (c : Code) (md : Option (List PySem.Frame)) (κ : Kont) : Nat := match md with
  | none => mwt c + kwt κ
  | some fs => mwt c + fwt fs + kwt κ
noncomputable def sno (md : Option (List PySem.Frame)) (κ : Kont) : Bool := match md with
  | none => kno κ
  | some fs => fno fs && kno κ

/-- what is owed: two things that are to be one -/
inductive Ob where
  | n (a b : Nat)
  | s (a b : Str)
  | i (a b : Int)
  | v (a b : Value)
  | k (a b : List (Code × Pos) → Sem Fin)
  | ls (a b : List Value)
  | bb (a b : Bool)
noncomputable def Ob.Holds : Ob → Prop
  | .n a b => a = b
  | .s a b => a = b
  | .i a b => a = b
  | .v a b => a = b
  | .k a b => a = b
  | .ls a b => a = b
  | .bb a b => a = b
noncomputable def Ob.lft : Ob → Ob
  | .n a _ => .n a a
  | .s a _ => .s a a
  | .i a _ => .i a a
  | .v a _ => .v a a
  | .k a _ => .k a a
  | .ls a _ => .ls a a
  | .bb a _ => .bb a a
noncomputable def Ob.rgt : Ob → Ob
  | .n _ a => .n a a
  | .s _ a => .s a a
  | .i _ a => .i a a
  | .v _ a => .v a a
  | .k _ a => .k a a
  | .ls _ a => .ls a a
  | .bb _ a => .bb a a
theorem Ob.holds_of : ∀ {o : Ob}, o.lft = o.rgt → o.Holds
  | .n _ _, h => (Ob.n.inj h).1
  | .s _ _, h => (Ob.s.inj h).1
  | .i _ _, h => (Ob.i.inj h).1
  | .v _ _, h => (Ob.v.inj h).1
  | .k _ _, h => (Ob.k.inj h).1
  | .ls _ _, h => (Ob.ls.inj h).1
  | .bb _ _, h => (Ob.bb.inj h).1
theorem Ob.all_of : ∀ {l : List Ob}, l.map Ob.lft = l.map Ob.rgt → ∀ o ∈ l, o.Holds
  | [], _, _, h => nomatch h
  | a :: l, e, o, h => by
    rw [List.map_cons, List.map_cons] at e
    injection e with e1 e2
    rcases List.mem_cons.mp h with rfl | h
    · exact Ob.holds_of e1
    · exact Ob.all_of e2 o h

/-- the look at the stack for room, what it does with the stack -/
noncomputable def roomOf (st : List (Code × Pos)) : Sem Unit := match cRoom "comparison" with
  | .stack k => k st
  | t => t

/-- what a contract makes of the ledger: the answer, the ledger, its size, the tokens, what is owed, the oracle's rest -/
noncomputable abbrev SpR := Option (Result × Lg × Nat × Nat × List Ob × List Nat)
/-- a call of a built-in told by a contract -/
structure Spc (V : XV) where
  fx : Code → List Nat → Lg → Nat → Nat → SpR
  ok : ∀ (A : Around) (Q : Result → Shared → Prop) (h : Heap) (gens : Array GenState) (chg L : Lg) (N i : Nat) (c : Code) (orc : List Nat) (r : Result) (L' : Lg) (N' i' : Nat) (obs : List Ob) (orc' : List Nat),
    A.handled = none → A.depth ≤ 970 → A.units ≤ 9000 → fx c orc L N i = some (r, L', N', i', obs, orc') → (∀ o ∈ obs, o.Holds) → Led V.h₀ h chg L N →
    (∀ h', Led V.h₀ h' chg L' N' → Q r ⟨h', gens, V.d, V.t₀ + i', V.os⟩) → codeAny (model V.prog V.w) A c Q ⟨h, gens, V.d, V.t₀ + i, V.os⟩

/-- the rest of a run: what tells where an object lies, the equations owed -/
structure Cf where
  orc : List Nat
  obs : List Ob
  s : St

inductive Out where
  | bad (n : Nat)
  | ok (x : Cf)

noncomputable def popO (orc : List Nat) (k : Nat → List Nat → Out) : Out := match orc with
  | [] => .bad 60
  | n :: r => k n r

/-- a code table's items -/
noncomputable def tabO (o : Obj) : Option (Array Value) := match o with
  | ⟨c, d, dt, sl⟩ => match c with
    | .none => match d with
      | none => match sl.toList with
        | [] => match dt with
          | .fields ps => some ps
          | _ => none
        | _ :: _ => none
      | some _ => none
    | _ => none
theorem tabO_eq {o : Obj} {ps : Array Value} (h : tabO o = some ps) : o = tableObj ps := by
  obtain ⟨c, d, dt, sl⟩ := o
  unfold tabO at h
  dsimp only at h
  split at h
  · split at h
    · split at h
      · rename_i hsl
        split at h
        · cases h
          unfold tableObj
          rw [show sl = #[] from Array.ext' hsl]
        · cases h
      · cases h
    · cases h
  · cases h
/-- a code table that grows: what is owed -/
noncomputable def growO (o q : Obj) : Option Ob := match tabO o with
  | none => none
  | some ps => match tabO q with
    | none => none
    | some qs => some (.ls (qs.toList.take ps.toList.length) ps.toList)
theorem growO_eq {o q : Obj} {ob : Ob} (h : growO o q = some ob) (hob : ob.Holds) : ∃ ps more, o = tableObj ps ∧ q = tableObj (ps ++ more) := by
  unfold growO at h
  split at h
  · cases h
  · rename_i ps hp
    split at h
    · cases h
    · rename_i qs hq
      cases h
      have e : qs.toList.take ps.toList.length = ps.toList := hob
      refine ⟨ps, (qs.toList.drop ps.toList.length).toArray, tabO_eq hp, (tabO_eq hq).trans ?_⟩
      have : qs = ps ++ (qs.toList.drop ps.toList.length).toArray := by
        refine Array.ext' ?_
        rw [Array.toList_append, List.toList_toArray]
        conv => rhs; lhs; rw [← e]
        exact (List.take_append_drop ..).symm
      rw [← this]

section
variable (V : XV) (sp : List (Spc V))
/-- the start of a code: as it is | a def's, without a look at the stack | by a contract, its answer handed to k -/
noncomputable def startO (c' : Code) (md : Option (List PySem.Frame)) (κ : Kont) (x : Cf) : Out :=
  popO x.orc fun n orc => match n with
  | 0 => .ok { x with orc := orc, s := { x.s with c := c', md := md, κ := κ, t := denZ c' } }
  | 1 => match md with
    | none => match Nat.ble (mwt c' + kwt κ) 300 with
      | true => .ok { x with orc := orc, s := { x.s with c := c', md := none, κ := κ, t := fnA c' } }
      | false => .bad 61
    | some _ => .bad 62
  | 2 => match md with
    | none => match Nat.ble (mwt c' + kwt κ) 300 with
      | true => .ok { x with orc := orc, s := { x.s with c := c', md := none, κ := κ, t := gnA c' } }
      | false => .bad 61
    | some _ => .bad 62
  | 3 => match md with
    | none => match Nat.ble (mwt c' + kwt κ) 300 with
      | true => .ok { x with orc := orc, s := { x.s with c := c', md := none, κ := κ, t := rmZ c' } }
      | false => .bad 61
    | some _ => .bad 62
  | _ => .bad 63
noncomputable def wakeO (e : End) (κ : Kont) (x : Cf) : Out := match κ with
  | .gen g c k κ => popO x.orc fun n orc => match x.s.GL[n]? with
    | some (g', _) => .ok { x with orc := orc, obs := .n g g' :: x.obs, s := { x.s with c := c, md := none, κ := κ, t := k e.result, GL := x.s.GL.set n (g', e.genState) } }
    | none => .bad 64
  | .genS g c fs k κ => popO x.orc fun n orc => match x.s.GL[n]? with
    | some (g', _) => .ok { x with orc := orc, obs := .n g g' :: x.obs, s := { x.s with c := c, md := some fs, κ := κ, t := k e.result, GL := x.s.GL.set n (g', e.genState) } }
    | none => .bad 64
  | _ => .bad 20
noncomputable def retO (r : Result) (x : Cf) : Out := match x.s.md with
  | none => match x.s.κ with
    | .ret c _ k κ => .ok { x with s := { x.s with c := c, md := none, κ := κ, t := k r } }
    | _ => .bad 21
  | some fs => match fs with
    | [] => wakeO (.ret r) x.s.κ x
    | f :: fs => match f with
      | .ret k _ _ _ c₁ _ _ => .ok { x with s := { x.s with c := c₁, md := some fs, t := k r } }
      | .gen .. => .bad 22
noncomputable def callO (p : Pos) (c' : Code) (hd : Option Value) (g : Bool) (l : List Value) (k : Result → Sem Fin) (x : Cf) : Out := match hd with
  | some _ => .bad 8
  | none => popO x.orc fun n orc => match n with
    | 0 | 1 | 2 | 3 => match x.s.md with
      | none => startO c' none (.ret x.s.c none k x.s.κ) x
      | some fs => startO c' (some (.ret k none g l x.s.c p [] :: fs)) x.s.κ x
    | n + 4 => match sp[n]? with
      | none => .bad 65
      | some q => match sno x.s.md x.s.κ with
        | false => .bad 66
        | true => match Nat.ble (swt x.s.c x.s.md x.s.κ) 300 with
          | false => .bad 67
          | true => match q.fx c' orc x.s.L x.s.N x.s.i with
            | none => .bad 68
            | some (r, L', N', i', obs, orc) => .ok { x with orc := orc, obs := obs ++ x.obs, s := { x.s with t := k r, L := L', N := N', i := i' } }
noncomputable def stepO (p : Pos) (x : Cf) : Out := match x.s.t with
  | .pure fin => match fin with
    | .done f => retO (.ok f) x
    | .again c' => match quietZ c' with
      | true => startO c' x.s.md x.s.κ x
      | false => .bad 5
  | .raise e => retO (.error e) x
  | .rule _ k => .ok { x with s := { x.s with t := k () } }
  | .at _ k => .ok { x with s := { x.s with t := k () } }
  | .point _ k => .ok { x with s := { x.s with t := k () } }
  | .ask k => .ok { x with s := { x.s with t := k ⟨V.prog, V.w.params⟩ } }
  | .load a _ k => popO x.orc fun n orc => match n with
    | 0 => match V.kt.get a with
      | some o => match solid o with
        | true => .ok { x with orc := orc, s := { x.s with t := k o } }
        | false => .bad 1
      | none => .bad 2
    | n + 1 => match x.s.L[n]? with
      | some (b, o) => .ok { x with orc := orc, obs := .n a b :: x.obs, s := { x.s with t := k o } }
      | none => .bad 3
  | .loadIfAlive a k => popO x.orc fun n orc => match n with
    | 0 => match V.kt.get a with
      | some o => match solid o with
        | true => .ok { x with orc := orc, s := { x.s with t := k (some o) } }
        | false => .bad 1
      | none => .bad 2
    | n + 1 => match x.s.L[n]? with
      | some (b, o) => .ok { x with orc := orc, obs := .n a b :: x.obs, s := { x.s with t := k (some o) } }
      | none => .bad 3
  | .alloc o k => match o.isFreed with
    | true => .bad 4
    | false => .ok { x with s := { x.s with t := k x.s.N, L := (x.s.N, o) :: x.s.L, N := x.s.N + 1 } }
  | .update a _ f k => popO x.orc fun n orc => match n with
    | 0 => .bad 6
    | n + 1 => match x.s.L[n]? with
      | some (b, o) => match (f o).isFreed with
        | true => .bad 4
        | false => match solid o with
          | true => .ok { x with orc := orc, obs := .n a b :: x.obs, s := { x.s with t := k (), L := x.s.L.set n (b, f o) } }
          | false => match growO o (f o) with
            | some ob => .ok { x with orc := orc, obs := ob :: .n a b :: x.obs, s := { x.s with t := k (), L := x.s.L.set n (b, f o) } }
            | none => .bad 16
      | none => .bad 3
  | .fresh k => .ok { x with s := { x.s with t := k (V.t₀ + x.s.i), i := x.s.i + 1 } }
  | .handled own k => match own with
    | true => .bad 7
    | false => match sno x.s.md x.s.κ with
      | false => .bad 66
      | true => .ok { x with s := { x.s with t := k none } }
  | .call c' hd g l k => callO V sp p c' hd g l k x
  | .stack k => match sno x.s.md x.s.κ with
      | false => .bad 66
      | true => match Nat.ble (swt x.s.c x.s.md x.s.κ) 300 with
        | false => .bad 67
        | true => .ok { x with obs := .k k (fun st => Sem.bind (roomOf st) fun _ => k []) :: x.obs, s := { x.s with t := k [] } }
  | .newGen c' k => .ok { x with s := { x.s with t := k x.s.G, GL := (x.s.G, .fresh c') :: x.s.GL, G := x.s.G + 1 } }
  | .genState g k => popO x.orc fun n orc => match x.s.GL[n]? with
    | some (g', gs) => .ok { x with orc := orc, obs := .n g g' :: x.obs, s := { x.s with t := k gs.seen } }
    | none => .bad 9
  | .resume g r _ k => popO x.orc fun n orc => match x.s.GL[n]? with
    | some (g', gs) => match gs with
      | .fresh c₀ => match r with
        | .send v => match v with
          | .none => .ok { x with orc := orc, obs := .n g g' :: x.obs, s := { x.s with c := c₀, md := some [], κ := (match x.s.md with | none => .gen g' x.s.c k x.s.κ | some fs => .genS g' x.s.c fs k x.s.κ), t := denZ c₀, GL := x.s.GL.set n (g', .running) } }
          | _ => .bad 10
        | .throw _ => .bad 10
      | .suspended k₀ _ c₀ _ fs₀ _ => .ok { x with orc := orc, obs := .n g g' :: x.obs, s := { x.s with c := c₀, md := some fs₀, κ := (match x.s.md with | none => .gen g' x.s.c k x.s.κ | some fs => .genS g' x.s.c fs k x.s.κ), t := k₀ r, GL := x.s.GL.set n (g', .running) } }
      | .running => .bad 11
      | .finished => .bad 12
    | none => .bad 9
  | .yield v gd l k => match x.s.md with
    | none => .bad 13
    | some fs => match gd with
      | true => .bad 14
      | false => match splitAtGen fs with
        | some _ => .bad 15
        | none => match fs.any Frame.guarded with
          | true => .bad 14
          | false => wakeO (.susp v false l k x.s.c p fs) x.s.κ x
  | _ => .bad 30
noncomputable def runO : Nat → (Nat → Pos) → Cf → Out
  | 0, _, x => .ok x
  | n + 1, ps, x => match stepO V sp (ps 0) x with
    | .ok y => runO n (fun m => ps (m + 1)) y
    | .bad n => .bad n
end
end Mine
end
-- part Vw
section
namespace Mine
open PySem PySem.Spec PySem.Calls PyProof.Rows PySem.W PySem.W.X
/-- the world with its word on three rows told -/
noncomputable def fset (f : String → Bool) (b1 b2 b3 : Bool) (r : String) : Bool := match S.eqLit 10139888712337904147300001983332972444938612 r with
    | true => b1
    | false => match S.eqLit 2510650655181157320538776789020469319833841985448949215332 r with
      | true => b2
      | false => match S.eqLit 41713534423588440486387129778652049616807117621888181212357554279 r with
        | true => b3
        | false => f r
noncomputable def wset (w : World) (b1 b2 b3 : Bool) : World :=
  { w with params := { w.params with followText := fset w.params.followText b1 b2 b3 } }
theorem fset_self (f : String → Bool) : fset f (f "special-get-raises") (f "comprehension-iter-twice") (f "for-iterable-display-folded") = f := by
  have h : ∀ (n : Nat) (s : String), PySem.code s = n → ∀ r, S.eqLit n r = true → r = s := fun n s hn r hr => by
    have e := congrFun (S.eqLit_eq s n hn) r
    rw [hr] at e
    exact eq_of_beq e
  funext r
  unfold fset
  split
  · rename_i q; rw [h _ "special-get-raises" (by decide +kernel) r q]
  · split
    · rename_i q; rw [h _ "comprehension-iter-twice" (by decide +kernel) r q]
    · split
      · rename_i q; rw [h _ "for-iterable-display-folded" (by decide +kernel) r q]
      · rfl
theorem wset_self (w : World) : wset w (w.params.followText "special-get-raises") (w.params.followText "comprehension-iter-twice") (w.params.followText "for-iterable-display-folded") = w := by
  unfold wset
  rw [fset_self]
end Mine
end
-- part Sd1
section
set_option maxRecDepth 100000
namespace Mine
open PySem PySem.Spec PySem.Calls PyProof.Rows PySem.W PySem.W.X

theorem frames_le_weight (c : Code) : c.frames ≤ c.weight := by unfold Code.weight; omega
theorem cUnits_le (c : Code) : c.cUnits ≤ 1 + 3 * c.frames := by
  unfold Code.cUnits
  split <;> omega
theorem mwt_weight (c : Code) : c.weight ≤ mwt c := by
  unfold mwt weightZ
  rw [← PySem.W.ZFast.ze1243936422450756474]; omega
theorem mwt_units (c : Code) : c.cUnits ≤ mwt c := by
  unfold mwt weightZ
  rw [← PySem.W.ZFast.ze1243936422450756474]
  have := cUnits_le c
  have := frames_le_weight c
  omega
theorem fwt_frames : ∀ fs : List PySem.Frame, frameCount (fs.map Frame.where_) ≤ fwt fs
  | [] => Nat.le_refl _
  | .ret _ _ _ _ c p _ :: fs => by
    show frameCount ((c, p) :: fs.map Frame.where_) ≤ mwt c + fwt fs
    rw [frameCount_cons]
    have := fwt_frames fs
    have := mwt_weight c
    omega
  | .gen _ _ _ c p :: fs => by
    show frameCount ((c, p) :: fs.map Frame.where_) ≤ mwt c + fwt fs
    rw [frameCount_cons]
    have := fwt_frames fs
    have := mwt_weight c
    omega
theorem fwt_units : ∀ fs : List PySem.Frame, unitsOf (fs.map Frame.where_) ≤ fwt fs
  | [] => Nat.le_refl _
  | .ret _ _ _ _ c p _ :: fs => by
    show unitsOf ((c, p) :: fs.map Frame.where_) ≤ mwt c + fwt fs
    rw [unitsOf_cons]
    have := fwt_units fs
    have := mwt_units c
    omega
  | .gen _ _ _ c p :: fs => by
    show unitsOf ((c, p) :: fs.map Frame.where_) ≤ mwt c + fwt fs
    rw [unitsOf_cons]
    have := fwt_units fs
    have := mwt_units c
    omega
theorem fno_marks : ∀ (fs : List PySem.Frame), fno fs = true → ∀ x : Option Value × Option Value, x.1 = none → (marksOver fs x).1 = none
  | [], _, x, h => h
  | .ret _ none _ _ _ _ _ :: fs, hf, x, h => by
    have q := fno_marks fs hf x h
    unfold marksOver at q ⊢
    rw [List.foldr_cons]
    exact q
  | .ret _ (some _) _ _ _ _ _ :: _, hf, _, _ => by cases hf
  | .gen .. :: _, hf, _, _ => by cases hf
theorem around_low {V : XV} (hh : V.A₀.handled = none) : ∀ (κ : Kont) (b : Bool), kno κ = true → (aroundOf V b κ).handled = none ∧ (aroundOf V b κ).depth ≤ V.A₀.depth + kwt κ ∧ (aroundOf V b κ).units ≤ V.A₀.units + kwt κ
  | .base, b, _ => by cases b <;> exact ⟨hh, Nat.le_add_right .., Nat.le_add_right ..⟩
  | .ret c none k κ, b, hk => by
    cases b with
    | false => exact ⟨hh, Nat.le_add_right .., Nat.le_add_right ..⟩
    | true =>
      obtain ⟨h1, h2, h3⟩ := around_low hh κ true hk
      have := mwt_weight c
      have := mwt_units c
      refine ⟨h1, ?_, ?_⟩
      · show (aroundOf V true κ).depth + c.weight ≤ V.A₀.depth + (mwt c + kwt κ); omega
      · show (aroundOf V true κ).units + c.cUnits ≤ V.A₀.units + (mwt c + kwt κ); omega
  | .ret _ (some _) _ _, _, hk => by cases hk
  | .gen g c k κ, b, hk => by
    cases b with
    | true => exact ⟨hh, Nat.le_add_right .., Nat.le_add_right ..⟩
    | false =>
      obtain ⟨h1, h2, h3⟩ := around_low hh κ true hk
      have := mwt_weight c
      have := mwt_units c
      refine ⟨h1, ?_, ?_⟩
      · show (aroundOf V true κ).depth + c.weight ≤ V.A₀.depth + (mwt c + kwt κ); omega
      · show (aroundOf V true κ).units + c.cUnits ≤ V.A₀.units + (mwt c + kwt κ); omega
  | .genS g c fs k κ, b, hk => by
    cases b with
    | true => exact ⟨hh, Nat.le_add_right .., Nat.le_add_right ..⟩
    | false =>
      have hk' : fno fs = true ∧ kno κ = true := by
        have : (fno fs && kno κ) = true := hk
        exact Bool.and_eq_true_iff.mp this
      obtain ⟨h1, h2, h3⟩ := around_low hh κ false hk'.2
      have := mwt_weight c
      have := mwt_units c
      have := fwt_frames fs
      have := fwt_units fs
      refine ⟨fno_marks fs hk'.1 _ h1, ?_, ?_⟩
      · show (aroundOf V false κ).depth + frameCount (fs.map Frame.where_) + c.weight ≤ V.A₀.depth + (mwt c + fwt fs + kwt κ); omega
      · show (aroundOf V false κ).units + unitsOf (fs.map Frame.where_) + c.cUnits ≤ V.A₀.units + (mwt c + fwt fs + kwt κ); omega

/-- what holds of a view: the old heap's written part, no exception handled, room -/
structure Good (V : XV) : Prop where
  kt : ∀ a o, V.kt.get a = some o → V.h₀.get? a = some o
  hh : V.A₀.handled = none
  dp : V.A₀.depth ≤ 670
  un : V.A₀.units ≤ 8000
noncomputable def Mn (V : XV) (s : St) : Prop := ∀ h gens, Led V.h₀ h s.chg s.L s.N → Gen gens s.GL s.G → Means V s.c s.md s.κ s.t ⟨h, gens, V.d, V.t₀ + s.i, V.os⟩

/-- the around of a command at hand -/
noncomputable def hereA (V : XV) (c : Code) (md : Option (List PySem.Frame)) (κ : Kont) : Around := match md with
  | none => (aroundOf V true κ).under c
  | some fs => (aroundOf V false κ).over c fs
theorem here_low {V : XV} (O : Good V) (c : Code) (md : Option (List PySem.Frame)) (κ : Kont) (hs : sno md κ = true) : (hereA V c md κ).handled = none ∧ (hereA V c md κ).depth ≤ V.A₀.depth + swt c md κ ∧ (hereA V c md κ).units ≤ V.A₀.units + swt c md κ := by
  have hw := mwt_weight c
  have hu := mwt_units c
  cases md with
  | none =>
    obtain ⟨h1, h2, h3⟩ := around_low O.hh κ true hs
    refine ⟨h1, ?_, ?_⟩
    · show (aroundOf V true κ).depth + c.weight ≤ V.A₀.depth + (mwt c + kwt κ); omega
    · show (aroundOf V true κ).units + c.cUnits ≤ V.A₀.units + (mwt c + kwt κ); omega
  | some fs =>
    have hk' : fno fs = true ∧ kno κ = true := by
      have : (fno fs && kno κ) = true := hs
      exact Bool.and_eq_true_iff.mp this
    obtain ⟨h1, h2, h3⟩ := around_low O.hh κ false hk'.2
    have := fwt_frames fs
    have := fwt_units fs
    refine ⟨fno_marks fs hk'.1 _ h1, ?_, ?_⟩
    · show (aroundOf V false κ).depth + frameCount (fs.map Frame.where_) + c.weight ≤ V.A₀.depth + (mwt c + fwt fs + kwt κ); omega
    · show (aroundOf V false κ).units + unitsOf (fs.map Frame.where_) + c.cUnits ≤ V.A₀.units + (mwt c + fwt fs + kwt κ); omega

/-- a command ahead of the rest, in both modes -/
theorem means_cmd {α : Type} {V : XV} {c : Code} {md : Option (List PySem.Frame)} {κ : Kont} {m : Sem α} {k : α → Sem Fin} {s : Shared}
    (h : wpAny (model V.prog V.w) (hereA V c md κ) m (fun a s' => Means V c md κ (k a) s') (fun x s' => Means V c md κ (.raise x) s') s) : Means V c md κ (m.bind k) s := by
  cases md with
  | none =>
    refine wpOwn_bind (m := m) (f := k) ?_
    intro Γ p hc hΓ
    refine Sem.wp_mono _ Γ m (fun _ _ _ h' => h') (fun e p' s' h' => ?_) p s (h Γ p (hc ▸ hΓ.in))
    exact h' Γ p' hc hΓ
  | some fs =>
    have e : m.bind k = m.wrap k .raise id id := Sem.bind_eq_wrap' ..
    show SegX _ _ _ (m.bind k) fs s _
    rw [e]
    exact s_cmd _ _ _ _ _ _ h

theorem kt_get {V : XV} (O : Good V) {h : Heap} {chg L : Lg} {N : Nat} (D : Led V.h₀ h chg L N) {a : Addr} {o : Obj} (e : V.kt.get a = some o) (q : solid o = true) : h.get? a = some o := by
  exact D.keep (O.kt a o e) q

theorem wake_ok {V : XV} {e : End} {κ : Kont} {x y : Cf} (H : wakeO e κ x = .ok y) (hob : ∀ o ∈ y.obs, o.Holds) (hy : Mn V y.s) (hb : e.genState.bare = true)
    {h : Heap} {gens : Array GenState} (D : Led V.h₀ h x.s.chg x.s.L x.s.N) (DG : Gen gens x.s.GL x.s.G) : wakeOf V κ e ⟨h, gens, V.d, V.t₀ + x.s.i, V.os⟩ := by
  cases κ with
  | base => cases H
  | ret => cases H
  | gen g c k κ =>
    unfold wakeO popO at H
    dsimp only at H
    split at H
    · cases H
    · rename_i n orc _
      split at H
      · rename_i g' gs hg
        cases H
        have eg : g = g' := hob (.n g g') (.head _)
        subst eg
        exact hy h _ D (DG.set hg hb)
      · cases H
  | genS g c fs k κ =>
    unfold wakeO popO at H
    dsimp only at H
    split at H
    · cases H
    · rename_i n orc _
      split at H
      · rename_i g' gs hg
        cases H
        have eg : g = g' := hob (.n g g') (.head _)
        subst eg
        exact hy h _ D (DG.set hg hb)
      · cases H
theorem ret_ok {V : XV} {r : Result} {x y : Cf} (ht : x.s.t = leafOf r) (H : retO r x = .ok y) (hob : ∀ o ∈ y.obs, o.Holds) (hy : Mn V y.s) : Mn V x.s := by
  intro h gens D DG
  unfold retO at H
  split at H
  · rename_i hmd
    split at H
    · rename_i c hd k κ hκ
      cases H
      have key : endOf V x.s.κ r ⟨h, gens, V.d, V.t₀ + x.s.i, V.os⟩ := by
        rw [hκ]; exact hy h gens D DG
      rw [hmd, ht]
      cases r with
      | ok f => exact y_pure _ _ _ _ _ _ _ _ _ (y_done _ _ _ _ _ _ key)
      | error e => exact y_raise _ _ _ _ _ _ _ _ _ (y_err _ _ _ key)
    · cases H
  · rename_i fs hmd
    rw [hmd]
    split at H
    · exact s_end _ _ _ _ _ _ r x.s.t ht (wake_ok H hob hy rfl D DG)
    · rename_i f fs
      split at H
      · rename_i k hd g l c₁ p₁ kp
        cases H
        exact s_pop _ _ _ _ _ _ _ r x.s.t ht k hd g l c₁ p₁ kp (hy h gens D DG)
      · cases H
end Mine
end
-- part Sd2
section
set_option maxRecDepth 100000
namespace Mine
open PySem PySem.Spec PySem.Calls PyProof.Rows PySem.W PySem.W.X

/-- what t' does, t does, where there is room -/
noncomputable def Sub {α : Type} (M : Model) (A : Around) (t' t : Sem α) : Prop := ∀ (Γ : PySem.Ctx) (p : Pos) (s : Shared) (Q : α → Pos → Shared → Prop) (E : Value → Pos → Shared → Prop), Γ.In A → Sem.wp M Γ t' Q E p s → Sem.wp M Γ t Q E p s
theorem Sub.refl {α : Type} {M : Model} {A : Around} (t : Sem α) : Sub M A t t := fun _ _ _ _ _ _ h => h
theorem Sub.bind {α β : Type} {M : Model} {A : Around} {m' m : Sem α} {f' f : α → Sem β} (h : Sub M A m' m) (hf : ∀ a, Sub M A (f' a) (f a)) : Sub M A (m'.bind f') (m.bind f) := by
  intro Γ p s Q E hΓ x
  rw [Sem.wp_bind] at x ⊢
  exact h Γ p s _ E hΓ (Sem.wp_mono M Γ m' (fun a p' s' y => hf a Γ p' s' Q E hΓ y) (fun _ _ _ y => y) p s x)
theorem Sub.load {α : Type} {M : Model} {A : Around} {a : Addr} {q : Option Value} {f' f : Obj → Sem α} (hf : ∀ o, Sub M A (f' o) (f o)) : Sub M A (.load a q f') (.load a q f) := by
  intro Γ p s Q E hΓ x
  rw [Sem.wp_load] at x ⊢
  obtain ⟨o, ho, x⟩ := x
  exact ⟨o, ho, hf o Γ p s Q E hΓ x⟩
theorem Sub.none {α : Type} {M : Model} {A : Around} {w : String} (t : Sem α) : Sub M A (.unsupported w) t := fun _ _ _ _ _ _ h => by
  rw [Sem.wp_unsupported] at h; exact h.elim
theorem sub_enter {M : Model} {A : Around} (hd : A.depth < recursionLimit) : Sub M A enterL (enterFrame 0) := by
  intro Γ p s Q E hΓ x
  have hsum : ((((Γ.code, p) :: Γ.below).map (·.1)).map (·.frames)).sum + ((((Γ.code, p) :: Γ.below).map (·.1)).filter Code.isCreation).length < recursionLimit := by
    have hge := frameCount_ge ((Γ.code, p) :: Γ.below)
    rw [frameCount_cons] at hge
    have := hΓ.2.1
    omega
  have hlt : ¬ ((((Γ.code, p) :: Γ.below).map (·.1)).map (·.frames)).sum ≥ recursionLimit := by omega
  have hlt' : ¬ ((((Γ.code, p) :: Γ.below).map (·.1)).map (·.frames)).sum + ((((Γ.code, p) :: Γ.below).map (·.1)).filter Code.isCreation).length ≥ recursionLimit := by omega
  unfold enterL at x
  rw [Sem.wp_bind] at x
  simp only [enterFrame, Sem.wp_bind']
  show Sem.wp M Γ currentRecursionLimit _ _ p s
  refine Sem.wp_mono M Γ _ (fun limit p' s' y => ?_) (fun _ _ _ y => y) p s x
  cases hb : Nat.beq limit recursionLimit with
  | false => rw [hb] at y; exact (by simpa using y : False).elim
  | true =>
    rw [hb] at y
    have hl := Nat.eq_of_beq_eq_true hb
    subst hl
    show Sem.wp M Γ (if nearTheLimitUnderAClaim (((Γ.code, p) :: Γ.below).map (·.1)) (((((Γ.code, p) :: Γ.below).map (·.1)).map (·.frames)).sum + ((((Γ.code, p) :: Γ.below).map (·.1)).filter Code.isCreation).length) recursionLimit = true then _ else _) _ _ p' s'
    rw [if_neg (by rw [not_nearTheLimit hΓ hd]; exact Bool.false_ne_true)]
    show Sem.wp M Γ (if ((((Γ.code, p) :: Γ.below).map (·.1)).map (·.frames)).sum ≥ recursionLimit then _ else _) _ _ p' s'
    rw [if_neg hlt]
    show Sem.wp M Γ (if ((((Γ.code, p) :: Γ.below).map (·.1)).map (·.frames)).sum + ((((Γ.code, p) :: Γ.below).map (·.1)).filter Code.isCreation).length ≥ recursionLimit then _ else _) _ _ p' s'
    rw [if_neg hlt']; exact y
theorem sub_at {M : Model} {A : Around} {R J : Str → Sem Fin} (h : ∀ c, Sub M A (R c) (J c)) (q : Str) : ∀ v : Value, Sub M A (match v with | .str q _ => R q | _ => R q) (match v with | .str q _ => (pure q : Sem Str) >>= J | _ => (pure q : Sem Str) >>= J)
  | .str _ _ => h _
  | .none | .ellipsis | .notImplemented | .bool _ | .int _ _ | .float _ _ | .bytes _ _ | .type _ | .builtin _ | .ref _ => h q
theorem sub_code {M : Model} {A : Around} {R J : Str → Sem Fin} (h : ∀ c, Sub M A (R c) (J c)) (q : Str) (c : Value) : Sub M A (match c with | .none => R q | c => Sem.bind (field c 1) fun v => match v with | .str q _ => R q | _ => R q)
    (match c with | .none => (pure q : Sem Str) >>= J | c => field c 1 >>= fun v => match v with | .str q _ => (pure q : Sem Str) >>= J | _ => (pure q : Sem Str) >>= J) := by
  cases c with
  | none => exact h q
  | _ => exact Sub.bind (Sub.refl _) (sub_at h q)
theorem sub_callFn {M : Model} {A : Around} (hd : A.depth < recursionLimit) (self : Addr) (fd : FuncData) (args : Args) : Sub M A (callFnA self fd args) (callFunction self fd args) := by
  unfold callFunction callFnA
  refine sub_code (R := restA self fd args) (fun c => ?_) fd.qualname fd.code
  obtain ⟨name, qualname, params, body, ⟨skind, snames, isGen, isCo, smore⟩, globals, closure, defaults, kwdefaults, doc, pyModule, annotations, code, closureTuple, builtins⟩ := fd
  refine Sub.bind (Sub.refl _) fun binds => Sub.bind (Sub.refl _) fun env => Sub.bind (sub_enter hd) fun _ => ?_
  cases isGen <;> cases isCo <;> first
    | exact Sub.none _
    | (cases body <;> exact Sub.refl _)
theorem sub_fn {M : Model} {A : Around} (hd : A.depth < recursionLimit) (c : Code) : Sub M A (fnA c) (denote table c) := by
  unfold fnA
  split
  · rename_i a args
    show Sub M A _ (callAny (.ref a) args)
    simp only [callAny]
    refine Sub.load fun o => ?_
    show Sub M A _ (Sem.bind (Sem.pure o) _)
    show Sub M A (match o.data with | .func fd => callFnZ a fd args | _ => .unsupported "alt") (match o.data with | .func fd => callFunction a fd args | .fields vs => _ | _ => _)
    cases hdt : o.data with
    | func fd => rw [← callFnZ_eq]; exact sub_callFn hd a fd args
    | _ => exact Sub.none _
  · exact Sub.none _
theorem sub_room {M : Model} {A : Around} (hd : A.depth < recursionLimit) : Sub M A enterL roomToWake := by
  intro Γ p s Q E hΓ x
  have hlt' : ¬ ((((Γ.code, p) :: Γ.below).map (·.1)).map (·.frames)).sum + ((((Γ.code, p) :: Γ.below).map (·.1)).filter Code.isCreation).length ≥ recursionLimit := by
    have hge := frameCount_ge ((Γ.code, p) :: Γ.below)
    rw [frameCount_cons] at hge
    have := hΓ.2.1
    omega
  unfold enterL at x
  rw [Sem.wp_bind] at x
  simp only [roomToWake, Sem.wp_bind']
  show Sem.wp M Γ currentRecursionLimit _ _ p s
  refine Sem.wp_mono M Γ _ (fun limit p' s' y => ?_) (fun _ _ _ y => y) p s x
  cases hb : Nat.beq limit recursionLimit with
  | false => rw [hb] at y; exact (by simpa using y : False).elim
  | true =>
    rw [hb] at y
    have hl := Nat.eq_of_beq_eq_true hb
    subst hl
    show Sem.wp M Γ (if nearTheLimitUnderAClaim (((Γ.code, p) :: Γ.below).map (·.1)) (((((Γ.code, p) :: Γ.below).map (·.1)).map (·.frames)).sum + ((((Γ.code, p) :: Γ.below).map (·.1)).filter Code.isCreation).length) recursionLimit = true then _ else _) _ _ p' s'
    rw [if_neg (by rw [not_nearTheLimit hΓ hd]; exact Bool.false_ne_true)]
    show Sem.wp M Γ (if ((((Γ.code, p) :: Γ.below).map (·.1)).map (·.frames)).sum + ((((Γ.code, p) :: Γ.below).map (·.1)).filter Code.isCreation).length ≥ recursionLimit then _ else _) _ _ p' s'
    rw [if_neg hlt']; exact y
theorem eqLit_is {id : String} (h : S.eqLit 8395602706694450420893107072773897535317608 id = true) : id = "generator.__next__" := by
  have e := congrFun (S.eqLit_eq "generator.__next__" 8395602706694450420893107072773897535317608 (by decide +kernel)) id
  rw [h] at e
  exact eq_of_beq e
theorem den_of {tb : String → Option Builtin} {id : String} {b : Builtin} {args : Args} (h : entryFor tb id = some b) : denote tb (.builtin id args) = b args := by
  unfold denote
  simp only [h]
theorem den_gn (g : Value) : denote table (.builtin "generator.__next__" ⟨[g], []⟩) = Builtin.«generator.__next__» ⟨[g], []⟩ := den_of entry_gen_next
theorem sub_gn {M : Model} {A : Around} (hd : A.depth < recursionLimit) (c : Code) : Sub M A (gnA c) (denote table c) := by
  unfold gnA
  split
  · rename_i id g
    split
    · exact Sub.none _
    · rename_i hid
      rw [eqLit_is hid]
      rw [den_gn]
      show Sub M A _ (Builtin.Generator.genWake g (.send .none))
      rw [← R.bindR_eq, ← enterLZ_eq, ← PySem.W.ZFast.ze12255447999362386569, ← PySem.W.ZFast.ze11364817496384490316, ← PySem.W.ZFast.ze17609497360097468838]
      refine Sub.bind (Sub.refl _) fun n => Sub.bind (Sub.refl _) fun b => ?_
      cases b with
      | fresh =>
        refine Sub.bind (sub_room hd) fun _ => Sub.bind (Sub.refl _) fun r => ?_
        cases r with
        | yielded v => exact Sub.refl _
        | returned v =>
          cases v with
          | none => exact Sub.bind (Sub.refl _) fun e => Sub.bind (Sub.refl _) fun _ => Sub.none _
          | _ => exact Sub.none _
        | _ => exact Sub.none _
      | suspended =>
        refine Sub.bind (sub_room hd) fun _ => Sub.bind (Sub.refl _) fun r => ?_
        cases r with
        | yielded v => exact Sub.refl _
        | returned v =>
          cases v with
          | none => exact Sub.bind (Sub.refl _) fun e => Sub.bind (Sub.refl _) fun _ => Sub.none _
          | _ => exact Sub.none _
        | _ => exact Sub.none _
      | _ => exact Sub.none _
  · exact Sub.none _
theorem means_gn {V : XV} {c : Code} {κ : Kont} {s : Shared} (hd : (hereA V c none κ).depth < recursionLimit) (h : Means V c none κ (gnA c) s) : Means V c none κ (denote table c) s := by
  intro Γ p hc hΓ
  exact sub_gn hd c Γ p s _ _ (hc ▸ hΓ.in) (h Γ p hc hΓ)
theorem means_fn {V : XV} {c : Code} {κ : Kont} {s : Shared} (hd : (hereA V c none κ).depth < recursionLimit) (h : Means V c none κ (fnA c) s) : Means V c none κ (denote table c) s := by
  intro Γ p hc hΓ
  exact sub_fn hd c Γ p s _ _ (hc ▸ hΓ.in) (h Γ p hc hΓ)
end Mine
end
-- part Rm
section
set_option maxRecDepth 100000
namespace Mine
open PySem PySem.Spec PySem.Calls PyProof.Rows PySem.W PySem.W.X
section
variable {α β : Type} {M : Model} {A : Around}
theorem Sub.holding {vs : List Value} {m' m : Sem α} (h : Sub M A m' m) : Sub M A (PySem.holding vs m') (PySem.holding vs m) := by
  intro Γ p s Q E hΓ x
  rw [Sem.wp_holding] at x ⊢
  exact h Γ p s Q E hΓ x
theorem Sub.onRaise {m' m : Sem α} {f : Value → Sem Unit} (h : Sub M A m' m) : Sub M A (m'.onRaise f) (m.onRaise f) := by
  intro Γ p s Q E hΓ x
  rw [Sem.wp_onRaise] at x ⊢
  exact h Γ p s Q _ hΓ x
theorem Sub.room {what : String} {vs : List Value} {t' : Sem α} {f : Unit → Sem α} (hu : A.units < cLine) (h : Sub M A t' (f ())) : Sub M A t' ((cRoomFor what vs).bind f) := by
  intro Γ p s Q E hΓ x
  rw [Sem.wp_bind]
  exact Sem.wp_cRoomFor what vs (Nat.lt_of_le_of_lt hΓ.2.2.2.2 hu) (h Γ p s Q E hΓ x)
end
theorem ev_cmp (left : PySem.Expr) (ops : List CmpOp) (cs : List PySem.Expr) (pos : Pos) (env : PySem.Env) : eval (.Compare left ops cs pos) env = Sem.bind (eval left env) fun l => compareChain pos l ops (markedEach ops cs (evalEach cs env)) := rfl
theorem tr_cmp (left : PySem.Expr) (ops : List CmpOp) (cs : List PySem.Expr) (pos : Pos) (env : PySem.Env) (w : Sem Value) : isTrue (.Compare left ops cs pos) env w = Sem.bind (eval left env) fun l => testChain pos l ops (markedEach ops cs (evalEach cs env)) := rfl
theorem ev_if (test body orelse : PySem.Expr) (pos : Pos) (env : PySem.Env) : eval (.IfExp test body orelse pos) env = Sem.bind (isTrue test env (eval test env)) fun b => if b = true then eval body env else eval orelse env := rfl
theorem sub_rich {M : Model} {A : Around} (hu : A.units < cLine) (op : CmpOp) (x y : Addr) : Sub M A (richL op (.ref x) (.ref y)) (richCompare op (.ref x) (.ref y)) := by
  unfold richL richCompare
  refine Sub.holding (Sub.room hu ?_)
  show Sub M A _ (Sem.bind (typeOf (.ref x)) fun ta => Sem.bind (typeOf (.ref y)) fun tb => _)
  refine Sub.bind (Sub.refl _) fun ta => Sub.bind (Sub.refl _) fun tb => ?_
  cases h : (ta != tb) with
  | true => exact Sub.none _
  | false =>
    rw [if_neg Bool.false_ne_true]
    show Sub M A _ (Sem.bind (tryCompare (.ref x) (cmpInfo op).2.1 (.ref y)) _)
    refine Sub.bind (Sub.refl _) fun r => ?_
    cases r with
    | some v => exact Sub.refl _
    | none => exact Sub.none _
theorem sub_cmp {M : Model} {A : Around} (hu : A.units < cLine) (op : CmpOp) (a b : Value) : Sub M A (cmpL op a b) (compareOp op a b) := by
  unfold cmpL
  split
  · split
    · exact sub_rich hu _ _ _
    · exact sub_rich hu _ _ _
    · exact Sub.none _
  · exact Sub.none _
theorem sub_op {M : Model} {A : Around} (hu : A.units < cLine) (op : CmpOp) (a b : Value) : Sub M A (opL op a b) (operate [a, b] (compareOp op a b)) :=
  Sub.bind (Sub.holding (sub_cmp hu op a b)) fun _ => Sub.refl _
theorem sub_test {M : Model} {A : Around} (hu : A.units < cLine) (e : PySem.Expr) (env : PySem.Env) : Sub M A (testL e env) (isTrue e env (eval e env)) := by
  unfold testL
  split
  · rename_i left ops cs pos
    rw [tr_cmp]
    refine Sub.bind (Sub.refl _) fun l => ?_
    split
    · rename_i op r hm
      rw [hm]
      show Sub M A _ (Sem.bind (PySem.holding [l] r) fun rv => Sem.bind (standAt pos) fun _ => Sem.bind (operate [l, rv] (compareOp op l rv)) fun c => PySem.holding [c] (truthy c))
      exact Sub.bind (Sub.refl _) fun rv => Sub.bind (Sub.refl _) fun _ => Sub.bind (sub_op hu op l rv) fun c => Sub.refl _
    · exact Sub.none _
  · exact Sub.none _
theorem sub_expr {M : Model} {A : Around} (hu : A.units < cLine) (c : Code) : Sub M A (exprL c) (denote table c) := by
  unfold exprL
  split
  · rename_i e env
    split
    · rename_i test body orelse pos
      show Sub M A _ (Sem.bind point fun _ => Sem.bind (Sem.onRaise (eval (.IfExp test body orelse pos) env) (leaving env)) fun v => ret v)
      refine Sub.bind (Sub.refl _) fun _ => Sub.bind (Sub.onRaise ?_) fun v => Sub.refl _
      rw [ev_if]
      refine Sub.bind (sub_test hu test env) fun b => ?_
      cases b <;> exact Sub.refl _
    · exact Sub.none _
  · exact Sub.none _
theorem sub_while {M : Model} {A : Around} (hu : A.units < cLine) (c : Code) : Sub M A (whileL c) (denote table c) := by
  unfold whileL
  split
  · rename_i test body orelse env
    show Sub M A _ ((whileTurn test body orelse env).onRaise (fun x => Sem.bind (noteFrame x env) fun _ => theTreesLotGoes x))
    refine Sub.onRaise ?_
    unfold whileTurn
    refine Sub.bind (sub_test hu test env) fun b => ?_
    cases b with
    | true =>
      refine Sub.bind (Sub.refl _) fun f => ?_
      cases f <;> exact Sub.refl _
    | false => exact Sub.refl _
  · exact Sub.none _
theorem sub_rm {M : Model} {A : Around} (hu : A.units < cLine) (c : Code) : Sub M A (rmZ c) (denote table c) := by
  unfold rmZ
  split
  · rw [← exprZ_eq]; exact sub_expr hu _
  · rw [← whileZ_eq]; exact sub_while hu _
  · exact Sub.none _
theorem means_rm {V : XV} {c : Code} {κ : Kont} {s : Shared} (hu : (hereA V c none κ).units < cLine) (h : Means V c none κ (rmZ c) s) : Means V c none κ (denote table c) s := by
  intro Γ p hc hΓ
  exact sub_rm hu c Γ p s _ _ (hc ▸ hΓ.in) (h Γ p hc hΓ)
theorem units_low {V : XV} : ∀ (κ : Kont) (b : Bool), (aroundOf V b κ).units ≤ V.A₀.units + kwt κ
  | .base, b => by cases b <;> exact Nat.le_add_right ..
  | .ret c hd k κ, b => by
    cases b with
    | false => exact Nat.le_add_right ..
    | true =>
      have h2 := units_low (V := V) κ true
      have := mwt_units c
      show (aroundOf V true κ).units + c.cUnits ≤ V.A₀.units + (mwt c + kwt κ); omega
  | .gen g c k κ, b => by
    cases b with
    | true => exact Nat.le_add_right ..
    | false =>
      have h2 := units_low (V := V) κ true
      have := mwt_units c
      show (aroundOf V true κ).units + c.cUnits ≤ V.A₀.units + (mwt c + kwt κ); omega
  | .genS g c fs k κ, b => by
    cases b with
    | true => exact Nat.le_add_right ..
    | false =>
      have h2 := units_low (V := V) κ false
      have := mwt_units c
      have := fwt_units fs
      show (aroundOf V false κ).units + unitsOf (fs.map Frame.where_) + c.cUnits ≤ V.A₀.units + (mwt c + fwt fs + kwt κ); omega
end Mine
end
-- part Sd3
section
set_option maxRecDepth 100000
namespace Mine
open PySem PySem.Spec PySem.Calls PyProof.Rows PySem.W PySem.W.X

theorem depth_low {V : XV} : ∀ (κ : Kont) (b : Bool), (aroundOf V b κ).depth ≤ V.A₀.depth + kwt κ
  | .base, b => by cases b <;> exact Nat.le_add_right ..
  | .ret c hd k κ, b => by
    cases b with
    | false => exact Nat.le_add_right ..
    | true =>
      have h2 := depth_low (V := V) κ true
      have := mwt_weight c
      show (aroundOf V true κ).depth + c.weight ≤ V.A₀.depth + (mwt c + kwt κ); omega
  | .gen g c k κ, b => by
    cases b with
    | true => exact Nat.le_add_right ..
    | false =>
      have h2 := depth_low (V := V) κ true
      have := mwt_weight c
      show (aroundOf V true κ).depth + c.weight ≤ V.A₀.depth + (mwt c + kwt κ); omega
  | .genS g c fs k κ, b => by
    cases b with
    | true => exact Nat.le_add_right ..
    | false =>
      have h2 := depth_low (V := V) κ false
      have := mwt_weight c
      have := fwt_frames fs
      show (aroundOf V false κ).depth + frameCount (fs.map Frame.where_) + c.weight ≤ V.A₀.depth + (mwt c + fwt fs + kwt κ); omega
theorem start_room {V : XV} (O : Good V) {c : Code} {κ : Kont} (hle : Nat.ble (mwt c + kwt κ) 300 = true) : (hereA V c none κ).depth < recursionLimit := by
  have h1 := Nat.le_of_ble_eq_true hle
  have h2 := depth_low (V := V) κ true
  have := mwt_weight c
  have := O.dp
  show (aroundOf V true κ).depth + c.weight < 1000
  omega
theorem start_units {V : XV} (O : Good V) {c : Code} {κ : Kont} (hle : Nat.ble (mwt c + kwt κ) 300 = true) : (hereA V c none κ).units < cLine := by
  have h1 := Nat.le_of_ble_eq_true hle
  have h2 := units_low (V := V) κ true
  have := mwt_units c
  have := O.un
  show (aroundOf V true κ).units + c.cUnits < 9900
  omega
theorem pop_ok {orc : List Nat} {k : Nat → List Nat → Out} {y : Cf} (H : popO orc k = .ok y) : ∃ n r, orc = n :: r ∧ k n r = .ok y := by
  cases orc with
  | nil => cases H
  | cons n r => exact ⟨n, r, rfl, H⟩
theorem start_ok {V : XV} (O : Good V) {c' : Code} {md : Option (List PySem.Frame)} {κ : Kont} {x y : Cf} (H : startO c' md κ x = .ok y) (hy : Mn V y.s)
    {h : Heap} {gens : Array GenState} (D : Led V.h₀ h x.s.chg x.s.L x.s.N) (DG : Gen gens x.s.GL x.s.G) : Means V c' md κ (denote table c') ⟨h, gens, V.d, V.t₀ + x.s.i, V.os⟩ := by
  obtain ⟨n, orc, _, H⟩ := pop_ok H
  match n, H with
  | 0, H =>
    cases H
    have := hy h gens D DG
    rw [denZ_eq]; exact this
  | 1, H =>
    cases md with
    | some _ => cases H
    | none =>
      dsimp only at H
      cases hle : Nat.ble (mwt c' + kwt κ) 300 with
      | false => rw [hle] at H; cases H
      | true =>
        rw [hle] at H
        cases H
        exact means_fn (start_room O hle) (hy h gens D DG)
  | 2, H =>
    cases md with
    | some _ => cases H
    | none =>
      dsimp only at H
      cases hle : Nat.ble (mwt c' + kwt κ) 300 with
      | false => rw [hle] at H; cases H
      | true =>
        rw [hle] at H
        cases H
        exact means_gn (start_room O hle) (hy h gens D DG)
  | 3, H =>
    cases md with
    | some _ => cases H
    | none =>
      dsimp only at H
      cases hle : Nat.ble (mwt c' + kwt κ) 300 with
      | false => rw [hle] at H; cases H
      | true =>
        rw [hle] at H
        cases H
        exact means_rm (start_units O hle) (hy h gens D DG)
  | n + 4, H => cases H
theorem code_means {V : XV} {c c' : Code} {md : Option (List PySem.Frame)} {κ : Kont} {g : Bool} {l : List Value} {k : Result → Sem Fin} {s : Shared}
    (x : codeAny (model V.prog V.w) (hereA V c md κ) c' (fun r s' => Means V c md κ (k r) s') s) : Means V c md κ (.call c' none g l k) s := by
  cases md with
  | none =>
    refine y_call _ _ _ _ _ _ _ _ _ _ _ _ _ (by intro h; cases h) ?_
    exact x
  | some fs =>
    have e : (.call c' none g l k : Sem Fin) = (Sem.call c' none g l Sem.pure : Sem Result).wrap k .raise id id := rfl
    show SegX _ _ _ (.call c' none g l k) fs s _
    rw [e]
    refine s_cmd _ _ _ _ _ _ ?_
    refine y_start _ _ _ _ _ _ _ _ _ _ _ _ (by intro h; cases h) ?_
    exact codeAny_mono x fun r s' h' => wpAny_pure h'
theorem call_ok {V : XV} (O : Good V) {sp : List (Spc V)} {c' : Code} {hd : Option Value} {g : Bool} {l : List Value} {k : Result → Sem Fin} {x : Cf} (ht : x.s.t = .call c' hd g l k)
    (H : ∀ p, ∃ y, callO V sp p c' hd g l k x = .ok y ∧ (∀ o ∈ y.obs, o.Holds) ∧ Mn V y.s) : Mn V x.s := by
  intro h gens D DG
  rw [ht]
  cases hd with
  | some _ => obtain ⟨y, H, _⟩ := H default; cases H
  | none =>
    obtain ⟨n, orc, ho, hn⟩ : ∃ n r, x.orc = n :: r ∧ True := by
      obtain ⟨y, H, _⟩ := H default
      obtain ⟨n, r, e, _⟩ := pop_ok H
      exact ⟨n, r, e, trivial⟩
    by_cases h2 : n < 4
    · have key : ∀ p, ∃ y, (match x.s.md with
          | none => startO c' none (.ret x.s.c none k x.s.κ) x
          | some fs => startO c' (some (.ret k none g l x.s.c p [] :: fs)) x.s.κ x) = .ok y ∧ Mn V y.s := by
        intro p
        obtain ⟨y, H, _, hy⟩ := H p
        refine ⟨y, ?_, hy⟩
        unfold callO popO at H
        rw [ho] at H
        match n, h2, H with
        | 0, _, H => exact H
        | 1, _, H => exact H
        | 2, _, H => exact H
        | 3, _, H => exact H
      cases hmd : x.s.md with
      | none =>
        obtain ⟨y, H, hy⟩ := key default
        rw [hmd] at H
        refine y_call _ _ _ _ _ _ _ _ _ _ _ _ _ (by intro h; cases h) (y_code _ _ _ _ _ _ ?_)
        exact start_ok O H hy D DG
      | some fs =>
        refine s_call _ _ _ _ _ _ _ _ _ _ _ _ fun p => ?_
        obtain ⟨y, H, hy⟩ := key p
        rw [hmd] at H
        exact start_ok O H hy D DG
    · obtain ⟨y, H, hob, hy⟩ := H default
      unfold callO popO at H
      rw [ho] at H
      match n, h2, H with
      | n + 4, _, H =>
        dsimp only at H
        cases hq : sp[n]? with
        | none => rw [hq] at H; cases H
        | some q =>
          rw [hq] at H
          dsimp only at H
          cases hs : sno x.s.md x.s.κ with
          | false => rw [hs] at H; cases H
          | true =>
            rw [hs] at H
            dsimp only at H
            cases hw : Nat.ble (swt x.s.c x.s.md x.s.κ) 300 with
            | false => rw [hw] at H; cases H
            | true =>
              rw [hw] at H
              dsimp only at H
              cases hf : q.fx c' orc x.s.L x.s.N x.s.i with
              | none => rw [hf] at H; cases H
              | some r =>
                obtain ⟨r, L', N', i', obs, orc'⟩ := r
                rw [hf] at H
                cases H
                obtain ⟨l1, l2, l3⟩ := here_low O x.s.c x.s.md x.s.κ hs
                have hle := Nat.le_of_ble_eq_true hw
                have := O.dp
                have := O.un
                refine code_means (q.ok _ _ h gens x.s.chg x.s.L x.s.N x.s.i c' orc r L' N' i' obs orc' l1 (by omega) (by omega) hf (fun o ho => hob o (List.mem_append.mpr (.inl ho))) D ?_)
                intro h' D'
                exact hy h' gens D' DG
theorem room_sub {V : XV} (O : Good V) {c : Code} {md : Option (List PySem.Frame)} {κ : Kont} (hs : sno md κ = true) (hw : Nat.ble (swt c md κ) 300 = true) {st : List (Code × Pos)} (l : Lies (hereA V c md κ) st) : roomOf st = pure () := by
  obtain ⟨_, _, l3⟩ := here_low O c md κ hs
  have hle := Nat.le_of_ble_eq_true hw
  have := O.un
  have hu := l.units
  show (if (st.map (·.1.cUnits)).sum ≥ cLine then (unsupported s!"recursion.c-limit:near:{"comparison"}" : Sem Unit) else pure ()) = pure ()
  rw [if_neg (by show ¬ _ ≥ 9900; omega)]
theorem stack_ok {V : XV} (O : Good V) {x : Cf} {k : List (Code × Pos) → Sem Fin} (ht : x.s.t = .stack k) (hs : sno x.s.md x.s.κ = true) (hw : Nat.ble (swt x.s.c x.s.md x.s.κ) 300 = true)
    (hk : k = fun st => Sem.bind (roomOf st) fun _ => k []) (hy : Mn V { x.s with t := k [] }) : Mn V x.s := by
  intro h gens D DG
  rw [ht]
  have z := hy h gens D DG
  dsimp only at z
  have key : ∀ st, Lies (hereA V x.s.c x.s.md x.s.κ) st → k st = k [] := fun st l => by
    have e : k st = Sem.bind (roomOf st) fun _ => k [] := congrFun hk st
    rw [e, room_sub O hs hw l]; rfl
  cases hmd : x.s.md with
  | none =>
    rw [hmd] at z key
    refine y_stack _ _ _ _ _ _ _ _ _ fun p below l => ?_
    rw [key _ l]; exact z
  | some fs =>
    rw [hmd] at z key
    refine s_stack _ _ _ _ _ _ _ _ fun p below l => ?_
    rw [key _ l]; exact z
theorem step_ok {V : XV} (O : Good V) {sp : List (Spc V)} {x : Cf}
    (H : ∀ p, ∃ y, stepO V sp p x = .ok y ∧ (∀ o ∈ y.obs, o.Holds) ∧ Mn V y.s) : Mn V x.s := by
  obtain ⟨orc₀, obs₀, ⟨c, md, κ, t, chg, L, N, i, GL, G⟩⟩ := x
  cases t with
  | call c' hd g l k =>
    exact call_ok (sp := sp) O rfl fun p => H p
  | yield v gd l k =>
    intro h gens D DG
    cases md with
    | none =>
      obtain ⟨y, H, _⟩ := H default
      cases H
    | some fs =>
      have H' := H
      cases gd with
      | true => obtain ⟨y, H, _⟩ := H' default; cases H
      | false =>
        cases hfs : splitAtGen fs with
        | some _ => obtain ⟨y, H, _⟩ := H' default; dsimp only [stepO] at H; rw [hfs] at H; cases H
        | none =>
          simp only [stepO, hfs] at H'
          cases hfg : fs.any Frame.guarded with
          | true => obtain ⟨y, H, _⟩ := H' default; rw [hfg] at H; cases H
          | false =>
            simp only [hfg] at H'
            refine s_yield _ _ _ _ _ _ _ _ _ _ hfs hfg fun p => ?_
            obtain ⟨y, H, hob, hy⟩ := H' p
            refine wake_ok H hob hy ?_ D DG
            show (!(false || fs.any Frame.guarded)) = true
            rw [hfg]; rfl
  | pure fin =>
    obtain ⟨y, H, hob, hy⟩ := H default
    cases fin with
    | done f => exact ret_ok (r := .ok f) rfl H hob hy
    | again c' =>
      dsimp only [stepO] at H
      cases hq : quietZ c' with
      | false => rw [hq] at H; cases H
      | true =>
        rw [hq] at H
        have hq' : c'.quiet = true := by rw [← hq]; exact congrFun PySem.W.ZFast.ze17772548960776305114 c'
        intro h gens D DG
        have z := start_ok O H hy D DG
        cases md with
        | none => exact y_pure _ _ _ _ _ _ _ _ _ (y_again _ _ _ _ _ _ hq' (y_code _ _ _ _ _ _ z))
        | some fs => exact s_again _ _ _ _ _ _ _ _ hq' z
  | raise e =>
    obtain ⟨y, H, hob, hy⟩ := H default
    exact ret_ok (r := .error e) rfl H hob hy
  | rule tg k =>
    obtain ⟨y, H, hob, hy⟩ := H default
    cases H
    intro h gens D DG
    exact means_cmd (m := rule tg) (k := k) (wpAny_rule (hy h gens D DG))
  | «at» q k =>
    obtain ⟨y, H, hob, hy⟩ := H default
    cases H
    intro h gens D DG
    exact means_cmd (m := standAt q) (k := k) (wpAny_standAt (hy h gens D DG))
  | point l k =>
    obtain ⟨y, H, hob, hy⟩ := H default
    cases H
    intro h gens D DG
    exact means_cmd (m := (.point l .pure : Sem Unit)) (k := k) (fun Γ p _ => by rw [Sem.wp_point]; exact hy h gens D DG)
  | ask k =>
    obtain ⟨y, H, hob, hy⟩ := H default
    cases H
    intro h gens D DG
    exact means_cmd (m := ask) (k := k) (wpAny_askSetting (hy h gens D DG))
  | fresh k =>
    obtain ⟨y, H, hob, hy⟩ := H default
    cases H
    intro h gens D DG
    exact means_cmd (m := fresh) (k := k) (wpAny_fresh (hy h gens D DG))
  | alloc o k =>
    obtain ⟨y, H, hob, hy⟩ := H default
    dsimp only [stepO] at H
    cases hf : o.isFreed with
    | true => rw [hf] at H; cases H
    | false =>
      rw [hf] at H
      cases H
      intro h gens D DG
      refine means_cmd (m := alloc o) (k := k) (wpAny_alloc ?_)
      have := hy (h.push o) gens (D.alloc hf) DG
      show Means V _ _ _ (k h.objs.size) _
      rw [D.size]
      exact this
  | load a q k =>
    obtain ⟨y, H, hob, hy⟩ := H default
    obtain ⟨n, orc, _, H⟩ := pop_ok H
    intro h gens D DG
    match n, H with
    | 0, H =>
      dsimp only at H
      cases hk : V.kt.get a with
      | none => rw [hk] at H; cases H
      | some o =>
        rw [hk] at H
        dsimp only at H
        cases hc : solid o with
        | false => rw [hc] at H; cases H
        | true =>
          rw [hc] at H
          cases H
          exact means_cmd (m := loadPart a q) (k := k) (wpAny_loadPart (kt_get O D hk hc) (hy h gens D DG))
    | n + 1, H =>
      dsimp only at H
      cases hl : L[n]? with
      | none => rw [hl] at H; cases H
      | some r =>
        obtain ⟨b, o⟩ := r
        rw [hl] at H
        cases H
        have eg : a = b := hob (.n a b) (.head _)
        subst eg
        exact means_cmd (m := loadPart a q) (k := k) (wpAny_loadPart (D.at hl) (hy h gens D DG))
  | loadIfAlive a k =>
    obtain ⟨y, H, hob, hy⟩ := H default
    obtain ⟨n, orc, _, H⟩ := pop_ok H
    intro h gens D DG
    match n, H with
    | 0, H =>
      dsimp only at H
      cases hk : V.kt.get a with
      | none => rw [hk] at H; cases H
      | some o =>
        rw [hk] at H
        dsimp only at H
        cases hc : solid o with
        | false => rw [hc] at H; cases H
        | true =>
          rw [hc] at H
          cases H
          refine means_cmd (m := (.loadIfAlive a .pure : Sem (Option Obj))) (k := k) (fun Γ p _ => ?_)
          rw [Sem.wp_loadIfAlive, kt_get O D hk hc]
          exact hy h gens D DG
    | n + 1, H =>
      dsimp only at H
      cases hl : L[n]? with
      | none => rw [hl] at H; cases H
      | some r =>
        obtain ⟨b, o⟩ := r
        rw [hl] at H
        cases H
        have eg : a = b := hob (.n a b) (.head _)
        subst eg
        refine means_cmd (m := (.loadIfAlive a .pure : Sem (Option Obj))) (k := k) (fun Γ p _ => ?_)
        rw [Sem.wp_loadIfAlive, D.at hl]
        exact hy h gens D DG
  | update a q f k =>
    obtain ⟨y, H, hob, hy⟩ := H default
    obtain ⟨n, orc, _, H⟩ := pop_ok H
    intro h gens D DG
    match n, H with
    | 0, H => cases H
    | n + 1, H =>
      dsimp only at H
      cases hl : L[n]? with
      | none => rw [hl] at H; cases H
      | some r =>
        obtain ⟨b, o⟩ := r
        rw [hl] at H
        dsimp only at H
        cases hf : (f o).isFreed with
        | true => rw [hf] at H; cases H
        | false =>
          rw [hf] at H
          dsimp only at H
          cases hc : solid o with
          | true =>
            rw [hc] at H
            cases H
            have eg : a = b := hob (.n a b) (.head _)
            subst eg
            exact means_cmd (m := updatePart a q f) (k := k) (wpAny_updatePart (D.at hl) (hy _ gens (D.update hl hf hc) DG))
          | false =>
            rw [hc] at H
            dsimp only at H
            cases hg : growO o (f o) with
            | none => rw [hg] at H; cases H
            | some ob =>
              rw [hg] at H
              cases H
              have eg : a = b := hob (.n a b) (.tail _ (.head _))
              subst eg
              obtain ⟨ps, more, rfl, e2⟩ := growO_eq hg (hob ob (.head _))
              exact means_cmd (m := updatePart a q f) (k := k) (wpAny_updatePart (D.at hl) (hy _ gens (D.grow hl e2) DG))
  | handled own k =>
    obtain ⟨y, H, hob, hy⟩ := H default
    dsimp only [stepO] at H
    cases own with
    | true => cases H
    | false =>
      cases hs : sno md κ with
      | false => rw [hs] at H; cases H
      | true =>
        rw [hs] at H
        cases H
        intro h gens D DG
        refine means_cmd (m := handled) (k := k) (wpAny_handled ?_)
        rw [(here_low O c md κ hs).1]
        exact hy h gens D DG
  | newGen c' k =>
    obtain ⟨y, H, hob, hy⟩ := H default
    cases H
    intro h gens D DG
    refine means_cmd (m := newGen c') (k := k) (wpAny_newGen ?_)
    have := hy h _ D (DG.push (x := .fresh c') rfl)
    show Means V _ _ _ (k gens.size) _
    rw [DG.size]
    exact this
  | genState g k =>
    obtain ⟨y, H, hob, hy⟩ := H default
    obtain ⟨n, orc, _, H⟩ := pop_ok H
    intro h gens D DG
    cases hl : GL[n]? with
    | none => rw [hl] at H; cases H
    | some r =>
      obtain ⟨g', gs⟩ := r
      rw [hl] at H
      cases H
      have eg : g = g' := hob (.n g g') (.head _)
      subst eg
      refine means_cmd (m := (.genState g .pure : Sem (GenStatus × Option (List (Code × Pos))))) (k := k) (fun Γ p _ => ?_)
      rw [Sem.wp_genState]
      exact ⟨gs, DG.its _ (List.mem_of_getElem? hl), hy h gens D DG⟩
  | resume g r l k =>
    obtain ⟨y, H, hob, hy⟩ := H default
    obtain ⟨n, orc, _, H⟩ := pop_ok H
    intro h gens D DG
    cases hl : GL[n]? with
    | none => rw [hl] at H; cases H
    | some z =>
      obtain ⟨g', gs⟩ := z
      rw [hl] at H
      dsimp only at H
      have hg : gens[g']? = some gs := DG.its _ (List.mem_of_getElem? hl)
      cases gs with
      | running => cases H
      | finished => cases H
      | fresh c₀ =>
        cases r with
        | throw => cases H
        | send v =>
          cases v with
          | none =>
            cases H
            have eg : g = g' := hob (.n g g') (.head _)
            subst eg
            have z := hy h _ D (DG.set (y := .running) hl rfl)
            cases md with
            | none =>
              simp only [← denZ_eq] at z
              exact y_resume_f _ _ _ _ _ _ _ _ _ _ _ _ hg z
            | some fs =>
              simp only [← denZ_eq] at z
              exact s_resume_f _ _ _ _ _ _ _ _ _ _ _ hg z
          | _ => cases H
      | suspended k₀ l₀ c₀ p₀ fs₀ cl =>
        cases H
        have eg : g = g' := hob (.n g g') (.head _)
        subst eg
        have z := hy h _ D (DG.set (y := .running) hl rfl)
        cases md with
        | none =>
          exact y_resume_s _ _ _ _ _ _ _ _ _ _ _ _ _ _ _ _ _ _ hg z
        | some fs =>
          exact s_resume_s _ _ _ _ _ _ _ _ _ _ _ _ _ _ _ _ _ hg z
  | unsupported w =>
    obtain ⟨y, H, hob, hy⟩ := H default
    cases H
  | finish e =>
    obtain ⟨y, H, hob, hy⟩ := H default
    cases H
  | register a k =>
    obtain ⟨y, H, hob, hy⟩ := H default
    cases H
  | choose a b k =>
    obtain ⟨y, H, hob, hy⟩ := H default
    cases H
  | os a b k =>
    obtain ⟨y, H, hob, hy⟩ := H default
    cases H
  | stack k =>
    obtain ⟨y, H, hob, hy⟩ := H default
    dsimp only [stepO] at H
    cases hs : sno md κ with
    | false => rw [hs] at H; cases H
    | true =>
      rw [hs] at H
      dsimp only at H
      cases hw : Nat.ble (swt c md κ) 300 with
      | false => rw [hw] at H; cases H
      | true =>
        rw [hw] at H
        cases H
        exact stack_ok O rfl hs hw (hob (.k k _) (.head _)) hy
  | fork a k =>
    obtain ⟨y, H, hob, hy⟩ := H default
    cases H
  | thread k =>
    obtain ⟨y, H, hob, hy⟩ := H default
    cases H
  | await a b c d k =>
    obtain ⟨y, H, hob, hy⟩ := H default
    cases H
end Mine
end
-- part Sd4
section
set_option maxRecDepth 100000
namespace Mine
open PySem PySem.Spec PySem.Calls PyProof.Rows PySem.W PySem.W.X
/-- what is owed stays owed -/
noncomputable def Owes (x y : Cf) : Prop := ∀ q ∈ x.obs, q ∈ y.obs
theorem Owes.refl (x : Cf) : Owes x x := fun _ h => h
theorem owes_same {x y : Cf} (h1 : y.obs = x.obs) : Owes x y := fun _ h => h1 ▸ h
theorem owes_one {x y : Cf} {q : Ob} (h1 : y.obs = q :: x.obs) : Owes x y := fun _ h => h1 ▸ List.mem_cons_of_mem _ h
theorem start_owes {c' : Code} {md : Option (List PySem.Frame)} {κ : Kont} {x y : Cf} (H : startO c' md κ x = .ok y) : Owes x y := by
  obtain ⟨n, orc, _, H⟩ := pop_ok H
  match n, H with
  | 0, H => cases H; exact owes_same rfl
  | 1, H =>
    cases md with
    | some _ => cases H
    | none =>
      dsimp only at H
      cases hle : Nat.ble (mwt c' + kwt κ) 300 with
      | false => rw [hle] at H; cases H
      | true => rw [hle] at H; cases H; exact owes_same rfl
  | 2, H =>
    cases md with
    | some _ => cases H
    | none =>
      dsimp only at H
      cases hle : Nat.ble (mwt c' + kwt κ) 300 with
      | false => rw [hle] at H; cases H
      | true => rw [hle] at H; cases H; exact owes_same rfl
  | 3, H =>
    cases md with
    | some _ => cases H
    | none =>
      dsimp only at H
      cases hle : Nat.ble (mwt c' + kwt κ) 300 with
      | false => rw [hle] at H; cases H
      | true => rw [hle] at H; cases H; exact owes_same rfl
  | n + 4, H => cases H
theorem wake_owes {e : End} {κ : Kont} {x y : Cf} (H : wakeO e κ x = .ok y) : Owes x y := by
  cases κ with
  | base => cases H
  | ret => cases H
  | gen g c k κ =>
    obtain ⟨n, orc, _, H⟩ := pop_ok H
    cases hl : x.s.GL[n]? with
    | none => rw [hl] at H; cases H
    | some r => rw [hl] at H; cases H; exact owes_one rfl
  | genS g c fs k κ =>
    obtain ⟨n, orc, _, H⟩ := pop_ok H
    cases hl : x.s.GL[n]? with
    | none => rw [hl] at H; cases H
    | some r => rw [hl] at H; cases H; exact owes_one rfl
theorem ret_owes {r : Result} {x y : Cf} (H : retO r x = .ok y) : Owes x y := by
  unfold retO at H
  split at H
  · split at H
    · cases H; exact owes_same rfl
    · cases H
  · split at H
    · exact wake_owes H
    · split at H
      · cases H; exact owes_same rfl
      · cases H
theorem call_owes {V : XV} {sp : List (Spc V)} {p : Pos} {c' : Code} {hd : Option Value} {g : Bool} {l : List Value} {k : Result → Sem Fin} {x y : Cf} (H : callO V sp p c' hd g l k x = .ok y) : Owes x y := by
  cases hd with
  | some _ => cases H
  | none =>
    obtain ⟨n, orc, _, H⟩ := pop_ok H
    match n, H with
    | 0, H =>
      dsimp only at H
      split at H
      · exact start_owes H
      · exact start_owes H
    | 1, H =>
      dsimp only at H
      split at H
      · exact start_owes H
      · exact start_owes H
    | 2, H =>
      dsimp only at H
      split at H
      · exact start_owes H
      · exact start_owes H
    | 3, H =>
      dsimp only at H
      split at H
      · exact start_owes H
      · exact start_owes H
    | n + 4, H =>
      dsimp only at H
      split at H
      · cases H
      · split at H
        · cases H
        · split at H
          · cases H
          · split at H
            · cases H
            · cases H; exact fun _ h => List.mem_append.mpr (.inr h)
theorem step_owes {V : XV} {sp : List (Spc V)} {p : Pos} {x y : Cf} (H : stepO V sp p x = .ok y) : Owes x y := by
  obtain ⟨orc₀, obs₀, ⟨c, md, κ, t, chg, L, N, i, GL, G⟩⟩ := x
  cases t with
  | call c' hd g l k => exact call_owes H
  | pure fin =>
    cases fin with
    | done f => exact ret_owes H
    | again c' =>
      dsimp only [stepO] at H
      split at H
      · exact start_owes H
      · cases H
  | raise e => exact ret_owes H
  | yield v gd l k =>
    dsimp only [stepO] at H
    split at H
    · cases H
    · split at H
      · cases H
      · split at H
        · cases H
        · split at H
          · cases H
          · exact wake_owes H
  | load a q k =>
    obtain ⟨n, orc, _, H⟩ := pop_ok H
    match n, H with
    | 0, H =>
      dsimp only at H
      split at H
      · split at H
        · cases H; exact owes_same rfl
        · cases H
      · cases H
    | n + 1, H =>
      dsimp only at H
      split at H
      · cases H; exact owes_one rfl
      · cases H
  | loadIfAlive a k =>
    obtain ⟨n, orc, _, H⟩ := pop_ok H
    match n, H with
    | 0, H =>
      dsimp only at H
      split at H
      · split at H
        · cases H; exact owes_same rfl
        · cases H
      · cases H
    | n + 1, H =>
      dsimp only at H
      split at H
      · cases H; exact owes_one rfl
      · cases H
  | update a q f k =>
    obtain ⟨n, orc, _, H⟩ := pop_ok H
    match n, H with
    | 0, H => cases H
    | n + 1, H =>
      dsimp only at H
      split at H
      · split at H
        · cases H
        · split at H
          · cases H; exact owes_one rfl
          · split at H
            · cases H; exact fun _ h => List.mem_cons_of_mem _ (List.mem_cons_of_mem _ h)
            · cases H
      · cases H
  | alloc o k =>
    dsimp only [stepO] at H
    split at H
    · cases H
    · cases H; exact owes_same rfl
  | handled own k =>
    dsimp only [stepO] at H
    split at H
    · cases H
    · split at H
      · cases H
      · cases H; exact owes_same rfl
  | stack k =>
    dsimp only [stepO] at H
    split at H
    · cases H
    · split at H
      · cases H
      · cases H; exact owes_one rfl
  | genState g k =>
    obtain ⟨n, orc, _, H⟩ := pop_ok H
    dsimp only at H
    split at H
    · cases H; exact owes_one rfl
    · cases H
  | resume g r l k =>
    obtain ⟨n, orc, _, H⟩ := pop_ok H
    dsimp only at H
    split at H
    · split at H
      · split at H
        · split at H
          · cases H; exact owes_one rfl
          · cases H
        · cases H
      · cases H; exact owes_one rfl
      · cases H
      · cases H
    · cases H
  | rule _ k => cases H; exact owes_same rfl
  | «at» _ k => cases H; exact owes_same rfl
  | point _ k => cases H; exact owes_same rfl
  | ask k => cases H; exact owes_same rfl
  | fresh k => cases H; exact owes_same rfl
  | newGen c k => cases H; exact owes_same rfl
  | _ => cases H
theorem run_owes {V : XV} {sp : List (Spc V)} : ∀ {n : Nat} {ps : Nat → Pos} {x y : Cf}, runO V sp n ps x = .ok y → Owes x y
  | 0, _, _, _, H => by cases H; exact Owes.refl _
  | n + 1, ps, x, y, H => by
    unfold runO at H
    split at H
    · rename_i z hz
      have h1 := step_owes hz
      have h2 := run_owes H
      exact fun q h => h2 q (h1 q h)
    · cases H
theorem run_ok {V : XV} (O : Good V) {sp : List (Spc V)} : ∀ (n : Nat) (x : Cf),
    (∀ ps, ∃ y, runO V sp n ps x = .ok y ∧ (∀ o ∈ y.obs, o.Holds) ∧ Mn V y.s) → Mn V x.s
  | 0, x, H => by
    obtain ⟨y, H, _, hy⟩ := H default
    cases H; exact hy
  | n + 1, x, H => by
    refine step_ok (sp := sp) O fun p => ?_
    have key : ∀ ps : Nat → Pos, ∃ z, stepO V sp p x = .ok z ∧ ∃ y, runO V sp n ps z = .ok y ∧ (∀ o ∈ y.obs, o.Holds) ∧ Mn V y.s := by
      intro ps
      obtain ⟨y, H, h1, h3⟩ := H (fun m => match m with | 0 => p | m + 1 => ps m)
      unfold runO at H
      dsimp only at H
      split at H
      · rename_i z hz
        exact ⟨z, hz, y, H, h1, h3⟩
      · cases H
    obtain ⟨z, hz, y, hr, h1, _⟩ := key default
    have ow := run_owes hr
    refine ⟨z, hz, fun q h => h1 q (ow q h), ?_⟩
    refine run_ok (sp := sp) O n z fun ps => ?_
    obtain ⟨z', hz', rest⟩ := key ps
    have : z' = z := by
      rw [hz] at hz'
      cases hz'; rfl
    subst this
    exact rest

/-- what a run ends at -/
noncomputable def Out.st (d : St) : Out → St
  | .ok x => x.s
  | .bad _ => d
noncomputable def Out.os : Out → List Ob
  | .ok x => x.obs
  | .bad _ => []
noncomputable def Out.good : Out → Bool
  | .ok _ => true
  | .bad _ => false
/-- the run ends, and what is owed holds by reckoning -/
noncomputable def Fine (o : Out) : Prop := o.good = true ∧ o.os.map Ob.lft = o.os.map Ob.rgt
noncomputable def run (V : XV) (sp : List (Spc V)) (n : Nat) (orc : List Nat) (s : St) (ps : Nat → Pos) : Out := runO V sp n ps ⟨orc, [], s⟩
/-- from a state to a state, by the kernel's own reckoning -/
theorem run_seg {V : XV} (O : Good V) (sp : List (Spc V)) (n : Nat) (orc : List Nat) (s : St) (h : ∀ ps, Fine (run V sp n orc s ps)) (h5 : ∀ ps, Mn V ((run V sp n orc s ps).st s)) : Mn V s := by
  refine run_ok (sp := sp) O n ⟨orc, [], s⟩ fun ps => ?_
  obtain ⟨g, o⟩ := h ps
  have m := h5 ps
  unfold run at g o m
  cases hr : runO V sp n ps ⟨orc, [], s⟩ with
  | bad m => rw [hr] at g; cases g
  | ok y =>
    rw [hr] at o m
    exact ⟨y, rfl, Ob.all_of o, m⟩
end Mine
end
-- part Ct
section
set_option maxRecDepth 100000
namespace Mine
open PySem PySem.Spec PySem.Calls PyProof.Rows PySem.W PySem.W.X

/-- what stays the same through a whole law -/
structure Bs where
  prog : Program
  w : World
  kt : KT
  h₀ : Heap
  d : Drawn
  t₀ : Nat
  os : OsState
  ok : ∀ a o, kt.get a = some o → h₀.get? a = some o
noncomputable def Bs.V (U : Bs) (A : Around) (R : Result → Shared → Prop) : XV := { prog := U.prog, w := U.w, h₀ := U.h₀, n₁ := 0, kt := U.kt, tabs := [], A₀ := A, R₀ := R, d := U.d, t₀ := U.t₀, os := U.os }
/-- what turns: the ledger, its size, the tokens, the generators -/
structure Sh where
  L : Lg
  N : Nat
  i : Nat
  GL : Gg
  G : Nat
structure Lvl (A : Around) (lv : Nat) : Prop where
  hh : A.handled = none
  dp : A.depth + 30 * lv ≤ 670
  un : A.units + 30 * lv ≤ 8000
theorem Lvl.good {U : Bs} {A : Around} {R : Result → Shared → Prop} {lv : Nat} (O : Lvl A lv) : Good (U.V A R) :=
  ⟨U.ok, O.hh, by have := O.dp; show A.depth ≤ 670; omega, by have := O.un; show A.units ≤ 8000; omega⟩
noncomputable def Ends (V : XV) (r : Result) (s : Sh) : Prop := ∀ h gens, Led V.h₀ h [] s.L s.N → Gen gens s.GL s.G → V.R₀ r ⟨h, gens, V.d, V.t₀ + s.i, V.os⟩
/-- a contract: the code, from the shape, ends as P says -/
noncomputable def Cn (U : Bs) (lv : Nat) (c : Code) (s : Sh) (P : Result → Sh → Prop) : Prop :=
  ∀ A R h gens, Lvl A lv → Led U.h₀ h [] s.L s.N → Gen gens s.GL s.G → (∀ r s', P r s' → Ends (U.V A R) r s') → codeAny (model U.prog U.w) A c R ⟨h, gens, U.d, U.t₀ + s.i, U.os⟩
noncomputable def at_ (c : Code) (t : Sem Fin) (s : Sh) : St := { c := c, md := none, κ := .base, t := t, chg := [], L := s.L, N := s.N, i := s.i, GL := s.GL, G := s.G }
theorem Cn.of_mn {U : Bs} {lv : Nat} {c : Code} {s : Sh} {P : Result → Sh → Prop} (h : ∀ A R, Lvl A lv → (∀ r s', P r s' → Ends (U.V A R) r s') → Mn (U.V A R) (at_ c (denote table c) s)) : Cn U lv c s P := by
  intro A R hp gens O D DG hE
  exact y_code (prog := U.prog) (w := U.w) _ _ _ _ (h A R O hE hp gens D DG)
theorem Cn.of_den {U : Bs} {lv : Nat} {c : Code} {s : Sh} {P : Result → Sh → Prop} (h : ∀ A R, Lvl A lv → (∀ r s', P r s' → Ends (U.V A R) r s') → Mn (U.V A R) (at_ c (denZ c) s)) : Cn U lv c s P :=
  .of_mn fun A R O hE => by rw [denZ_eq]; exact h A R O hE
theorem Cn.of_fn {U : Bs} {lv : Nat} {c : Code} {s : Sh} {P : Result → Sh → Prop} (hw : Nat.ble (mwt c) 300 = true) (h : ∀ A R, Lvl A lv → (∀ r s', P r s' → Ends (U.V A R) r s') → Mn (U.V A R) (at_ c (fnA c) s)) : Cn U lv c s P :=
  .of_mn fun A R O hE hp gens D DG => means_fn (start_room O.good (κ := .base) hw) (h A R O hE hp gens D DG)
theorem Cn.weaken {U : Bs} {lv : Nat} {c : Code} {s : Sh} {P P' : Result → Sh → Prop} (C : Cn U lv c s P) (h : ∀ r s', P r s' → P' r s') : Cn U lv c s P' :=
  fun A R hp gens O D DG hE => C A R hp gens O D DG fun r s' hp => hE r s' (h r s' hp)
noncomputable def St.sh (s : St) : Sh := ⟨s.L, s.N, s.i, s.GL, s.G⟩
/-- the end of a walk -/
noncomputable def Done (s : St) (r : Result) (sh : Sh) : Prop := (s.md = none ∧ s.κ = .base ∧ s.t = leafOf r) ∧ s.chg = [] ∧ s.sh = sh
theorem Mn_done {V : XV} {s : St} {r : Result} {sh : Sh} (h : Done s r sh) (hE : Ends V r sh) : Mn V s := by
  obtain ⟨⟨hm, hk, ht⟩, hc, hs⟩ := h
  subst hs
  intro hp gens D DG
  rw [hm, hk, ht]
  rw [hc] at D
  have key : endOf V .base r ⟨hp, gens, V.d, V.t₀ + s.i, V.os⟩ := hE hp gens D DG
  cases r with
  | ok f => exact y_pure _ _ _ _ _ _ _ _ _ (y_done _ _ _ _ _ _ key)
  | error e => exact y_raise _ _ _ _ _ _ _ _ _ (y_err _ _ _ key)
/-- places taken out of a list, the rest behind them -/
noncomputable def pick {α : Type} (ps : List Nat) (m : Nat) (L : List α) : List α := ps.filterMap (L[·]?) ++ L.drop m
noncomputable def okPick (ps : List Nat) (m : Nat) : Bool := (ps.all (Nat.blt · m)) && nodupB ps
where nodupB : List Nat → Bool
  | [] => true
  | a :: l => (l.all fun b => !Nat.beq a b) && nodupB l
theorem nodupB_iff : ∀ {l : List Nat}, okPick.nodupB l = true → l.Nodup
  | [], _ => List.nodup_nil
  | a :: l, h => by
    have h' : ((l.all fun b => !Nat.beq a b) && okPick.nodupB l) = true := h
    obtain ⟨h1, h2⟩ := Bool.and_eq_true_iff.mp h'
    refine List.nodup_cons.mpr ⟨fun hm => ?_, nodupB_iff h2⟩
    have := List.all_eq_true.mp h1 a hm
    rw [Nat.beq_refl] at this; cases this
theorem pick_mem {α : Type} {ps : List Nat} {m : Nat} {L : List α} : ∀ p ∈ pick ps m L, p ∈ L := by
  intro p hp
  rcases List.mem_append.mp hp with h | h
  · obtain ⟨j, _, hj⟩ := List.mem_filterMap.mp h
    exact List.mem_of_getElem? hj
  · exact List.mem_of_mem_drop h
theorem pick_nodup {α : Type} {ps : List Nat} {m : Nat} (h : okPick ps m = true) {L : List (Nat × α)} (nd : (L.map (·.1)).Nodup) : ((pick ps m L).map (·.1)).Nodup := by
  obtain ⟨h1, h2⟩ := Bool.and_eq_true_iff.mp h
  have hn := nodupB_iff h2
  have hm : ∀ j ∈ ps, j < m := fun j hj => Nat.le_of_ble_eq_true (List.all_eq_true.mp h1 j hj)
  have inj : ∀ {i j : Nat} {p q : Nat × α}, L[i]? = some p → L[j]? = some q → p.1 = q.1 → i = j := by
    intro i j p q hi hj he
    have h1 : (L.map (·.1))[i]? = some p.1 := by rw [List.getElem?_map, hi]; rfl
    have h2 : (L.map (·.1))[j]? = some q.1 := by rw [List.getElem?_map, hj]; rfl
    obtain ⟨l1, e1⟩ := List.getElem?_eq_some_iff.mp h1
    obtain ⟨l2, e2⟩ := List.getElem?_eq_some_iff.mp h2
    exact (List.getElem_inj nd).mp (by rw [e1, e2, he])
  unfold pick
  rw [List.map_append]
  refine List.nodup_append.mpr ⟨?_, ?_, ?_⟩
  · clear hm h1 h2 h
    induction ps with
    | nil => exact List.nodup_nil
    | cons a ps ih =>
      obtain ⟨ha, hn⟩ := List.nodup_cons.mp hn
      rw [List.filterMap_cons]
      cases hL : L[a]? with
      | none => exact ih hn
      | some p =>
        show (p.1 :: (ps.filterMap (L[·]?)).map (·.1)).Nodup
        refine List.nodup_cons.mpr ⟨fun hm => ?_, ih hn⟩
        obtain ⟨q, hq, he⟩ := List.mem_map.mp hm
        obtain ⟨j, hj, hq⟩ := List.mem_filterMap.mp hq
        have := inj hL hq he.symm
        exact ha (this ▸ hj)
  · rw [List.map_drop]; exact (List.drop_sublist _ _).nodup nd
  · intro a ha b hb hab
    obtain ⟨p, hp, rfl⟩ := List.mem_map.mp ha
    obtain ⟨q, hq, rfl⟩ := List.mem_map.mp hb
    obtain ⟨j, hj, hp⟩ := List.mem_filterMap.mp hp
    obtain ⟨i, hq⟩ := List.getElem?_of_mem hq
    rw [List.getElem?_drop] at hq
    have := inj hp hq hab
    have := hm j hj
    omega
theorem Led.pick {h₀ h : Heap} {chg L : Lg} {N : Nat} (D : Led h₀ h chg L N) {ps : List Nat} {m : Nat} (hp : okPick ps m = true) : Led h₀ h chg (Mine.pick ps m L) N := D.sub pick_mem (pick_nodup hp D.nd)
theorem Gen.pick {gens : Array GenState} {GL : Gg} {G : Nat} (D : Gen gens GL G) {ps : List Nat} {m : Nat} (hp : okPick ps m = true) : Gen gens (Mine.pick ps m GL) G := ⟨D.size, fun p h => D.its p (pick_mem p h), pick_nodup hp D.nd, D.bare⟩
/-- the ledgers sorted anew, what is not needed dropped -/
noncomputable def St.pk (s : St) (ps : List Nat) (m : Nat) (gs : List Nat) (gm : Nat) : St := { s with L := pick ps m s.L, GL := pick gs gm s.GL }
theorem Mn_pick {V : XV} {s : St} {ps : List Nat} {m : Nat} {gs : List Nat} {gm : Nat} (hp : okPick ps m = true) (hg : okPick gs gm = true) (h : Mn V (s.pk ps m gs gm)) : Mn V s :=
  fun hp' gens D DG => h hp' gens (D.pick hp) (DG.pick hg)
noncomputable def callC : Sem Fin → Option Code
  | .call c none _ _ _ => some c
  | _ => none
noncomputable def callK (t : Sem Fin) : Result → Sem Fin := match t with
  | .call _ none _ _ k => k
  | _ => fun _ => t
noncomputable def St.back (s : St) (r : Result) (sh : Sh) : St := { s with t := callK s.t r, chg := [], L := sh.L, N := sh.N, i := sh.i, GL := sh.GL, G := sh.G }
noncomputable def Calls (s : St) (c : Code) (sh : Sh) : Prop := (callC s.t = some c ∧ sno s.md s.κ = true ∧ Nat.ble (swt s.c s.md s.κ) 30 = true) ∧ s.chg = [] ∧ s.sh = sh
/-- a call by its contract -/
theorem Mn_call {U : Bs} {A : Around} {R : Result → Shared → Prop} {lv lv' : Nat} (O : Lvl A lv) {s : St} {c : Code} {sh : Sh} {P : Result → Sh → Prop} (C : Cn U lv' c sh P) (hl : lv' < lv) (hf : Calls s c sh)
    (h : ∀ r sh', P r sh' → Mn (U.V A R) (s.back r sh')) : Mn (U.V A R) s := by
  obtain ⟨⟨hc, hs, hw⟩, hg, hsh⟩ := hf
  subst hsh
  obtain ⟨c₀, md, κ, t, chg, L, N, i, GL, G⟩ := s
  dsimp only at hc hs hw hg
  subst hg
  intro hp gens D DG
  cases t with
  | call c' hd g l k =>
    cases hd with
    | some _ => cases hc
    | none =>
      have e : c' = c := Option.some.inj hc
      subst e
      obtain ⟨l1, l2, l3⟩ := here_low (O.good (U := U) (R := R)) c₀ md κ hs
      have hle := Nat.le_of_ble_eq_true hw
      have o1 := O.dp
      have o2 := O.un
      refine code_means (V := U.V A R) (C _ _ hp gens ⟨l1, ?_, ?_⟩ D DG ?_)
      · have e1 : (U.V A R).A₀.depth = A.depth := rfl
        show (hereA (U.V A R) c₀ md κ).depth + 30 * lv' ≤ 670
        omega
      · have e1 : (U.V A R).A₀.units = A.units := rfl
        show (hereA (U.V A R) c₀ md κ).units + 30 * lv' ≤ 8000
        omega
      · intro r s' hP h' gens' D' DG'
        exact h r s' hP h' gens' D' DG'
  | _ => cases hc
end Mine
end
-- part Sp
section
set_option maxRecDepth 100000
namespace Mine
open PySem PySem.Spec PySem.Calls PyProof.Rows PySem.W PySem.W.X
theorem fx_elim {motive : Result → Lg → Nat → Nat → List Ob → List Nat → Prop} {r r' : Result} {L L' : Lg} {N N' i i' : Nat} {os os' : List Ob} {oc oc' : List Nat} (h : (some (r, L, N, i, os, oc) : SpR) = some (r', L', N', i', os', oc')) (H : motive r L N i os oc) : motive r' L' N' i' os' oc' := by
  cases h; exact H

/-- the arguments of a call of the built-in whose name has this number -/
noncomputable def bArgs (num : Nat) (c : Code) : Option (List Value) := match c with
  | .call f a => match f with
    | .builtin id => match S.eqLit num id with
      | true => match a with
        | ⟨p, kw⟩ => match kw with
          | [] => some p
          | _ :: _ => none
      | false => none
    | _ => none
  | _ => none
theorem bArgs_eq {num : Nat} {c : Code} {args : List Value} (id : String) (hid : PySem.code id = num) (h : bArgs num c = some args) : c = .call (.builtin id) ⟨args, []⟩ := by
  unfold bArgs at h
  split at h
  · rename_i f a
    split at h
    · rename_i id'
      split at h
      · rename_i hq
        split at h
        rename_i p kw
        split at h
        · cases h
          have e := congrFun (S.eqLit_eq id num hid) id'
          rw [hq] at e
          rw [eq_of_beq e]
        · cases h
      · cases h
    · cases h
  · cases h
section
variable {prog : Program} {w : World} {A : Around} {s : Shared} {Q : Result → Shared → Prop}
theorem codeAny_gives {T : String} {name : Str} {id : String} {B : Builtin} {self : Value} {rest : List Value} {m : Made} (slot : Slot T name id) (hT : s.TypeIs self T)
    (entry : entryFor table id = some B) (args : argsOk id ⟨self :: rest, []⟩) (g : Gives (B ⟨self :: rest, []⟩) m) (h : m.post (fun v s' => Q (.ok (.ret v)) s') s) :
    codeAny (model prog w) A (.call (.builtin id) ⟨self :: rest, []⟩) Q s :=
  codeAny_call_builtin slot.plain entry (slot.check _ _ _ _ _ _ _ _ hT args (g prog w A Q s h))
theorem codeAny_meets {T : String} {name : Str} {id : String} {B : Builtin} {self : Value} {rest : List Value} {S : PySem.Spec} (slot : Slot T name id) (hT : s.TypeIs self T)
    (entry : entryFor table id = some B) (args : argsOk id ⟨self :: rest, []⟩) (g : Meets (B ⟨self :: rest, []⟩) S) (h : S A Q s) :
    codeAny (model prog w) A (.call (.builtin id) ⟨self :: rest, []⟩) Q s :=
  codeAny_call_builtin slot.plain entry (slot.check _ _ _ _ _ _ _ _ hT args (g prog w A Q s h))
theorem codeAny_entry {T : String} {name : Str} {id : String} {B : Builtin} {self : Value} {rest : List Value} (slot : Slot T name id) (hT : s.TypeIs self T)
    (entry : entryFor table id = some B) (args : argsOk id ⟨self :: rest, []⟩) (g : wpAny (model prog w) A.in1 (B ⟨self :: rest, []⟩) (fun fin s' => ∃ v, fin = .done (.ret v) ∧ Q (.ok (.ret v)) s') (fun e s' => Q (.error e) s') s) :
    codeAny (model prog w) A (.call (.builtin id) ⟨self :: rest, []⟩) Q s :=
  codeAny_call_builtin slot.plain entry (slot.check _ _ _ _ _ _ _ _ hT args (wpAny_mono g (fun fin s' h => by obtain ⟨v, rfl, hv⟩ := h; exact hv) fun _ _ h => h))
end
noncomputable def a0 (o : Option (List Value)) (k : List Value → SpR) : SpR := match o with
  | some l => k l
  | none => none
theorem a0_el {o : Option (List Value)} {k : List Value → SpR} {r} {C : Prop} (h : a0 o k = some r) (kk : ∀ l, o = some l → k l = some r → C) : C := by
  cases o with
  | none => cases h
  | some l => exact kk l rfl h
noncomputable def hdV (l : List Value) (k : Value → List Value → SpR) : SpR := match l with
  | a :: l => k a l
  | [] => none
theorem hdV_el {l : List Value} {k : Value → List Value → SpR} {r} {C : Prop} (h : hdV l k = some r) (kk : ∀ a t, l = a :: t → k a t = some r → C) : C := by
  cases l with
  | nil => cases h
  | cons a t => exact kk a t rfl h
noncomputable def nlV (l : List Value) (k : SpR) : SpR := match l with
  | [] => k
  | _ :: _ => none
theorem nlV_el {l : List Value} {k : SpR} {r} {C : Prop} (h : nlV l k = some r) (kk : l = [] → k = some r → C) : C := by
  cases l with
  | nil => exact kk rfl h
  | cons a t => cases h
noncomputable def sB (v : Value) (k : Str → Tok → SpR) : SpR := match v with
  | .str x t => k x t
  | _ => none
theorem sB_el {v : Value} {k : Str → Tok → SpR} {r} {C : Prop} (h : sB v k = some r) (kk : ∀ x t, v = .str x t → k x t = some r → C) : C := by
  cases v <;> first | exact kk _ _ rfl h | cases h
noncomputable def iB (v : Value) (k : Int → Tok → SpR) : SpR := match v with
  | .int x t => k x t
  | _ => none
theorem iB_el {v : Value} {k : Int → Tok → SpR} {r} {C : Prop} (h : iB v k = some r) (kk : ∀ x t, v = .int x t → k x t = some r → C) : C := by
  cases v <;> first | exact kk _ _ rfl h | cases h
noncomputable def rB (v : Value) (k : Addr → SpR) : SpR := match v with
  | .ref x => k x
  | _ => none
theorem rB_el {v : Value} {k : Addr → SpR} {r} {C : Prop} (h : rB v k = some r) (kk : ∀ x, v = .ref x → k x = some r → C) : C := by
  cases v <;> first | exact kk _ rfl h | cases h
noncomputable def tB (v : Value) (k : String → SpR) : SpR := match v with
  | .type x => k x
  | _ => none
theorem tB_el {v : Value} {k : String → SpR} {r} {C : Prop} (h : tB v k = some r) (kk : ∀ x, v = .type x → k x = some r → C) : C := by
  cases v <;> first | exact kk _ rfl h | cases h
noncomputable def flB (o : Obj) (k : Array Value → SpR) : SpR := match o.data with
  | .fields vs => k vs
  | _ => none
theorem flB_el {o : Obj} {k : Array Value → SpR} {r} {C : Prop} (h : flB o k = some r) (kk : ∀ vs, o.data = .fields vs → k vs = some r → C) : C := by
  unfold flB at h
  cases e : o.data <;> rw [e] at h <;> first | exact kk _ e h | cases h
noncomputable def nB (v : Value) (k : SpR) : SpR := match v with
  | .none => k
  | _ => none
theorem nB_el {v : Value} {k : SpR} {r} {C : Prop} (h : nB v k = some r) (kk : v = .none → k = some r → C) : C := by
  cases v <;> first | exact kk rfl h | cases h
noncomputable def fSI (o : Obj) (k : Str → Tok → Int → Tok → SpR) : SpR := flB o fun vs => hdV vs.toList fun b0 l => hdV l fun b1 l => nlV l (sB b0 fun x t => iB b1 fun i u => k x t i u)
theorem fSI_el {o : Obj} {k : Str → Tok → Int → Tok → SpR} {r} {C : Prop} (h : fSI o k = some r) (kk : ∀ vs x t i u, o.data = .fields vs → vs.toList = [.str x t, .int i u] → k x t i u = some r → C) : C := by
  refine flB_el h fun vs e h => hdV_el h fun b0 l0 e0 h => hdV_el h fun b1 l1 e1 h => nlV_el h fun en h => sB_el h fun x t f0 h => iB_el h fun i u f1 h => kk vs x t i u e ?_ h
  rw [e0, e1, en, f0, f1]
noncomputable def fRI (o : Obj) (k : Addr → Int → Tok → SpR) : SpR := flB o fun vs => hdV vs.toList fun b0 l => hdV l fun b1 l => nlV l (rB b0 fun l => iB b1 fun i u => k l i u)
theorem fRI_el {o : Obj} {k : Addr → Int → Tok → SpR} {r} {C : Prop} (h : fRI o k = some r) (kk : ∀ vs l i u, o.data = .fields vs → vs.toList = [.ref l, .int i u] → k l i u = some r → C) : C := by
  refine flB_el h fun vs e h => hdV_el h fun b0 l0 e0 h => hdV_el h fun b1 l1 e1 h => nlV_el h fun en h => rB_el h fun l f0 h => iB_el h fun i u f1 h => kk vs l i u e ?_ h
  rw [e0, e1, en, f0, f1]
noncomputable def fVVN (o : Obj) (k : Value → Value → SpR) : SpR := flB o fun vs => hdV vs.toList fun b0 l => hdV l fun b1 l => hdV l fun b2 l => nlV l (nB b2 (k b0 b1))
theorem fVVN_el {o : Obj} {k : Value → Value → SpR} {r} {C : Prop} (h : fVVN o k = some r) (kk : ∀ vs v w, o.data = .fields vs → vs.toList = [v, w, .none] → k v w = some r → C) : C := by
  refine flB_el h fun vs e h => hdV_el h fun b0 l0 e0 h => hdV_el h fun b1 l1 e1 h => hdV_el h fun b2 l2 e2 h => nlV_el h fun en h => nB_el h fun f2 h => kk vs b0 b1 e ?_ h
  rw [e0, e1, e2, en, f2]
noncomputable def fVVV (o : Obj) (k : Value → Value → Value → SpR) : SpR := flB o fun vs => hdV vs.toList fun b0 l => hdV l fun b1 l => hdV l fun b2 l => nlV l (k b0 b1 b2)
theorem fVVV_el {o : Obj} {k : Value → Value → Value → SpR} {r} {C : Prop} (h : fVVV o k = some r) (kk : ∀ vs v w x, o.data = .fields vs → vs.toList = [v, w, x] → k v w x = some r → C) : C := by
  refine flB_el h fun vs e h => hdV_el h fun b0 l0 e0 h => hdV_el h fun b1 l1 e1 h => hdV_el h fun b2 l2 e2 h => nlV_el h fun en h => kk vs b0 b1 b2 e ?_ h
  rw [e0, e1, e2, en]
noncomputable def fNNV (o : Obj) (k : Value → SpR) : SpR := flB o fun vs => hdV vs.toList fun b0 l => hdV l fun b1 l => hdV l fun b2 l => nlV l (nB b0 (nB b1 (k b2)))
theorem fNNV_el {o : Obj} {k : Value → SpR} {r} {C : Prop} (h : fNNV o k = some r) (kk : ∀ vs x, o.data = .fields vs → vs.toList = [.none, .none, x] → k x = some r → C) : C := by
  refine flB_el h fun vs e h => hdV_el h fun b0 l0 e0 h => hdV_el h fun b1 l1 e1 h => hdV_el h fun b2 l2 e2 h => nlV_el h fun en h => nB_el h fun f0 h => nB_el h fun f1 h => kk vs b2 e ?_ h
  rw [e0, e1, e2, en, f0, f1]
noncomputable def twoS (o : Option (List Value)) (k : Str → Tok → Str → Tok → SpR) : SpR := a0 o fun l => hdV l fun b0 l => hdV l fun b1 l => nlV l (sB b0 fun x t => sB b1 fun y u => k x t y u)
theorem twoS_el {o : Option (List Value)} {k : Str → Tok → Str → Tok → SpR} {r} {C : Prop} (h : twoS o k = some r) (kk : ∀ x t y u, (o = some [.str x t, .str y u]) → (k x t y u = some r) → C) : C := by
  refine a0_el h fun l e h => hdV_el h fun b0 l0 e0 h => hdV_el h fun b1 l1 e1 h => nlV_el h fun en h => sB_el h fun x t f0 h => sB_el h fun y u f1 h => kk x t y u ?_ h
  rw [e, e0, e1, en, f0, f1]
section
variable {V : XV}
/-- y in x -/
noncomputable def spCon (x y : Str) (b : Bool) (hb : (!(PySem.Builtin.Str.occurrences x y 0 x.length 1).isEmpty) = b) : Spc V where
  fx c orc L N i := twoS (bArgs 128106709680535770272165659069392319860 c) fun x' _ y' _ => some (.ok (.ret (.bool b)), L, N, i, [.s x' x, .s y' y], orc)
  ok A Q h gens chg L N i c orc r L' N' i' obs orc' hh hd hu hf ho D hQ := by
    refine twoS_el hf ?_
    clear hf
    intro x' t y' u ha hf
    rw [bArgs_eq "str.__contains__" (by decide +kernel) ha]
    revert ho hQ
    refine fx_elim (motive := fun r L' N' i' obs _ => (∀ o ∈ obs, Ob.Holds o) → (∀ h', Led V.h₀ h' chg L' N' → Q r ⟨h', gens, V.d, V.t₀ + i', V.os⟩) → _) hf ?_
    clear hf
    intro ho hQ
    have e1 : x' = x := ho (.s x' x) (.head _)
    have e2 : y' = y := ho (.s y' y) (.tail _ (.head _))
    subst e1 e2
    refine codeAny_gives F.slot_str_contains (typeIs_str _ _ _) F.entry_str_contains (F.args_str_contains_2 _ _) (gives_str_contains x' y' t u) ?_
    rw [hb]
    exact hQ _ D
/-- x == y -/
noncomputable def spEq (x y : Str) (b : Bool) (hb : (x.cps.toList == y.cps.toList) = b) : Spc V where
  fx c orc L N i := twoS (bArgs 455126313168696234964340 c) fun x' _ y' _ => some (.ok (.ret (.bool b)), L, N, i, [.s x' x, .s y' y], orc)
  ok A Q h gens chg L N i c orc r L' N' i' obs orc' hh hd hu hf ho D hQ := by
    refine twoS_el hf ?_
    clear hf
    intro x' t y' u ha hf
    rw [bArgs_eq "str.__eq__" (by decide +kernel) ha]
    revert ho hQ
    refine fx_elim (motive := fun r L' N' i' obs _ => (∀ o ∈ obs, Ob.Holds o) → (∀ h', Led V.h₀ h' chg L' N' → Q r ⟨h', gens, V.d, V.t₀ + i', V.os⟩) → _) hf ?_
    clear hf
    intro ho hQ
    have e1 : x' = x := ho (.s x' x) (.head _)
    have e2 : y' = y := ho (.s y' y) (.tail _ (.head _))
    subst e1 e2
    refine codeAny_gives F.slot_str_eq (typeIs_str _ _ _) F.entry_str_eq (F.args_str_eq_2 _ _) (gives_str_eq x' y' t u) ?_
    rw [hb]
    exact hQ _ D
/-- x != y -/
noncomputable def spNe (x y : Str) (b : Bool) (hb : (x.cps.toList != y.cps.toList) = b) : Spc V where
  fx c orc L N i := twoS (bArgs 455125451010842570225012 c) fun x' _ y' _ => some (.ok (.ret (.bool b)), L, N, i, [.s x' x, .s y' y], orc)
  ok A Q h gens chg L N i c orc r L' N' i' obs orc' hh hd hu hf ho D hQ := by
    refine twoS_el hf ?_
    clear hf
    intro x' t y' u ha hf
    rw [bArgs_eq "str.__ne__" (by decide +kernel) ha]
    revert ho hQ
    refine fx_elim (motive := fun r L' N' i' obs _ => (∀ o ∈ obs, Ob.Holds o) → (∀ h', Led V.h₀ h' chg L' N' → Q r ⟨h', gens, V.d, V.t₀ + i', V.os⟩) → _) hf ?_
    clear hf
    intro ho hQ
    have e1 : x' = x := ho (.s x' x) (.head _)
    have e2 : y' = y := ho (.s y' y) (.tail _ (.head _))
    subst e1 e2
    refine codeAny_gives F.slot_str_ne (typeIs_str _ _ _) F.entry_str_ne (F.args_str_ne_2 _ _) (gives_str_ne x' y' t u) ?_
    rw [hb]
    exact hQ _ D
end
end Mine
end
-- part Sp2
section
set_option maxRecDepth 100000
namespace Mine
open PySem PySem.Spec PySem.Calls PyProof.Rows PySem.W PySem.W.X
theorem hasCls_type {o : Obj} {n : String} (h : o.cls = .type n) : solid o = true := by unfold solid; rw [h]
noncomputable def strIt (x : Str) (t : Tok) (i : Int) : Obj := { cls := .type "str_ascii_iterator", data := .fields #[.str x t, .int i 0] }
noncomputable def typS (o : Option (List Value)) (k : String → Str → Tok → SpR) : SpR := a0 o fun l => hdV l fun b0 l => hdV l fun b1 l => nlV l (tB b0 fun n => sB b1 fun x t => k n x t)
theorem typS_el {o : Option (List Value)} {k : String → Str → Tok → SpR} {r} {C : Prop} (h : typS o k = some r) (kk : ∀ n x t, (o = some [.type n, .str x t]) → (k n x t = some r) → C) : C := by
  refine a0_el h fun l e h => hdV_el h fun b0 l0 e0 h => hdV_el h fun b1 l1 e1 h => nlV_el h fun en h => tB_el h fun n f0 h => sB_el h fun x t f1 h => kk n x t ?_ h
  rw [e, e0, e1, en, f0, f1]
noncomputable def oneS (o : Option (List Value)) (k : Str → Tok → SpR) : SpR := a0 o fun l => hdV l fun b0 l => nlV l (sB b0 fun x t => k x t)
theorem oneS_el {o : Option (List Value)} {k : Str → Tok → SpR} {r} {C : Prop} (h : oneS o k = some r) (kk : ∀ x t, (o = some [.str x t]) → (k x t = some r) → C) : C := by
  refine a0_el h fun l e h => hdV_el h fun b0 l0 e0 h => nlV_el h fun en h => sB_el h fun x t f0 h => kk x t ?_ h
  rw [e, e0, en, f0]
noncomputable def oneR (o : Option (List Value)) (k : Addr → SpR) : SpR := a0 o fun l => hdV l fun b0 l => nlV l (rB b0 fun a => k a)
theorem oneR_el {o : Option (List Value)} {k : Addr → SpR} {r} {C : Prop} (h : oneR o k = some r) (kk : ∀ a, (o = some [.ref a]) → (k a = some r) → C) : C := by
  refine a0_el h fun l e h => hdV_el h fun b0 l0 e0 h => nlV_el h fun en h => rB_el h fun a f0 h => kk a ?_ h
  rw [e, e0, en, f0]
theorem strIterType_ascii {x : Str} (hx : x.cps.all (· < 128) = true) : strIterType x = "str_ascii_iterator" := by
  unfold strIterType; rw [hx]; rfl
/-- the place in the ledger that the oracle tells -/
noncomputable def place (orc : List Nat) (L : Lg) (k : List Nat → Nat → Addr → Obj → SpR) : SpR := match orc with
  | [] => none
  | j :: orc => match L[j]? with
    | some (b, o) => k orc j b o
    | none => none
theorem place_el {orc : List Nat} {L : Lg} {k : List Nat → Nat → Addr → Obj → SpR} {r} {C : Prop} (h : place orc L k = some r) (kk : ∀ orc' j b o, (L[j]? = some (b, o)) → (k orc' j b o = some r) → C) : C := by
  cases orc with
  | nil => cases h
  | cons j orc =>
    unfold place at h
    dsimp only at h
    cases e : L[j]? with
    | none => rw [e] at h; cases h
    | some p =>
      obtain ⟨b, o⟩ := p
      rw [e] at h
      exact kk _ _ _ _ e h
section
variable {V : XV}
noncomputable def spEnum (x : Str) (hx : x.cps.all (· < 128) = true) : Spc V where
  fx c orc L N i := typS (bArgs 32795338265258401048814659337623159861094 c) fun n x' t => some (.ok (.ret (.ref (N + 1))), (N + 1, { cls := .type "enumerate", data := .fields #[.none, .bool false, .ref N, .int 0 0, .none, .none] }) :: (N, strIt x t 0) :: L, N + 2, i, [.s x' x, .v (.type n) (.type "enumerate")], orc)
  ok A Q h gens chg L N i c orc r L' N' i' obs orc' hh hd hu hf ho D hQ := by
    refine typS_el hf ?_
    clear hf
    intro n x' t ha hf
    rw [bArgs_eq "enumerate.__new__" (by decide +kernel) ha]
    revert ho hQ
    refine fx_elim (motive := fun r L' N' i' obs _ => (∀ o ∈ obs, Ob.Holds o) → (∀ h', Led V.h₀ h' chg L' N' → Q r ⟨h', gens, V.d, V.t₀ + i', V.os⟩) → _) hf ?_
    clear hf
    intro ho hQ
    have e1 : x' = x := ho (.s x' x) (.head _)
    have e2 : Value.type n = .type "enumerate" := ho (.v (.type n) (.type "enumerate")) (.tail _ (.head _))
    cases e2
    subst e1
    refine codeAny_call_builtin (by decide +kernel) F.entry_enumerate_new ?_
    rw [F.newCall_enumerate_1]
    refine wpAny_pure ?_
    refine meets_enumerate_newS x' t V.prog V.w A Q _ ?_
    have hs := D.size
    have hz : (h.push (strIt x' t 0)).objs.size = N + 1 := by rw [Heap.size_push, hs]
    rw [strIterType_ascii hx]
    show Q (.ok (.ret (.ref (h.push (strIt x' t 0)).objs.size))) _
    rw [hz]
    have D1 := (D.alloc (o := strIt x' t 0) rfl).alloc (o := { cls := .type "enumerate", data := .fields #[.none, .bool false, .ref N, .int 0 0, .none, .none] }) rfl
    have z := hQ _ D1
    rw [← hs] at z ⊢
    exact z
noncomputable def spIter (x : Str) (hx : x.cps.all (· < 128) = true) : Spc V where
  fx c orc L N i := oneS (bArgs 29827162783706237342122734964 c) fun x' t => some (.ok (.ret (.ref N)), (N, strIt x t 0) :: L, N + 1, i, [.s x' x], orc)
  ok A Q h gens chg L N i c orc r L' N' i' obs orc' hh hd hu hf ho D hQ := by
    refine oneS_el hf ?_
    clear hf
    intro x' t ha hf
    rw [bArgs_eq "str.__iter__" (by decide +kernel) ha]
    revert ho hQ
    refine fx_elim (motive := fun r L' N' i' obs _ => (∀ o ∈ obs, Ob.Holds o) → (∀ h', Led V.h₀ h' chg L' N' → Q r ⟨h', gens, V.d, V.t₀ + i', V.os⟩) → _) hf ?_
    clear hf
    intro ho hQ
    have e1 : x' = x := ho (.s x' x) (.head _)
    subst e1
    refine codeAny_entry F.slot_str_iter (typeIs_str _ _ _) F.entry_str_iter (F.args_str_iter_1 _) ?_
    show wpAny _ _ (do ret (← newFields (if (true && x'.cps.all (· < 128)) = true then "str_ascii_iterator" else "str_iterator") [.str x' t, rawInt 0])) _ _ _
    rw [hx]
    have hs := D.size
    have z := hQ _ (D.alloc (o := strIt x' t 0) rfl)
    refine wpAny_bind (wpAny_newObj_type (wpAny_pure ⟨_, rfl, ?_⟩))
    rw [← hs] at z
    exact z
/-- the next sign of a str -/
noncomputable def spNext (x : Str) (k c : Nat) (hk : x.cps[k]? = some c) : Spc V where
  fx cd orc L N i := oneR (bArgs 39647112825583545393006412691359451730623858335503063133055055220 cd) fun a => place orc L fun orc j b o => fSI o fun x' _ k' u => some (.ok (.ret (.str ⟨#[c]⟩ (V.t₀ + i))), L.set j (b, o.mapFields (·.setIfInBounds 1 (rawInt ((k : Int) + 1)))), N, i + 1, [.n a b, .s x' x, .i k' k, .n u 0, .v o.cls (.type "str_ascii_iterator")], orc)
  ok A Q h gens chg L N i cd orc r L' N' i' obs orc' hh hd hu hf ho D hQ := by
    refine oneR_el hf ?_
    clear hf
    intro a ha hf
    refine place_el hf ?_
    clear hf
    intro orc₁ j b o hj hf
    rw [bArgs_eq "str_ascii_iterator.__next__" (by decide +kernel) ha]
    refine fSI_el hf ?_
    clear hf
    intro vs x' t k' u hvs hvl hf
    revert ho hQ
    refine fx_elim (motive := fun r L' N' i' obs _ => (∀ o ∈ obs, Ob.Holds o) → (∀ h', Led V.h₀ h' chg L' N' → Q r ⟨h', gens, V.d, V.t₀ + i', V.os⟩) → _) hf ?_
    clear hf
    intro ho hQ
    have e1 : a = b := ho (.n a b) (.head _)
    have e2 : x' = x := ho (.s x' x) (.tail _ (.head _))
    have e3 : k' = k := ho (.i k' k) (.tail _ (.tail _ (.head _)))
    have e4 : u = 0 := ho (.n u 0) (.tail _ (.tail _ (.tail _ (.head _))))
    have e5 : o.cls = .type "str_ascii_iterator" := ho (.v o.cls (.type "str_ascii_iterator")) (.tail _ (.tail _ (.tail _ (.tail _ (.head _)))))
    subst e1 e2 e3 e4
    have hv : vs = #[.str x' t, .int k 0] := Array.ext' hvl
    subst hv
    have hoo := D.at hj
    have hT : (Shared.mk h gens V.d (V.t₀ + i) V.os).TypeIs (.ref a) "str_ascii_iterator" := ⟨o, hoo, e5⟩
    refine codeAny_entry F.slot_str_ascii_iterator_next hT F.entry_str_ascii_iterator_next (F.args_str_ascii_iterator_next_1 _) ?_
    show wpAny _ _ (field (.ref a) 0 >>= _) _ _ _
    refine wpAny_bind (wpAny_field hoo hvs (x := .str x' t) rfl ?_)
    show wpAny _ _ (field (.ref a) 1 >>= _) _ _ _
    refine wpAny_bind (wpAny_field hoo hvs (x := .int k 0) rfl ?_)
    simp only [Int.toNat_natCast, hk]
    refine wpAny_bind (wpAny_setField hoo hvs (by simp) (wpAny_bind (wpAny_mkStr (wpAny_pure ⟨_, rfl, ?_⟩) (by show 1 ≤ sizeLine; decide))))
    exact hQ _ (D.update (f := Obj.mapFields (·.setIfInBounds 1 (rawInt ((k : Int) + 1)))) hj (Obj.isFreed_of_fields (Obj.data_mapFields hvs _)) (hasCls_type e5))
/-- no sign left -/
noncomputable def spEnd (x : Str) (k : Nat) (hk : x.cps[k]? = none) : Spc V where
  fx cd orc L N i := oneR (bArgs 39647112825583545393006412691359451730623858335503063133055055220 cd) fun a => place orc L fun orc j b o => fSI o fun x' _ k' u => some (.error (.ref (N + 1)), (N + 1, { cls := .type "StopIteration", data := .fields #[.ref N, .none, .none, .none, .bool false, .none] }) :: (N, { cls := .type "tuple", data := .seq #[] }) :: L.set j (b, o.mapFields (·.setIfInBounds 0 .none)), N + 2, i, [.n a b, .s x' x, .i k' k, .n u 0, .v o.cls (.type "str_ascii_iterator")], orc)
  ok A Q h gens chg L N i cd orc r L' N' i' obs orc' hh hd hu hf ho D hQ := by
    refine oneR_el hf ?_
    clear hf
    intro a ha hf
    refine place_el hf ?_
    clear hf
    intro orc₁ j b o hj hf
    rw [bArgs_eq "str_ascii_iterator.__next__" (by decide +kernel) ha]
    refine fSI_el hf ?_
    clear hf
    intro vs x' t k' u hvs hvl hf
    revert ho hQ
    refine fx_elim (motive := fun r L' N' i' obs _ => (∀ o ∈ obs, Ob.Holds o) → (∀ h', Led V.h₀ h' chg L' N' → Q r ⟨h', gens, V.d, V.t₀ + i', V.os⟩) → _) hf ?_
    clear hf
    intro ho hQ
    have e1 : a = b := ho (.n a b) (.head _)
    have e2 : x' = x := ho (.s x' x) (.tail _ (.head _))
    have e3 : k' = k := ho (.i k' k) (.tail _ (.tail _ (.head _)))
    have e4 : u = 0 := ho (.n u 0) (.tail _ (.tail _ (.tail _ (.head _))))
    have e5 : o.cls = .type "str_ascii_iterator" := ho (.v o.cls (.type "str_ascii_iterator")) (.tail _ (.tail _ (.tail _ (.tail _ (.head _)))))
    subst e1 e2 e3 e4
    have hv : vs = #[.str x' t, .int k 0] := Array.ext' hvl
    subst hv
    have hoo := D.at hj
    have hT : (Shared.mk h gens V.d (V.t₀ + i) V.os).TypeIs (.ref a) "str_ascii_iterator" := ⟨o, hoo, e5⟩
    refine codeAny_entry F.slot_str_ascii_iterator_next hT F.entry_str_ascii_iterator_next (F.args_str_ascii_iterator_next_1 _) ?_
    show wpAny _ _ (field (.ref a) 0 >>= _) _ _ _
    refine wpAny_bind (wpAny_field hoo hvs (x := .str x' t) rfl ?_)
    show wpAny _ _ (field (.ref a) 1 >>= _) _ _ _
    refine wpAny_bind (wpAny_field hoo hvs (x := .int k 0) rfl ?_)
    simp only [Int.toNat_natCast, hk]
    have D1 := D.update (f := Obj.mapFields (·.setIfInBounds 0 .none)) hj (Obj.isFreed_of_fields (Obj.data_mapFields hvs _)) (hasCls_type e5)
    have hs := D1.size
    have D2 := D1.alloc (o := { cls := .type "tuple", data := .seq #[] }) rfl
    have D3 := D2.alloc (o := { cls := .type "StopIteration", data := .fields #[.ref N, .none, .none, .none, .bool false, .none] }) rfl
    have z := hQ _ D3
    refine wpAny_bind (wpAny_rule (wpAny_bind (wpAny_setField hoo hvs (by simp) (wpAny_bind (wpAny_letGo ?_)))))
    show wpAny _ _ (newExc (.type "StopIteration") [] >>= _) _ _ _
    refine wpAny_bind ?_
    simp only [newExc, newTuple]
    refine wpAny_bind (wpAny_newObj_type ?_ (by size_fits))
    refine wpAny_bind (m := firstArgMember _ _) (wpAny_of_eq (a := Value.none) (by first | rfl | (simp only [firstArgMember]; rfl)) ?_)
    refine wpAny_newObj_type ?_ (by size_fits)
    simp only [raiseNew]
    refine wpAny_bind (wpAny_handled ?_)
    rw [show A.in1.handled = none from hh]
    refine wpAny_bind (wpAny_pure (wpAny_throw ?_))
    have e6 := D2.size
    rw [e6, hs]
    exact z
end
end Mine
end
-- part Ow
section
set_option maxRecDepth 100000
namespace Mine
open PySem PySem.Spec PySem.Calls PyProof.Rows PySem.W PySem.W.X
noncomputable def forTg : Code → PySem.Expr
  | .forLoop t _ _ _ _ => t
  | _ => default
noncomputable def forRest (c : Code) (v : Value) : Sem Fin := match c with
  | .forLoop target it body orelse env => R.bindR (PySem.W.ZFast.zw17772580674575903948 target env v) fun _ => R.bindR (PySem.W.ZFast.zw12563942051412417395 body env) fun f => match f with
    | .next => PySem.W.ZFast.zw12377390311714414960 (.forLoop target it body orelse env)
    | .cont => PySem.W.ZFast.zw12377390311714414960 (.forLoop target it body orelse env)
    | .brk => pure (.done .next)
    | .ret v => pure (.done (.ret v))
  | _ => .unsupported "alt"
noncomputable def forHd (c : Code) : Value → Sem Unit := match c with
  | .forLoop _ _ _ _ env => fun x => R.bindR (PySem.W.ZFast.noteFrameY x env) fun _ => PySem.W.ZFast.zw1623429502029203251 x
  | _ => fun _ => .unsupported "alt"
noncomputable def isTup : PySem.Expr → Bool
  | .Tuple _ _ _ => true
  | _ => false
/-- a for over enumerate, its pair at hand: the look whether the pair is the enumerate's own -/
noncomputable def ownT (c : Code) (r a : Addr) : Sem Fin := R.onRaiseR (R.bindR (PySem.W.ZFast.zw1578499551869305889 (forTg c) (.ref r) (.ref a)) fun _ => forRest c (.ref a)) (forHd c)
/-- it is -/
noncomputable def ownU (c : Code) (r a : Addr) : Sem Fin := R.onRaiseR (R.bindR (do rule "for.unpacks-the-owned-tuple"; updateField r 0 .none) fun _ => forRest c (.ref a)) (forHd c)
noncomputable def ownB (r a : Addr) (o : Obj) : Sem Unit := match o.cls, o.data with
    | .type n, .fields vs =>
      if ["enumerate", "zip", "dict_itemiterator", "dict_reverseitemiterator", "odict_iterator", "itertools.zip_longest", "itertools.pairwise"].contains n && vs[0]? == some (rawInt a) then do
        rule "for.unpacks-the-owned-tuple"
        updateField r 0 .none
      else pure ()
    | _, _ => pure ()
theorem own_step {V : XV} {s : St} {c : Code} {r a : Addr} {j : Nat} {vs : Array Value} {dict : Option Addr} {slots : Array (Option Value)} (hc : isTup (forTg c) = true) (ht : s.t = ownT c r a)
    (hL : s.L[j]? = some (r, ⟨.type "enumerate", dict, .fields vs, slots⟩)) (hv : vs[0]? = some (rawInt ↑a)) (hy : Mn V { s with t := ownU c r a }) : Mn V s := by
  intro h gens D DG
  rw [ht]
  have e : ownT c r a = .load r none fun o => R.onRaiseR (R.bindR (ownB r a o) fun _ => forRest c (.ref a)) (forHd c) := by
    unfold ownT
    rw [← PySem.W.ZFast.ze1578499551869305889]
    generalize forTg c = tg at hc
    cases tg with
    | Tuple => kernel_rfl
    | _ => cases hc
  have b : ownB r a ⟨.type "enumerate", dict, .fields vs, slots⟩ = (do rule "for.unpacks-the-owned-tuple"; updateField r 0 .none) := by
    show (if (["enumerate", "zip", "dict_itemiterator", "dict_reverseitemiterator", "odict_iterator", "itertools.zip_longest", "itertools.pairwise"].contains "enumerate" && vs[0]? == some (rawInt a)) = true then _ else _) = _
    rw [hv, beq_self_eq_true, show ["enumerate", "zip", "dict_itemiterator", "dict_reverseitemiterator", "odict_iterator", "itertools.zip_longest", "itertools.pairwise"].contains "enumerate" = true from by decide +kernel]
    rfl
  rw [e]
  refine means_cmd (m := loadPart r none) (k := fun o => R.onRaiseR (R.bindR (ownB r a o) fun _ => forRest c (.ref a)) (forHd c)) (wpAny_loadPart (D.at hL) ?_)
  rw [b]
  exact hy h gens D DG
end Mine
end
-- part Ct2
section
set_option maxRecDepth 100000
namespace Mine
open PySem PySem.Spec PySem.Calls PyProof.Rows PySem.W PySem.W.X
/-- parts of a state that are taken as they come -/
noncomputable def obAt (s : St) (j : Nat) : Obj := ((s.L[j]?).map (·.2)).getD default
noncomputable def entAt (o : Obj) (j : Nat) : DictEntry := match o.data with
  | .dict es _ => (es[j]?).getD default
  | _ => default
noncomputable def keyTok (e : DictEntry) : Tok := match e.key with
  | .str _ t => t
  | _ => 0
noncomputable def fldAt (o : Obj) (j : Nat) : Value := match o.data with
  | .fields vs => (vs[j]?).getD .none
  | .seq vs _ => (vs[j]?).getD .none
  | _ => .none
noncomputable def tokOf (v : Value) : Tok := match v with
  | .str _ t => t
  | .int _ t => t
  | _ => 0
noncomputable def epOf (o : Obj) : Nat := match o.data with
  | .dict _ n => n
  | .seq _ n => n
  | _ => 0
end Mine
namespace Mine
open PySem PySem.Spec PySem.Calls PyProof.Rows PySem.W PySem.W.X
theorem Mn_eq {V : XV} {s s' : St} (h : Mn V s') (e : s = s') : Mn V s := by rw [e]; exact h
end Mine
namespace Mine
open PySem PySem.Spec PySem.Calls PyProof.Rows PySem.W PySem.W.X
theorem own_step' {V : XV} {s : St} {r a : Addr} {j : Nat} {vs : Array Value} (hc : isTup (forTg s.c) = true ∧ s.t = ownT s.c r a ∧
    s.L[j]? = some (r, ⟨.type "enumerate", none, .fields vs, #[]⟩)) (hv : vs[0]? = some (rawInt ↑a)) (hy : Mn V { s with t := ownU s.c r a }) : Mn V s :=
  own_step hc.1 hc.2.1 hc.2.2 hv hy
end Mine
namespace Mine
open PySem PySem.Spec PySem.Calls PyProof.Rows PySem.W PySem.W.X
/-- a frame's names and values; m tells the hashes and the tokens of the names -/
noncomputable def mkE : List Str → List Value → Nat → (Nat → Int × Tok) → List DictEntry
  | n :: ns, v :: vs, j, m => ⟨(m j).1, .str n (m j).2, v⟩ :: mkE ns vs (j + 1) m
  | _, _, _, _ => []
noncomputable def fr (ns : List Str) (vs : List Value) (m : Nat → Int × Tok) (ep : Nat) : Obj := { cls := .type "frame", data := .dict ⟨mkE ns vs 0 m⟩ ep }
noncomputable def mOf (o : Obj) (j : Nat) : Int × Tok := ((entAt o j).hash, keyTok (entAt o j))
noncomputable def valAt (s : St) (j k : Nat) : Value := (entAt (obAt s j) k).val
noncomputable def tkAt (s : St) (j k : Nat) : Tok := tokOf (entAt (obAt s j) k).val
end Mine
namespace Mine
open PySem PySem.Spec PySem.Calls PyProof.Rows PySem.W PySem.W.X
/-- a walk's end -/
noncomputable def fin (c : Code) (r : Result) (sh : Sh) : St := at_ c (leafOf r) sh
theorem Mn_fin {V : XV} {c : Code} {r : Result} {sh : Sh} (hE : Ends V r sh) : Mn V (fin c r sh) := Mn_done ⟨⟨rfl, rfl, rfl⟩, rfl, rfl⟩ hE
end Mine
namespace Mine
open PySem PySem.Spec PySem.Calls PyProof.Rows PySem.W PySem.W.X
/-- what a contract leaves open -/
structure Par (K : Params → KT) where
  w₀ : World
  b1 : Bool
  b2 : Bool
  b3 : Bool
  h₀ : Heap
  d : Drawn
  t₀ : Nat
  os : OsState
  ok : ∀ a o, (K (wset w₀ b1 b2 b3).params).get a = some o → h₀.get? a = some o
noncomputable def Par.U {K : Params → KT} (P : Par K) (prog : Program) : Bs :=
  { prog := prog, w := wset P.w₀ P.b1 P.b2 P.b3, kt := K (wset P.w₀ P.b1 P.b2 P.b3).params, h₀ := P.h₀, d := P.d, t₀ := P.t₀, os := P.os, ok := P.ok }
end Mine
end
-- part Sp3
section
set_option maxRecDepth 100000
namespace Mine
open PySem PySem.Spec PySem.Calls PyProof.Rows PySem.W PySem.W.X
noncomputable def listO (xs : Array Value) (n : Nat) : Obj := { cls := .type "list", dict := none, data := .seq xs n, slots := #[] }
/-- a list's items, if the object is a bare list, and what is owed for it -/
noncomputable def asSeq (o : Obj) (k : Array Value → Nat → SpR) : SpR := match o with
  | ⟨_, d, dt, sl⟩ => match d with
    | none => match sl.toList with
      | [] => match dt with
        | .seq xs n => k xs n
        | _ => none
      | _ :: _ => none
    | some _ => none
theorem asSeq_eq {o : Obj} {k : Array Value → Nat → SpR} {r} (h : asSeq o k = some r) : ∃ cls xs n, o = ⟨cls, none, .seq xs n, #[]⟩ ∧ k xs n = some r := by
  obtain ⟨c, d, dt, sl⟩ := o
  unfold asSeq at h
  dsimp only at h
  split at h
  · split at h
    · rename_i hsl
      split at h
      · exact ⟨_, _, _, by rw [show sl = #[] from Array.ext' hsl], h⟩
      · cases h
    · cases h
  · cases h
theorem asSeq_el {o : Obj} {k : Array Value → Nat → SpR} {r} {C : Prop} (h : asSeq o k = some r) (kk : ∀ cls xs n, (o = ⟨cls, none, .seq xs n, #[]⟩) → (k xs n = some r) → C) : C := by
  obtain ⟨cls, xs, n, p0, p1⟩ := asSeq_eq h
  exact kk _ _ _ p0 p1
noncomputable def refV (o : Option (List Value)) (k : Addr → Value → SpR) : SpR := a0 o fun l => hdV l fun b0 l => hdV l fun b1 l => nlV l (rB b0 fun a => k a b1)
theorem refV_el {o : Option (List Value)} {k : Addr → Value → SpR} {r} {C : Prop} (h : refV o k = some r) (kk : ∀ a v, (o = some [.ref a, v]) → (k a v = some r) → C) : C := by
  refine a0_el h fun l e h => hdV_el h fun b0 l0 e0 h => hdV_el h fun b1 l1 e1 h => nlV_el h fun en h => rB_el h fun a f0 h => kk a b1 ?_ h
  rw [e, e0, e1, en, f0]
noncomputable def strR (o : Option (List Value)) (k : Str → Tok → Addr → SpR) : SpR := a0 o fun l => hdV l fun b0 l => hdV l fun b1 l => nlV l (sB b0 fun x t => rB b1 fun a => k x t a)
theorem strR_el {o : Option (List Value)} {k : Str → Tok → Addr → SpR} {r} {C : Prop} (h : strR o k = some r) (kk : ∀ x t a, (o = some [.str x t, .ref a]) → (k x t a = some r) → C) : C := by
  refine a0_el h fun l e h => hdV_el h fun b0 l0 e0 h => hdV_el h fun b1 l1 e1 h => nlV_el h fun en h => sB_el h fun x t f0 h => rB_el h fun a f1 h => kk x t a ?_ h
  rw [e, e0, e1, en, f0, f1]
section
variable {V : XV}
/-- items.append(v) -/
noncomputable def spApp (items : List Value) (hn : items.length ≤ sizeLine) : Spc V where
  fx c orc L N i := refV (bArgs 122627580202994350266018413 c) fun a v => place orc L fun orc j b o => asSeq o fun xs n => some (.ok (.ret .none), L.set j (b, o.mapSeq (·.push v)), N, i, [.n a b, .ls xs.toList items, .v o.cls (.type "list")], orc)
  ok A Q h gens chg L N i cd orc r L' N' i' obs orc' hh hd hu hf ho D hQ := by
    refine refV_el hf ?_
    clear hf
    intro a v ha hf
    refine place_el hf ?_
    clear hf
    intro orc₁ j b o hj hf
    refine asSeq_el hf ?_
    clear hf
    intro cls xs n e_ hf
    subst e_
    rw [bArgs_eq "list.append" (by decide +kernel) ha]
    revert ho hQ
    refine fx_elim (motive := fun r L' N' i' obs _ => (∀ o ∈ obs, Ob.Holds o) → (∀ h', Led V.h₀ h' chg L' N' → Q r ⟨h', gens, V.d, V.t₀ + i', V.os⟩) → _) hf ?_
    clear hf
    intro ho hQ
    have e1 : a = b := ho (.n a b) (.head _)
    have e2 : xs.toList = items := ho (.ls xs.toList items) (.tail _ (.head _))
    have e3 : cls = .type "list" := ho (.v cls (.type "list")) (.tail _ (.tail _ (.head _)))
    subst e1 e2 e3
    have hoo := D.at hj
    have hT : (Shared.mk h gens V.d (V.t₀ + i) V.os).TypeIs (.ref a) "list" := ⟨_, hoo, rfl⟩
    refine codeAny_meets F.slot_list_append hT F.entry_list_append (F.args_list_append_2 _ _) (AutoListH.list_append_list_val_0 a xs n v (by simpa using hn)) ⟨hoo, ?_⟩
    exact hQ _ (D.update (f := Obj.mapSeq (·.push v)) hj rfl)
/-- a part of a slice -/
noncomputable def prt (v : Value) (o : Option Int) (k : Option (Int × Tok) → List Ob → SpR) : SpR := match v with
  | .none => match o with
    | none => k none []
    | some _ => none
  | .int i t => match o with
    | some j => k (some (i, t)) [.i i j]
    | none => none
  | _ => none
theorem prt_eq {v : Value} {o : Option Int} {k : Option (Int × Tok) → List Ob → SpR} {r} (h : prt v o k = some r) : ∃ p obs, v = partValue p ∧ k p obs = some r ∧ ((∀ q ∈ obs, q.Holds) → p.map (·.1) = o) := by
  unfold prt at h
  split at h
  · split at h
    · exact ⟨none, [], rfl, h, fun _ => rfl⟩
    · cases h
  · rename_i i t
    split at h
    · rename_i j
      refine ⟨some (i, t), [.i i j], rfl, h, fun hq => ?_⟩
      have : i = j := hq (.i i j) (.head _)
      rw [this]; rfl
    · cases h
  · cases h
theorem prt_el {v : Value} {o : Option Int} {k : Option (Int × Tok) → List Ob → SpR} {r} {C : Prop} (h : prt v o k = some r) (kk : ∀ p obs, (v = partValue p) → (k p obs = some r) → (((∀ q ∈ obs, q.Holds) → p.map (·.1) = o)) → C) : C := by
  obtain ⟨p, obs, p0, p1, p2⟩ := prt_eq h
  exact kk _ _ p0 p1 p2
end
end Mine
end
-- part Sp4
section
set_option maxRecDepth 100000
namespace Mine
open PySem PySem.Spec PySem.Calls PyProof.Rows PySem.W PySem.W.X
noncomputable def twoI (o : Option (List Value)) (k : Int → Tok → Int → Tok → SpR) : SpR := a0 o fun l => hdV l fun b0 l => hdV l fun b1 l => nlV l (iB b0 fun x t => iB b1 fun y u => k x t y u)
theorem twoI_el {o : Option (List Value)} {k : Int → Tok → Int → Tok → SpR} {r} {C : Prop} (h : twoI o k = some r) (kk : ∀ x t y u, (o = some [.int x t, .int y u]) → (k x t y u = some r) → C) : C := by
  refine a0_el h fun l e h => hdV_el h fun b0 l0 e0 h => hdV_el h fun b1 l1 e1 h => nlV_el h fun en h => iB_el h fun x t f0 h => iB_el h fun y u f1 h => kk x t y u ?_ h
  rw [e, e0, e1, en, f0, f1]
section
variable {V : XV}
noncomputable def spLt (x y : Int) (b : Bool) (hb : decide (x < y) = b) : Spc V where
  fx c orc L N i := twoI (bArgs 455126531311803185852266 c) fun x' _ y' _ => some (.ok (.ret (.bool b)), L, N, i, [.i x' x, .i y' y], orc)
  ok A Q h gens chg L N i c orc r L' N' i' obs orc' hh hd hu hf ho D hQ := by
    refine twoI_el hf ?_
    clear hf
    intro x' t y' u ha hf
    rw [bArgs_eq "int.__lt__" (by decide +kernel) ha]
    revert ho hQ
    refine fx_elim (motive := fun r L' N' i' obs _ => (∀ o ∈ obs, Ob.Holds o) → (∀ h', Led V.h₀ h' chg L' N' → Q r ⟨h', gens, V.d, V.t₀ + i', V.os⟩) → _) hf ?_
    clear hf
    intro ho hQ
    have e1 : x' = x := ho (.i x' x) (.head _)
    have e2 : y' = y := ho (.i y' y) (.tail _ (.head _))
    subst e1 e2
    refine codeAny_gives F.slot_int_lt (typeIs_int _ _ _) F.entry_int_lt (F.args_int_lt_2 _ _) (gives_int_lt x' y' t u) ?_
    rw [hb]
    exact hQ _ D
noncomputable def spIEq (x y : Int) (b : Bool) (hb : (x == y) = b) : Spc V where
  fx c orc L N i := twoI (bArgs 455126313168696235093866 c) fun x' _ y' _ => some (.ok (.ret (.bool b)), L, N, i, [.i x' x, .i y' y], orc)
  ok A Q h gens chg L N i c orc r L' N' i' obs orc' hh hd hu hf ho D hQ := by
    refine twoI_el hf ?_
    clear hf
    intro x' t y' u ha hf
    rw [bArgs_eq "int.__eq__" (by decide +kernel) ha]
    revert ho hQ
    refine fx_elim (motive := fun r L' N' i' obs _ => (∀ o ∈ obs, Ob.Holds o) → (∀ h', Led V.h₀ h' chg L' N' → Q r ⟨h', gens, V.d, V.t₀ + i', V.os⟩) → _) hf ?_
    clear hf
    intro ho hQ
    have e1 : x' = x := ho (.i x' x) (.head _)
    have e2 : y' = y := ho (.i y' y) (.tail _ (.head _))
    subst e1 e2
    refine codeAny_gives F.slot_int_eq (typeIs_int _ _ _) F.entry_int_eq (F.args_int_eq_2 _ _) (gives_int_eq x' y' t u) ?_
    rw [hb]
    exact hQ _ D
noncomputable def spINe (x y : Int) (b : Bool) (hb : (x != y) = b) : Spc V where
  fx c orc L N i := twoI (bArgs 455125451010842570354538 c) fun x' _ y' _ => some (.ok (.ret (.bool b)), L, N, i, [.i x' x, .i y' y], orc)
  ok A Q h gens chg L N i c orc r L' N' i' obs orc' hh hd hu hf ho D hQ := by
    refine twoI_el hf ?_
    clear hf
    intro x' t y' u ha hf
    rw [bArgs_eq "int.__ne__" (by decide +kernel) ha]
    revert ho hQ
    refine fx_elim (motive := fun r L' N' i' obs _ => (∀ o ∈ obs, Ob.Holds o) → (∀ h', Led V.h₀ h' chg L' N' → Q r ⟨h', gens, V.d, V.t₀ + i', V.os⟩) → _) hf ?_
    clear hf
    intro ho hQ
    have e1 : x' = x := ho (.i x' x) (.head _)
    have e2 : y' = y := ho (.i y' y) (.tail _ (.head _))
    subst e1 e2
    refine codeAny_gives F.slot_int_ne (typeIs_int _ _ _) F.entry_int_ne (F.args_int_ne_2 _ _) (gives_int_ne x' y' t u) ?_
    rw [hb]
    exact hQ _ D
end
theorem codeAny_function {prog : Program} {w : World} {A : Around} {s : Shared} {Q : Result → Shared → Prop} {id : String} {b : Builtin} {args : List Value} (hk : builtinKind id = none) (hp : plainId id = true) (hb : entryFor table id = some b) (ha : argsOk id ⟨args, []⟩)
    (hc : wpAny (model prog w) A.in1 (b ⟨args, []⟩) (fun fin s' => ∃ v, fin = .done (.ret v) ∧ Q (.ok (.ret v)) s') (fun e s' => Q (.error e) s') s) : codeAny (model prog w) A (.call (.builtin id) ⟨args, []⟩) Q s := by
  refine codeAny_call_builtin hp hb ?_
  have hc' : wpAny (model prog w) A.in1 (b ⟨args, []⟩) (fun fin s' => match fin with | .done f => Q (.ok f) s' | .again c' => c'.quiet = true ∧ codeAny (model prog w) A c' Q s') (fun e s' => Q (.error e) s') s :=
    wpAny_mono hc (fun fin s' h => by obtain ⟨v, rfl, hv⟩ := h; exact hv) fun _ _ h => h
  simp only [checkBuiltinCall, hk]
  cases hsig : Manifest.signature? id with
  | none => exact wpAny_pure hc'
  | some sig =>
    simp only [argsOk, hsig] at ha
    have h2 : Bind.checkArgs id sig ⟨args, []⟩ = pure () := ha
    show wpAny _ _ (Bind.checkArgs id sig ⟨args, []⟩) _ _ s
    rw [h2]; exact wpAny_pure hc'
section
variable {V : XV}
noncomputable def spLen (x : Str) (hx : x.length ≤ 1000) : Spc V where
  fx c orc L N i := oneS (bArgs 7300717 c) fun x' t => some (.ok (.ret (.int (Int.ofNat x.length) (V.t₀ + (i + 1)))), L, N, i + 1 + 1, [.s x' x], orc)
  ok A Q h gens chg L N i c orc r L' N' i' obs orc' hh hd hu hf ho D hQ := by
    refine oneS_el hf ?_
    clear hf
    intro x' t ha hf
    rw [bArgs_eq "len" (by decide +kernel) ha]
    revert ho hQ
    refine fx_elim (motive := fun r L' N' i' obs _ => (∀ o ∈ obs, Ob.Holds o) → (∀ h', Led V.h₀ h' chg L' N' → Q r ⟨h', gens, V.d, V.t₀ + i', V.os⟩) → _) hf ?_
    clear hf
    intro ho hQ
    have e1 : x' = x := ho (.s x' x) (.head _)
    subst e1
    refine codeAny_function kind_len plain_len entry_len (args_len1 _) ?_
    unfold Builtin.«len»
    refine wpAny_bind (m := oneArg "len" _) (wpAny_pure ?_)
    refine wpAny_bind (m := callSpecial? (.str x' t) (Str.ofString "__len__")) (wpAny_callSpecial?_slot (name := Str.ofString "__len__") (typeIs_str _ _ _) F.slot_str_len (call_gives F.slot_str_len (typeIs_str _ _ _) F.entry_str_len (F.args_str_len_1 _) (gives_str_len x' t) ?_))
    refine wpAny_bind (wpAny_holding (wpAny_pure ?_))
    refine wpAny_bind (wpAny_letGo ?_)
    show wpAny _ _ (if ((x'.length : Nat) : Int) < 0 then _ else _) _ _ _
    rw [if_neg (by omega)]
    show wpAny _ _ (if ((x'.length : Nat) : Int) ≥ 2 ^ 63 then _ else _) _ _ _
    rw [if_neg (by omega)]
    exact wpAny_bind (wpAny_mkInt (wpAny_pure ⟨_, rfl, hQ _ D⟩))
noncomputable def spLenL (items : List Value) (hx : items.length ≤ 1000) : Spc V where
  fx c orc L N i := oneR (bArgs 7300717 c) fun a => place orc L fun orc j b o => asSeq o fun xs n => some (.ok (.ret (.int (Int.ofNat items.length) (V.t₀ + (i + 1)))), L, N, i + 1 + 1, [.n a b, .ls xs.toList items, .v o.cls (.type "list")], orc)
  ok A Q h gens chg L N i c orc r L' N' i' obs orc' hh hd hu hf ho D hQ := by
    refine oneR_el hf ?_
    clear hf
    intro a ha hf
    refine place_el hf ?_
    clear hf
    intro orc₁ j b o hj hf
    refine asSeq_el hf ?_
    clear hf
    intro cls xs n e_ hf
    subst e_
    rw [bArgs_eq "len" (by decide +kernel) ha]
    revert ho hQ
    refine fx_elim (motive := fun r L' N' i' obs _ => (∀ o ∈ obs, Ob.Holds o) → (∀ h', Led V.h₀ h' chg L' N' → Q r ⟨h', gens, V.d, V.t₀ + i', V.os⟩) → _) hf ?_
    clear hf
    intro ho hQ
    have e1 : a = b := ho (.n a b) (.head _)
    have e2 : xs.toList = items := ho (.ls xs.toList items) (.tail _ (.head _))
    have e3 : cls = .type "list" := ho (.v cls (.type "list")) (.tail _ (.tail _ (.head _)))
    subst e1 e2 e3
    have hoo := D.at hj
    have hl : Heap.IsList (Shared.heap ⟨h, gens, V.d, V.t₀ + i, V.os⟩) a xs := ⟨_, hoo, rfl, n, rfl⟩
    refine codeAny_function kind_len plain_len entry_len (args_len1 _) ?_
    unfold Builtin.«len»
    refine wpAny_bind (m := oneArg "len" _) (wpAny_pure ?_)
    refine wpAny_bind (m := callSpecial? (.ref a) (Str.ofString "__len__")) (wpAny_callSpecial?_slot (name := Str.ofString "__len__") hl.typeIs slot_list_len
      (wpAny_call_entry slot_list_len hl.typeIs entry_list_len ?_ (args_list_len _)))
    show wpAny _ _ (do retInt (← seqSize a)) _ _ _
    unfold seqSize
    refine wpAny_bind (wpAny_bind (wpAny_load hoo ?_))
    refine wpAny_pure (wpAny_bind (wpAny_mkInt (wpAny_pure ⟨_, rfl, ?_⟩)))
    refine wpAny_bind (wpAny_holding (wpAny_pure ?_))
    refine wpAny_bind (wpAny_letGo ?_)
    have hs : xs.size = xs.toList.length := by simp
    show wpAny _ _ (if ((xs.size : Nat) : Int) < 0 then _ else _) _ _ _
    rw [if_neg (by omega)]
    show wpAny _ _ (if ((xs.size : Nat) : Int) ≥ 2 ^ 63 then _ else _) _ _ _
    rw [if_neg (by omega)]
    have z := hQ _ D
    rw [← hs] at z
    exact wpAny_bind (wpAny_mkInt (wpAny_pure ⟨_, rfl, z⟩))
end
end Mine
end
-- part Tk
section
set_option maxRecDepth 100000
namespace Mine
open PySem PySem.Spec PySem.Calls PyProof.Rows PySem.W PySem.W.X
/-- a contract of a code told as a walk -/
theorem Cn.of_walk {U : Bs} {lv : Nat} {c : Code} {s : Sh} {P : Result → Sh → Prop} (h : ∀ A R, Lvl A lv → (∀ r s', P r s' → Ends (U.V A R) r s') → Mn (U.V A R) (at_ c (denZ c) s)) : Cn U lv c s P := Cn.of_den h
end Mine
namespace Mine
open PySem PySem.Spec PySem.Calls PyProof.Rows PySem.W PySem.W.X
/-- short words for what is taken as it comes -/
noncomputable def St.m (z : St) (j : Nat) : Nat → Int × Tok := mOf (obAt z j)
noncomputable def St.e (z : St) (j : Nat) : Nat := epOf (obAt z j)
noncomputable def St.tk (z : St) (j k : Nat) : Tok := tkAt z j k
noncomputable def St.vl (z : St) (j k : Nat) : Value := valAt z j k
noncomputable def St.a (z : St) (j : Nat) : Nat := ((z.L[j]?).map (·.1)).getD 0
end Mine
namespace Mine
open PySem PySem.Spec PySem.Calls PyProof.Rows PySem.W PySem.W.X
/-- a def's data, its frame's env, its loops' codes -/
noncomputable def fdOf (K : KT) (a : Nat) : FuncData := match K.get a with
  | some o => match o.data with
    | .func fd => fd
    | _ => default
  | none => default
noncomputable def bodyOf (K : KT) (a : Nat) : List Stmt := match (fdOf K a).body with
  | .stmts b => b
  | _ => []
noncomputable def envAt (K : KT) (a f : Nat) : PySem.Env := { scope := (fdOf K a).scope, locals := f, globals := (fdOf K a).globals, cells := (fdOf K a).closure, qual := (fdOf K a).qualname ++ ⟨#[46, 60, 108, 111, 99, 97, 108, 115, 62, 46]⟩, func := some a, code := (fdOf K a).code, frame := some f, builtins := (fdOf K a).builtins }
noncomputable def stAt (l : List Stmt) (i : Nat) : Stmt := (l[i]?).getD (.Pass default)
noncomputable def sbA : Stmt → List Stmt
  | .For _ _ b _ _ => b
  | .While _ b _ _ => b
  | .If _ b _ _ => b
  | _ => []
noncomputable def sbB : Stmt → List Stmt
  | .For _ _ _ b _ => b
  | .While _ _ b _ => b
  | .If _ _ b _ => b
  | _ => []
noncomputable def forC (s : Stmt) (it : Nat) (env : PySem.Env) : Code := match s with
  | .For t _ b o _ => .forLoop t (.ref it) b o env
  | _ => .expr default env
noncomputable def whC (s : Stmt) (env : PySem.Env) : Code := match s with
  | .While t b o _ => .whileLoop t b o env
  | _ => .expr default env
/-- a state at the head of a code -/
noncomputable abbrev hd (c : Code) (s : Sh) : St := at_ c (denZ c) s
noncomputable abbrev HT := Nat → Int × Tok
noncomputable abbrev T1 := Option Value
noncomputable abbrev T2 := Option (Value × Value)
noncomputable def tn1 (a : Str) : T1 → List Str
  | none => []
  | some _ => [a]
noncomputable def tv1 : T1 → List Value
  | none => []
  | some a => [a]
noncomputable def tn2 (a b : Str) : T2 → List Str
  | none => []
  | some _ => [a, b]
noncomputable def tv2 : T2 → List Value
  | none => []
  | some p => [p.1, p.2]
end Mine
namespace Mine
open PySem PySem.Spec PySem.Calls PyProof.Rows PySem.W PySem.W.X
/-- what is handed back -/
noncomputable def St.rv (z : St) : Value := match z.t with
  | .pure (.done (.ret v)) => v
  | _ => .none
noncomputable def St.rt (z : St) : Tok := tokOf z.rv
end Mine
namespace Mine
open PySem PySem.Spec PySem.Calls PyProof.Rows PySem.W PySem.W.X
end Mine
namespace Mine
open PySem PySem.Spec PySem.Calls PyProof.Rows PySem.W PySem.W.X
noncomputable def ctOf (o : Obj) : Nat := match o.data with
  | .func fd => match fd.closureTuple with
    | .ref a => a
    | _ => 0
  | _ => 0
noncomputable def fdRest (o : Obj) : List Value := match o.data with
  | .fields vs => vs.toList.drop 2
  | _ => []
end Mine
namespace Mine
open PySem PySem.Spec PySem.Calls PyProof.Rows PySem.W PySem.W.X
noncomputable def fdO (o : Obj) : FuncData := match o.data with
  | .func fd => fd
  | _ => default
end Mine
namespace Mine
open PySem PySem.Spec PySem.Calls PyProof.Rows PySem.W PySem.W.X
noncomputable def tuOf (o : Obj) : Nat := match fldAt o 0 with
  | .ref a => a
  | _ => 0
end Mine
namespace Mine
open PySem PySem.Spec PySem.Calls PyProof.Rows PySem.W PySem.W.X
noncomputable def againC : Sem Fin → Option Code
  | .pure (.again c) => some c
  | _ => none
noncomputable def isRet : Kont → Bool
  | .ret .. => true
  | _ => false
/-- a call in the place of the code at hand, told by a contract: back at the caller -/
noncomputable def St.bka (s : St) (r : Result) (sh : Sh) : St := match s.κ with
  | .ret c _ k κ => { s with c := c, md := none, κ := κ, t := k r, chg := [], L := sh.L, N := sh.N, i := sh.i, GL := sh.GL, G := sh.G }
  | _ => s
theorem Mn_again {U : Bs} {A : Around} {R : Result → Shared → Prop} {lv lv' : Nat} (O : Lvl A lv) {s : St} {c : Code} {sh : Sh} {P : Result → Sh → Prop} (C : Cn U lv' c sh P) (hl : lv' < lv)
    (ht : againC s.t = some c) (hk : kno s.κ = true) (hw : Nat.ble (kwt s.κ) 30 = true) (hq : quietZ c = true) (hr : isRet s.κ = true) (hm : s.md.isNone = true) (hg : s.chg = []) (hsh : s.sh = sh)
    (h : ∀ r sh', P r sh' → Mn (U.V A R) (s.bka r sh')) : Mn (U.V A R) s := by
  subst hsh
  obtain ⟨c₀, md, κ, t, chg, L, N, i, GL, G⟩ := s
  dsimp only at ht hk hw hr hm hg
  subst hg
  cases md with
  | some _ => cases hm
  | none =>
    cases κ with
    | ret c₁ hd k κ =>
      unfold againC at ht
      split at ht
      · rename_i c' heq
        cases ht
        intro hp gens D DG
        have hq' : c.quiet = true := by rw [← hq]; exact congrFun PySem.W.ZFast.ze17772548960776305114 c
        obtain ⟨l1, l2, l3⟩ := around_low (V := U.V A R) O.hh (.ret c₁ hd k κ) true hk
        have hle := Nat.le_of_ble_eq_true hw
        have o1 := O.dp
        have o2 := O.un
        have e1 : (U.V A R).A₀.depth = A.depth := rfl
        have e2 : (U.V A R).A₀.units = A.units := rfl
        have key : codeAny (model U.prog U.w) (aroundOf (U.V A R) true (.ret c₁ hd k κ)) c (endOf (U.V A R) (.ret c₁ hd k κ)) ⟨hp, gens, U.d, U.t₀ + i, U.os⟩ := by
          refine C _ _ hp gens ⟨l1, by omega, by omega⟩ D DG ?_
          intro r s' hP h' gens' D' DG'
          exact h r s' hP h' gens' D' DG'
        exact y_pure _ _ _ _ _ _ _ _ _ (y_again _ _ _ _ _ _ hq' key)
      · cases ht
    | _ => cases hr
end Mine
end
-- part Jn
section
set_option maxRecDepth 100000
namespace Mine
open PySem PySem.Spec PySem.Calls PyProof.Rows PySem.W PySem.W.X
/-- a piece of a run: so many nodes | a question to the world, both answers walked till they meet -/
inductive Pc where
  | go (n : Nat) (orc : List Nat)
  | jn (fl nT : Nat) (oT : List Nat) (nF : Nat) (oF : List Nat)
/-- the world with one of its words told -/
noncomputable def wv (w : World) (fl : Nat) (b : Bool) : World := match fl with
  | 0 => wset w b (w.params.followText "comprehension-iter-twice") (w.params.followText "for-iterable-display-folded")
  | _ => wset w (w.params.followText "special-get-raises") b (w.params.followText "for-iterable-display-folded")
theorem wv_self (w : World) (fl : Nat) : wv w fl true = w ∨ wv w fl false = w := by
  have h := wset_self w
  match fl with
  | 0 =>
    cases q : w.params.followText "special-get-raises" with
    | true => left; show wset w true _ _ = w; rw [q] at h; exact h
    | false => right; show wset w false _ _ = w; rw [q] at h; exact h
  | n + 1 =>
    cases q : w.params.followText "comprehension-iter-twice" with
    | true => left; show wset w _ true _ = w; rw [q] at h; exact h
    | false => right; show wset w _ false _ = w; rw [q] at h; exact h
structure Jo where
  good : Bool
  os : List Ob
  sts : List (St × St)
  st : St
section
variable (V : XV) (sp : List (Spc V))
noncomputable def askT (s : St) (fl : Nat) (b : Bool) : Option St := match s.t with
  | .ask k => some { s with t := k ⟨V.prog, (wv V.w fl b).params⟩ }
  | _ => none
noncomputable def runP : List Pc → St → (Nat → Nat → Pos) → Jo
  | [], s, _ => ⟨true, [], [], s⟩
  | .go n orc :: r, s, ps => match runP r ((run V sp n orc s (ps 0)).st s) (fun i => ps (i + 1)) with
    | ⟨g, os, sts, st⟩ => ⟨(run V sp n orc s (ps 0)).good && g, (run V sp n orc s (ps 0)).os ++ os, sts, st⟩
  | .jn fl nT oT nF oF :: r, s, ps => match askT V s fl true, askT V s fl false with
    | some a, some b => match runP r ((run V sp nT oT a (ps 0)).st s) (fun i => ps (i + 1)) with
      | ⟨g, os, sts, st⟩ => ⟨(run V sp nT oT a (ps 0)).good && (run V sp nF oF b (ps 0)).good && g, (run V sp nT oT a (ps 0)).os ++ ((run V sp nF oF b (ps 0)).os ++ os), ((run V sp nT oT a (ps 0)).st s, (run V sp nF oF b (ps 0)).st s) :: sts, st⟩
    | _, _ => ⟨false, [], [], s⟩
end
theorem Mn_ask {V : XV} {s : St} {k : Setting → Sem Fin} (ht : s.t = .ask k) (h : Mn V { s with t := k ⟨V.prog, V.w.params⟩ }) : Mn V s := by
  intro hp gens D DG
  rw [ht]
  exact means_cmd (m := ask) (k := k) (wpAny_askSetting (h hp gens D DG))
theorem map_split {α β : Type} {f g : α → β} {a b : List α} (h : (a ++ b).map f = (a ++ b).map g) : a.map f = a.map g ∧ b.map f = b.map g := by
  rw [List.map_append, List.map_append] at h
  exact List.append_inj h (by simp)
/-- the pieces end, and what is owed holds by reckoning -/
noncomputable def FineP (o : Jo) : Prop := o.good = true ∧ o.os.map Ob.lft = o.os.map Ob.rgt ∧ o.sts.map (·.1) = o.sts.map (·.2)
noncomputable def ps1 (p : Nat → Pos) (ps : Nat → Nat → Pos) : Nat → Nat → Pos
  | 0 => p
  | i + 1 => ps i
theorem run_pcs {V : XV} (O : Good V) (sp : List (Spc V)) : ∀ (pcs : List Pc) (s : St), (∀ ps, FineP (runP V sp pcs s ps)) → (∀ ps, Mn V (runP V sp pcs s ps).st) → Mn V s
  | [], s, _, h5 => h5 fun _ _ => default
  | .go n orc :: r, s, h, h5 => by
    have e : ∀ p ps, FineP (runP V sp (.go n orc :: r) s (ps1 p ps)) := fun p ps => h _
    have k : ∀ p ps, Fine (run V sp n orc s p) ∧ FineP (runP V sp r ((run V sp n orc s p).st s) ps) := fun p ps => by
      obtain ⟨g, o, t⟩ := e p ps
      have g : ((run V sp n orc s p).good && (runP V sp r ((run V sp n orc s p).st s) ps).good) = true := g
      have o : ((run V sp n orc s p).os ++ (runP V sp r ((run V sp n orc s p).st s) ps).os).map Ob.lft = ((run V sp n orc s p).os ++ (runP V sp r ((run V sp n orc s p).st s) ps).os).map Ob.rgt := o
      rw [Bool.and_eq_true] at g
      obtain ⟨o1, o2⟩ := map_split o
      exact ⟨⟨g.1, o1⟩, g.2, o2, t⟩
    exact run_seg O sp n orc s (fun p => (k p fun _ _ => default).1) fun p => run_pcs O sp r _ (fun ps => (k p ps).2) fun ps => h5 (ps1 p ps)
  | .jn fl nT oT nF oF :: r, s, h, h5 => by
    have e : ∀ p ps, FineP (runP V sp (.jn fl nT oT nF oF :: r) s (ps1 p ps)) := fun p ps => h _
    have h6 : ∀ p ps, Mn V (runP V sp (.jn fl nT oT nF oF :: r) s (ps1 p ps)).st := fun p ps => h5 _
    cases ht : s.t with
    | ask q =>
      obtain ⟨a, ha⟩ : ∃ a, a = { s with t := q ⟨V.prog, (wv V.w fl true).params⟩ } := ⟨_, rfl⟩
      obtain ⟨b, hb⟩ : ∃ b, b = { s with t := q ⟨V.prog, (wv V.w fl false).params⟩ } := ⟨_, rfl⟩
      have ea : askT V s fl true = some a := by unfold askT; rw [ht, ha]
      have eb : askT V s fl false = some b := by unfold askT; rw [ht, hb]
      have er : ∀ p ps, runP V sp (.jn fl nT oT nF oF :: r) s (ps1 p ps) = ⟨(run V sp nT oT a p).good && (run V sp nF oF b p).good && (runP V sp r ((run V sp nT oT a p).st s) ps).good, (run V sp nT oT a p).os ++ ((run V sp nF oF b p).os ++ (runP V sp r ((run V sp nT oT a p).st s) ps).os), ((run V sp nT oT a p).st s, (run V sp nF oF b p).st s) :: (runP V sp r ((run V sp nT oT a p).st s) ps).sts, (runP V sp r ((run V sp nT oT a p).st s) ps).st⟩ := fun p ps => by
        rw [runP, ea, eb]; rfl
      have k : ∀ p ps, Fine (run V sp nT oT a p) ∧ Fine (run V sp nF oF b p) ∧ (run V sp nT oT a p).st s = (run V sp nF oF b p).st s ∧ FineP (runP V sp r ((run V sp nT oT a p).st s) ps) := fun p ps => by
        have f := e p ps
        rw [er p ps] at f
        obtain ⟨g, o, t⟩ := f
        dsimp only at g o t
        rw [Bool.and_eq_true, Bool.and_eq_true] at g
        obtain ⟨o1, o2⟩ := map_split o
        obtain ⟨o2, o3⟩ := map_split o2
        rw [List.map_cons, List.map_cons] at t
        injection t with t1 t2
        exact ⟨⟨g.1.1, o1⟩, ⟨g.1.2, o2⟩, t1, g.2, o3, t2⟩
      have st_eq : ∀ (o : Out) (d d' : St), o.good = true → o.st d = o.st d' := fun o d d' h => by
        cases o with
        | ok x => rfl
        | bad n => cases h
      have m : ∀ p, Mn V ((run V sp nT oT a p).st s) := fun p => run_pcs O sp r _ (fun ps => (k p ps).2.2.2) fun ps => by
        have := h6 p ps
        rw [er p ps] at this
        exact this
      have d0 : Nat → Nat → Pos := fun _ _ => default
      have mT : Mn V a := run_seg O sp nT oT a (fun p => (k p d0).1) fun p => by
        rw [st_eq _ a s (k p d0).1.1]; exact m p
      have mF : Mn V b := run_seg O sp nF oF b (fun p => (k p d0).2.1) fun p => by
        rw [st_eq _ b s (k p d0).2.1.1, ← (k p d0).2.2.1]; exact m p
      refine Mn_ask ht ?_
      rcases wv_self V.w fl with hw | hw
      · rw [ha, hw] at mT; exact mT
      · rw [hb, hw] at mF; exact mF
    | _ =>
      exfalso
      have ea : askT V s fl true = none := by unfold askT; rw [ht]
      have := (e (fun _ => default) fun _ _ => default).1
      rw [runP, ea] at this
      cases this
noncomputable def fitL (o : Jo) (ps : List Nat) (m : Nat) (gs : List Nat) (gm : Nat) : Bool × List Ob × List St × St := (okPick ps m && okPick gs gm && o.good, o.os.map Ob.lft, o.sts.map (·.1), o.st.pk ps m gs gm)
noncomputable def fitR (o : Jo) (ps : List Nat) (m : Nat) (gs : List Nat) (gm : Nat) (f : St → St) : Bool × List Ob × List St × St := (true, o.os.map Ob.rgt, o.sts.map (·.2), f (o.st.pk ps m gs gm))
noncomputable abbrev FitP (o : Jo) (ps : List Nat) (m : Nat) (gs : List Nat) (gm : Nat) (f : St → St) : Prop := fitL o ps m gs gm = fitR o ps m gs gm f
theorem sg_fit {V : XV} (O : Good V) (sp : List (Spc V)) (pcs : List Pc) (ps : List Nat) (m : Nat) (gs : List Nat) (gm : Nat) {s : St} (f : St → St)
    (e : ∀ pz, FitP (runP V sp pcs s pz) ps m gs gm f) (h : ∀ z, Mn V (f z)) : Mn V s := by
  have e1 : ∀ pz, okPick ps m = true ∧ okPick gs gm = true ∧ FineP (runP V sp pcs s pz) ∧ (runP V sp pcs s pz).st.pk ps m gs gm = f ((runP V sp pcs s pz).st.pk ps m gs gm) := fun pz => by
    have q := e pz
    unfold FitP fitL fitR at q
    rw [Prod.mk.injEq, Prod.mk.injEq, Prod.mk.injEq, Bool.and_eq_true, Bool.and_eq_true] at q
    exact ⟨q.1.1.1, q.1.1.2, ⟨q.1.2, q.2.1, q.2.2.1⟩, q.2.2.2⟩
  refine run_pcs O sp pcs s (fun pz => (e1 pz).2.2.1) fun pz => ?_
  refine Mn_pick (e1 pz).1 (e1 pz).2.1 ?_
  rw [(e1 pz).2.2.2]
  exact h _
noncomputable def callL (o : Jo) (ps : List Nat) (m : Nat) (gs : List Nat) (gm : Nat) : Bool × List Ob × List St × Option Code × Lg × Sh := (okPick ps m && okPick gs gm && o.good && sno o.st.md o.st.κ && Nat.ble (swt o.st.c o.st.md o.st.κ) 30, o.os.map Ob.lft, o.sts.map (·.1), callC o.st.t, o.st.chg, (o.st.pk ps m gs gm).sh)
noncomputable def callR (o : Jo) (c : Code) (sh : Sh) : Bool × List Ob × List St × Option Code × Lg × Sh := (true, o.os.map Ob.rgt, o.sts.map (·.2), some c, [], sh)
noncomputable abbrev CallP (o : Jo) (ps : List Nat) (m : Nat) (gs : List Nat) (gm : Nat) (c : Code) (sh : Sh) : Prop := callL o ps m gs gm = callR o c sh
/-- the state behind pieces, picked: not looked into by the elaborator -/
@[irreducible] noncomputable def pkI (o : Jo) (ps : List Nat) (m : Nat) (gs : List Nat) (gm : Nat) : St := o.st.pk ps m gs gm
theorem pkI_eq (o : Jo) (ps : List Nat) (m : Nat) (gs : List Nat) (gm : Nat) : pkI o ps m gs gm = o.st.pk ps m gs gm := by unfold pkI; rfl
theorem sg_call {U : Bs} {A : Around} {R : Result → Shared → Prop} {lv lv' : Nat} (O : Lvl A lv) (sp : List (Spc (U.V A R))) (pcs : List Pc) (ps : List Nat) (m : Nat) (gs : List Nat) (gm : Nat) {s : St} {c : St → Code} {sh : St → Sh} {P : St → Result → Sh → Prop}
    (C : ∀ z, Cn U lv' (c z) (sh z) (P z)) (hl : lv' < lv)
    (e : ∀ pz, CallP (runP (U.V A R) sp pcs s pz) ps m gs gm (c ((runP (U.V A R) sp pcs s pz).st.pk ps m gs gm)) (sh ((runP (U.V A R) sp pcs s pz).st.pk ps m gs gm)))
    (h : ∀ pz, let z := pkI (runP (U.V A R) sp pcs s pz) ps m gs gm; ∀ r sh', P z r sh' → Mn (U.V A R) (z.back r sh')) : Mn (U.V A R) s := by
  have e1 := e
  unfold CallP callL callR at e1
  simp only [Prod.mk.injEq, Bool.and_eq_true] at e1
  refine run_pcs O.good sp pcs s (fun pz => ⟨(e1 pz).1.1.1.2, (e1 pz).2.1, (e1 pz).2.2.1⟩) fun pz => ?_
  obtain ⟨⟨⟨⟨⟨h1, h2⟩, h3⟩, h4⟩, h5⟩, h6, h6', h7, h8, h9⟩ := e1 pz
  refine Mn_pick h1 h2 ?_
  refine Mn_call O (C _) hl ⟨⟨?_, ?_, ?_⟩, ?_, h9⟩ (by have q := h pz; dsimp only at q; rw [pkI_eq] at q; exact q)
  · exact h7
  · exact h4
  · exact h5
  · exact h8
noncomputable def agL (o : Jo) (ps : List Nat) (m : Nat) (gs : List Nat) (gm : Nat) (c : Code) : Bool × List Ob × List St × Option Code × Lg × Sh := (okPick ps m && okPick gs gm && o.good && kno o.st.κ && Nat.ble (kwt o.st.κ) 30 && quietZ c && isRet o.st.κ && o.st.md.isNone, o.os.map Ob.lft, o.sts.map (·.1), againC o.st.t, o.st.chg, (o.st.pk ps m gs gm).sh)
noncomputable abbrev AgP (o : Jo) (ps : List Nat) (m : Nat) (gs : List Nat) (gm : Nat) (c : Code) (sh : Sh) : Prop := agL o ps m gs gm c = callR o c sh
theorem sg_again {U : Bs} {A : Around} {R : Result → Shared → Prop} {lv lv' : Nat} (O : Lvl A lv) (sp : List (Spc (U.V A R))) (pcs : List Pc) (ps : List Nat) (m : Nat) (gs : List Nat) (gm : Nat) {s : St} {c : St → Code} {sh : St → Sh} {P : St → Result → Sh → Prop}
    (C : ∀ z, Cn U lv' (c z) (sh z) (P z)) (hl : lv' < lv)
    (e : ∀ pz, AgP (runP (U.V A R) sp pcs s pz) ps m gs gm (c ((runP (U.V A R) sp pcs s pz).st.pk ps m gs gm)) (sh ((runP (U.V A R) sp pcs s pz).st.pk ps m gs gm)))
    (h : ∀ pz, let z := pkI (runP (U.V A R) sp pcs s pz) ps m gs gm; ∀ r sh', P z r sh' → Mn (U.V A R) (z.bka r sh')) : Mn (U.V A R) s := by
  have e1 := e
  unfold AgP agL callR at e1
  simp only [Prod.mk.injEq, Bool.and_eq_true] at e1
  refine run_pcs O.good sp pcs s (fun pz => ⟨(e1 pz).1.1.1.1.1.1.2, (e1 pz).2.1, (e1 pz).2.2.1⟩) fun pz => ?_
  obtain ⟨⟨⟨⟨⟨⟨⟨⟨h1, h2⟩, h3⟩, h4⟩, h5⟩, h6⟩, h7⟩, h8⟩, h9, h9', h10, h11, h12⟩ := e1 pz
  exact Mn_pick h1 h2 (Mn_again O (C _) hl h10 h4 h5 h6 h7 h8 h11 h12 (by have q := h pz; dsimp only at q; rw [pkI_eq] at q; exact q))
noncomputable abbrev MidP (o : Jo) (ps : List Nat) (m : Nat) (gs : List Nat) (gm : Nat) : Prop := (okPick ps m && okPick gs gm && o.good, o.os.map Ob.lft, o.sts.map (·.1)) = (true, o.os.map Ob.rgt, o.sts.map (·.2))
theorem sg_mid {V : XV} (O : Good V) (sp : List (Spc V)) (pcs : List Pc) (ps : List Nat) (m : Nat) (gs : List Nat) (gm : Nat) {s : St}
    (e : ∀ pz, MidP (runP V sp pcs s pz) ps m gs gm) (h : ∀ pz, let z := pkI (runP V sp pcs s pz) ps m gs gm; Mn V z) : Mn V s := by
  have e1 : ∀ pz, okPick ps m = true ∧ okPick gs gm = true ∧ FineP (runP V sp pcs s pz) := fun pz => by
    have q := e pz
    unfold MidP at q
    rw [Prod.mk.injEq, Prod.mk.injEq, Bool.and_eq_true, Bool.and_eq_true] at q
    exact ⟨q.1.1.1, q.1.1.2, ⟨q.1.2, q.2.1, q.2.2⟩⟩
  exact run_pcs O sp pcs s (fun pz => (e1 pz).2.2) fun pz => Mn_pick (e1 pz).1 (e1 pz).2.1 (by have q := h pz; dsimp only at q; rw [pkI_eq] at q; exact q)
end Mine
end
-- part Sp5
section
set_option maxRecDepth 100000
namespace Mine
open PySem PySem.Spec PySem.Calls PyProof.Rows PySem.W PySem.W.X
section
variable {V : XV}
noncomputable def catT (x y : Str) (t u f : Tok) : Tok := if (x.length == 0) = true then u else if (y.length == 0) = true then t else f
noncomputable def catI (x y : Str) (i : Nat) : Nat := if (x.length == 0) = true then i else if (y.length == 0) = true then i else i + 1
theorem cat_empty {x y : Str} (h : (x.length == 0) = true) : x ++ y = y := by
  have e : x.cps = #[] := Array.eq_empty_of_size_eq_zero (eq_of_beq h)
  have : x = ⟨#[]⟩ := by cases x; cases e; rfl
  rw [this]; exact Str.empty_append y
theorem append_empty' {x y : Str} (h : (y.length == 0) = true) : x ++ y = x := by
  have e : y.cps = #[] := Array.eq_empty_of_size_eq_zero (eq_of_beq h)
  have : y = ⟨#[]⟩ := by cases y; cases e; rfl
  rw [this]
  exact Str.ext' (by simp [Str.cps_append])
/-- x + y -/
noncomputable def spCat (x y z : Str) (hz : x ++ y = z) (hl : z.length ≤ sizeLine) : Spc V where
  fx c orc L N i := twoS (bArgs 116512096292018843154609524 c) fun x' t y' u => some (.ok (.ret (.str z (catT x y t u (V.t₀ + i)))), L, N, catI x y i, [.s x' x, .s y' y], orc)
  ok A Q h gens chg L N i c orc r L' N' i' obs orc' hh hd hu hf ho D hQ := by
    refine twoS_el hf ?_
    clear hf
    intro x' t y' u ha hf
    rw [bArgs_eq "str.__add__" (by decide +kernel) ha]
    revert ho hQ
    refine fx_elim (motive := fun r L' N' i' obs _ => (∀ o ∈ obs, Ob.Holds o) → (∀ h', Led V.h₀ h' chg L' N' → Q r ⟨h', gens, V.d, V.t₀ + i', V.os⟩) → _) hf ?_
    clear hf
    intro ho hQ
    have e1 : x' = x := ho (.s x' x) (.head _)
    have e2 : y' = y := ho (.s y' y) (.tail _ (.head _))
    subst e1 e2
    refine codeAny_gives F.slot_str_add (typeIs_str _ _ _) F.entry_str_add (F.args_str_add_2 _ _) (gives_str_add x' y' t u) ?_
    have z := hQ _ D
    unfold catT catI at z
    subst hz
    cases hx : (x'.length == 0) with
    | true => rw [hx, if_pos rfl, if_pos rfl] at z; rw [if_pos rfl]; rw [cat_empty hx] at z; exact z
    | false =>
      rw [hx, if_neg Bool.false_ne_true, if_neg Bool.false_ne_true] at z; rw [if_neg Bool.false_ne_true]
      cases hy : (y'.length == 0) with
      | true => rw [hy, if_pos rfl, if_pos rfl] at z; rw [if_pos rfl]; rw [append_empty' hy] at z; exact z
      | false => rw [hy, if_neg Bool.false_ne_true, if_neg Bool.false_ne_true] at z; rw [if_neg Bool.false_ne_true]; exact ⟨hl, z⟩
noncomputable def slT (b : Bool) (t f : Tok) : Tok := if b = true then t else f
noncomputable def slI (b : Bool) (i : Nat) : Nat := if b = true then i else i + 1
/-- x[lo:hi] -/
noncomputable def spSlc (x : Str) (lo hi : Option Int) (y : Str)
    (hm : (⟨((PySem.Builtin.Str.strSliceIndices lo hi 1 x.length).filterMap (x.cps[·]?)).toArray⟩ : Str) = y) (hw : ((PySem.Builtin.Str.strSliceIndices lo hi 1 x.length).length == x.length) = true → y = x) (hy : y.length ≤ sizeLine) : Spc V where
  fx c orc L N i := strR (bArgs 500416356548588640944365259017385332 c) fun x' t a => place orc L fun orc j b o => fVVN o fun vl vu => prt vl lo fun _ o1 => prt vu hi fun _ o2 => some (.ok (.ret (.str y (slT ((PySem.Builtin.Str.strSliceIndices lo hi 1 x.length).length == x.length) t (V.t₀ + i)))), L, N, slI ((PySem.Builtin.Str.strSliceIndices lo hi 1 x.length).length == x.length) i, .n a b :: .s x' x :: .v o.cls (.type "slice") :: (o1 ++ o2), orc)
  ok A Q h gens chg L N i cd orc r L' N' i' obs orc' hh hd hu hf ho D hQ := by
    refine strR_el hf ?_
    clear hf
    intro x' t a ha hf
    refine place_el hf ?_
    clear hf
    intro orc₁ j b o hj hf
    rw [bArgs_eq "str.__getitem__" (by decide +kernel) ha]
    refine fVVN_el hf ?_
    clear hf
    intro vs vl vu hvs hvl hf
    refine prt_el hf ?_
    clear hf
    intro pl o1 e_ hf k1
    subst e_
    refine prt_el hf ?_
    clear hf
    intro pu o2 e_ hf k2
    subst e_
    revert ho hQ
    refine fx_elim (motive := fun r L' N' i' obs _ => (∀ o ∈ obs, Ob.Holds o) → (∀ h', Led V.h₀ h' chg L' N' → Q r ⟨h', gens, V.d, V.t₀ + i', V.os⟩) → _) hf ?_
    clear hf
    intro ho hQ
    have e1 : a = b := ho (.n a b) (.head _)
    have e2 : x' = x := ho (.s x' x) (.tail _ (.head _))
    have e3 : o.cls = .type "slice" := ho (.v o.cls (.type "slice")) (.tail _ (.tail _ (.head _)))
    have k1 := k1 fun q hq => ho q (.tail _ (.tail _ (.tail _ (List.mem_append.mpr (.inl hq)))))
    have k2 := k2 fun q hq => ho q (.tail _ (.tail _ (.tail _ (List.mem_append.mpr (.inr hq)))))
    subst e1 e2
    have hv : vs = #[partValue pl, partValue pu, partValue none] := Array.ext' hvl
    subst hv
    refine codeAny_meets F.slot_str_getitem (typeIs_str _ _ _) F.entry_str_getitem (F.args_str_getitem_2 _ _) (meets_str_getitem_slice x' t a pl pu none rfl) ⟨⟨o, D.at hj, e3, hvs⟩, ?_⟩
    unfold sliceMade slicePicked
    rw [k1, k2]
    show (if ((1 : Int) == 1 && (PySem.Builtin.Str.strSliceIndices lo hi 1 x'.length).length == x'.length) = true then Made.val (.str x' t) else .str ⟨((PySem.Builtin.Str.strSliceIndices lo hi 1 x'.length).filterMap (x'.cps[·]?)).toArray⟩).post _ _
    have z := hQ _ D
    unfold slT slI at z
    cases hb : ((PySem.Builtin.Str.strSliceIndices lo hi 1 x'.length).length == x'.length) with
    | true =>
      rw [hb, if_pos rfl, if_pos rfl, hw hb] at z
      exact z
    | false =>
      rw [hb, if_neg Bool.false_ne_true, if_neg Bool.false_ne_true] at z
      rw [Bool.and_false, if_neg Bool.false_ne_true, hm]
      exact ⟨hy, z⟩
noncomputable def jnT (l : List (Str × Tok)) (f : Tok) : Tok := match l with
  | [p] => p.2
  | _ => f
noncomputable def jnI (l : List (Str × Tok)) (i : Nat) : Nat := match l with
  | [_] => i
  | _ => i + 1
/-- sep.join(items) -/
noncomputable def spJn (sep : Str) (items : List Value) (l : List (Str × Tok)) (y : Str) (hi : items = strValues l) (hl : PySem.Builtin.Str.tooLong ((l.map (·.1)).toArray.foldl (· + ·.length + sep.length) 0) = false)
    (hm : ∀ n, (joinMade sep l = .str n ∨ ∃ t, joinMade sep l = .val (.str n t)) → n = y) (hy : y.length ≤ sizeLine) : Spc V where
  fx c orc L N i := strR (bArgs 8028352891401237876 c) fun x t a => place orc L fun orc j b o => asSeq o fun xs n => some (.ok (.ret (.str y (jnT l (V.t₀ + i)))), L, N, jnI l i, [.n a b, .s x sep, .ls xs.toList items, .v o.cls (.type "list")], orc)
  ok A Q h gens chg L N i cd orc r L' N' i' obs orc' hh hd hu hf ho D hQ := by
    refine strR_el hf ?_
    clear hf
    intro x t a ha hf
    refine place_el hf ?_
    clear hf
    intro orc₁ j b o hj hf
    refine asSeq_el hf ?_
    clear hf
    intro cls xs n e_ hf
    subst e_
    rw [bArgs_eq "str.join" (by decide +kernel) ha]
    revert ho hQ
    refine fx_elim (motive := fun r L' N' i' obs _ => (∀ o ∈ obs, Ob.Holds o) → (∀ h', Led V.h₀ h' chg L' N' → Q r ⟨h', gens, V.d, V.t₀ + i', V.os⟩) → _) hf ?_
    clear hf
    intro ho hQ
    have e1 : a = b := ho (.n a b) (.head _)
    have e2 : x = sep := ho (.s x sep) (.tail _ (.head _))
    have e3 : xs.toList = strValues l := (ho (.ls xs.toList items) (.tail _ (.tail _ (.head _)))).trans hi
    have e4 : cls = .type "list" := ho (.v cls (.type "list")) (.tail _ (.tail _ (.tail _ (.head _))))
    subst e1 e2 e4
    have hx : xs = (strValues l).toArray := Array.ext' e3
    subst hx
    have hoo := D.at hj
    refine codeAny_meets F.slot_str_join (typeIs_str _ _ _) F.entry_str_join (F.args_str_join_2 _ _) (meets_str_join_list x t a l hl) ⟨⟨_, hoo, rfl, n, rfl⟩, ?_⟩
    have z := hQ _ D
    match l, hm, z with
    | [], hm, z => rw [← hm _ (.inl rfl)] at hy z; exact ⟨hy, z⟩
    | [p], hm, z => rw [← hm _ (.inr ⟨_, rfl⟩)] at z; exact z
    | p :: q :: l, hm, z => rw [← hm _ (.inl rfl)] at hy z; exact ⟨hy, z⟩
end
theorem strVals_snoc (l : List (Str × Tok)) (z : Str) (t : Tok) : (strValues l).concat (.str z t) = strValues (l ++ [(z, t)]) := by
  simp [strValues]
/-- texts glued without a word between -/
noncomputable def catS (l : List Str) : Str := ⟨⟨l.flatMap (·.cps.toList)⟩⟩
end Mine
namespace Mine
open PySem PySem.Spec PySem.Calls PyProof.Rows PySem.W PySem.W.X
theorem join_cat : ∀ (l : List Str), Str.join ⟨#[]⟩ l = catS l
  | [] => rfl
  | [x] => by cases x; simp [Str.join, catS]
  | x :: y :: l => by
    have := join_cat (y :: l)
    show x ++ ⟨#[]⟩ ++ Str.join ⟨#[]⟩ (y :: l) = _
    rw [this]
    refine Str.ext' ?_
    simp [catS, Str.cps_append]
theorem made_cat {l : List (Str × Tok)} : ∀ n, (joinMade ⟨#[]⟩ l = .str n ∨ ∃ t, joinMade ⟨#[]⟩ l = .val (.str n t)) → n = catS (l.map (·.1)) := by
  intro n h
  match l, h with
  | [], h =>
    rcases h with h | ⟨t, h⟩
    · cases h; rw [StrLaws.glued_eq_join, join_cat]
    · cases h
  | [p], h =>
    rcases h with h | ⟨t, h⟩
    · cases h
    · cases h; simp [catS]
  | p :: q :: l, h =>
    rcases h with h | ⟨t, h⟩
    · cases h; rw [StrLaws.glued_eq_join, join_cat]
    · cases h
theorem catS_len (l : List Str) : (catS l).length = (l.map (·.length)).sum := by
  show (⟨l.flatMap (·.cps.toList)⟩ : Array Nat).size = _
  simp [List.length_flatMap, Str.length]
theorem fold_len (l : List Str) (n : Nat) : l.toArray.foldl (· + ·.length + (⟨#[]⟩ : Str).length) n = n + (l.map (·.length)).sum := by
  rw [List.foldl_toArray]
  induction l generalizing n with
  | nil => rfl
  | cons a l ih => rw [List.foldl_cons, ih, List.map_cons, List.sum_cons]; show n + a.length + 0 + _ = _; omega
theorem not_long {n : Nat} (h : n ≤ 1000000) : PySem.Builtin.Str.tooLong n = false := by
  have : (1000000 : Nat) ≤ sizeLine := by decide
  unfold PySem.Builtin.Str.tooLong
  exact decide_eq_false (by omega)
theorem sz {n : Nat} (h : n ≤ 1000000) : n ≤ sizeLine := Nat.le_trans h (by decide)
end Mine
namespace Mine
open PySem PySem.Spec PySem.Calls PyProof.Rows PySem.W PySem.W.X
/-- a slice's end, cut to the text -/
noncomputable def clipN (len : Nat) (d : Nat) : Option Int → Nat
  | none => d
  | some i => (max 0 (min (if i < 0 then i + len else i) (len : Int))).toNat
noncomputable def cutL {α : Type} (l : List α) (lo hi : Option Int) : List α := (l.drop (clipN l.length 0 lo)).take (clipN l.length l.length hi - clipN l.length 0 lo)
noncomputable def pySlice (x : Str) (lo hi : Option Int) : Str := ⟨⟨cutL x.cps.toList lo hi⟩⟩
theorem clip_is (len : Nat) (o : Option Int) (d : Nat) : ((match o with
    | none => (d : Int)
    | some i => if (1 : Int) > 0 then max 0 (min (if i < 0 then i + len else i) (len : Int)) else max (-1) (min (if i < 0 then i + len else i) ((len : Int) - 1))) : Int) = ((clipN len d o : Nat) : Int) := by
  cases o with
  | none => rfl
  | some i =>
    simp only [clipN, show ((1 : Int) > 0) = True from by simp, if_true]
    omega
theorem idx_clip (len : Nat) (lo hi : Option Int) : PySem.Builtin.Str.strSliceIndices lo hi 1 len = (List.range (clipN len len hi - clipN len 0 lo)).map (fun k => clipN len 0 lo + k) := by
  have h1 := clip_is len lo 0
  have h2 := clip_is len hi len
  have e : PySem.Builtin.Str.strSliceIndices lo hi 1 len = sliceRange (clipN len 0 lo : Nat) (clipN len len hi : Nat) 1 := by
    rw [← h1, ← h2]
    unfold PySem.Builtin.Str.strSliceIndices
    rfl
  rw [e]
  generalize clipN len 0 lo = a
  generalize clipN len len hi = b
  unfold sliceRange
  simp only [show ((1 : Int) > 0) = True from by simp, if_true]
  by_cases hlt : (a : Int) < b
  · have e3 : (((b : Int) - a + 1 - 1) / 1).toNat = b - a := by first | omega | (simp; done) | (simp; omega)
    simp only [hlt, if_true, e3]
    refine List.map_congr_left fun k _ => ?_
    omega
  · have : b - a = 0 := by omega
    simp [hlt, this]
theorem clip_le (len : Nat) (o : Option Int) (d : Nat) (hd : d ≤ len) : clipN len d o ≤ len := by
  cases o with
  | none => exact hd
  | some i => unfold clipN; dsimp only; omega
theorem pySlice_is (x : Str) (lo hi : Option Int) : (⟨((PySem.Builtin.Str.strSliceIndices lo hi 1 x.length).filterMap (x.cps[·]?)).toArray⟩ : Str) = pySlice x lo hi := by
  rw [idx_clip]
  have hb := clip_le x.length hi x.length (Nat.le_refl _)
  have ha := clip_le x.length lo 0 (Nat.zero_le _)
  have e : x.length = x.cps.toList.length := by simp [Str.length]
  unfold pySlice cutL
  rw [← e]
  by_cases h : clipN x.length 0 lo ≤ clipN x.length x.length hi
  · have q := StrLaws.picks x.cps.toList (clipN x.length x.length hi - clipN x.length 0 lo) (clipN x.length 0 lo) (by rw [← e]; omega)
    simp only [Array.getElem?_toList] at q
    rw [q]
  · rw [show clipN x.length x.length hi - clipN x.length 0 lo = 0 from by omega]
    rfl
theorem pySlice_all (x : Str) (lo hi : Option Int) (h : ((PySem.Builtin.Str.strSliceIndices lo hi 1 x.length).length == x.length) = true) : pySlice x lo hi = x := by
  rw [idx_clip, List.length_map, List.length_range] at h
  have h := eq_of_beq h
  have hb := clip_le x.length hi x.length (Nat.le_refl _)
  have e : x.length = x.cps.toList.length := by simp [Str.length]
  unfold pySlice cutL
  rw [← e]
  by_cases hz : x.length = 0
  · have : x.cps.toList = [] := List.eq_nil_of_length_eq_zero (e ▸ hz)
    rw [this]
    refine Str.ext' (Array.ext' ?_)
    simp [this]
  · have h0 : clipN x.length 0 lo = 0 := by omega
    rw [h, h0, List.drop_zero, e, List.take_length]
theorem cutL_len {α : Type} (l : List α) (lo hi : Option Int) : (cutL l lo hi).length ≤ l.length := by
  unfold cutL
  exact Nat.le_trans (List.length_take_le' ..) (by rw [List.length_drop]; omega)
theorem pySlice_len (x : Str) (lo hi : Option Int) : (pySlice x lo hi).length ≤ x.length := cutL_len x.cps.toList lo hi
/-- x[lo:hi] -/
noncomputable def spS {V : XV} (x : Str) (lo hi : Option Int) (y : Str) (hx : x.length ≤ 1000000) (e : pySlice x lo hi = y) : Spc V :=
  spSlc x lo hi y ((pySlice_is x lo hi).trans e) (fun h => e.symm.trans (pySlice_all x lo hi h)) (sz (by rw [← e]; exact Nat.le_trans (pySlice_len x lo hi) hx))
end Mine
namespace Mine
open PySem PySem.Spec PySem.Calls PyProof.Rows PySem.W PySem.W.X
theorem sum_le {b : Nat} : ∀ {l : List Str}, (∀ p ∈ l, p.length ≤ b) → (l.map (·.length)).sum ≤ l.length * b
  | [], _ => Nat.zero_le _
  | a :: l, h => by
    have h1 := sum_le (l := l) fun p hp => h p (.tail _ hp)
    have h2 := h a (.head _)
    simp only [List.map_cons, List.sum_cons, List.length_cons, Nat.add_mul, Nat.one_mul]
    omega
/-- ''.join(items) -/
noncomputable def spJ {V : XV} (items : List Value) (l : List (Str × Tok)) (y : Str) (b : Nat) (hi : items = strValues l) (hb : ∀ p ∈ l, p.1.length ≤ b) (hl : l.length * b ≤ 1000000) (e : catS (l.map (·.1)) = y) : Spc V :=
  spJn ⟨#[]⟩ items l y hi (not_long (by
    rw [fold_len, Nat.zero_add]
    refine Nat.le_trans (sum_le (b := b) ?_) (by rw [List.length_map]; exact hl)
    intro p hp
    obtain ⟨q, hq, rfl⟩ := List.mem_map.mp hp
    exact hb q hq)) (fun n h => (made_cat n h).trans e) (sz (by
    rw [← e, catS_len]
    refine Nat.le_trans (sum_le (b := b) ?_) (by rw [List.length_map]; exact hl)
    intro p hp
    obtain ⟨q, hq, rfl⟩ := List.mem_map.mp hp
    exact hb q hq))
end Mine
end
-- part Sp6
section
set_option maxRecDepth 100000
namespace Mine
open PySem PySem.Spec PySem.Calls PyProof.Rows PySem.W PySem.W.X
noncomputable def typA (o : Option (List Value)) (k : String → SpR) : SpR := a0 o fun l => hdV l fun b0 l => hdV l fun b1 l => nlV l (tB b0 fun n => k n)
theorem typA_el {o : Option (List Value)} {k : String → SpR} {r} {C : Prop} (h : typA o k = some r) (kk : ∀ n v, (o = some [.type n, v]) → (k n = some r) → C) : C := by
  refine a0_el h fun l e h => hdV_el h fun b0 l0 e0 h => hdV_el h fun b1 l1 e1 h => nlV_el h fun en h => tB_el h fun n f0 h => kk n b1 ?_ h
  rw [e, e0, e1, en, f0]
section
variable {V : XV}
/-- list.__new__ -/
noncomputable def spLNew : Spc V where
  fx c orc L N i := typA (bArgs 29827186395103491167075199597 c) fun n => some (.ok (.ret (.ref N)), (N, listO #[] 0) :: L, N + 1, i, [.v (.type n) (.type "list")], orc)
  ok A Q h gens chg L N i c orc r L' N' i' obs orc' hh hd hu hf ho D hQ := by
    refine typA_el hf ?_
    clear hf
    intro n v ha hf
    rw [bArgs_eq "list.__new__" (by decide +kernel) ha]
    revert ho hQ
    refine fx_elim (motive := fun r L' N' i' obs _ => (∀ o ∈ obs, Ob.Holds o) → (∀ h', Led V.h₀ h' chg L' N' → Q r ⟨h', gens, V.d, V.t₀ + i', V.os⟩) → _) hf ?_
    clear hf
    intro ho hQ
    have e2 : Value.type n = .type "list" := ho (.v (.type n) (.type "list")) (.head _)
    cases e2
    have hs := D.size
    have z := hQ _ (D.alloc (o := listO #[] 0) rfl)
    have q := code_list_new (prog := V.prog) (w := V.w) (A := A) (E := fun e s' => Q (.error e) s') (s := ⟨h, gens, V.d, V.t₀ + i, V.os⟩) v (Q₁ := fun v s' => Q (.ok (.ret v)) s') (by
      rw [← hs] at z
      exact z)
    refine codeAny_mono q fun r s₁ hr => ?_
    cases r with
    | error e => exact hr
    | ok fl =>
      cases fl with
      | ret obj => exact hr
      | _ => exact hr.elim
end
end Mine
namespace Mine
open PySem PySem.Spec PySem.Calls PyProof.Rows PySem.W PySem.W.X
noncomputable def lext (S I : Nat) : Code := .builtin "list.extend.loop" ⟨[.ref S, .ref I, .none], []⟩
/-- list.__init__ with a str: as far as the loop -/
theorem list_init_str {U : Bs} {lv : Nat} {x : Str} {t : Tok} {S n N i G : Nat} {L : Lg} {GL : Gg} {P : Result → Sh → Prop} (ha : x.cps.all (· < 128) = true) (hx : x.length ≤ 1000000)
    (C : Cn U lv (lext S N) ⟨(N, strIt x t 0) :: (S, Obj.mapSeq (fun _ => (#[] : Array Value)) (listO #[] n)) :: L, N + 1, i, GL, G⟩ P) :
    Cn U lv (.call (.builtin "list.__init__") ⟨[.ref S, .str x t], []⟩) ⟨(S, listO #[] n) :: L, N, i, GL, G⟩ P := by
  intro A R h gens O D DG hE
  have hS : h.get? S = some (listO #[] n) := D.at (i := 0) rfl
  have hT : (Shared.mk h gens U.d (U.t₀ + i) U.os).TypeIs (.ref S) "list" := ⟨_, hS, rfl⟩
  refine codeAny_call_builtin F.slot_list_init.plain F.entry_list_init (F.slot_list_init.check _ _ _ _ _ _ _ _ hT (F.args_list_init_2 _ _) ?_)
  show wpAny _ _ (do let old ← Builtin.List.listItems (.ref S); Builtin.List.listUpdate (.ref S) (fun _ => #[]); letGo old.toList.reverse; Builtin.List.listExtendWith (.ref S) (.str x t) .none) _ _ _
  refine wpAny_bind ?_
  unfold Builtin.List.listItems
  refine wpAny_bind (wpAny_seqItems hS rfl (wpAny_pure ?_))
  show wpAny _ _ (updateSeq S (fun _ => #[]) >>= fun _ => letGo (#[] : Array Value).toList.reverse >>= fun _ => Builtin.List.listExtendWith (.ref S) (.str x t) .none) _ _ _
  refine wpAny_bind (wpAny_updateSeq hS rfl ?_)
  refine wpAny_bind (wpAny_letGo ?_)
  have D1 := D.update (f := Obj.mapSeq (fun _ => (#[] : Array Value))) (i := 0) rfl rfl
  unfold Builtin.List.listExtendWith
  refine wpAny_bind (wpAny_typeOf (T := "str") (v := .str x t) rfl ?_)
  have h1 : Builtin.List.listSameRef (.ref S) (.str x t) = false := rfl
  have h2 : (Value.type "str" == Value.type "list") = false := by decide
  have h3 : (Value.type "str" == Value.type "tuple") = false := by decide
  simp only [h1, h2, h3, Bool.or_false, Bool.false_eq_true, if_false]
  refine wpAny_bind (wpAny_pyIter_strU ?_)
  refine wpAny_bind (wpAny_holding ?_)
  unfold Builtin.List.listLengthHint
  refine wpAny_bind (wpAny_specialOf (T := "str") (v := .str x t) rfl F.str_len ?_)
  wp_delta
  refine wpAny_bind (wpAny_isInstance (T := "str") (v := .str x t) (b := true) rfl (by rw [isSubtype_type]; kernel_rfl) ?_)
  show wpAny _ _ (typeOf (Value.str x t) >>= _) _ _ _
  refine wpAny_bind (wpAny_typeOf (T := "str") (v := .str x t) rfl ?_)
  refine wpAny_pure ?_
  rw [if_neg (by decide)]
  refine wpAny_pure ⟨plainId_quiet F.plain_extend_loop _, ?_⟩
  have hs : (h.update S (Obj.mapSeq (fun _ => (#[] : Array Value)))).objs.size = N := D1.size
  rw [strIterType_ascii ha]
  subst hs
  exact C A R _ gens O (D1.alloc (o := strIt x t 0) rfl) DG hE
end Mine
namespace Mine
open PySem PySem.Spec PySem.Calls PyProof.Rows PySem.W PySem.W.X
/-- self.push(v), in the midst of a built-in -/
noncomputable def pushT (S : Nat) (v : Value) (k : Unit → Sem Fin) : Sem Fin := R.bindR (PySem.W.ZFast.zw2060155186595164805 (.ref S) (fun a => PySem.W.ZFast.zw2398297429280069960 a v)) k
theorem push_step {V : XV} {s : St} {S j n : Nat} {xs : List Value} {v : Value} {k : Unit → Sem Fin} (ht : s.t = pushT S v k) (hL : s.L[j]? = some (S, listO ⟨xs⟩ n)) (hz : xs.length ≤ 1000000)
    (hy : Mn V { s with t := k (), L := s.L.set j (S, Obj.mapSeq (·.push v) (listO ⟨xs⟩ n)) }) : Mn V s := by
  intro h gens D DG
  rw [ht]
  unfold pushT
  rw [← R.bindR_eq, ← PySem.W.ZFast.ze2060155186595164805, ← PySem.W.ZFast.ze2398297429280069960]
  have hz' : (1000000 : Nat) < sizeLine := by decide
  refine means_cmd (m := updateSeq S (·.push v)) (k := k) (wpAny_updateSeq (D.at hL) rfl ?_ ?_ ?_)
  · exact hy _ gens (D.update hL rfl) DG
  · show xs.length ≤ sizeLine; omega
  · show ((⟨xs⟩ : Array Value).push v).size ≤ sizeLine + 1
    rw [Array.size_push]
    show xs.length + 1 ≤ sizeLine + 1; omega
end Mine
end
-- part Sp7
section
set_option maxRecDepth 100000
namespace Mine
open PySem PySem.Spec PySem.Calls PyProof.Rows PySem.W PySem.W.X
theorem mapSeq_congr {f g : Array Value → Array Value} {xs : Array Value} {n : Nat} {c : Value} (h : f xs = g xs) : Obj.mapSeq f ⟨c, none, .seq xs n, #[]⟩ = Obj.mapSeq g ⟨c, none, .seq xs n, #[]⟩ := by
  unfold Obj.mapSeq
  simp only [h]
noncomputable def refI (o : Option (List Value)) (k : Addr → Int → Tok → SpR) : SpR := a0 o fun l => hdV l fun b0 l => hdV l fun b1 l => nlV l (rB b0 fun a => iB b1 fun i t => k a i t)
theorem refI_el {o : Option (List Value)} {k : Addr → Int → Tok → SpR} {r} {C : Prop} (h : refI o k = some r) (kk : ∀ a i t, (o = some [.ref a, .int i t]) → (k a i t = some r) → C) : C := by
  refine a0_el h fun l e h => hdV_el h fun b0 l0 e0 h => hdV_el h fun b1 l1 e1 h => nlV_el h fun en h => rB_el h fun a f0 h => iB_el h fun i t f1 h => kk a i t ?_ h
  rw [e, e0, e1, en, f0, f1]
section
variable {V : XV}
/-- items.pop(i) -/
noncomputable def spPopAt (items : List Value) (i : Int) (k : Nat) (y : Value) (items' : List Value) (hi : Builtin.List.listFitsIndex i = true) (hk : seqIndex? i items.length = some k) (hy : items[k]? = some y) (hn : items.length ≤ 1000000)
    (he : (⟨items⟩ : Array Value).eraseIdxIfInBounds k = ⟨items'⟩) : Spc V where
  fx c orc L N i₀ := refI (bArgs 8174157772325415533 c) fun a i' _ => place orc L fun orc j b o => asSeq o fun xs n => some (.ok (.ret y), L.set j (b, o.mapSeq (fun _ => ⟨items'⟩)), N, i₀, [.n a b, .i i' i, .ls xs.toList items, .v o.cls (.type "list")], orc)
  ok A Q h gens chg L N i₀ cd orc r L' N' i' obs orc' hh hd hu hf ho D hQ := by
    refine refI_el hf ?_
    clear hf
    intro a i2 t ha hf
    refine place_el hf ?_
    clear hf
    intro orc₁ j b o hj hf
    refine asSeq_el hf ?_
    clear hf
    intro cls xs n e_ hf
    subst e_
    rw [bArgs_eq "list.pop" (by decide +kernel) ha]
    revert ho hQ
    refine fx_elim (motive := fun r L' N' i' obs _ => (∀ o ∈ obs, Ob.Holds o) → (∀ h', Led V.h₀ h' chg L' N' → Q r ⟨h', gens, V.d, V.t₀ + i', V.os⟩) → _) hf ?_
    clear hf
    intro ho hQ
    have e1 : a = b := ho (.n a b) (.head _)
    have e0 : i2 = i := ho (.i i2 i) (.tail _ (.head _))
    have e2 : xs.toList = items := ho (.ls xs.toList items) (.tail _ (.tail _ (.head _)))
    have e3 : cls = .type "list" := ho (.v cls (.type "list")) (.tail _ (.tail _ (.tail _ (.head _))))
    subst e0 e1 e2 e3
    have hoo := D.at hj
    have hT : (Shared.mk h gens V.d (V.t₀ + i₀) V.os).TypeIs (.ref a) "list" := ⟨_, hoo, rfl⟩
    refine codeAny_meets F.slot_list_pop hT F.entry_list_pop (F.args_list_pop_2 _ _) (MeetsSeq.list_pop_at a xs n i2 t k y hi (by simpa using hk) (by simpa using hy) (sz (by simpa using hn))) ⟨hoo, ?_⟩
    have z := D.update (f := Obj.mapSeq (fun xs => xs.eraseIdxIfInBounds k)) hj rfl
    rw [mapSeq_congr (g := fun _ => ⟨items'⟩) (by simpa using he)] at z
    exact hQ _ z
noncomputable def spPop0 (y : Value) (rest : List Value) (hn : rest.length < 1000000) : Spc V :=
  spPopAt (y :: rest) 0 0 y rest (by decide +kernel) (by unfold seqIndex?; simp) rfl (by simp only [List.length_cons]; omega) (by simp [Array.eraseIdxIfInBounds])
end
end Mine
namespace Mine
open PySem PySem.Spec PySem.Calls PyProof.Rows PySem.W PySem.W.X
/-- two strs are compared in the midst of a built-in -/
noncomputable def eqbT (r sv : Value) (k : Bool → Sem Fin) : Sem Fin := R.bindR (PySem.W.ZFast.zw17359229931016689406 [r] (PySem.W.ZFast.zw13926502685295537346 sv r)) k
theorem eqb_step {V : XV} {s : St} {a b : Str} {t u : Tok} {k : Bool → Sem Fin} (ht : s.t = eqbT (.str b u) (.str a t) k) (hy : Mn V { s with t := k (decide (a = b)) }) : Mn V s := by
  intro h gens D DG
  rw [ht]
  unfold eqbT
  rw [← R.bindR_eq, ← PySem.W.ZFast.ze17359229931016689406, ← PySem.W.ZFast.ze13926502685295537346]
  exact means_cmd (m := PySem.holding [.str b u] (eqBool (.str a t) (.str b u))) (k := k) (wpAny_holding (wpAny_eqBool_str (hy h gens D DG)))
end Mine
namespace Mine
open PySem PySem.Spec PySem.Calls PyProof.Rows PySem.W PySem.W.X
/-- callable_iterator.__next__ behind its comparison -/
noncomputable def ciK (it : Nat) (r : Value) (b : Bool) : Sem Fin := condFn (Sem Fin) (!b) (PySem.W.ZFast.zw6905046200447255374 r) (R.bindR (rule SZ.s986709197705307712x35) fun _ => R.bindR (PySem.W.ZFast.zw7774638238746244234 (.ref it)) fun _ => PySem.W.ZFast.zw17615448654315672387)
end Mine
end
-- part Sp8
section
set_option maxRecDepth 100000
namespace Mine
open PySem PySem.Spec PySem.Calls PyProof.Rows PySem.W PySem.W.X
/-- the arguments of a built-in's own code -/
noncomputable def bArgsB (num : Nat) (c : Code) : Option (List Value) := match c with
  | .builtin id a => match S.eqLit num id with
      | true => match a with
        | ⟨p, kw⟩ => match kw with
          | [] => some p
          | _ :: _ => none
      | false => none
  | _ => none
theorem bArgsB_eq {num : Nat} {c : Code} {args : List Value} (id : String) (hid : PySem.code id = num) (h : bArgsB num c = some args) : c = .builtin id ⟨args, []⟩ := by
  unfold bArgsB at h
  split at h
  · rename_i id' a
    split at h
    · rename_i hq
      split at h
      rename_i p kw
      split at h
      · cases h
        have e := congrFun (S.eqLit_eq id num hid) id'
        rw [hq] at e
        rw [eq_of_beq e]
      · cases h
    · cases h
  · cases h
section
variable {V : XV}
/-- len(items), as a list's truth asks it -/
noncomputable def spLenB (items : List Value) (hx : items.length ≤ 1000) : Spc V where
  fx c orc L N i := oneR (bArgsB 7300717 c) fun a => place orc L fun orc j b o => asSeq o fun xs n => some (.ok (.ret (.int (Int.ofNat items.length) (V.t₀ + (i + 1)))), L, N, i + 1 + 1, [.n a b, .ls xs.toList items, .v o.cls (.type "list")], orc)
  ok A Q h gens chg L N i c orc r L' N' i' obs orc' hh hd hu hf ho D hQ := by
    refine oneR_el hf ?_
    clear hf
    intro a ha hf
    refine place_el hf ?_
    clear hf
    intro orc₁ j b o hj hf
    refine asSeq_el hf ?_
    clear hf
    intro cls xs n e_ hf
    subst e_
    rw [bArgsB_eq "len" (by decide +kernel) ha]
    revert ho hQ
    refine fx_elim (motive := fun r L' N' i' obs _ => (∀ o ∈ obs, Ob.Holds o) → (∀ h', Led V.h₀ h' chg L' N' → Q r ⟨h', gens, V.d, V.t₀ + i', V.os⟩) → _) hf ?_
    clear hf
    intro ho hQ
    have e1 : a = b := ho (.n a b) (.head _)
    have e2 : xs.toList = items := ho (.ls xs.toList items) (.tail _ (.head _))
    have e3 : cls = .type "list" := ho (.v cls (.type "list")) (.tail _ (.tail _ (.head _)))
    subst e1 e2 e3
    have hoo := D.at hj
    have hl : Heap.IsList (Shared.heap ⟨h, gens, V.d, V.t₀ + i, V.os⟩) a xs := ⟨_, hoo, rfl, n, rfl⟩
    refine codeAny_builtin entry_len ?_
    rw [Around.under_plainId plain_len _]
    unfold Builtin.«len»
    refine wpAny_bind (m := oneArg "len" _) (wpAny_pure ?_)
    refine wpAny_bind (m := callSpecial? (.ref a) (Str.ofString "__len__")) (wpAny_callSpecial?_slot (name := Str.ofString "__len__") hl.typeIs slot_list_len
      (wpAny_call_entry slot_list_len hl.typeIs entry_list_len ?_ (args_list_len _)))
    show wpAny _ _ (do retInt (← seqSize a)) _ _ _
    unfold seqSize
    refine wpAny_bind (wpAny_bind (wpAny_load hoo ?_))
    refine wpAny_pure (wpAny_bind (wpAny_mkInt (wpAny_pure ⟨_, rfl, ?_⟩)))
    refine wpAny_bind (wpAny_holding (wpAny_pure ?_))
    refine wpAny_bind (wpAny_letGo ?_)
    have hs : xs.size = xs.toList.length := by simp
    show wpAny _ _ (if ((xs.size : Nat) : Int) < 0 then _ else _) _ _ _
    rw [if_neg (by omega)]
    show wpAny _ _ (if ((xs.size : Nat) : Int) ≥ 2 ^ 63 then _ else _) _ _ _
    rw [if_neg (by omega)]
    have z := hQ _ D
    rw [← hs] at z
    exact wpAny_bind (wpAny_mkInt (wpAny_pure z))
end
end Mine
end
-- part Sp9
section
set_option maxRecDepth 100000
namespace Mine
open PySem PySem.Spec PySem.Calls PyProof.Rows PySem.W PySem.W.X
section
variable {V : XV}
/-- an operation of two ints -/
noncomputable def spI2 (num : Nat) (id : String) (hid : PySem.code id = num) {B : Builtin} {name : Str} (slot : Slot "int" name id) (entry : entryFor table id = some B) (args : ∀ a b, argsOk id ⟨[a, b], []⟩)
    (x y z : Int) (g : ∀ t u, Gives (B ⟨[.int x t, .int y u], []⟩) (.int z)) : Spc V where
  fx c orc L N i := twoI (bArgs num c) fun x' _ y' _ => some (.ok (.ret (.int z (V.t₀ + i))), L, N, i + 1, [.i x' x, .i y' y], orc)
  ok A Q h gens chg L N i c orc r L' N' i' obs orc' hh hd hu hf ho D hQ := by
    refine twoI_el hf ?_
    clear hf
    intro x' t y' u ha hf
    rw [bArgs_eq id hid ha]
    revert ho hQ
    refine fx_elim (motive := fun r L' N' i' obs _ => (∀ o ∈ obs, Ob.Holds o) → (∀ h', Led V.h₀ h' chg L' N' → Q r ⟨h', gens, V.d, V.t₀ + i', V.os⟩) → _) hf ?_
    clear hf
    intro ho hQ
    have e1 : x' = x := ho (.i x' x) (.head _)
    have e2 : y' = y := ho (.i y' y) (.tail _ (.head _))
    subst e1 e2
    exact codeAny_gives slot (typeIs_int _ _ _) entry (args _ _) (g t u) (hQ _ D)
noncomputable def spMul (x y z : Int) (hz : x * y = z) (h1 : -1000000 ≤ x) (h2 : x ≤ 1000000) : Spc V :=
  spI2 116512245094328231196454762 "int.__mul__" (by decide +kernel) F.slot_int_mul F.entry_int_mul F.args_int_mul_2 x y z fun t u => hz ▸ gives_int_mul x y t u (.of_left (intBits_le_64 (by omega) (by omega)))
noncomputable def spAddI (x y z : Int) (hz : x + y = z) : Spc V :=
  spI2 116512096292018843154739050 "int.__add__" (by decide +kernel) F.slot_int_add F.entry_int_add F.args_int_add_2 x y z fun t u => hz ▸ gives_int_add x y t u
noncomputable def spSubI (x y z : Int) (hz : x - y = z) : Spc V :=
  spI2 116512060628576343961202538 "int.__sub__" (by decide +kernel) F.slot_int_sub F.entry_int_sub F.args_int_sub_2 x y z fun t u => hz ▸ gives_int_sub x y t u
theorem no_pylong {x y : Int} (h : y.natAbs < 2 ^ 64) : Builtin.divisionGoesByPylong x y = false := by
  have hl : y.natAbs.log2 < 64 ∨ y = 0 := by
    by_cases h0 : y.natAbs = 0
    · right; omega
    · left; exact (Nat.log2_lt h0).mpr h
  unfold Builtin.divisionGoesByPylong
  rw [Bool.and_eq_false_iff]
  left
  refine decide_eq_false ?_
  rcases hl with hl | rfl
  · by_cases h0 : (y == 0) = true
    · simp [h0]
    · simp only [h0]
      show ¬ (y.natAbs.log2 / 30 + 1 > 300)
      omega
  · simp
noncomputable def spDiv (x y z : Int) (hz : x.fdiv y = z) (h0 : y ≠ 0) (h1 : y.natAbs < 2 ^ 64) : Spc V :=
  spI2 128106770130096871752080967664072486762 "int.__floordiv__" (by decide +kernel) F.slot_int_floordiv F.entry_int_floordiv F.args_int_floordiv_2 x y z fun t u => hz ▸ AutoIntG4.int___floordiv___int_int_1 x t y u (by simpa using h0) (by rw [no_pylong h1]; exact Bool.false_ne_true)
noncomputable def spMod (x y z : Int) (hz : x.fmod y = z) (h0 : y ≠ 0) : Spc V :=
  spI2 116512097088030077292474218 "int.__mod__" (by decide +kernel) F.slot_int_mod F.entry_int_mod F.args_int_mod_2 x y z fun t u => hz ▸ AutoIntG6.int___mod___int_int_1 x t y u (by simpa using h0)
theorem pow_bits {x : Int} (h : Builtin.Int.intBits x ≤ 4) {n : Nat} (hn : n ≤ 1000) : ¬ Builtin.Int.intTooBig (((Builtin.Int.intBits x : Nat) : Int) * (n : Int)) = true := by
  have h2 : ((Builtin.Int.intBits x : Nat) : Int) * (n : Int) ≤ 4000 := by
    have a : Builtin.Int.intBits x * n ≤ 4 * 1000 := Nat.mul_le_mul h hn
    exact_mod_cast a
  unfold Builtin.Int.intTooBig bitsLine
  simp only [decide_eq_true_eq]
  omega
/-- 2 ** n, 4 ** n -/
noncomputable def spPow (x : Int) (n : Nat) (z : Int) (hz : x ^ n = z) (hx : x = 2 ∨ x = 4) (hn : n ≤ 1000) : Spc V :=
  spI2 116512447577011902704086890 "int.__pow__" (by decide +kernel) F.slot_int_pow F.entry_int_pow F.args_int_pow_2 x (Int.ofNat n) z fun t u => by
    by_cases h0 : n = 0
    · subst h0
      have e : (1 : Int) = z := by rw [← hz]; exact (Int.pow_zero x).symm
      exact e ▸ AutoIntG9.int___pow___int_int_0 x t (Int.ofNat 0) u (by decide) (by decide)
    · have e := AutoIntG2.int___pow___int_int_4 x t (Int.ofNat n) u (Int.natCast_nonneg n) (by simpa using h0) (by rcases hx with rfl | rfl <;> decide) (by rcases hx with rfl | rfl <;> decide) (pow_bits (by rcases hx with rfl | rfl <;> decide) hn)
      rw [← hz]
      exact e
end
end Mine
end
-- part Sp10
section
set_option maxRecDepth 100000
namespace Mine
open PySem PySem.Spec PySem.Calls PyProof.Rows PySem.W PySem.W.X
/-- ints as values -/
noncomputable def ivs (l : List (Int × Tok)) : List Value := l.map fun p => .int p.1 p.2
theorem ivs_snoc {l : List (Int × Tok)} {v : Int} {t : Tok} : (ivs l).concat (.int v t) = ivs (l ++ [(v, t)]) := by simp [ivs]
noncomputable def strI (o : Option (List Value)) (k : Str → Int → SpR) : SpR := a0 o fun l => hdV l fun b0 l => hdV l fun b1 l => nlV l (sB b0 fun x _ => iB b1 fun i _ => k x i)
theorem strI_el {o : Option (List Value)} {k : Str → Int → SpR} {r} {C : Prop} (h : strI o k = some r) (kk : ∀ x t i u, (o = some [.str x t, .int i u]) → (k x i = some r) → C) : C := by
  refine a0_el h fun l e h => hdV_el h fun b0 l0 e0 h => hdV_el h fun b1 l1 e1 h => nlV_el h fun en h => sB_el h fun x t f0 h => iB_el h fun i u f1 h => kk x t i u ?_ h
  rw [e, e0, e1, en, f0, f1]
noncomputable def refR (o : Option (List Value)) (k : Addr → Addr → SpR) : SpR := a0 o fun l => hdV l fun b0 l => hdV l fun b1 l => nlV l (rB b0 fun a => rB b1 fun b => k a b)
theorem refR_el {o : Option (List Value)} {k : Addr → Addr → SpR} {r} {C : Prop} (h : refR o k = some r) (kk : ∀ a b, (o = some [.ref a, .ref b]) → (k a b = some r) → C) : C := by
  refine a0_el h fun l e h => hdV_el h fun b0 l0 e0 h => hdV_el h fun b1 l1 e1 h => nlV_el h fun en h => rB_el h fun a f0 h => rB_el h fun b f1 h => kk a b ?_ h
  rw [e, e0, e1, en, f0, f1]
theorem meets_list_get (a : Addr) (xs : Array Value) (n j : Nat) (k : Int) (u : Tok) (v : Value) (hj : k = Int.ofNat j) (h : xs[j]? = some v) (hk : Builtin.List.listFitsIndex k = true) :
    Meets (Builtin.«list.__getitem__» ⟨[.ref a, .int k u], []⟩) fun _ R s => s.heap.get? a = some (listO xs n) ∧ R (.ok (.ret v)) s := by
  rintro prog w A R s ⟨ho, hR⟩
  have hd : (listO xs n).data = .seq xs n := rfl
  show wpAny _ _ (Builtin.List.listSubscript? (.int k u) >>= _) _ _ s
  refine wpAny_bind (wpAny_listSubscript_int hk ?_)
  clear hk
  subst hj
  show wpAny _ _ ((seqItemAt a j >>= fun r => pure (r.map (j, ·))) >>= _) _ _ s
  refine wpAny_bind (wpAny_bind (wpAny_seqItemAt ho hd (wpAny_pure ?_)))
  rw [h]
  first
    | exact hR
    | exact wpAny_pure hR
theorem meets_list_slice (a sl : Addr) (xs : Array Value) (n : Nat) (vl vu vs : Value) (lo hi st : Option Int) (pl : IsPart vl lo) (pu : IsPart vu hi) (ps : IsPart vs st) (h0 : st ≠ some 0) (hsz : xs.size ≤ sizeLine) :
    Meets (Builtin.«list.__getitem__» ⟨[.ref a, .ref sl], []⟩) fun _ R s => s.heap.get? a = some (listO xs n) ∧ s.heap.IsSliceOf sl vl vu vs ∧ R (.ok (.ret (.ref s.heap.objs.size))) { s with heap := s.heap.push { cls := .type "list", data := .seq (slicePick xs lo hi st) } } := by
  rintro prog w A R s ⟨ho, hs, hR⟩
  have hd : (listO xs n).data = .seq xs n := rfl
  obtain ⟨os, hos, hcs, hds⟩ := id hs
  have hTs : s.TypeIs (.ref sl) "slice" := ⟨os, hos, hcs⟩
  show wpAny _ _ (Builtin.List.listSubscript? (.ref sl) >>= _) _ _ s
  refine wpAny_bind ?_
  unfold Builtin.List.listSubscript?
  refine wpAny_bind (wpAny_specialOf hTs slice_no_index ?_)
  simp only [Option.isNone_none, if_true]
  refine wpAny_pure ?_
  show wpAny _ _ (typeOf (.ref sl) >>= _) _ _ s
  refine wpAny_bind (wpAny_typeOf hTs ?_)
  rw [if_neg (by decide)]
  rw [listSliceParts_eq]
  have hstep : ¬ ((rawPart st == rawInt 0) = true) := by
    cases st with
    | none => exact Bool.false_ne_true
    | some c =>
      intro hh
      have : c = 0 := by simpa [rawPart, rawInt] using hh
      exact h0 (by rw [this])
  refine wpAny_bind (wpAny_bind (wpAny_field hos hds (x := vs) rfl (wpAny_bind (wpAny_listPart ps ?_))))
  rw [if_neg hstep]
  refine wpAny_bind (wpAny_field hos hds (x := vl) rfl (wpAny_bind (wpAny_listPart pl ?_)))
  refine wpAny_bind (wpAny_field hos hds (x := vu) rfl (wpAny_bind (wpAny_listPart pu (wpAny_pure ?_))))
  refine wpAny_bind (m := Builtin.List.listItems (.ref a)) ?_
  unfold Builtin.List.listItems
  refine wpAny_bind (wpAny_seqItems ho hd (wpAny_pure ?_))
  refine wpAny_bind (wpAny_of_eq (sliceIndices_raw lo hi st xs.size h0) ?_)
  refine wpAny_bind (wpAny_newObj_type (wpAny_pure hR) (Nat.le_trans (slicePick_size_le xs lo hi st) hsz))
section
variable {V : XV}
/-- items[k] -/
noncomputable def spGetI (items : List Value) (k : Nat) (v : Value) (h : items[k]? = some v) (hk : k ≤ 1000000) : Spc V where
  fx c orc L N i := refI (bArgs 128106587276438692081757506308484131437 c) fun a k' _ => place orc L fun orc j b o => asSeq o fun xs n => some (.ok (.ret v), L, N, i, [.n a b, .ls xs.toList items, .v o.cls (.type "list"), .i k' (Int.ofNat k)], orc)
  ok A Q h' gens chg L N i cd orc r L' N' i' obs orc' hh hd hu hf ho D hQ := by
    refine refI_el hf ?_
    clear hf
    intro a k' u ha hf
    refine place_el hf ?_
    clear hf
    intro orc₁ j b o hj hf
    refine asSeq_el hf ?_
    clear hf
    intro cls xs n e_ hf
    subst e_
    rw [bArgs_eq "list.__getitem__" (by decide +kernel) ha]
    revert ho hQ
    refine fx_elim (motive := fun r L' N' i' obs _ => (∀ o ∈ obs, Ob.Holds o) → (∀ h', Led V.h₀ h' chg L' N' → Q r ⟨h', gens, V.d, V.t₀ + i', V.os⟩) → _) hf ?_
    clear hf
    intro ho hQ
    have e1 : a = b := ho (.n a b) (.head _)
    have e2 : xs.toList = items := ho (.ls xs.toList items) (.tail _ (.head _))
    have e3 : cls = .type "list" := ho (.v cls (.type "list")) (.tail _ (.tail _ (.head _)))
    have e4 : k' = Int.ofNat k := ho (.i k' (Int.ofNat k)) (.tail _ (.tail _ (.tail _ (.head _))))
    subst e1 e2 e3
    have hoo := D.at hj
    have hT : (Shared.mk h' gens V.d (V.t₀ + i) V.os).TypeIs (.ref a) "list" := ⟨_, hoo, rfl⟩
    refine codeAny_meets F.slot_list_getitem hT F.entry_list_getitem (F.args_list_getitem_2 _ _) (meets_list_get a xs n k k' u v e4 (by simpa using h) (fitsIndex_of (by rw [e4]; exact Int.natCast_nonneg k) (by rw [e4]; show (k : Int) < _; omega))) ⟨hoo, ?_⟩
    exact hQ _ D
/-- items[lo:hi:st] -/
noncomputable def spSlL (items : List Value) (lo hi st : Option Int) (ys : List Value) (hy : (slicePick ⟨items⟩ lo hi st).toList = ys) (h0 : st ≠ some 0) (hn : items.length ≤ sizeLine) : Spc V where
  fx c orc L N i := refR (bArgs 128106587276438692081757506308484131437 c) fun a sl => place orc L fun orc j b o => asSeq o fun xs n => place orc L fun orc j2 b2 o2 => fVVV o2 fun vl vu vt => prt vl lo fun _ o1 => prt vu hi fun _ o2' => prt vt st fun _ o3 => some (.ok (.ret (.ref N)), (N, { cls := .type "list", data := .seq ⟨ys⟩ }) :: L, N + 1, i, .n a b :: .ls xs.toList items :: .v o.cls (.type "list") :: .n sl b2 :: .v o2.cls (.type "slice") :: (o1 ++ (o2' ++ o3)), orc)
  ok A Q h' gens chg L N i cd orc r L' N' i' obs orc' hh hd hu hf ho D hQ := by
    refine refR_el hf ?_
    clear hf
    intro a sl ha hf
    refine place_el hf ?_
    clear hf
    intro orc₁ j b o hj hf
    refine asSeq_el hf ?_
    clear hf
    intro cls xs n e_ hf
    subst e_
    refine place_el hf ?_
    clear hf
    intro orc₂ j2 b2 o2 hj2 hf
    rw [bArgs_eq "list.__getitem__" (by decide +kernel) ha]
    refine fVVV_el hf ?_
    clear hf
    intro vs vl vu vt hvs hvl hf
    refine prt_el hf ?_
    clear hf
    intro pl o1 e_ hf k1
    subst e_
    refine prt_el hf ?_
    clear hf
    intro pu o2' e_ hf k2
    subst e_
    refine prt_el hf ?_
    clear hf
    intro pt o3 e_ hf k3
    subst e_
    revert ho hQ
    refine fx_elim (motive := fun r L' N' i' obs _ => (∀ o ∈ obs, Ob.Holds o) → (∀ h', Led V.h₀ h' chg L' N' → Q r ⟨h', gens, V.d, V.t₀ + i', V.os⟩) → _) hf ?_
    clear hf
    intro ho hQ
    have e1 : a = b := ho (.n a b) (.head _)
    have e2 : xs.toList = items := ho (.ls xs.toList items) (.tail _ (.head _))
    have e3 : cls = .type "list" := ho (.v cls (.type "list")) (.tail _ (.tail _ (.head _)))
    have e4 : sl = b2 := ho (.n sl b2) (.tail _ (.tail _ (.tail _ (.head _))))
    have e5 : o2.cls = .type "slice" := ho (.v o2.cls (.type "slice")) (.tail _ (.tail _ (.tail _ (.tail _ (.head _)))))
    have m : ∀ q ∈ o1 ++ (o2' ++ o3), q.Holds := fun q hq => ho q (.tail _ (.tail _ (.tail _ (.tail _ (.tail _ hq)))))
    have f1 := k1 fun q hq => m q (List.mem_append.mpr (.inl hq))
    have f2 := k2 fun q hq => m q (List.mem_append.mpr (.inr (List.mem_append.mpr (.inl hq))))
    have f3 := k3 fun q hq => m q (List.mem_append.mpr (.inr (List.mem_append.mpr (.inr hq))))
    subst e1 e2 e3 e4
    have hoo := D.at hj
    have ho2 := D.at hj2
    have hT : (Shared.mk h' gens V.d (V.t₀ + i) V.os).TypeIs (.ref a) "list" := ⟨_, hoo, rfl⟩
    have q1 : ∀ (p : Option (Int × Tok)) (q : Option Int), p.map (·.1) = q → IsPart (partValue p) q := by
      rintro (_ | ⟨x, t⟩) q rfl
      · exact .none
      · exact .int x t
    have hv : vs = #[partValue pl, partValue pu, partValue pt] := Array.ext' hvl
    subst hv
    refine codeAny_meets F.slot_list_getitem hT F.entry_list_getitem (F.args_list_getitem_2 _ _) (meets_list_slice a sl xs n _ _ _ lo hi st (q1 _ _ f1) (q1 _ _ f2) (q1 _ _ f3) h0 (by simpa using hn)) ⟨hoo, ⟨o2, ho2, e5, hvs⟩, ?_⟩
    have hs := D.size
    have ey : slicePick xs lo hi st = ⟨ys⟩ := by rw [← hy]
    rw [ey]
    have z := hQ _ (D.alloc (o := { cls := .type "list", data := .seq ⟨ys⟩ }) rfl)
    rw [← hs] at z
    exact z
/-- x[k], one sign -/
noncomputable def spGetS (x : Str) (k c : Nat) (h : x.cps[k]? = some c) (hk : k ≤ 1000000) : Spc V where
  fx cd orc L N i := strI (bArgs 500416356548588640944365259017385332 cd) fun x' k' => some (.ok (.ret (.str ⟨#[c]⟩ (V.t₀ + i))), L, N, i + 1, [.s x' x, .i k' (Int.ofNat k)], orc)
  ok A Q h' gens chg L N i cd orc r L' N' i' obs orc' hh hd hu hf ho D hQ := by
    refine strI_el hf ?_
    clear hf
    intro x' t k' u ha hf
    rw [bArgs_eq "str.__getitem__" (by decide +kernel) ha]
    revert ho hQ
    refine fx_elim (motive := fun r L' N' i' obs _ => (∀ o ∈ obs, Ob.Holds o) → (∀ h', Led V.h₀ h' chg L' N' → Q r ⟨h', gens, V.d, V.t₀ + i', V.os⟩) → _) hf ?_
    clear hf
    intro ho hQ
    have e1 : x' = x := ho (.s x' x) (.head _)
    have e2 : k' = Int.ofNat k := ho (.i k' (Int.ofNat k)) (.tail _ (.head _))
    subst e1 e2
    have hlt : k < x'.length := (Array.getElem?_eq_some_iff.mp h).1
    have hb : (decide ((Int.ofNat k) < -(2 ^ 63 : Int)) || decide ((Int.ofNat k) ≥ 2 ^ 63)) = false := by
      rw [decide_eq_false (by show ¬ (k : Int) < _; omega), decide_eq_false (by show ¬ (k : Int) ≥ _; omega)]; rfl
    have hq : (seqIndex? (Int.ofNat k) x'.length).bind (x'.cps[·]?) = some c := by
      have : seqIndex? (Int.ofNat k) x'.length = some k := by
        unfold seqIndex?
        have : ¬ ((k : Int) < 0) := by omega
        simp [this]
        omega
      rw [this]; exact h
    refine codeAny_gives F.slot_str_getitem (typeIs_str _ _ _) F.entry_str_getitem (F.args_str_getitem_2 _ _) (gives_str_getitem x' (Int.ofNat k) t u c hb hq) ?_
    exact ⟨by show 1 ≤ sizeLine; decide, hQ _ D⟩
noncomputable def liO (l k : Nat) : Obj := { cls := .type "list_iterator", data := .fields #[.ref l, .int (Int.ofNat k) 0] }
/-- the next item of a list -/
noncomputable def spINext (items : List Value) (k : Nat) (v : Value) (hk : items[k]? = some v) : Spc V where
  fx cd orc L N i := oneR (bArgs 36058839055461744822429329989390181918337346850548333 cd) fun a => place orc L fun orc j b o => fRI o fun l k' u => place orc L fun orc j2 b2 o2 => asSeq o2 fun xs n => some (.ok (.ret v), L.set j (b, o.mapFields (·.setIfInBounds 1 (rawInt (Int.ofNat k + 1)))), N, i, [.n a b, .n l b2, .i k' (Int.ofNat k), .n u 0, .v o.cls (.type "list_iterator"), .ls xs.toList items], orc)
  ok A Q h gens chg L N i cd orc r L' N' i' obs orc' hh hd hu hf ho D hQ := by
    refine oneR_el hf ?_
    clear hf
    intro a ha hf
    refine place_el hf ?_
    clear hf
    intro orc₁ j b o hj hf
    rw [bArgs_eq "list_iterator.__next__" (by decide +kernel) ha]
    refine fRI_el hf ?_
    clear hf
    intro vs l k' u hvs hvl hf
    refine place_el hf ?_
    clear hf
    intro orc₂ j2 b2 o2 hj2 hf
    refine asSeq_el hf ?_
    clear hf
    intro cls xs n e_ hf
    subst e_
    revert ho hQ
    refine fx_elim (motive := fun r L' N' i' obs _ => (∀ o ∈ obs, Ob.Holds o) → (∀ h', Led V.h₀ h' chg L' N' → Q r ⟨h', gens, V.d, V.t₀ + i', V.os⟩) → _) hf ?_
    clear hf
    intro ho hQ
    have e1 : a = b := ho (.n a b) (.head _)
    have e2 : l = b2 := ho (.n l b2) (.tail _ (.head _))
    have e3 : k' = Int.ofNat k := ho (.i k' (Int.ofNat k)) (.tail _ (.tail _ (.head _)))
    have e4 : u = 0 := ho (.n u 0) (.tail _ (.tail _ (.tail _ (.head _))))
    have e5 : o.cls = .type "list_iterator" := ho (.v o.cls (.type "list_iterator")) (.tail _ (.tail _ (.tail _ (.tail _ (.head _)))))
    have e6 : xs.toList = items := ho (.ls xs.toList items) (.tail _ (.tail _ (.tail _ (.tail _ (.tail _ (.head _))))))
    subst e1 e2 e3 e4 e6
    have hv : vs = #[.ref l, .int (Int.ofNat k) 0] := Array.ext' hvl
    subst hv
    have hoo := D.at hj
    have hol := D.at hj2
    have hT : (Shared.mk h gens V.d (V.t₀ + i) V.os).TypeIs (.ref a) "list_iterator" := ⟨o, hoo, e5⟩
    refine codeAny_entry slot_listiter_next hT entry_listiter_next (args_listiter_next _) ?_
    show wpAny _ _ (field (.ref a) 0 >>= _) _ _ _
    refine wpAny_bind (wpAny_field hoo hvs (x := .ref l) rfl ?_)
    show wpAny _ _ (if (Value.ref l == Value.none) = true then _ else _) _ _ _
    rw [if_neg (show ¬ ((Value.ref l == Value.none) = true) from Bool.false_ne_true)]
    show wpAny _ _ (field (.ref a) 1 >>= _) _ _ _
    refine wpAny_bind (wpAny_field hoo hvs (x := .int (Int.ofNat k) 0) rfl ?_)
    show wpAny _ _ (seqItems? (.ref l) >>= _) _ _ _
    refine wpAny_bind (wpAny_seqItems hol rfl ?_)
    have hk' : xs[k]? = some v := by simpa using hk
    rw [show (Int.ofNat k).toNat = k from rfl]
    simp only [hk']
    refine wpAny_bind (wpAny_setField hoo hvs (by simp) (wpAny_pure ⟨_, rfl, ?_⟩))
    exact hQ _ (D.update (f := Obj.mapFields (·.setIfInBounds 1 (rawInt (Int.ofNat k + 1)))) hj (Obj.isFreed_of_fields (Obj.data_mapFields hvs _)) (hasCls_type e5))
/-- no item left -/
noncomputable def spIEnd (items : List Value) (k : Nat) (hk : items[k]? = none) : Spc V where
  fx cd orc L N i := oneR (bArgs 36058839055461744822429329989390181918337346850548333 cd) fun a => place orc L fun orc j b o => fRI o fun l k' u => place orc L fun orc j2 b2 o2 => asSeq o2 fun xs n => some (.error (.ref (N + 1)), (N + 1, { cls := .type "StopIteration", data := .fields #[.ref N, .none, .none, .none, .bool false, .none] }) :: (N, { cls := .type "tuple", data := .seq #[] }) :: L.set j (b, o.mapFields (·.setIfInBounds 0 .none)), N + 2, i, [.n a b, .n l b2, .i k' (Int.ofNat k), .n u 0, .v o.cls (.type "list_iterator"), .ls xs.toList items], orc)
  ok A Q h gens chg L N i cd orc r L' N' i' obs orc' hh hd hu hf ho D hQ := by
    refine oneR_el hf ?_
    clear hf
    intro a ha hf
    refine place_el hf ?_
    clear hf
    intro orc₁ j b o hj hf
    rw [bArgs_eq "list_iterator.__next__" (by decide +kernel) ha]
    refine fRI_el hf ?_
    clear hf
    intro vs l k' u hvs hvl hf
    refine place_el hf ?_
    clear hf
    intro orc₂ j2 b2 o2 hj2 hf
    refine asSeq_el hf ?_
    clear hf
    intro cls xs n e_ hf
    subst e_
    revert ho hQ
    refine fx_elim (motive := fun r L' N' i' obs _ => (∀ o ∈ obs, Ob.Holds o) → (∀ h', Led V.h₀ h' chg L' N' → Q r ⟨h', gens, V.d, V.t₀ + i', V.os⟩) → _) hf ?_
    clear hf
    intro ho hQ
    have e1 : a = b := ho (.n a b) (.head _)
    have e2 : l = b2 := ho (.n l b2) (.tail _ (.head _))
    have e3 : k' = Int.ofNat k := ho (.i k' (Int.ofNat k)) (.tail _ (.tail _ (.head _)))
    have e4 : u = 0 := ho (.n u 0) (.tail _ (.tail _ (.tail _ (.head _))))
    have e5 : o.cls = .type "list_iterator" := ho (.v o.cls (.type "list_iterator")) (.tail _ (.tail _ (.tail _ (.tail _ (.head _)))))
    have e6 : xs.toList = items := ho (.ls xs.toList items) (.tail _ (.tail _ (.tail _ (.tail _ (.tail _ (.head _))))))
    subst e1 e2 e3 e4 e6
    have hv : vs = #[.ref l, .int (Int.ofNat k) 0] := Array.ext' hvl
    subst hv
    have hoo := D.at hj
    have hol := D.at hj2
    have hT : (Shared.mk h gens V.d (V.t₀ + i) V.os).TypeIs (.ref a) "list_iterator" := ⟨o, hoo, e5⟩
    refine codeAny_entry slot_listiter_next hT entry_listiter_next (args_listiter_next _) ?_
    show wpAny _ _ (field (.ref a) 0 >>= _) _ _ _
    refine wpAny_bind (wpAny_field hoo hvs (x := .ref l) rfl ?_)
    show wpAny _ _ (if (Value.ref l == Value.none) = true then _ else _) _ _ _
    rw [if_neg (show ¬ ((Value.ref l == Value.none) = true) from Bool.false_ne_true)]
    show wpAny _ _ (field (.ref a) 1 >>= _) _ _ _
    refine wpAny_bind (wpAny_field hoo hvs (x := .int (Int.ofNat k) 0) rfl ?_)
    show wpAny _ _ (seqItems? (.ref l) >>= _) _ _ _
    refine wpAny_bind (wpAny_seqItems hol rfl ?_)
    have hk' : xs[k]? = none := by simpa using hk
    rw [show (Int.ofNat k).toNat = k from rfl]
    simp only [hk']
    have D1 := D.update (f := Obj.mapFields (·.setIfInBounds 0 .none)) hj (Obj.isFreed_of_fields (Obj.data_mapFields hvs _)) (hasCls_type e5)
    have hs := D1.size
    have D2 := D1.alloc (o := { cls := .type "tuple", data := .seq #[] }) rfl
    have D3 := D2.alloc (o := { cls := .type "StopIteration", data := .fields #[.ref N, .none, .none, .none, .bool false, .none] }) rfl
    have z := hQ _ D3
    refine wpAny_bind (wpAny_rule (wpAny_bind (wpAny_setField hoo hvs (by simp) ?_)))
    show wpAny _ _ (newExc (.type "StopIteration") [] >>= _) _ _ _
    refine wpAny_bind ?_
    simp only [newExc, newTuple]
    refine wpAny_bind (wpAny_newObj_type ?_ (by size_fits))
    refine wpAny_bind (m := firstArgMember _ _) (wpAny_of_eq (a := Value.none) (by first | rfl | (simp only [firstArgMember]; rfl)) ?_)
    refine wpAny_newObj_type ?_ (by size_fits)
    simp only [raiseNew]
    refine wpAny_bind (wpAny_handled ?_)
    rw [show A.in1.handled = none from hh]
    refine wpAny_bind (wpAny_pure (wpAny_throw ?_))
    have e6 := D2.size
    rw [e6, hs]
    exact z
end
end Mine
end
-- part Sp11
section
set_option maxRecDepth 100000
namespace Mine
open PySem PySem.Spec PySem.Calls PyProof.Rows PySem.W PySem.W.X
section
variable {V : XV}
/-- len(items), a number that is known -/
noncomputable def spLenN (items : List Value) (m : Nat) (hm : items.length = m) (hx : items.length ≤ 1000) : Spc V where
  fx c orc L N i := oneR (bArgs 7300717 c) fun a => place orc L fun orc j b o => asSeq o fun xs n => some (.ok (.ret (.int (Int.ofNat m) (V.t₀ + (i + 1)))), L, N, i + 1 + 1, [.n a b, .ls xs.toList items, .v o.cls (.type "list")], orc)
  ok A Q h gens chg L N i c orc r L' N' i' obs orc' hh hd hu hf ho D hQ := by
    subst hm
    exact (spLenL items hx).ok A Q h gens chg L N i c orc r L' N' i' obs orc' hh hd hu hf ho D hQ
noncomputable def spLenK (x : Str) (m : Nat) (hm : x.length = m) (hx : x.length ≤ 1000) : Spc V where
  fx c orc L N i := oneS (bArgs 7300717 c) fun x' t => some (.ok (.ret (.int (Int.ofNat m) (V.t₀ + (i + 1)))), L, N, i + 1 + 1, [.s x' x], orc)
  ok A Q h gens chg L N i c orc r L' N' i' obs orc' hh hd hu hf ho D hQ := by
    subst hm
    exact (spLen x hx).ok A Q h gens chg L N i c orc r L' N' i' obs orc' hh hd hu hf ho D hQ
end
/-- the code that a state calls -/
noncomputable def callOf (t : Sem Fin) : Code := match t with
  | .call c _ _ _ _ => c
  | _ => .builtin "" ⟨[], []⟩
/-- the token of a call's argument -/
noncomputable def argT (t : Sem Fin) (j : Nat) : Tok := match callOf t with
  | .call _ a => tokOf (a.pos.getD j .none)
  | _ => 0
theorem slice_from (items : List Value) (k : Nat) : (slicePick ⟨items⟩ (some (Int.ofNat k)) none none).toList = items.drop k := by
  have := slicePick_from' ⟨items⟩ k
  rw [show (some (Int.ofNat k)) = some ((k : Nat) : Int) from rfl, this]
end Mine
end
-- part Sp12
section
set_option maxRecDepth 100000
namespace Mine
open PySem PySem.Spec PySem.Calls PyProof.Rows PySem.W PySem.W.X
theorem codeAny_meetsIn {prog : Program} {w : World} {A : Around} {s : Shared} {Q : Result → Shared → Prop} {T : String} {name : Str} {id : String} {B : Builtin} {self : Value} {rest : List Value} {S : PySem.Spec} (slot : Slot T name id) (hT : s.TypeIs self T)
    (entry : entryFor table id = some B) (args : argsOk id ⟨self :: rest, []⟩) (g : MeetsIn prog w (B ⟨self :: rest, []⟩) S) (h : S A Q s) :
    codeAny (model prog w) A (.call (.builtin id) ⟨self :: rest, []⟩) Q s :=
  codeAny_call_builtin slot.plain entry (slot.check _ _ _ _ _ _ _ _ hT args (g A Q s h))
noncomputable def rSt (o : Option (List Value)) (k : Addr → Str → SpR) : SpR := a0 o fun l => hdV l fun b0 l => hdV l fun b1 l => nlV l (rB b0 fun a => sB b1 fun x _ => k a x)
theorem rSt_el {o : Option (List Value)} {k : Addr → Str → SpR} {r} {C : Prop} (h : rSt o k = some r) (kk : ∀ a x t, (o = some [.ref a, .str x t]) → (k a x = some r) → C) : C := by
  refine a0_el h fun l e h => hdV_el h fun b0 l0 e0 h => hdV_el h fun b1 l1 e1 h => nlV_el h fun en h => rB_el h fun a f0 h => sB_el h fun x t f1 h => kk a x t ?_ h
  rw [e, e0, e1, en, f0, f1]
noncomputable def rSv (o : Option (List Value)) (k : Addr → Str → Value → SpR) : SpR := a0 o fun l => hdV l fun b0 l => hdV l fun b1 l => hdV l fun b2 l => nlV l (rB b0 fun a => sB b1 fun x _ => k a x b2)
theorem rSv_el {o : Option (List Value)} {k : Addr → Str → Value → SpR} {r} {C : Prop} (h : rSv o k = some r) (kk : ∀ a x t v, (o = some [.ref a, .str x t, v]) → (k a x v = some r) → C) : C := by
  refine a0_el h fun l e h => hdV_el h fun b0 l0 e0 h => hdV_el h fun b1 l1 e1 h => hdV_el h fun b2 l2 e2 h => nlV_el h fun en h => rB_el h fun a f0 h => sB_el h fun x t f1 h => kk a x t b2 ?_ h
  rw [e, e0, e1, e2, en, f0, f1]
theorem mapOf_keep {prog : Program} {w : World} {h₀ h : Heap} {chg L : Lg} {N a : Nat} {f : Str → Option Value} (D : Led h₀ h chg L N) (hM : h₀.MapOf (strKind prog w) a f) : h.MapOf (strKind prog w) a f := by
  obtain ⟨o, es, ep, ho, hx, r⟩ := hM
  exact ⟨o, es, ep, D.keep ho (by unfold solid; rw [hx.1]), hx, r⟩
section
variable {V : XV}
/-- an old dict's value -/
noncomputable def spDGet (a : Nat) (x : Str) (v : Value) (f : Str → Option Value) (hM : V.h₀.MapOf (strKind V.prog V.w) a f) (hf : f x = some v) : Spc V where
  fx c orc L N i := rSt (bArgs 128106587276438692081757506308483082853 c) fun a' x' => some (.ok (.ret v), L, N, i + 1, [.n a' a, .s x' x], orc)
  ok A Q h gens chg L N i cd orc r L' N' i' obs orc' hh hd hu hf' ho D hQ := by
    refine rSt_el hf' ?_
    clear hf'
    intro a' x' t ha hf'
    rw [bArgs_eq "dict.__getitem__" (by decide +kernel) ha]
    cases hf'
    have e1 : a' = a := ho (.n a' a) (.head _)
    have e2 : x' = x := ho (.s x' x) (.tail _ (.head _))
    subst e1 e2
    have hM' := mapOf_keep D hM
    have hT : (Shared.mk h gens V.d (V.t₀ + i) V.os).TypeIs (.ref a') "dict" := Heap.MapOf.typeIs (s := ⟨h, gens, V.d, V.t₀ + i, V.os⟩) hM'
    refine codeAny_meetsIn F.slot_dict_getitem hT F.entry_dict_getitem (F.args_dict_getitem_2 _ _) (meets_dict_getitem (strKind V.prog V.w) (k := x') (key := .str x' t) a' (beq_self_eq_true (α := Str) _)) ?_
    exact ⟨f, v, hM', hf, hQ _ D⟩
/-- an old dict's value, or another -/
noncomputable def spDGetD (a : Nat) (x : Str) (v : Value) (f : Str → Option Value) (hM : V.h₀.MapOf (strKind V.prog V.w) a f) (hs : (a == sysModules) = false) (hf : f x = some v) : Spc V where
  fx c orc L N i := rSv (bArgs 8459563503104322149 c) fun a' x' _ => some (.ok (.ret v), L, N, i + 1, [.n a' a, .s x' x], orc)
  ok A Q h gens chg L N i cd orc r L' N' i' obs orc' hh hd hu hf' ho D hQ := by
    refine rSv_el hf' ?_
    clear hf'
    intro a' x' t dv ha hf'
    rw [bArgs_eq "dict.get" (by decide +kernel) ha]
    cases hf'
    have e1 : a' = a := ho (.n a' a) (.head _)
    have e2 : x' = x := ho (.s x' x) (.tail _ (.head _))
    subst e1 e2
    have hM' := mapOf_keep D hM
    have hT : (Shared.mk h gens V.d (V.t₀ + i) V.os).TypeIs (.ref a') "dict" := Heap.MapOf.typeIs (s := ⟨h, gens, V.d, V.t₀ + i, V.os⟩) hM'
    refine codeAny_meetsIn F.slot_dict_get hT F.entry_dict_get (F.args_dict_get_3 _ _ _) (meets_dict_get_default (strKind V.prog V.w) (k := x') (key := .str x' t) a' (beq_self_eq_true (α := Str) _) hs dv) ?_
    exact ⟨f, hM', by rw [hf]; exact hQ _ D⟩
noncomputable def spDGetN (a : Nat) (x : Str) (f : Str → Option Value) (hM : V.h₀.MapOf (strKind V.prog V.w) a f) (hs : (a == sysModules) = false) (hf : f x = none) : Spc V where
  fx c orc L N i := rSv (bArgs 8459563503104322149 c) fun a' x' dv => some (.ok (.ret dv), L, N, i + 1, [.n a' a, .s x' x], orc)
  ok A Q h gens chg L N i cd orc r L' N' i' obs orc' hh hd hu hf' ho D hQ := by
    refine rSv_el hf' ?_
    clear hf'
    intro a' x' t dv ha hf'
    rw [bArgs_eq "dict.get" (by decide +kernel) ha]
    cases hf'
    have e1 : a' = a := ho (.n a' a) (.head _)
    have e2 : x' = x := ho (.s x' x) (.tail _ (.head _))
    subst e1 e2
    have hM' := mapOf_keep D hM
    have hT : (Shared.mk h gens V.d (V.t₀ + i) V.os).TypeIs (.ref a') "dict" := Heap.MapOf.typeIs (s := ⟨h, gens, V.d, V.t₀ + i, V.os⟩) hM'
    refine codeAny_meetsIn F.slot_dict_get hT F.entry_dict_get (F.args_dict_get_3 _ _ _) (meets_dict_get_default (strKind V.prog V.w) (k := x') (key := .str x' t) a' (beq_self_eq_true (α := Str) _) hs dv) ?_
    exact ⟨f, hM', by rw [hf]; exact hQ _ D⟩
end
/-- a dict's entries -/
noncomputable def esOf (o : Option Obj) : Array DictEntry := match o with
  | some o => match o.data with
    | .dict es _ => es
    | _ => #[]
  | none => #[]
noncomputable def strK (v : Value) : Str := match v with
  | .str x _ => x
  | _ => ⟨#[]⟩
noncomputable def hashed (P : Params) : List DictEntry → List DictEntry
  | [] => []
  | e :: r => ⟨PyData.keyHash P (strK e.key), .str (strK e.key) (tokOf e.key), e.val⟩ :: hashed P r
theorem hashed_keys (P : Params) (w : World) (hw : w.params = P) (prog : Program) : ∀ (l : List DictEntry), ∀ e ∈ hashed P l, ∃ k, (strKind prog w).is k e.key = true ∧ e.hash = (strKind prog w).hash k
  | [], _, h => nomatch h
  | e :: r, x, h => by
    rcases List.mem_cons.mp h with rfl | h
    · exact ⟨strK e.key, beq_self_eq_true (α := Str) _, by subst hw; rfl⟩
    · exact hashed_keys P w hw prog r x h
/-- what a dict of the program has for a text -/
noncomputable def dfind (o : Option Obj) (k : Str) : Option Value := findBy Value.isStrOf (esOf o) k
theorem mapOf_of {prog : Program} {w : World} {h : Heap} {a : Nat} {o : Obj} {es : Array DictEntry} {ep : Nat} (ho : h.get? a = some o) (hd : o.data = .dict es ep) (hx : o.ExactDict) (hh : es.toList = hashed w.params es.toList) : h.MapOf (strKind prog w) a (dfind (some o)) := by
  refine ⟨o, es, ep, ho, hx, hd, fun e he => ?_, fun k => ?_⟩
  · have h1 : e ∈ es.toList := by simpa using he
    rw [hh] at h1
    exact hashed_keys _ w rfl prog _ e h1
  · unfold dfind esOf
    dsimp only
    rw [hd]
    rfl
end Mine
end
-- part Sp13
section
set_option maxRecDepth 100000
namespace Mine
open PySem PySem.Spec PySem.Calls PyProof.Rows PySem.W PySem.W.X
open PySem.Builtin.Str (occurrences partsBetween glued tooLong)
/-- one sign replaced -/
noncomputable def repL (c : Nat) (z : List Nat) : List Nat → List Nat
  | [] => []
  | k :: r => (if k = c then z else [k]) ++ repL c z r
theorem repL_append (c : Nat) (z : List Nat) : ∀ a b : List Nat, repL c z (a ++ b) = repL c z a ++ repL c z b
  | [], _ => rfl
  | k :: r, b => by
    show (if k = c then z else [k]) ++ repL c z (r ++ b) = ((if k = c then z else [k]) ++ repL c z r) ++ repL c z b
    rw [repL_append c z r b, List.append_assoc]
theorem repL_free (c : Nat) (z : List Nat) : ∀ l : List Nat, c ∉ l → repL c z l = l
  | [], _ => rfl
  | k :: r, h => by
    have h1 : ¬ k = c := fun e => h (e ▸ List.mem_cons_self ..)
    have h2 : c ∉ r := fun m => h (List.mem_cons_of_mem _ m)
    unfold repL
    rw [if_neg h1, repL_free c z r h2]; rfl
theorem repL_join (c : Nat) (z : List Nat) : ∀ parts : List Str, (∀ p ∈ parts, c ∉ p.cps.toList) → repL c z (Str.join ⟨#[c]⟩ parts).cps.toList = (Str.join ⟨⟨z⟩⟩ parts).cps.toList
  | [], _ => rfl
  | [p], h => repL_free c z _ (h p (List.mem_singleton.mpr rfl))
  | p :: q :: r, h => by
    have ih := repL_join c z (q :: r) fun a ha => h a (List.mem_cons_of_mem _ ha)
    show repL c z (p ++ ⟨#[c]⟩ ++ Str.join ⟨#[c]⟩ (q :: r)).cps.toList = (p ++ ⟨⟨z⟩⟩ ++ Str.join ⟨⟨z⟩⟩ (q :: r)).cps.toList
    simp only [Str.cps_append, Array.toList_append]
    rw [repL_append, repL_append, ih, repL_free c z _ (h p (List.mem_cons_self ..))]
    simp [repL]
theorem replace_any (x : Str) (c : Nat) (z : List Nat) : (Txt.replace x ⟨#[c]⟩ ⟨⟨z⟩⟩).cps.toList = repL c z x.cps.toList := by
  rw [StrLaws.replace_one, ← repL_join c z _ (StrLaws.split_free x c), StrLaws.join_split]
noncomputable def repN (x : Str) (c : Nat) : Bool := (occurrences x ⟨#[c]⟩ 0 x.length (x.length + 1)).isEmpty
noncomputable def strs3 (o : Option (List Value)) (k : Str → Tok → Str → Tok → Str → Tok → SpR) : SpR := a0 o fun l => hdV l fun b0 l => hdV l fun b1 l => hdV l fun b2 l => nlV l (sB b0 fun x t => sB b1 fun y u => sB b2 fun z v => k x t y u z v)
theorem strs3_el {o : Option (List Value)} {k : Str → Tok → Str → Tok → Str → Tok → SpR} {r} {C : Prop} (h : strs3 o k = some r) (kk : ∀ x t y u z v, (o = some [.str x t, .str y u, .str z v]) → (k x t y u z v = some r) → C) : C := by
  refine a0_el h fun l e h => hdV_el h fun b0 l0 e0 h => hdV_el h fun b1 l1 e1 h => hdV_el h fun b2 l2 e2 h => nlV_el h fun en h => sB_el h fun x t f0 h => sB_el h fun y u f1 h => sB_el h fun z v f2 h => kk x t y u z v ?_ h
  rw [e, e0, e1, e2, en, f0, f1, f2]
section
variable {V : XV}
/-- x.replace(sign, z) -/
noncomputable def spRep (x : Str) (c : Nat) (z : List Nat) (w : Str) (nb : Bool) (hnb : repN x c = nb) (hw : w.cps.toList = repL c z x.cps.toList) (hx : x.length ≤ 1000) (hz : z.length ≤ 10) (hzc : ((⟨#[c]⟩ : Str) == ⟨⟨z⟩⟩) = false) (hl : w.length ≤ sizeLine) : Spc V where
  fx cd orc L N i := strs3 (bArgs 123784485916095431283275124 cd) fun x' t y u z' v => some (.ok (.ret (.str w (slT nb t (V.t₀ + i)))), L, N, slI nb i, [.s x' x, .s y ⟨#[c]⟩, .s z' ⟨⟨z⟩⟩, .n u (Nat.succ (Nat.pred u)), .n v (u + 1)], orc)
  ok A Q h gens chg L N i cd orc r L' N' i' obs orc' hh hd hu hf ho D hQ := by
    refine strs3_el hf ?_
    clear hf
    intro x' t y u z' v ha hf
    rw [bArgs_eq "str.replace" (by decide +kernel) ha]
    revert ho hQ
    refine fx_elim (motive := fun r L' N' i' obs _ => (∀ o ∈ obs, Ob.Holds o) → (∀ h', Led V.h₀ h' chg L' N' → Q r ⟨h', gens, V.d, V.t₀ + i', V.os⟩) → _) hf ?_
    clear hf
    intro ho hQ
    have e1 : x' = x := ho (.s x' x) (.head _)
    have e2 : y = ⟨#[c]⟩ := ho (.s y ⟨#[c]⟩) (.tail _ (.head _))
    have e3 : z' = ⟨⟨z⟩⟩ := ho (.s z' ⟨⟨z⟩⟩) (.tail _ (.tail _ (.head _)))
    have f4 : u = Nat.succ (Nat.pred u) := ho (.n u (Nat.succ (Nat.pred u))) (.tail _ (.tail _ (.tail _ (.head _))))
    have f5 : v = u + 1 := ho (.n v (u + 1)) (.tail _ (.tail _ (.tail _ (.tail _ (.head _)))))
    have e4 : (u == 0 || v == 0) = false := by
      have a : u ≠ 0 := by rw [f4]; exact Nat.succ_ne_zero _
      have b : v ≠ 0 := by rw [f5]; exact Nat.succ_ne_zero _
      simp [a, b]
    have e5 : (u == v) = false := by
      have : u ≠ v := by rw [f5]; exact (Nat.succ_ne_self u).symm
      simpa using this
    subst e1 e2 e3
    have hwe : w = Txt.replace x' ⟨#[c]⟩ ⟨⟨z⟩⟩ := by
      refine Str.ext' (Array.toList_inj.mp ?_)
      rw [hw, replace_any]
    have hb : tooLong (x'.length + (occurrences x' ⟨#[c]⟩ 0 x'.length (x'.length + 1)).length * (⟨⟨z⟩⟩ : Str).length) = false := by
      have h1 := StrLaws.occ_length_le x' ⟨#[c]⟩ 0 x'.length (x'.length + 1)
      have h2 : (occurrences x' ⟨#[c]⟩ 0 x'.length (x'.length + 1)).length * (⟨⟨z⟩⟩ : Str).length ≤ (x'.length + 1) * 10 := Nat.mul_le_mul h1 hz
      unfold tooLong
      refine decide_eq_false ?_
      have h3 : (1000000 : Nat) ≤ sizeLine := sz (Nat.le_refl _)
      omega
    refine codeAny_gives F.slot_str_replace (typeIs_str _ _ _) F.entry_str_replace (F.args_str_replace_3 _ _ _) (gives_str_replace x' ⟨#[c]⟩ ⟨⟨z⟩⟩ t u v fun _ => ⟨e4, e5, hzc, hb⟩) ?_
    subst hnb
    have hq := hQ _ D
    have h10 : ((⟨#[c]⟩ : Str).length == 0) = false := rfl
    rw [h10, Bool.false_and, Bool.or_false]
    unfold Txt.replace at hwe
    rw [h10, Bool.false_and, Bool.or_false] at hwe
    unfold slT slI repN at hq
    cases hb : (occurrences x' ⟨#[c]⟩ 0 x'.length (x'.length + 1)).isEmpty with
    | true =>
      rw [hb, if_pos rfl, if_pos rfl] at hq
      rw [hb, if_pos rfl] at hwe
      rw [if_pos rfl]
      subst hwe
      exact hq
    | false =>
      rw [hb, if_neg Bool.false_ne_true, if_neg Bool.false_ne_true] at hq
      rw [hb, if_neg Bool.false_ne_true] at hwe
      rw [if_neg Bool.false_ne_true]
      rw [← hwe]
      exact ⟨hl, hq⟩
end
theorem cnt_countP (c : Nat) : ∀ l : List Nat, cnt c l = ((l.countP (· == c) : Nat) : Int)
  | [] => rfl
  | k :: r => by
    rw [cnt_cons, cnt_countP c r, List.countP_cons]
    by_cases h : k = c <;> simp [h] <;> omega
theorem occ_count (x : Str) (c : Nat) : ((occurrences x ⟨#[c]⟩ 0 x.length (x.length + 1)).length : Int) = ((x.cps.toList.countP (· == c) : Nat) : Int) := by
  obtain ⟨f, hG, hn⟩ := StrLaws.occ_tight x ⟨#[c]⟩ (Nat.le_refl 1)
  have := chain_count x c _ 0 f hG hn
  rw [List.drop_zero, cnt_countP] at this
  exact this.symm
noncomputable def bT (bx byy : Bool) (t u f : Tok) : Tok := match bx with
  | true => u
  | false => match byy with
    | true => t
    | false => f
noncomputable def bI (bx byy : Bool) (i : Nat) : Nat := match bx with
  | true => i
  | false => match byy with
    | true => i
    | false => i + 1
theorem bT_eq {x y : Str} {bx byy : Bool} (hx : (x.length == 0) = bx) (hy : (y.length == 0) = byy) (t u f : Tok) : bT bx byy t u f = catT x y t u f := by
  unfold catT
  rw [hx, hy]
  cases bx <;> cases byy <;> rfl
theorem bI_eq {x y : Str} {bx byy : Bool} (hx : (x.length == 0) = bx) (hy : (y.length == 0) = byy) (i : Nat) : bI bx byy i = catI x y i := by
  unfold catI
  rw [hx, hy]
  cases bx <;> cases byy <;> rfl
section
variable {V : XV}
/-- x.count(sign) -/
noncomputable def spCount (x : Str) (c k : Nat) (hk : x.cps.toList.countP (· == c) = k) : Spc V where
  fx cd orc L N i := twoS (bArgs 2166300787185074533748 cd) fun x' _ y _ => some (.ok (.ret (.int (Int.ofNat k) (V.t₀ + i))), L, N, i + 1, [.s x' x, .s y ⟨#[c]⟩], orc)
  ok A Q h gens chg L N i cd orc r L' N' i' obs orc' hh hd hu hf ho D hQ := by
    refine twoS_el hf ?_
    clear hf
    intro x' t y u ha hf
    rw [bArgs_eq "str.count" (by decide +kernel) ha]
    revert ho hQ
    refine fx_elim (motive := fun r L' N' i' obs _ => (∀ o ∈ obs, Ob.Holds o) → (∀ h', Led V.h₀ h' chg L' N' → Q r ⟨h', gens, V.d, V.t₀ + i', V.os⟩) → _) hf ?_
    clear hf
    intro ho hQ
    have e1 : x' = x := ho (.s x' x) (.head _)
    have e2 : y = ⟨#[c]⟩ := ho (.s y ⟨#[c]⟩) (.tail _ (.head _))
    subst e1 e2
    refine codeAny_gives F.slot_str_count (typeIs_str _ _ _) F.entry_str_count (F.args_str_count_2 _ _) (gives_str_count x' ⟨#[c]⟩ t u) ?_
    rw [occ_count, hk]
    exact hQ _ D
/-- x + y, where it is known which is empty -/
noncomputable def spCatB (x y z : Str) (bx byy : Bool) (hx : (x.length == 0) = bx) (hy : (y.length == 0) = byy) (hz : x ++ y = z) (hl : z.length ≤ sizeLine) : Spc V where
  fx c orc L N i := twoS (bArgs 116512096292018843154609524 c) fun x' t y' u => some (.ok (.ret (.str z (bT bx byy t u (V.t₀ + i)))), L, N, bI bx byy i, [.s x' x, .s y' y], orc)
  ok A Q h gens chg L N i c orc r L' N' i' obs orc' hh hd hu hf ho D hQ := by
    refine (spCat x y z hz hl).ok A Q h gens chg L N i c orc r L' N' i' obs orc' hh hd hu ?_ ho D hQ
    refine Eq.trans ?_ hf
    show (twoS _ _) = twoS _ _
    congr 1
    funext x' t y' u
    rw [bT_eq hx hy, bI_eq hx hy]
end
end Mine
end
-- part Sp14
section
set_option maxRecDepth 100000
namespace Mine
open PySem PySem.Spec PySem.Calls PyProof.Rows PySem.W PySem.W.X
theorem codeAny_function' {prog : Program} {w : World} {A : Around} {s : Shared} {Q : Result → Shared → Prop} {id : String} {b : Builtin} {args : List Value} (hk : builtinKind id = none) (hp : plainId id = true) (hb : entryFor table id = some b) (ha : argsOk id ⟨args, []⟩)
    (hc' : wpAny (model prog w) A.in1 (b ⟨args, []⟩) (fun fin s' => match fin with | .done f => Q (.ok f) s' | .again c' => c'.quiet = true ∧ codeAny (model prog w) A c' Q s') (fun e s' => Q (.error e) s') s) : codeAny (model prog w) A (.call (.builtin id) ⟨args, []⟩) Q s := by
  refine codeAny_call_builtin hp hb ?_
  simp only [checkBuiltinCall, hk]
  cases hsig : Manifest.signature? id with
  | none => exact wpAny_pure hc'
  | some sig =>
    simp only [argsOk, hsig] at ha
    have h2 : Bind.checkArgs id sig ⟨args, []⟩ = pure () := ha
    show wpAny _ _ (Bind.checkArgs id sig ⟨args, []⟩) _ _ s
    rw [h2]; exact wpAny_pure hc'
theorem ivs_items (l : List (Int × Tok)) : (⟨ivs l⟩ : Array Value) = intItems ⟨l⟩ := by
  unfold ivs intItems; simp
theorem sum_cn {U : Bs} {a n : Nat} {l : List (Int × Tok)} {items : List Value} (hi : items = ivs l) {L : Lg} {N i : Nat} {GL : Gg} {G : Nat} : Cn U 1 (.call (.builtin "sum") ⟨[.ref a], []⟩) ⟨(a, listO ⟨items⟩ n) :: L, N, i, GL, G⟩ fun r s' => ∃ t N' i', r = .ok (.ret (.int ((l.map (·.1)).sum) t)) ∧ s' = ⟨(a, listO ⟨items⟩ n) :: L, N', i', GL, G⟩ := by
  subst hi
  intro A R h gens O D DG hE
  have ho : h.get? a = some (listO ⟨ivs l⟩ n) := D.at (i := 0) rfl
  let xs : Array (Int × Tok) := ⟨l⟩
  have hl : Heap.IsList (Shared.heap ⟨h, gens, U.d, U.t₀ + i, U.os⟩) a (intItems xs) := by rw [← ivs_items]; exact ⟨_, ho, rfl, n, rfl⟩
  refine codeAny_function' F.kind_sum F.plain_sum F.entry_sum (F.args_sum1 _) ?_
  unfold Builtin.«sum»
  simp only [List.length_cons, List.length_nil]
  rw [if_neg (by decide)]
  refine wpAny_bind (wpAny_of_eq (show Builtin.Builtins.bindParams "sum" ["start"] 0 { } = pure [none] from rfl) ?_)
  have hne : a ≠ h.objs.size := Nat.ne_of_lt (Heap.lt_size ho)
  have hsz : (intItems xs).size = xs.size := by simp [intItems]
  have W := (Walks.list (prog := U.prog) (w := U.w) (A := A.in1) O.hh h.objs.size a hne (intItems xs)).toS
  rw [hsz] at W
  refine wpAny_bind (wpAny_pyIter_list hl ?_)
  refine wpAny_bind (wpAny_mkInt ?_)
  refine wpAny_bind (wpAny_pure ?_)
  simp only [List.forIn_cons, List.forIn_nil]
  refine wpAny_bind (wpAny_bind (wpAny_bind (wpAny_isInstance (T := "int") (b := false) (typeIs_int _ _ _) PySem.sub_int_str ?_)))
  simp only [Bool.false_eq_true, if_false]
  refine wpAny_pure (wpAny_bind (wpAny_bind (wpAny_isInstance (T := "int") (b := false) (typeIs_int _ _ _) sub_int_bytes ?_)))
  simp only [Bool.false_eq_true, if_false]
  refine wpAny_pure (wpAny_bind (wpAny_bind (wpAny_isInstance (T := "int") (b := false) (typeIs_int _ _ _) sub_int_bytearray ?_)))
  simp only [Bool.false_eq_true, if_false]
  refine wpAny_pure (wpAny_pure ?_)
  refine wpAny_bind (wpAny_newObj_type ?_)
  refine wpAny_pure ⟨plainId_quiet F.plain_sum_loop _, codeAny_sum_loopAnyS W (numAt xs) (fun i v hP => intItems_at hP) _ ?_ xs.size 0 _ _ 0 0 (.inl rfl) rfl (Nat.zero_le _) ?_ (Heap.get?_push_size _ rfl) fun s' t' hm => ?_⟩
  · have := Heap.lt_size ho
    show (h.push _).objs.size ∉ [h.objs.size, a]
    rw [Heap.size_push]
    intro hm
    rcases List.mem_cons.mp hm with e | hm
    · exact absurd e (Nat.succ_ne_self _)
    · have e : h.objs.size + 1 = a := List.mem_singleton.mp hm
      rw [← e] at this
      exact absurd this (by exact Nat.not_lt.mpr (Nat.le_succ _))
  · exact ⟨⟨_, Heap.get?_push_of_some _ (Heap.get?_push_size _ rfl), rfl, rfl⟩, (hl.push _).push _⟩
  · have e2 : preSum (numAt xs) xs.size = (l.map (·.1)).sum := by
      rw [preSum_eq, List.take_of_length_le (by simp)]
    rw [e2]
    have hk : ∀ b o, h.get? b = some o → s'.heap.get? b = some o := by
      intro b o e
      have hb := Heap.lt_size e
      refine hm.heap b o ?_ ?_
      · show b ∉ [(h.push _).objs.size, h.objs.size]
        rw [Heap.size_push]
        intro hm
        rcases List.mem_cons.mp hm with e | hm
        · rw [e] at hb
          exact absurd hb (Nat.not_lt.mpr (Nat.le_succ _))
        · have e : b = h.objs.size := List.mem_singleton.mp hm
          rw [e] at hb
          exact absurd hb (Nat.lt_irrefl _)
      · exact Heap.get?_push_of_some _ (Heap.get?_push_of_some _ e)
    obtain ⟨h', g', d', tk', os'⟩ := s'
    have e3 : g' = gens := hm.gens
    have e4 : d' = U.d := hm.drawn
    have e5 : os' = U.os := hm.os
    have e6 : U.t₀ + i + 1 ≤ tk' := hm.toks
    subst e3 e4 e5
    have hla : U.h₀.objs.size ≤ a := by
      rcases (D.nw (a, listO ⟨ivs l⟩ n) (.head _)).2 with h1 | ⟨c, ps, more, _, h1⟩
      · exact h1
      · cases congrArg Obj.cls h1
    have hD : Led U.h₀ h' [] ((a, listO ⟨ivs l⟩ n) :: L) h'.objs.size := by
      refine ⟨rfl, Nat.le_trans hla (Nat.le_of_lt (Heap.lt_size (hk a _ ho))), fun b o e => ?_, fun p hp => ⟨hk _ _ (D.nw p hp).1, (D.nw p hp).2⟩, D.nd⟩
      rcases D.old b o e with h1 | ⟨c, ps, more, t, q, h1⟩
      · exact .inl (hk b o h1)
      · exact .inr ⟨c, ps, more, t, q, hk b _ h1⟩
    have := hE _ _ ⟨t', h'.objs.size, tk' - U.t₀, rfl, rfl⟩ h' g' hD DG
    have e7 : U.t₀ + (tk' - U.t₀) = tk' := by omega
    have this : R (.ok (.ret (.int (l.map (·.1)).sum t'))) ⟨h', g', U.d, U.t₀ + (tk' - U.t₀), U.os⟩ := this
    rw [e7] at this
    exact this
end Mine
end
-- part Sp15
section
set_option maxRecDepth 100000
namespace Mine
open PySem PySem.Spec PySem.Calls PyProof.Rows PySem.W PySem.W.X
theorem rev_idx (n : Nat) : PySem.Builtin.Str.strSliceIndices none none (-1) n = (List.range n).map fun k => n - 1 - k := by
  have e : PySem.Builtin.Str.strSliceIndices none none (-1) n = sliceRange ((n : Int) - 1) (-1) (-1) := rfl
  rw [e]
  unfold sliceRange
  have h1 : ¬ ((-1 : Int) > 0) := by omega
  simp only [h1, if_false]
  by_cases h0 : n = 0
  · subst h0; simp
  · have h2 : ((n : Int) - 1 > -1) := by omega
    simp only [h2, if_true]
    have h3 : (((n : Int) - 1 - -1 - -1 - 1) / (- -1)).toNat = n := by
      have : ((n : Int) - 1 - -1 - -1 - 1) = n := by omega
      rw [this]; simp
    rw [h3]
    refine List.map_congr_left fun k hk => ?_
    have := List.mem_range.mp hk
    omega
theorem range_all (l : List Nat) : (List.range l.length).filterMap (fun k => l[k]?) = l := by
  induction l with
  | nil => rfl
  | cons a l ih =>
    rw [List.length_cons, List.range_succ_eq_map, List.filterMap_cons]
    simp only [List.getElem?_cons_zero, List.filterMap_map]
    congr 1
theorem fm_congr {α β : Type} {f g : α → Option β} : ∀ {l : List α}, (∀ x ∈ l, f x = g x) → l.filterMap f = l.filterMap g
  | [], _ => rfl
  | a :: l, h => by
    rw [List.filterMap_cons, List.filterMap_cons, h a (.head _), fm_congr fun x hx => h x (.tail _ hx)]
theorem rev_pick (l : List Nat) : ((List.range l.length).map fun k => l.length - 1 - k).filterMap (fun k => l[k]?) = l.reverse := by
  rw [List.filterMap_map]
  have h := range_all l.reverse
  rw [List.length_reverse] at h
  refine Eq.trans ?_ h
  refine fm_congr fun k hk => ?_
  have := List.mem_range.mp hk
  show l[l.length - 1 - k]? = l.reverse[k]?
  rw [List.getElem?_reverse this]
section
variable {V : XV}
/-- x[::-1] -/
noncomputable def spRev (x y : Str) (hy : x.cps.toList.reverse = y.cps.toList) (hl : x.length ≤ 1000000) : Spc V where
  fx c orc L N i := strR (bArgs 500416356548588640944365259017385332 c) fun x' t a => place orc L fun orc j b o => fNNV o fun vt => prt vt (some (-1)) fun _ o1 => some (.ok (.ret (.str y (V.t₀ + i))), L, N, i + 1, .n a b :: .s x' x :: .v o.cls (.type "slice") :: o1, orc)
  ok A Q h gens chg L N i cd orc r L' N' i' obs orc' hh hd hu hf ho D hQ := by
    refine strR_el hf ?_
    clear hf
    intro x' t a ha hf
    refine place_el hf ?_
    clear hf
    intro orc₁ j b o hj hf
    rw [bArgs_eq "str.__getitem__" (by decide +kernel) ha]
    refine fNNV_el hf ?_
    clear hf
    intro vs vt hvs hvl hf
    refine prt_el hf ?_
    clear hf
    intro pt o1 e_ hf k1
    subst e_
    revert ho hQ
    refine fx_elim (motive := fun r L' N' i' obs _ => (∀ o ∈ obs, Ob.Holds o) → (∀ h', Led V.h₀ h' chg L' N' → Q r ⟨h', gens, V.d, V.t₀ + i', V.os⟩) → _) hf ?_
    clear hf
    intro ho hQ
    have e1 : a = b := ho (.n a b) (.head _)
    have e2 : x' = x := ho (.s x' x) (.tail _ (.head _))
    have e3 : o.cls = .type "slice" := ho (.v o.cls (.type "slice")) (.tail _ (.tail _ (.head _)))
    have k1 := k1 fun q hq => ho q (.tail _ (.tail _ (.tail _ hq)))
    subst e1 e2
    obtain ⟨⟨m, u⟩, rfl⟩ : ∃ p, pt = some p := by cases pt with
      | none => cases k1
      | some p => exact ⟨p, rfl⟩
    have k1 : m = -1 := Option.some.inj k1
    subst k1
    have hv : vs = #[partValue none, partValue none, partValue (some (-1, u))] := Array.ext' hvl
    subst hv
    refine codeAny_meets F.slot_str_getitem (typeIs_str _ _ _) F.entry_str_getitem (F.args_str_getitem_2 _ _) (meets_str_getitem_slice x' t a none none (some (-1, u)) rfl) ⟨⟨o, D.at hj, e3, hvs⟩, ?_⟩
    unfold sliceMade slicePicked
    show (if ((-1 : Int) == 1 && (PySem.Builtin.Str.strSliceIndices none none (-1) x'.length).length == x'.length) = true then Made.val (.str x' t) else .str ⟨((PySem.Builtin.Str.strSliceIndices none none (-1) x'.length).filterMap (x'.cps[·]?)).toArray⟩).post _ _
    rw [show ((-1 : Int) == 1) = false from rfl, Bool.false_and, if_neg Bool.false_ne_true]
    have e : (⟨((PySem.Builtin.Str.strSliceIndices none none (-1) x'.length).filterMap (x'.cps[·]?)).toArray⟩ : Str) = y := by
      refine Str.ext' (Array.toList_inj.mp ?_)
      show (PySem.Builtin.Str.strSliceIndices none none (-1) x'.length).filterMap (x'.cps[·]?) = _
      rw [rev_idx, ← hy, ← rev_pick x'.cps.toList]
      have : x'.cps.toList.length = x'.length := by simp [Str.length]
      rw [this]
      simp only [Array.getElem?_toList]
    rw [e]
    refine ⟨?_, hQ _ D⟩
    have : y.length = x'.length := by have := congrArg List.length hy; simpa [Str.length] using this.symm
    exact sz (by omega)
end
end Mine
end
-- part Sp16
section
set_option maxRecDepth 100000
namespace Mine
open PySem PySem.Spec PySem.Calls PyProof.Rows PySem.W PySem.W.X
theorem all_true (n : Nat) : ((List.range n).all fun _ => true) = true := by simp
section
variable {V : XV}
/-- xs == ys, item by item -/
noncomputable def spLEq (xs ys : List Value) (hn : xs.length = ys.length) (he : ∀ (j : Nat) (x y : Value), xs[j]? = some x → ys[j]? = some y → MeetsSeq.EqGives x y true) : Spc V where
  fx c orc L N i := refR (bArgs 116512336171186236184357485 c) fun a a2 => place orc L fun orc j b o => asSeq o fun ws n => place orc L fun orc j2 b2 o2 => asSeq o2 fun ws2 n2 => some (.ok (.ret (.bool true)), L, N, i, [.n a b, .ls ws.toList xs, .v o.cls (.type "list"), .n a2 b2, .ls ws2.toList ys, .v o2.cls (.type "list")], orc)
  ok A Q h gens chg L N i cd orc r L' N' i' obs orc' hh hd hu hf ho D hQ := by
    refine refR_el hf ?_
    clear hf
    intro a a2 ha hf
    refine place_el hf ?_
    clear hf
    intro orc₁ j b o hj hf
    refine asSeq_el hf ?_
    clear hf
    intro cls ws n e_ hf
    subst e_
    refine place_el hf ?_
    clear hf
    intro orc₂ j2 b2 o2 hj2 hf
    refine asSeq_el hf ?_
    clear hf
    intro cls2 ws2 n2 e_ hf
    subst e_
    rw [bArgs_eq "list.__eq__" (by decide +kernel) ha]
    revert ho hQ
    refine fx_elim (motive := fun r L' N' i' obs _ => (∀ o ∈ obs, Ob.Holds o) → (∀ h', Led V.h₀ h' chg L' N' → Q r ⟨h', gens, V.d, V.t₀ + i', V.os⟩) → _) hf ?_
    clear hf
    intro ho hQ
    have e1 : a = b := ho (.n a b) (.head _)
    have e2 : ws.toList = xs := ho (.ls ws.toList xs) (.tail _ (.head _))
    have e3 : cls = .type "list" := ho (.v cls (.type "list")) (.tail _ (.tail _ (.head _)))
    have e4 : a2 = b2 := ho (.n a2 b2) (.tail _ (.tail _ (.tail _ (.head _))))
    have e5 : ws2.toList = ys := ho (.ls ws2.toList ys) (.tail _ (.tail _ (.tail _ (.tail _ (.head _)))))
    have e6 : cls2 = .type "list" := ho (.v cls2 (.type "list")) (.tail _ (.tail _ (.tail _ (.tail _ (.tail _ (.head _))))))
    subst e1 e2 e3 e4 e5 e6
    have hoo := D.at hj
    have hoo2 := D.at hj2
    have hT : (Shared.mk h gens V.d (V.t₀ + i) V.os).TypeIs (.ref a) "list" := ⟨_, hoo, rfl⟩
    have hsz : ws.size = ws2.size := by simpa using hn
    refine codeAny_meets F.slot_list_eq hT F.entry_list_eq (F.args_list_eq_2 _ _) (MeetsSeq3.list_eq a a2 ws ws2 n n2 hsz (fun _ => true) fun j h1 h2 => he j _ _ (by simp [h1]) (by simp [h2])) ⟨hoo, hoo2, ?_⟩
    rw [all_true]
    exact hQ _ D
end
theorem eq_ints2 {a b : Int} {t1 t2 u1 u2 : Tok} : ∀ (j : Nat) (x y : Value), ([.int a t1, .int b t2] : List Value)[j]? = some x → ([.int a u1, .int b u2] : List Value)[j]? = some y → MeetsSeq.EqGives x y true := by
  intro j x y h1 h2
  match j, h1, h2 with
  | 0, h1, h2 =>
    cases h1; cases h2
    have := MeetsSeq.EqGives.int a a t1 u1
    rw [beq_self_eq_true] at this
    exact this
  | 1, h1, h2 =>
    cases h1; cases h2
    have := MeetsSeq.EqGives.int b b t2 u2
    rw [beq_self_eq_true] at this
    exact this
end Mine
end
-- part Rt
section
set_option maxRecDepth 100000
set_option maxHeartbeats 0
namespace Mine
open PySem PySem.Spec PySem.Calls PyProof.Rows PySem.W PySem.W.X
/-- a value that is one comparison of two lists, without a look at the stack -/
noncomputable def valL (e : PySem.Expr) (env : PySem.Env) : Sem Value := match e with
  | .Compare left ops cs pos => Sem.bind (eval left env) fun l => match ops, markedEach ops cs (evalEach cs env) with
    | [op], [r] => Sem.bind (PySem.holding [l] r) fun rv => Sem.bind (standAt pos) fun _ => opL op l rv
    | _, _ => .unsupported "alt"
  | _ => .unsupported "alt"
/-- a def's last statement: it hands back such a value -/
noncomputable def rtL (body : List Stmt) (env : PySem.Env) : Sem Fin := match body with
  | [.Return v p] => match v with
    | some e => Sem.bind (Sem.onRaise (Sem.bind (standAt p) fun _ => Sem.bind (valL e env) fun v => .pure (Flow.ret v)) (leaving env)) fun f => match f with
      | .ret v => ret v
      | _ => ret .none
    | none => .unsupported "alt"
  | _ => .unsupported "alt"
/-- what comes when a code has said where it stands -/
noncomputable def skipP (t : Sem Fin) : Sem Fin := match t with
  | .point _ k => k ()
  | t => t
noncomputable def valZ (e : PySem.Expr) (env : PySem.Env) : Sem Value := match e with
  | .Compare left ops cs pos => R.bindR (PySem.W.ZFast.zw14044960220447912780 left env) fun l => match ops, PySem.W.ZFast.zw2344580865713695371 ops cs (PySem.W.ZFast.zw10458482166411082596 cs env) with
    | [op], [r] => R.bindR (PySem.W.ZFast.zw17359229931016689406 [l] r) fun rv => R.bindR (standAt pos) fun _ => opZ op l rv
    | _, _ => .unsupported "alt"
  | _ => .unsupported "alt"
theorem valZ_eq : valL = valZ := by
  funext e env
  unfold valL valZ
  rw [R.bindR_eq, PySem.W.ZFast.ze14044960220447912780, PySem.W.ZFast.ze2344580865713695371, PySem.W.ZFast.ze10458482166411082596, PySem.W.ZFast.ze17359229931016689406, opZ_eq]
noncomputable def rtZ (body : List Stmt) (env : PySem.Env) : Sem Fin := match body with
  | [.Return v p] => match v with
    | some e => R.bindR (R.onRaiseR (R.bindR (standAt p) fun _ => R.bindR (valZ e env) fun v => .pure (Flow.ret v)) (PySem.W.ZFast.zw9442747609961115081 env)) fun f => match f with
      | .ret v => PySem.W.ZFast.zw6905046200447255374 v
      | _ => PySem.W.ZFast.zw6905046200447255374 .none
    | none => .unsupported "alt"
  | _ => .unsupported "alt"
theorem rtZ_eq : rtL = rtZ := by
  funext b env
  unfold rtL rtZ
  rw [R.bindR_eq, R.onRaiseR_eq, PySem.W.ZFast.ze9442747609961115081, PySem.W.ZFast.ze6905046200447255374, valZ_eq]
theorem sub_val {M : Model} {A : Around} (hu : A.units < cLine) (e : PySem.Expr) (env : PySem.Env) : Sub M A (valL e env) (eval e env) := by
  unfold valL
  split
  · rename_i left ops cs pos
    rw [ev_cmp]
    refine Sub.bind (Sub.refl _) fun l => ?_
    split
    · rename_i op r hm
      rw [hm]
      show Sub M A _ (Sem.bind (PySem.holding [l] r) fun rv => Sem.bind (standAt pos) fun _ => operate [l, rv] (compareOp op l rv))
      exact Sub.bind (Sub.refl _) fun rv => Sub.bind (Sub.refl _) fun _ => sub_op hu op l rv
    · exact Sub.none _
  · exact Sub.none _
theorem den_func (b : List Stmt) (env : PySem.Env) : denote table (.func b env) = Sem.bind point fun _ => Sem.bind (Sem.onRaise (execs b env) (leaving env)) fun f => match f with
        | .ret v => ret v
        | _ => ret .none := rfl
theorem skip_point (k : Unit → Sem Fin) : skipP (Sem.bind PySem.point k) = k () := by kernel_rfl
theorem execs_ret (v : PySem.Expr) (p : Pos) (env : PySem.Env) : execs [.Return (some v) p] env = Sem.bind (Sem.bind (standAt p) fun _ => Sem.bind (eval v env) fun x => .pure (Flow.ret x)) fun f => match f with
    | .next => .pure .next
    | f => .pure f := by
  rw [execs_cons, exec_Return_some]
  show Sem.bind (Sem.bind (standAt p) fun _ => Sem.bind (eval v env) fun x => .pure (Flow.ret x)) (fun f => match f with
    | .next => execs [] env
    | f => .pure f) = _
  rfl
theorem sub_rt {M : Model} {A : Around} (hu : A.units < cLine) (b : List Stmt) (env : PySem.Env) : Sub M A (rtL b env) (skipP (denote table (.func b env))) := by
  rw [den_func, skip_point]
  unfold rtL
  split
  · rename_i v p
    split
    · rename_i e
      refine Sub.bind (Sub.onRaise ?_) fun f => Sub.refl _
      rw [execs_ret]
      rw [Sem.bind_assoc]
      refine Sub.bind (Sub.refl _) fun _ => ?_
      show Sub M A _ (Sem.bind (Sem.bind (eval e env) fun x => Sem.pure (Flow.ret x)) _)
      rw [Sem.bind_assoc]
      exact Sub.bind (sub_val hu e env) fun v => Sub.refl _
    · exact Sub.none _
  · exact Sub.none _
theorem means_sub {V : XV} {c : Code} {κ : Kont} {t t' : Sem Fin} {s : Shared} (hs : Sub (model V.prog V.w) (hereA V c none κ) t' t) (h : Means V c none κ t' s) : Means V c none κ t s := by
  intro Γ p hc hΓ
  exact hs Γ p s _ _ (hc ▸ hΓ.in) (h Γ p hc hΓ)
/-- a def's last statement is walked without the look at the stack -/
theorem Mn_rt {V : XV} (O : Good V) {c : Code} {b : List Stmt} {env : PySem.Env} {s : Sh} (hw : Nat.ble (mwt c) 300 = true) (h : Mn V (at_ c (rtZ b env) s)) : Mn V (at_ c (skipP (denZ (.func b env))) s) := by
  intro hp gens D DG
  have h1 := h hp gens D DG
  refine means_sub (t' := rtZ b env) ?_ h1
  rw [← rtZ_eq, ← denZ_eq]
  exact sub_rt (start_units O (κ := .base) hw) b env
end Mine
end
-- part Hd
section
set_option maxRecDepth 100000
set_option linter.unusedVariables false
namespace Mine
open PySem PySem.W PySem.Calls PyProof.Rows
noncomputable abbrev denQ : Code → Sem PySem.Fin := PySem.W.Fast.tw11892475500146522536 PySem.W.Fast.tw14364793385576792824
theorem denQ_eq : denote treeTable = denQ := by
  rw [PySem.W.Fast.te11892475500146522536, PySem.W.Fast.te14364793385576792824]
/-- a heap's objects as a tree -/
noncomputable def ofL : Nat → List Obj → BT → Option BT
  | _, [], t => some t
  | n, o :: l, t => match ((t.ins n o).get n).isSome with
    | true => ofL (n + 1) l (t.ins n o)
    | false => none
theorem ofL_get : ∀ (l : List Obj) (n : Nat) (t t' : BT), ofL n l t = some t' → ∀ i, t'.get i = if n ≤ i ∧ i < n + l.length then l[i - n]? else t.get i
  | [], n, t, t', h, i => by
    cases h
    rw [if_neg (by simp only [List.length_nil]; omega)]
  | o :: l, n, t, t', h, i => by
    unfold ofL at h
    cases g : ((t.ins n o).get n).isSome with
    | false => rw [g] at h; cases h
    | true =>
      rw [g] at h
      rw [ofL_get l (n + 1) _ t' h i, BT.get_ins o t n g i]
      simp only [List.length_cons]
      by_cases e : i = n
      · subst e
        rw [if_neg (by omega), if_pos rfl, if_pos (by omega), Nat.sub_self]; rfl
      · by_cases k : n + 1 ≤ i ∧ i < n + 1 + l.length
        · rw [if_pos k, if_pos (by omega), show i - n = (i - (n + 1)) + 1 by omega]; rfl
        · rw [if_neg k, if_neg e, if_neg (by omega)]
noncomputable def toT (s : Shared) : Option SharedT := (ofL 0 s.heap.objs.toList .nil).map fun t => ⟨t, s.heap.objs.size, s.heap.life, s.gens, s.drawn, s.toks, s.os⟩
theorem toT_abs {s : Shared} {x : SharedT} (h : toT s = some x) : x.abs = s := by
  obtain ⟨⟨objs, life⟩, gens, drawn, toks, os⟩ := s
  obtain ⟨t, ht, rfl⟩ := Option.map_eq_some_iff.mp h
  have e : absHeap t objs.size life = ⟨objs, life⟩ := by
    have : (t.list objs.size).toArray = objs := by
      apply Array.ext_getElem?
      intro i
      have := absHeap_at t objs.size life i
      unfold absHeap at this
      rw [this, ofL_get _ _ _ _ ht i]
      by_cases k : i < objs.size
      · rw [if_pos k, if_pos ⟨Nat.zero_le _, by show i < 0 + objs.toList.length; rw [Array.length_toList]; omega⟩, Nat.sub_zero, Array.getElem?_toList, Array.getElem?_eq_getElem k]; rfl
      · rw [if_neg k, Array.getElem?_eq_none (by omega)]
    show Heap.mk _ _ = _
    rw [this]
  show Shared.mk (absHeap t objs.size life) _ _ _ _ = _
  rw [e]
noncomputable abbrev Stp : Type := SharedT → Thread → Option (SharedT × Thread)
noncomputable def impT (stp : Stp) : Nat → SharedT → Thread → Option SharedT
  | 0, _, _ => none
  | n + 1, s, t => match t.atExitBegin with
    | some [] => some s
    | some (_ :: _) => none
    | none => match stp s t with
      | some (s', t') => impT stp n s' t'
      | none => none
theorem impT_of {tb : String → Option Builtin} {p : Program} {w : World} : ∀ (n : Nat) (s s' : SharedT) (t : Thread), impT (stepT (denote tb) p w) n s t = some s' → importEnds tb p w n s.abs t = some s'.abs
  | 0, _, _, _, h => nomatch h
  | n + 1, s, s', t, h => by
    unfold impT at h
    unfold importEnds
    split at h
    · rename_i k; cases h; rw [k]
    · cases h
    · rename_i k
      split at h
      · rename_i e; rw [k, stepT_spec e]; exact impT_of n _ _ _ h
      · cases h
noncomputable def topT (ok : Thread → Bool) (stp : Stp) : Nat → SharedT → Thread → Option SharedT
  | 0, _, _ => none
  | n + 1, s, t => match through t with
    | true => some s
    | false => match ok t with
      | false => none
      | true => match stp s t with
        | some (s', t') => topT ok stp n s' t'
        | none => none
theorem topT_of {tb : String → Option Builtin} {p : Program} {w : World} {n₀ : Nat} {ann : Option Value} : ∀ (n : Nat) (s s' : SharedT) (t : Thread), topT (stepOk n₀ ann) (stepT (denote tb) p w) n s t = some s' → topRun tb p w n₀ ann n s.abs t = some s'.abs
  | 0, _, _, _, h => nomatch h
  | n + 1, s, s', t, h => by
    unfold topT at h
    unfold topRun
    split at h
    · rename_i e; cases h; rw [e]
    · rename_i e
      rw [e]
      split at h
      · cases h
      · rename_i k
        rw [k]
        split at h
        · rename_i r; rw [stepT_spec r]; exact topT_of n _ _ _ h
        · cases h
noncomputable abbrev stpQ : Program → World → Stp := PySem.W.Fast.tw10156331382660048174 denQ
end Mine
end
-- part He
section
set_option maxRecDepth 100000
set_option linter.unusedVariables false
namespace Mine
open PySem PySem.W PySem.Calls PyProof.Rows
/-- the opening -/
noncomputable def opnT (stp : Program → World → Stp) (opn : Program → Program) (srt : Program → Shared × Thread) (fen : Program → Shared → Option Shared) (p : Program) (w : World) (N : Nat) : Option Shared :=
  (toT (srt (opn p)).1).bind fun a => (impT (stp (opn p) w) N a (srt (opn p)).2).bind fun s => fen p s.abs
/-- the top behind it -/
noncomputable def topE (stp : Program → World → Stp) (sok : Nat → Option Value → Thread → Bool) (p : Program) (w : World) (N : Nat) (s₀ : Shared) : Option SharedT :=
  match s₀.heap.isNs mainGlobals && s₀.gens.size == 0 with
  | true => (toT s₀).bind fun b => topT (sok s₀.heap.objs.size (s₀.heap.nsMap mainGlobals "__annotations__")) (stp p w) N b (topStub p)
  | false => none
/-- what the end must answer to the opening's heap -/
noncomputable def endOk (p : Program) (s₀ s₁ : Shared) : Bool := staticsOk (importedModules p.main.body) s₀.heap s₁.heap && namesBound p s₁.heap && gensDone s₁ && laidKept s₀.heap s₁.heap
theorem opn_of {p : Program} {w : World} {N : Nat} {s₀ : Shared} (h : opnT (stepT (denote treeTable)) opening start fenceModules? p w N = some s₀) : fencedOpening treeTable p w N = some s₀ := by
  obtain ⟨a, ha, h⟩ := Option.bind_eq_some_iff.mp h
  obtain ⟨s, hs, h⟩ := Option.bind_eq_some_iff.mp h
  have e := impT_of _ _ _ _ hs
  rw [toT_abs ha] at e
  unfold fencedOpening
  rw [e]
  exact h
theorem ends_of {p : Program} {w : World} {N : Nat} {S : SharedT} {s₁ : Shared} (hS : S.abs = s₁)
    (h1 : (opnT (stepT (denote treeTable)) opening start fenceModules? p w N).bind (topE (stepT (denote treeTable)) stepOk p w N) = some S)
    (h2 : (opnT (stepT (denote treeTable)) opening start fenceModules? p w N).map (fun s₀ => endOk p s₀ s₁) = some true) : openEnds treeTable p w N = some s₁ := by
  obtain ⟨s₀, h0, h⟩ := Option.bind_eq_some_iff.mp h1
  rw [h0] at h2
  have h2 : endOk p s₀ s₁ = true := Option.some.inj h2
  unfold openEnds
  rw [opn_of h0]
  show topFrom treeTable p w N s₀ = _
  unfold topFrom
  unfold topE at h
  split at h
  · rename_i k
    rw [k]
    obtain ⟨b, hb, h⟩ := Option.bind_eq_some_iff.mp h
    have e1 := topT_of _ _ _ _ h
    rw [toT_abs hb, hS] at e1
    show (topRun treeTable p w s₀.heap.objs.size (s₀.heap.nsMap mainGlobals "__annotations__") N s₀ (topStub p)).bind _ = _
    rw [e1]
    show (match staticsOk (importedModules p.main.body) s₀.heap s₁.heap && namesBound p s₁.heap && gensDone s₁ && laidKept s₀.heap s₁.heap with | true => some s₁ | false => none) = _
    unfold endOk at h2
    rw [h2]
  · cases h
open PySem.W.Fast in
noncomputable abbrev opnQ := opnT stpQ opening @tw1435165496053646825 @tw14289696077712309145
open PySem.W.Fast in
noncomputable abbrev topQ := topE stpQ @tw6613529449190102663
open PySem.W.Fast in
noncomputable abbrev seeQ (p q : Program) (loose : List Str) (Xt : Shared → Bool) (g0 : Bool) (s : Shared) := @tw4187177175401517315 q loose (importedModules p.main.body) Xt g0 s
theorem leftS {p q : Program} {loose : List Str} {Xt : Shared → Bool} {α : Type} {Yf : Shared → α} {Ya : World → α} {N : Nat} {g0 : Bool} (row : String) {S : Params → SharedT} {s₁ : Params → Shared} (hS : ∀ P, (S P).abs = s₁ P)
    (h1 : ∀ (w : World) (b : Bool), (opnQ p (w.withFollow row b) N).bind (topQ p (w.withFollow row b) N) = some (S w.params))
    (h2 : ∀ (w : World) (b : Bool), (opnQ p (w.withFollow row b) N).map (fun s₀ => endOk p s₀ (s₁ w.params)) = some true)
    (h3 : ∀ P, seeQ p q loose Xt g0 (s₁ P) = openGood q loose) (h4 : ∀ w : World, Yf (s₁ w.params) = Ya w) : LeftO p q loose Xt Yf Ya N g0 := fun w => by
  have e := World.withFollow_self w row
  have a1 := h1 w (w.params.followText row)
  have a2 := h2 w (w.params.followText row)
  unfold opnQ topQ stpQ at a1
  unfold opnQ stpQ at a2
  rw [e, ← denQ_eq, ← PySem.W.Fast.te10156331382660048174, ← PySem.W.Fast.te6613529449190102663, ← PySem.W.Fast.te1435165496053646825, ← PySem.W.Fast.te14289696077712309145] at a1
  rw [e, ← denQ_eq, ← PySem.W.Fast.te10156331382660048174, ← PySem.W.Fast.te1435165496053646825, ← PySem.W.Fast.te14289696077712309145] at a2
  have a3 := h3 w.params
  unfold seeQ at a3
  rw [← PySem.W.Fast.te4187177175401517315] at a3
  have en := ends_of (hS w.params) a1 a2
  rw [en]
  show some (_, _) = some (_, _)
  rw [a3, h4 w]
end Mine
end
-- part Hz1
section
open PySem PySem.W PySem.W.X PySem.W.ZRun PyProof.Rows
set_option Elab.async false
set_option maxRecDepth 100000
set_option maxHeartbeats 0
set_option linter.unusedVariables false
namespace Mine
/-- what is to be walked -/
noncomputable def Walk (prog : Program) (law n₀ tk : Nat) (K : Params → KT) : Prop :=
  ∀ (w : World) (s : Shared) (ns : List Int) (vs : List Value) (Q : Value → Shared → Prop) (E : Value → Shared → Prop),
    s.gens = #[] → KT.Holds s.heap 1 0 (K w.params) → s.heap.objs.size = n₀ + 1 → tk ≤ s.toks → s.heap.IsList n₀ vs.toArray → IntsAre vs ns → ns.length ≤ 63 →
    (PyData.list (List.map PyData.int ns)).layable0 = true →
    s.heap.get? n₀ = some { cls := .type "list", data := .seq vs.toArray 0 } →
    (∀ s', OldK s.heap s'.heap → s'.os = s.os → AllBare s'.gens → Q (.bool true) s') →
    wpAny (model prog w) callerA (call (.ref law) [.ref n₀]) Q E s
theorem good_end {c : ClaimW} {cl : Str → Option Addr} {mean : ExcName → Option Value} {args : List WData} {s₁ s' : Shared}
    (hr : ∀ cls, c.raises args cls = false) (hp : c.post args (.bool true) args = true) (k : OldK s₁.heap s'.heap) (ho : s'.os = s₁.os) (hb : AllBare s'.gens) :
    GoodWG c cl mean args s₁ (.ok (.ret (.bool true))) s' :=
  ⟨.inl ⟨_, _, [], rfl, hr, ReadsW.bool true, hp, fun _ => ⟨List.nodup_nil, fun _ hm => (nomatch hm)⟩⟩, k, ho, hb⟩
noncomputable abbrev sL (l : List Nat) : Str := ⟨⟨l⟩⟩
noncomputable abbrev kE (P : Params) (s : Str) (t : Tok) (v : Value) : DictEntry := ⟨PyData.keyHash P s, .str s t, v⟩
noncomputable def mB : List Stmt := Challenge.pw_rs0132_01.main.body
noncomputable def stN : List Stmt → Nat → Stmt
  | [], _ => .Pass default
  | s :: _, 0 => s
  | _ :: l, n + 1 => stN l n
noncomputable def clB : Stmt → List Stmt
  | .ClassDef _ _ _ b _ _ _ _ _ _ _ => b
  | _ => []
noncomputable def fO (c : Value) (d : Option Addr) (sl : Array (Option Value)) (s : Stmt) (q : Str) (g : Addr) (cl : List (Str × Addr)) (df kd doc pm : Value) (an : Option Addr) (cd ct : Value) (bl : Addr) : Obj := match s with
  | .FunctionDef name args body _ _ _ sc _ _ _ => ⟨c, d, .func ⟨name, q, args, .stmts body, sc, g, cl, df, kd, doc, pm, an, cd, ct, bl⟩, sl⟩
  | _ => ⟨c, d, .plain, sl⟩
noncomputable def ob_0 (P : Params) : Obj := (Obj.mk (Value.type SZ.s14018661285674007319x4) none (Data.dict (List.toArray [kE P (sL [95,95,110,97,109,101,95,95]) 1 (Value.str (sL [98,117,105,108,116,105,110,115]) 160), kE P (sL [95,95,100,111,99,95,95]) 2 (Value.builtin "builtins.__doc__:str#opaque"), kE P (sL [95,95,112,97,99,107,97,103,101,95,95]) 3 (Value.builtin "builtins.__package__:str#opaque"), kE P (sL [95,95,108,111,97,100,101,114,95,95]) 4 (Value.builtin "builtins.__loader__:shared#opaque"), kE P (sL [95,95,115,112,101,99,95,95]) 5 (Value.builtin SZ.s11665532747177232413x24), kE P (sL [95,95,98,117,105,108,100,95,99,108,97,115,115,95,95]) 6 (Value.builtin SZ.s15183661809925369436x15), kE P (sL [95,95,105,109,112,111,114,116,95,95]) 7 (Value.builtin SZ.s13915890719876406383x10), kE P (sL [97,98,115]) 8 (Value.builtin SZ.s13459172003223722735x3), kE P (sL [97,108,108]) 9 (Value.builtin SZ.s10557405761357834076x3), kE P (sL [97,110,121]) 10 (Value.builtin SZ.s4233737765568776869x3), kE P (sL [97,115,99,105,105]) 11 (Value.builtin SZ.s2508922471967985374x5), kE P (sL [98,105,110]) 12 (Value.builtin SZ.s15574269061696679450x3), kE P (sL [98,114,101,97,107,112,111,105,110,116]) 13 (Value.builtin SZ.s6016482663378992977x10), kE P (sL [99,97,108,108,97,98,108,101]) 14 (Value.builtin SZ.s5596568736180474577x8), kE P (sL [99,104,114]) 15 (Value.builtin SZ.s2839554839881490554x3), kE P (sL [99,111,109,112,105,108,101]) 16 (Value.builtin SZ.s725004073602090463x7), kE P (sL [100,101,108,97,116,116,114]) 17 (Value.builtin SZ.s9436932552931045734x7), kE P (sL [100,105,114]) 18 (Value.builtin SZ.s2754603736356183583x3), kE P (sL [100,105,118,109,111,100]) 19 (Value.builtin SZ.s15185746759980889043x6), kE P (sL [101,118,97,108]) 20 (Value.builtin SZ.s8192189862530294059x4), kE P (sL [101,120,101,99]) 21 (Value.builtin SZ.s7038307821325472102x4), kE P (sL [102,111,114,109,97,116]) 22 (Value.builtin SZ.s5662562618415449548x6), kE P (sL [103,101,116,97,116,116,114]) 23 (Value.builtin SZ.s15281542589158584767x7), kE P (sL [103,108,111,98,97,108,115]) 24 (Value.builtin SZ.s17651547275483570877x7), kE P (sL [104,97,115,97,116,116,114]) 25 (Value.builtin SZ.s4036449017235975746x7), kE P (sL [104,97,115,104]) 26 (Value.builtin SZ.s8879979712987360175x4), kE P (sL [104,101,120]) 27 (Value.builtin SZ.s1801250619170735830x3), kE P (sL [105,100]) 28 (Value.builtin SZ.s17659931425627118568x2), kE P (sL [105,110,112,117,116]) 29 (Value.builtin SZ.s6063217899685152688x5), kE P (sL [105,115,105,110,115,116,97,110,99,101]) 30 (Value.builtin SZ.s8008927332132565319x10), kE P (sL [105,115,115,117,98,99,108,97,115,115]) 31 (Value.builtin SZ.s3544116645089599534x10), kE P (sL [105,116,101,114]) 32 (Value.builtin SZ.s13761710972054866084x4), kE P (sL [97,105,116,101,114]) 33 (Value.builtin SZ.s12896375587409280029x5), kE P (sL [108,101,110]) 34 (Value.builtin SZ.s13014049009108672802x3), kE P (sL [108,111,99,97,108,115]) 35 (Value.builtin SZ.s13935586738268321596x6), kE P (sL [109,97,120]) 36 (Value.builtin SZ.s8200498257699607233x3), kE P (sL [109,105,110]) 37 (Value.builtin SZ.s14114244577727609259x3), kE P (sL [110,101,120,116]) 38 (Value.builtin SZ.s1499430450269397089x4), kE P (sL [97,110,101,120,116]) 39 (Value.builtin SZ.s8755793994789770505x5), kE P (sL [111,99,116]) 40 (Value.builtin SZ.s15725212667919936108x3), kE P (sL [111,114,100]) 41 (Value.builtin SZ.s15791221867095933363x3), kE P (sL [112,111,119]) 42 (Value.builtin SZ.s81309575031448614x3), kE P (sL [112,114,105,110,116]) 43 (Value.builtin SZ.s8069831620301644142x5), kE P (sL [114,101,112,114]) 44 (Value.builtin SZ.s10061844253413749634x4), kE P (sL [114,111,117,110,100]) 45 (Value.builtin SZ.s9496514870978017513x5), kE P (sL [115,101,116,97,116,116,114]) 46 (Value.builtin SZ.s8899691144933366716x7), kE P (sL [115,111,114,116,101,100]) 47 (Value.builtin SZ.s15201008993051130160x6), kE P (sL [115,117,109]) 48 (Value.builtin SZ.s741896355592496720x3), kE P (sL [118,97,114,115]) 49 (Value.builtin SZ.s17925004256654032244x4), kE P (sL [78,111,110,101]) 50 Value.none, kE P (sL [69,108,108,105,112,115,105,115]) 51 Value.ellipsis, kE P (sL [78,111,116,73,109,112,108,101,109,101,110,116,101,100]) 52 Value.notImplemented, kE P (sL [70,97,108,115,101]) 53 (Value.bool Bool.false), kE P (sL [84,114,117,101]) 54 (Value.bool Bool.true), kE P (sL [98,111,111,108]) 55 (Value.type SZ.s11695548795398191787x4), kE P (sL [109,101,109,111,114,121,118,105,101,119]) 56 (Value.type SZ.s4156966113859768872x10), kE P (sL [98,121,116,101,97,114,114,97,121]) 57 (Value.type SZ.s9501651726347032510x9), kE P (sL [98,121,116,101,115]) 58 (Value.type SZ.s15722918466584999320x5), kE P (sL [99,108,97,115,115,109,101,116,104,111,100]) 59 (Value.type SZ.s591115383303110208x11), kE P (sL [99,111,109,112,108,101,120]) 60 (Value.type SZ.s15721156781594690315x7), kE P (sL [100,105,99,116]) 61 (Value.type SZ.s14018661285674007319x4), kE P (sL [101,110,117,109,101,114,97,116,101]) 62 (Value.type SZ.s14340494229221121180x9), kE P (sL [102,105,108,116,101,114]) 63 (Value.type SZ.s13429844117177748173x6), kE P (sL [102,108,111,97,116]) 64 (Value.type SZ.s16463266125957815391x5), kE P (sL [102,114,111,122,101,110,115,101,116]) 65 (Value.type SZ.s4922535414793169389x9), kE P (sL [112,114,111,112,101,114,116,121]) 66 (Value.type SZ.s8101838861749082086x8), kE P (sL [105,110,116]) 67 (Value.type SZ.s7066276694103001551x3), kE P (sL [108,105,115,116]) 68 (Value.type SZ.s9222952809800978799x4), kE P (sL [109,97,112]) 69 (Value.type SZ.s462964344163437139x3), kE P (sL [111,98,106,101,99,116]) 70 (Value.type SZ.s2742458400755230247x6), kE P (sL [114,97,110,103,101]) 71 (Value.type SZ.s1438033511350832697x5), kE P (sL [114,101,118,101,114,115,101,100]) 72 (Value.type SZ.s14365286008749172514x8), kE P (sL [115,101,116]) 73 (Value.type SZ.s3642769012341782148x3), kE P (sL [115,108,105,99,101]) 74 (Value.type SZ.s4674234679698826739x5), kE P (sL [115,116,97,116,105,99,109,101,116,104,111,100]) 75 (Value.type SZ.s16656946322747308186x12), kE P (sL [115,116,114]) 76 (Value.type SZ.s10796804682411823810x3), kE P (sL [115,117,112,101,114]) 77 (Value.type SZ.s4290257624100764138x5), kE P (sL [116,117,112,108,101]) 78 (Value.type SZ.s2766695959194262286x5), kE P (sL [116,121,112,101]) 79 (Value.type SZ.s17162191345867700912x4), kE P (sL [122,105,112]) 80 (Value.type SZ.s14339709457334898076x3), kE P (sL [95,95,100,101,98,117,103,95,95]) 81 (Value.bool Bool.true), kE P (sL [66,97,115,101,69,120,99,101,112,116,105,111,110]) 82 (Value.type SZ.s4278001404047624695x13), kE P (sL [66,97,115,101,69,120,99,101,112,116,105,111,110,71,114,111,117,112]) 83 (Value.type SZ.s6585700554429387442x18), kE P (sL [69,120,99,101,112,116,105,111,110]) 84 (Value.type SZ.s5946037652744460706x9), kE P (sL [71,101,110,101,114,97,116,111,114,69,120,105,116]) 85 (Value.type SZ.s7410770068591931388x13), kE P (sL [75,101,121,98,111,97,114,100,73,110,116,101,114,114,117,112,116]) 86 (Value.type SZ.s11817881795495490833x17), kE P (sL [83,121,115,116,101,109,69,120,105,116]) 87 (Value.type SZ.s15679963881808890155x10), kE P (sL [65,114,105,116,104,109,101,116,105,99,69,114,114,111,114]) 88 (Value.type SZ.s3871700062485845797x15), kE P (sL [65,115,115,101,114,116,105,111,110,69,114,114,111,114]) 89 (Value.type SZ.s7689518266570723881x14), kE P (sL [65,116,116,114,105,98,117,116,101,69,114,114,111,114]) 90 (Value.type SZ.s9001593270443806431x14), kE P (sL [66,117,102,102,101,114,69,114,114,111,114]) 91 (Value.type SZ.s6882542574934516792x11), kE P (sL [69,79,70,69,114,114,111,114]) 92 (Value.type SZ.s14403400214490484960x8), kE P (sL [73,109,112,111,114,116,69,114,114,111,114]) 93 (Value.type SZ.s14457978657717015782x11), kE P (sL [76,111,111,107,117,112,69,114,114,111,114]) 94 (Value.type SZ.s1753610191782819921x11), kE P (sL [77,101,109,111,114,121,69,114,114,111,114]) 95 (Value.type SZ.s14119380538032626715x11), kE P (sL [78,97,109,101,69,114,114,111,114]) 96 (Value.type SZ.s11437920000406562045x9), kE P (sL [79,83,69,114,114,111,114]) 97 (Value.type SZ.s10852414792293593619x7), kE P (sL [82,101,102,101,114,101,110,99,101,69,114,114,111,114]) 98 (Value.type SZ.s14816307405966870543x14), kE P (sL [82,117,110,116,105,109,101,69,114,114,111,114]) 99 (Value.type SZ.s8682627914449686677x12), kE P (sL [83,116,111,112,65,115,121,110,99,73,116,101,114,97,116,105,111,110]) 100 (Value.type SZ.s4428170145600203450x18), kE P (sL [83,116,111,112,73,116,101,114,97,116,105,111,110]) 101 (Value.type SZ.s5991306692159431302x13), kE P (sL [83,121,110,116,97,120,69,114,114,111,114]) 102 (Value.type SZ.s16067994140765818257x11), kE P (sL [83,121,115,116,101,109,69,114,114,111,114]) 103 (Value.type SZ.s2327743974964600596x11), kE P (sL [84,121,112,101,69,114,114,111,114]) 104 (Value.type SZ.s2804747833354056582x9), kE P (sL [86,97,108,117,101,69,114,114,111,114]) 105 (Value.type SZ.s6070975301684473832x10), kE P (sL [87,97,114,110,105,110,103]) 106 (Value.type SZ.s14270485950484850486x7), kE P (sL [70,108,111,97,116,105,110,103,80,111,105,110,116,69,114,114,111,114]) 107 (Value.type SZ.s12041534306414923332x18), kE P (sL [79,118,101,114,102,108,111,119,69,114,114,111,114]) 108 (Value.type SZ.s2531307568338490285x13), kE P (sL [90,101,114,111,68,105,118,105,115,105,111,110,69,114,114,111,114]) 109 (Value.type SZ.s631175304937289666x17), kE P (sL [66,121,116,101,115,87,97,114,110,105,110,103]) 110 (Value.type SZ.s5144983644357021410x12), kE P (sL [68,101,112,114,101,99,97,116,105,111,110,87,97,114,110,105,110,103]) 111 (Value.type SZ.s18039099521571816885x18), kE P (sL [69,110,99,111,100,105,110,103,87,97,114,110,105,110,103]) 112 (Value.type SZ.s6011586214260557989x15), kE P (sL [70,117,116,117,114,101,87,97,114,110,105,110,103]) 113 (Value.type SZ.s5430567037509283100x13), kE P (sL [73,109,112,111,114,116,87,97,114,110,105,110,103]) 114 (Value.type SZ.s8117915138073963741x13), kE P (sL [80,101,110,100,105,110,103,68,101,112,114,101,99,97,116,105,111,110,87,97,114,110,105,110,103]) 115 (Value.type SZ.s3423317712779056401x25), kE P (sL [82,101,115,111,117,114,99,101,87,97,114,110,105,110,103]) 116 (Value.type SZ.s2007317383269046180x15), kE P (sL [82,117,110,116,105,109,101,87,97,114,110,105,110,103]) 117 (Value.type SZ.s17481586968713580700x14), kE P (sL [83,121,110,116,97,120,87,97,114,110,105,110,103]) 118 (Value.type SZ.s2450899226349176912x13), kE P (sL [85,110,105,99,111,100,101,87,97,114,110,105,110,103]) 119 (Value.type SZ.s16626165730633575011x14), kE P (sL [85,115,101,114,87,97,114,110,105,110,103]) 120 (Value.type SZ.s14288496050688921416x11), kE P (sL [66,108,111,99,107,105,110,103,73,79,69,114,114,111,114]) 121 (Value.type SZ.s5735081916595925998x15), kE P (sL [67,104,105,108,100,80,114,111,99,101,115,115,69,114,114,111,114]) 122 (Value.type SZ.s3865607918536308442x17), kE P (sL [67,111,110,110,101,99,116,105,111,110,69,114,114,111,114]) 123 (Value.type SZ.s13337502604062700212x15), kE P (sL [70,105,108,101,69,120,105,115,116,115,69,114,114,111,114]) 124 (Value.type SZ.s13114017843053701147x15), kE P (sL [70,105,108,101,78,111,116,70,111,117,110,100,69,114,114,111,114]) 125 (Value.type SZ.s17467278006356818441x17), kE P (sL [73,110,116,101,114,114,117,112,116,101,100,69,114,114,111,114]) 126 (Value.type SZ.s17722149559621369488x16), kE P (sL [73,115,65,68,105,114,101,99,116,111,114,121,69,114,114,111,114]) 127 (Value.type SZ.s7855274175708717672x17), kE P (sL [78,111,116,65,68,105,114,101,99,116,111,114,121,69,114,114,111,114]) 128 (Value.type SZ.s13351283678309829046x18), kE P (sL [80,101,114,109,105,115,115,105,111,110,69,114,114,111,114]) 129 (Value.type SZ.s6668348653404991179x15), kE P (sL [80,114,111,99,101,115,115,76,111,111,107,117,112,69,114,114,111,114]) 130 (Value.type SZ.s12913350958174193794x18), kE P (sL [84,105,109,101,111,117,116,69,114,114,111,114]) 131 (Value.type SZ.s16115879512475548326x12), kE P (sL [73,110,100,101,110,116,97,116,105,111,110,69,114,114,111,114]) 132 (Value.type SZ.s15920661018069861047x16), kE P (sL [95,73,110,99,111,109,112,108,101,116,101,73,110,112,117,116,69,114,114,111,114]) 133 (Value.type SZ.s10779130036587390575x21), kE P (sL [73,110,100,101,120,69,114,114,111,114]) 134 (Value.type SZ.s7801419657504700863x10), kE P (sL [75,101,121,69,114,114,111,114]) 135 (Value.type SZ.s1688129525768580628x8), kE P (sL [77,111,100,117,108,101,78,111,116,70,111,117,110,100,69,114,114,111,114]) 136 (Value.type SZ.s1031832959479892071x19), kE P (sL [78,111,116,73,109,112,108,101,109,101,110,116,101,100,69,114,114,111,114]) 137 (Value.type SZ.s8991790508128307865x19), kE P (sL [80,121,116,104,111,110,70,105,110,97,108,105,122,97,116,105,111,110,69,114,114,111,114]) 138 (Value.type SZ.s14539662485746970245x23), kE P (sL [82,101,99,117,114,115,105,111,110,69,114,114,111,114]) 139 (Value.type SZ.s11643622729373238714x14), kE P (sL [85,110,98,111,117,110,100,76,111,99,97,108,69,114,114,111,114]) 140 (Value.type SZ.s3386828779285465597x17), kE P (sL [85,110,105,99,111,100,101,69,114,114,111,114]) 141 (Value.type SZ.s13042696260734638735x12), kE P (sL [66,114,111,107,101,110,80,105,112,101,69,114,114,111,114]) 142 (Value.type SZ.s18239426817015966623x15), kE P (sL [67,111,110,110,101,99,116,105,111,110,65,98,111,114,116,101,100,69,114,114,111,114]) 143 (Value.type SZ.s1270395311379034370x22), kE P (sL [67,111,110,110,101,99,116,105,111,110,82,101,102,117,115,101,100,69,114,114,111,114]) 144 (Value.type SZ.s10696252587037064777x22), kE P (sL [67,111,110,110,101,99,116,105,111,110,82,101,115,101,116,69,114,114,111,114]) 145 (Value.type SZ.s7852717498200857586x20), kE P (sL [84,97,98,69,114,114,111,114]) 146 (Value.type SZ.s6377248116197321094x8), kE P (sL [85,110,105,99,111,100,101,68,101,99,111,100,101,69,114,114,111,114]) 147 (Value.type SZ.s3834378056692298002x18), kE P (sL [85,110,105,99,111,100,101,69,110,99,111,100,101,69,114,114,111,114]) 148 (Value.type SZ.s17586630440231065808x18), kE P (sL [85,110,105,99,111,100,101,84,114,97,110,115,108,97,116,101,69,114,114,111,114]) 149 (Value.type SZ.s15234114252648025395x21), kE P (sL [69,120,99,101,112,116,105,111,110,71,114,111,117,112]) 150 (Value.type SZ.s8496462677383758984x14), kE P (sL [69,110,118,105,114,111,110,109,101,110,116,69,114,114,111,114]) 151 (Value.type SZ.s10852414792293593619x7), kE P (sL [73,79,69,114,114,111,114]) 152 (Value.type SZ.s10852414792293593619x7), kE P (sL [111,112,101,110]) 153 (Value.builtin SZ.s16789243406116112673x4), kE P (sL [113,117,105,116]) 154 (Value.builtin SZ.s14400166428656793546x20), kE P (sL [101,120,105,116]) 155 (Value.builtin SZ.s5857708277339239366x20), kE P (sL [99,111,112,121,114,105,103,104,116]) 156 (Value.builtin "builtins.copyright#opaque"), kE P (sL [99,114,101,100,105,116,115]) 157 (Value.builtin "builtins.credits#opaque"), kE P (sL [108,105,99,101,110,115,101]) 158 (Value.builtin "builtins.license#opaque"), kE P (sL [104,101,108,112]) 159 (Value.builtin SZ.s7804999707787243718x20)]) 159) #[])
noncomputable def ob_1 (P : Params) : Obj := (Obj.mk (Value.type SZ.s14018661285674007319x4) none (Data.dict (List.toArray [kE P (sL [98,117,105,108,116,105,110,115]) 162 (Value.ref 4), kE P (sL [95,95,109,97,105,110,95,95]) 163 (Value.ref 5)]) 2) #[])
noncomputable def ob_2 (P : Params) : Obj := (Obj.mk Value.none none (Data.dict #[] 0) #[])
noncomputable def ob_3 (P : Params) : Obj := (Obj.mk (Value.type SZ.s14018661285674007319x4) none (Data.dict (List.toArray [kE P (sL [95,95,110,97,109,101,95,95]) 165 (Value.str (sL [108,97,119,95,114,115,48,49,51,50,95,48,49]) 485), kE P (sL [95,95,100,111,99,95,95]) 166 Value.none, kE P (sL [95,95,112,97,99,107,97,103,101,95,95]) 167 Value.none, kE P (sL [95,95,108,111,97,100,101,114,95,95]) 168 (Value.builtin SZ.s7097527257260152453x26), kE P (sL [95,95,115,112,101,99,95,95]) 169 Value.none, kE P (sL [95,95,97,110,110,111,116,97,116,105,111,110,115,95,95]) 170 (Value.ref 6), kE P (sL [95,95,98,117,105,108,116,105,110,115,95,95]) 171 (Value.ref 4), kE P (sL [95,95,102,105,108,101,95,95]) 173 (Value.str (sL [47,99,108,97,105,109,47,99,117,116,46,112,121]) 172), kE P (sL [95,95,99,97,99,104,101,100,95,95]) 174 Value.none, kE P (sL [95,110,101,116,114,99,108,101,120]) 246 (Value.ref 52), kE P (sL [95,105,116,101,114,95,101,115,99,97,112,101,100,95,99,104,97,114,115]) 258 (Value.ref 63), kE P (sL [95,115,116,114,105,112,95,113,117,111,116,101,100,95,114,101,97,108,110,97,109,101,115]) 270 (Value.ref 70), kE P (sL [95,99,104,101,99,107,95,112,97,114,101,110,116,104,101,115,105,115]) 280 (Value.ref 77), kE P (sL [69,78,68,77,65,82,75,69,82]) 284 (Value.int 0 283), kE P (sL [76,80,65,82]) 286 (Value.int 7 285), kE P (sL [82,80,65,82]) 288 (Value.int 8 287), kE P (sL [76,83,81,66]) 290 (Value.int 9 289), kE P (sL [82,83,81,66]) 292 (Value.int 10 291), kE P (sL [67,79,76,79,78]) 294 (Value.int 11 293), kE P (sL [67,79,77,77,65]) 296 (Value.int 12 295), kE P (sL [83,69,77,73]) 298 (Value.int 13 297), kE P (sL [80,76,85,83]) 300 (Value.int 14 299), kE P (sL [77,73,78,85,83]) 302 (Value.int 15 301), kE P (sL [83,84,65,82]) 304 (Value.int 16 303), kE P (sL [83,76,65,83,72]) 306 (Value.int 17 305), kE P (sL [86,66,65,82]) 308 (Value.int 18 307), kE P (sL [65,77,80,69,82]) 310 (Value.int 19 309), kE P (sL [76,69,83,83]) 312 (Value.int 20 311), kE P (sL [71,82,69,65,84,69,82]) 314 (Value.int 21 313), kE P (sL [69,81,85,65,76]) 316 (Value.int 22 315), kE P (sL [68,79,84]) 318 (Value.int 23 317), kE P (sL [80,69,82,67,69,78,84]) 320 (Value.int 24 319), kE P (sL [76,66,82,65,67,69]) 322 (Value.int 25 321), kE P (sL [82,66,82,65,67,69]) 324 (Value.int 26 323), kE P (sL [69,81,69,81,85,65,76]) 326 (Value.int 27 325), kE P (sL [78,79,84,69,81,85,65,76]) 328 (Value.int 28 327), kE P (sL [76,69,83,83,69,81,85,65,76]) 330 (Value.int 29 329), kE P (sL [71,82,69,65,84,69,82,69,81,85,65,76]) 332 (Value.int 30 331), kE P (sL [84,73,76,68,69]) 334 (Value.int 31 333), kE P (sL [67,73,82,67,85,77,70,76,69,88]) 336 (Value.int 32 335), kE P (sL [76,69,70,84,83,72,73,70,84]) 338 (Value.int 33 337), kE P (sL [82,73,71,72,84,83,72,73,70,84]) 340 (Value.int 34 339), kE P (sL [68,79,85,66,76,69,83,84,65,82]) 342 (Value.int 35 341), kE P (sL [80,76,85,83,69,81,85,65,76]) 344 (Value.int 36 343), kE P (sL [77,73,78,69,81,85,65,76]) 346 (Value.int 37 345), kE P (sL [83,84,65,82,69,81,85,65,76]) 348 (Value.int 38 347), kE P (sL [83,76,65,83,72,69,81,85,65,76]) 350 (Value.int 39 349), kE P (sL [80,69,82,67,69,78,84,69,81,85,65,76]) 352 (Value.int 40 351), kE P (sL [65,77,80,69,82,69,81,85,65,76]) 354 (Value.int 41 353), kE P (sL [86,66,65,82,69,81,85,65,76]) 356 (Value.int 42 355), kE P (sL [67,73,82,67,85,77,70,76,69,88,69,81,85,65,76]) 358 (Value.int 43 357), kE P (sL [76,69,70,84,83,72,73,70,84,69,81,85,65,76]) 360 (Value.int 44 359), kE P (sL [82,73,71,72,84,83,72,73,70,84,69,81,85,65,76]) 362 (Value.int 45 361), kE P (sL [68,79,85,66,76,69,83,84,65,82,69,81,85,65,76]) 364 (Value.int 46 363), kE P (sL [68,79,85,66,76,69,83,76,65,83,72]) 366 (Value.int 47 365), kE P (sL [68,79,85,66,76,69,83,76,65,83,72,69,81,85,65,76]) 368 (Value.int 48 367), kE P (sL [65,84]) 370 (Value.int 49 369), kE P (sL [65,84,69,81,85,65,76]) 372 (Value.int 50 371), kE P (sL [82,65,82,82,79,87]) 374 (Value.int 51 373), kE P (sL [69,76,76,73,80,83,73,83]) 376 (Value.int 52 375), kE P (sL [67,79,76,79,78,69,81,85,65,76]) 378 (Value.int 53 377), kE P (sL [69,88,67,76,65,77,65,84,73,79,78]) 380 (Value.int 54 379), kE P (sL [69,88,65,67,84,95,84,79,75,69,78,95,84,89,80,69,83]) 477 (Value.ref 78), kE P (sL [73,83,69,79,70]) 484 (Value.ref 87), kE P (sL [95,108,97,119,95,114,111,119]) 497 (Value.ref 94), kE P (sL [95,108,97,119,95,100,114,101,115,115,101,100]) 508 (Value.ref 101), kE P (sL [95,108,97,119,95,119,114,105,116,116,101,110]) 518 (Value.ref 108), kE P (sL [95,108,97,119,95,108,101,120,101,114]) 527 (Value.ref 115), kE P (sL [95,108,97,119,95,108,101,100,95,111,118,101,114]) 539 (Value.ref 122), kE P (sL [95,108,97,119,95,108,101,118,101,108,115]) 549 (Value.ref 129), kE P (sL [95,108,97,119,95,100,117,101]) 559 (Value.ref 136), kE P (sL [95,108,97,119,95,116,119,111,115]) 569 (Value.ref 143), kE P (sL [95,108,97,119,95,114,101,97,100]) 582 (Value.ref 150), kE P (sL [108,97,119]) 588 (Value.ref 155)]) 74) #[])
noncomputable def ob_4 (P : Params) : Obj := (Obj.mk (Value.type SZ.s6658869562736209489x6) (some 0) Data.plain #[])
noncomputable def ob_5 (P : Params) : Obj := (Obj.mk (Value.type SZ.s6658869562736209489x6) (some 3) Data.plain #[])
noncomputable def ob_6 (P : Params) : Obj := (Obj.mk (Value.type SZ.s14018661285674007319x4) none (Data.dict #[] 0) #[])
noncomputable def ob_7 (P : Params) : Obj := (Obj.mk (Value.type SZ.s2766695959194262286x5) none (Data.seq #[] 0) #[])
noncomputable def ob_8 (P : Params) : Obj := (Obj.mk Value.none none (Data.fields #[]) #[])
noncomputable def ob_9 (P : Params) : Obj := (Obj.mk (Value.type SZ.s5856160107412720595x4) none (Data.fields (List.toArray [(Value.str (sL [60,109,111,100,117,108,101,62]) 176), (Value.str (sL [60,109,111,100,117,108,101,62]) 177), (Value.str (sL [47,99,108,97,105,109,47,99,117,116,46,112,121]) 178), (Value.int 1 0), (Value.int 0 0), (Value.int 0 0), (Value.int 0 0), (Value.int 0 0), (Value.ref 7), (Value.bool Bool.false), (Value.int 175 0), (Value.ref 8), Value.none, Value.none, Value.none, Value.none, (Value.int 179 0), (Value.int 1 0), (Value.str (sL [47,99,108,97,105,109,47,99,117,116,46,112,121]) 180)])) #[])
noncomputable def ob_10 (P : Params) : Obj := (Obj.mk (Value.type SZ.s658472552662922059x5) none Data.plain (List.toArray [(some (Value.ref 9)), (some (Value.ref 3)), (some (Value.ref 3)), none, (some (Value.str (sL [95,95,109,97,105,110,95,95]) 164)), none, (some (Value.ref 0))]))
noncomputable def ob_11 (P : Params) : Obj := (Obj.mk (Value.type SZ.s2766695959194262286x5) none (Data.seq #[] 0) #[])
noncomputable def ob_12 (P : Params) : Obj := (Obj.mk Value.none none (Data.fields (List.toArray [(Value.int 2 0), (Value.int 0 0), (Value.ref 20), (Value.int 46 0), (Value.int 0 0), (Value.ref 62), (Value.int 59 0), (Value.int 0 0), (Value.ref 69), (Value.int 77 0), (Value.int 0 0), (Value.ref 76), (Value.int 139 0), (Value.int 0 0), (Value.ref 86), (Value.int 142 0), (Value.int 0 0), (Value.ref 93), (Value.int 152 0), (Value.int 0 0), (Value.ref 100), (Value.int 161 0), (Value.int 0 0), (Value.ref 107), (Value.int 169 0), (Value.int 0 0), (Value.ref 114), (Value.int 174 0), (Value.int 0 0), (Value.ref 121), (Value.int 189 0), (Value.int 0 0), (Value.ref 128), (Value.int 199 0), (Value.int 0 0), (Value.ref 135), (Value.int 208 0), (Value.int 0 0), (Value.ref 142), (Value.int 215 0), (Value.int 0 0), (Value.ref 149), (Value.int 231 0), (Value.int 0 0), (Value.ref 154)])) #[])
noncomputable def ob_13 (P : Params) : Obj := (Obj.mk (Value.type SZ.s5856160107412720595x4) none (Data.fields (List.toArray [(Value.str (sL [60,109,111,100,117,108,101,62]) 182), (Value.str (sL [60,109,111,100,117,108,101,62]) 183), (Value.str (sL [47,99,108,97,105,109,47,99,117,116,46,112,121]) 184), (Value.int 1 0), (Value.int 0 0), (Value.int 0 0), (Value.int 0 0), (Value.int 0 0), (Value.ref 11), (Value.bool Bool.false), (Value.int 181 0), (Value.ref 12), Value.none, Value.none, Value.none, Value.none, (Value.int 185 0), (Value.int 1 0), (Value.str (sL [47,99,108,97,105,109,47,99,117,116,46,112,121]) 186)])) #[])
noncomputable def ob_14 (P : Params) : Obj := (Obj.mk (Value.type SZ.s658472552662922059x5) none Data.plain (List.toArray [(some (Value.ref 13)), (some (Value.ref 3)), (some (Value.ref 3)), none, (some (Value.str (sL [95,95,109,97,105,110,95,95]) 164)), none, (some (Value.ref 0))]))
noncomputable def ob_15 (P : Params) : Obj := (Obj.mk (Value.type SZ.s2766695959194262286x5) none (Data.seq #[] 0) #[])
noncomputable def ob_22 (P : Params) : Obj := (Obj.mk (Value.type SZ.s2766695959194262286x5) none (Data.seq #[] 0) #[])
noncomputable def ob_23 (P : Params) : Obj := (Obj.mk Value.none none (Data.fields #[]) #[])
noncomputable def ob_24 (P : Params) : Obj := (Obj.mk (Value.type SZ.s2766695959194262286x5) none (Data.seq (List.toArray [(Value.str (sL [115,101,108,102]) 204), (Value.str (sL [102,112]) 205)]) 0) #[])
noncomputable def ob_25 (P : Params) : Obj := (Obj.mk (Value.type SZ.s2766695959194262286x5) none (Data.seq #[] 0) #[])
noncomputable def ob_26 (P : Params) : Obj := fO Value.none none #[] (stN (clB (stN (mB) 1)) 0) (sL [95,110,101,116,114,99,108,101,120,46,95,95,105,110,105,116,95,95]) 0 [] Value.none Value.none Value.none Value.none none Value.none Value.none 0
noncomputable def ob_27 (P : Params) : Obj := (Obj.mk (Value.type SZ.s5856160107412720595x4) none (Data.fields (List.toArray [(Value.str (sL [95,95,105,110,105,116,95,95]) 201), (Value.str (sL [95,110,101,116,114,99,108,101,120,46,95,95,105,110,105,116,95,95]) 202), (Value.str (sL [47,99,108,97,105,109,47,99,117,116,46,112,121]) 203), (Value.int 4 0), (Value.int 2 0), (Value.int 0 0), (Value.int 0 0), (Value.int 3 0), (Value.ref 22), (Value.bool Bool.true), (Value.int 181 0), (Value.ref 23), Value.none, (Value.ref 24), (Value.ref 25), (Value.ref 26), (Value.int 206 0), (Value.int 4 0), (Value.str (sL [47,99,108,97,105,109,47,99,117,116,46,112,121]) 207)])) #[])
noncomputable def ob_28 (P : Params) : Obj := fO (Value.type SZ.s7174869446012820540x8) none #[] (stN (clB (stN (mB) 1)) 0) (sL [95,110,101,116,114,99,108,101,120,46,95,95,105,110,105,116,95,95]) 3 [] Value.none Value.none Value.none (Value.str (sL [99,112,121,51,49,51,46,110,101,116,114,99]) 187) none (Value.ref 27) Value.none 0
noncomputable def ob_29 (P : Params) : Obj := (Obj.mk (Value.type SZ.s2766695959194262286x5) none (Data.seq #[] 0) #[])
noncomputable def ob_30 (P : Params) : Obj := (Obj.mk Value.none none (Data.fields #[]) #[])
noncomputable def ob_31 (P : Params) : Obj := (Obj.mk (Value.type SZ.s2766695959194262286x5) none (Data.seq (List.toArray [(Value.str (sL [115,101,108,102]) 212), (Value.str (sL [99,104]) 213)]) 0) #[])
noncomputable def ob_32 (P : Params) : Obj := (Obj.mk (Value.type SZ.s2766695959194262286x5) none (Data.seq #[] 0) #[])
noncomputable def ob_33 (P : Params) : Obj := fO Value.none none #[] (stN (clB (stN (mB) 1)) 1) (sL [95,110,101,116,114,99,108,101,120,46,95,114,101,97,100,95,99,104,97,114]) 0 [] Value.none Value.none Value.none Value.none none Value.none Value.none 0
noncomputable def ob_34 (P : Params) : Obj := (Obj.mk (Value.type SZ.s5856160107412720595x4) none (Data.fields (List.toArray [(Value.str (sL [95,114,101,97,100,95,99,104,97,114]) 209), (Value.str (sL [95,110,101,116,114,99,108,101,120,46,95,114,101,97,100,95,99,104,97,114]) 210), (Value.str (sL [47,99,108,97,105,109,47,99,117,116,46,112,121]) 211), (Value.int 10 0), (Value.int 1 0), (Value.int 0 0), (Value.int 0 0), (Value.int 3 0), (Value.ref 29), (Value.bool Bool.true), (Value.int 181 0), (Value.ref 30), Value.none, (Value.ref 31), (Value.ref 32), (Value.ref 33), (Value.int 214 0), (Value.int 10 0), (Value.str (sL [47,99,108,97,105,109,47,99,117,116,46,112,121]) 215)])) #[])
noncomputable def ob_35 (P : Params) : Obj := fO (Value.type SZ.s7174869446012820540x8) none #[] (stN (clB (stN (mB) 1)) 1) (sL [95,110,101,116,114,99,108,101,120,46,95,114,101,97,100,95,99,104,97,114]) 3 [] Value.none Value.none Value.none (Value.str (sL [99,112,121,51,49,51,46,110,101,116,114,99]) 187) none (Value.ref 34) Value.none 0
noncomputable def ob_36 (P : Params) : Obj := (Obj.mk (Value.type SZ.s2766695959194262286x5) none (Data.seq #[] 0) #[])
noncomputable def ob_37 (P : Params) : Obj := (Obj.mk Value.none none (Data.fields #[]) #[])
noncomputable def ob_38 (P : Params) : Obj := (Obj.mk (Value.type SZ.s2766695959194262286x5) none (Data.seq (List.toArray [(Value.str (sL [115,101,108,102]) 220), (Value.str (sL [116,111,107,101,110]) 221), (Value.str (sL [102,105,116,101,114]) 222), (Value.str (sL [99,104]) 223)]) 0) #[])
noncomputable def ob_39 (P : Params) : Obj := (Obj.mk (Value.type SZ.s2766695959194262286x5) none (Data.seq #[] 0) #[])
noncomputable def ob_40 (P : Params) : Obj := fO Value.none none #[] (stN (clB (stN (mB) 1)) 2) (sL [95,110,101,116,114,99,108,101,120,46,103,101,116,95,116,111,107,101,110]) 0 [] Value.none Value.none Value.none Value.none none Value.none Value.none 0
noncomputable def ob_41 (P : Params) : Obj := (Obj.mk (Value.type SZ.s5856160107412720595x4) none (Data.fields (List.toArray [(Value.str (sL [103,101,116,95,116,111,107,101,110]) 217), (Value.str (sL [95,110,101,116,114,99,108,101,120,46,103,101,116,95,116,111,107,101,110]) 218), (Value.str (sL [47,99,108,97,105,109,47,99,117,116,46,112,121]) 219), (Value.int 16 0), (Value.int 1 0), (Value.int 0 0), (Value.int 0 0), (Value.int 3 0), (Value.ref 36), (Value.bool Bool.true), (Value.int 181 0), (Value.ref 37), Value.none, (Value.ref 38), (Value.ref 39), (Value.ref 40), (Value.int 224 0), (Value.int 16 0), (Value.str (sL [47,99,108,97,105,109,47,99,117,116,46,112,121]) 225)])) #[])
noncomputable def ob_42 (P : Params) : Obj := fO (Value.type SZ.s7174869446012820540x8) none #[] (stN (clB (stN (mB) 1)) 2) (sL [95,110,101,116,114,99,108,101,120,46,103,101,116,95,116,111,107,101,110]) 3 [] Value.none Value.none Value.none (Value.str (sL [99,112,121,51,49,51,46,110,101,116,114,99]) 187) none (Value.ref 41) Value.none 0
noncomputable def ob_43 (P : Params) : Obj := (Obj.mk (Value.type SZ.s2766695959194262286x5) none (Data.seq #[] 0) #[])
noncomputable def ob_44 (P : Params) : Obj := (Obj.mk Value.none none (Data.fields #[]) #[])
noncomputable def ob_45 (P : Params) : Obj := (Obj.mk (Value.type SZ.s2766695959194262286x5) none (Data.seq (List.toArray [(Value.str (sL [115,101,108,102]) 230), (Value.str (sL [116,111,107,101,110]) 231)]) 0) #[])
noncomputable def ob_46 (P : Params) : Obj := (Obj.mk (Value.type SZ.s2766695959194262286x5) none (Data.seq #[] 0) #[])
noncomputable def ob_47 (P : Params) : Obj := fO Value.none none #[] (stN (clB (stN (mB) 1)) 3) (sL [95,110,101,116,114,99,108,101,120,46,112,117,115,104,95,116,111,107,101,110]) 0 [] Value.none Value.none Value.none Value.none none Value.none Value.none 0
noncomputable def ob_48 (P : Params) : Obj := (Obj.mk (Value.type SZ.s5856160107412720595x4) none (Data.fields (List.toArray [(Value.str (sL [112,117,115,104,95,116,111,107,101,110]) 227), (Value.str (sL [95,110,101,116,114,99,108,101,120,46,112,117,115,104,95,116,111,107,101,110]) 228), (Value.str (sL [47,99,108,97,105,109,47,99,117,116,46,112,121]) 229), (Value.int 43 0), (Value.int 2 0), (Value.int 0 0), (Value.int 0 0), (Value.int 3 0), (Value.ref 43), (Value.bool Bool.true), (Value.int 181 0), (Value.ref 44), Value.none, (Value.ref 45), (Value.ref 46), (Value.ref 47), (Value.int 232 0), (Value.int 43 0), (Value.str (sL [47,99,108,97,105,109,47,99,117,116,46,112,121]) 233)])) #[])
noncomputable def ob_49 (P : Params) : Obj := fO (Value.type SZ.s7174869446012820540x8) none #[] (stN (clB (stN (mB) 1)) 3) (sL [95,110,101,116,114,99,108,101,120,46,112,117,115,104,95,116,111,107,101,110]) 3 [] Value.none Value.none Value.none (Value.str (sL [99,112,121,51,49,51,46,110,101,116,114,99]) 187) none (Value.ref 48) Value.none 0
noncomputable def ob_50 (P : Params) : Obj := (Obj.mk (Value.type SZ.s2766695959194262286x5) none (Data.seq (List.toArray [(Value.str (sL [105,110,115,116,114,101,97,109]) 235), (Value.str (sL [108,105,110,101,110,111]) 236), (Value.str (sL [112,117,115,104,98,97,99,107]) 237), (Value.str (sL [119,104,105,116,101,115,112,97,99,101]) 238)]) 0) #[])
noncomputable def ob_51 (P : Params) : Obj := (Obj.mk (Value.type SZ.s14018661285674007319x4) none (Data.dict (List.toArray [kE P (sL [95,95,109,111,100,117,108,101,95,95]) 196 (Value.str (sL [99,112,121,51,49,51,46,110,101,116,114,99]) 187), kE P (sL [95,95,102,105,114,115,116,108,105,110,101,110,111,95,95]) 200 (Value.int 2 199), kE P (sL [95,95,105,110,105,116,95,95]) 208 (Value.ref 28), kE P (sL [95,114,101,97,100,95,99,104,97,114]) 216 (Value.ref 35), kE P (sL [103,101,116,95,116,111,107,101,110]) 226 (Value.ref 42), kE P (sL [112,117,115,104,95,116,111,107,101,110]) 234 (Value.ref 49), kE P (sL [95,95,115,116,97,116,105,99,95,97,116,116,114,105,98,117,116,101,115,95,95]) 239 (Value.ref 50), kE P (sL [95,95,100,105,99,116,95,95]) 241 (Value.ref 53), kE P (sL [95,95,119,101,97,107,114,101,102,95,95]) 243 (Value.ref 54), kE P (sL [95,95,100,111,99,95,95]) 244 Value.none]) 4) #[])
noncomputable def ob_52 (P : Params) : Obj := (Obj.mk (Value.type SZ.s17162191345867700912x4) none (Data.cls (ClassData.mk (sL [95,110,101,116,114,99,108,101,120]) [(Value.type SZ.s2742458400755230247x6)] [(Value.ref 52), (Value.type SZ.s2742458400755230247x6)] 51 (sL [95,110,101,116,114,99,108,101,120]) Bool.true [] [] Bool.false none Bool.false)) (List.toArray [none, none, (some (Value.str (sL [95,110,101,116,114,99,108,101,120]) 189)), (some (Value.str (sL [95,110,101,116,114,99,108,101,120]) 197)), (some (Value.builtin SZ.s11443829558043349243x14)), (some (Value.bool Bool.true))]))
noncomputable def ob_53 (P : Params) : Obj := (Obj.mk (Value.type SZ.s14755015743595814543x17) none (Data.fields (List.toArray [(Value.str (sL [95,95,100,105,99,116,95,95]) 240), (Value.ref 52), (Value.builtin SZ.s6511155373996960695x17), (Value.builtin SZ.s12411053484034534018x21)])) #[])
noncomputable def ob_54 (P : Params) : Obj := (Obj.mk (Value.type SZ.s14755015743595814543x17) none (Data.fields (List.toArray [(Value.str (sL [95,95,119,101,97,107,114,101,102,95,95]) 242), (Value.ref 52), (Value.builtin SZ.s10220274742760427390x26), Value.none])) #[])
noncomputable def ob_57 (P : Params) : Obj := (Obj.mk (Value.type SZ.s2766695959194262286x5) none (Data.seq #[] 0) #[])
noncomputable def ob_58 (P : Params) : Obj := (Obj.mk Value.none none (Data.fields #[]) #[])
noncomputable def ob_59 (P : Params) : Obj := (Obj.mk (Value.type SZ.s2766695959194262286x5) none (Data.seq (List.toArray [(Value.str (sL [97,100,100,114]) 252), (Value.str (sL [112,111,115]) 253), (Value.str (sL [101,115,99,97,112,101]) 254), (Value.str (sL [99,104]) 255)]) 0) #[])
noncomputable def ob_60 (P : Params) : Obj := (Obj.mk (Value.type SZ.s2766695959194262286x5) none (Data.seq #[] 0) #[])
noncomputable def ob_61 (P : Params) : Obj := fO Value.none none #[] (stN (mB) 3) (sL [95,105,116,101,114,95,101,115,99,97,112,101,100,95,99,104,97,114,115]) 0 [] Value.none Value.none Value.none Value.none none Value.none Value.none 0
noncomputable def ob_62 (P : Params) : Obj := (Obj.mk (Value.type SZ.s5856160107412720595x4) none (Data.fields (List.toArray [(Value.str (sL [95,105,116,101,114,95,101,115,99,97,112,101,100,95,99,104,97,114,115]) 249), (Value.str (sL [95,105,116,101,114,95,101,115,99,97,112,101,100,95,99,104,97,114,115]) 250), (Value.str (sL [47,99,108,97,105,109,47,99,117,116,46,112,121]) 251), (Value.int 46 0), (Value.int 1 0), (Value.int 0 0), (Value.int 0 0), (Value.int 35 0), (Value.ref 57), (Value.bool Bool.true), (Value.int 181 0), (Value.ref 58), Value.none, (Value.ref 59), (Value.ref 60), (Value.ref 61), (Value.int 256 0), (Value.int 46 0), (Value.str (sL [47,99,108,97,105,109,47,99,117,116,46,112,121]) 257)])) #[])
noncomputable def ob_63 (P : Params) : Obj := fO (Value.type SZ.s7174869446012820540x8) none #[] (stN (mB) 3) (sL [95,105,116,101,114,95,101,115,99,97,112,101,100,95,99,104,97,114,115]) 3 [] Value.none Value.none Value.none (Value.str (sL [99,112,121,51,49,51,46,101,109,97,105,108,46,117,116,105,108,115]) 247) none (Value.ref 62) Value.none 0
noncomputable def ob_64 (P : Params) : Obj := (Obj.mk (Value.type SZ.s2766695959194262286x5) none (Data.seq #[] 0) #[])
noncomputable def ob_65 (P : Params) : Obj := (Obj.mk Value.none none (Data.fields #[]) #[])
noncomputable def ob_66 (P : Params) : Obj := (Obj.mk (Value.type SZ.s2766695959194262286x5) none (Data.seq (List.toArray [(Value.str (sL [97,100,100,114]) 262), (Value.str (sL [115,116,97,114,116]) 263), (Value.str (sL [111,112,101,110,95,112,111,115]) 264), (Value.str (sL [114,101,115,117,108,116]) 265), (Value.str (sL [112,111,115]) 266), (Value.str (sL [99,104]) 267)]) 0) #[])
noncomputable def ob_67 (P : Params) : Obj := (Obj.mk (Value.type SZ.s2766695959194262286x5) none (Data.seq #[] 0) #[])
noncomputable def ob_68 (P : Params) : Obj := fO Value.none none #[] (stN (mB) 4) (sL [95,115,116,114,105,112,95,113,117,111,116,101,100,95,114,101,97,108,110,97,109,101,115]) 0 [] Value.none Value.none Value.none Value.none none Value.none Value.none 0
noncomputable def ob_69 (P : Params) : Obj := (Obj.mk (Value.type SZ.s5856160107412720595x4) none (Data.fields (List.toArray [(Value.str (sL [95,115,116,114,105,112,95,113,117,111,116,101,100,95,114,101,97,108,110,97,109,101,115]) 259), (Value.str (sL [95,115,116,114,105,112,95,113,117,111,116,101,100,95,114,101,97,108,110,97,109,101,115]) 260), (Value.str (sL [47,99,108,97,105,109,47,99,117,116,46,112,121]) 261), (Value.int 59 0), (Value.int 1 0), (Value.int 0 0), (Value.int 0 0), (Value.int 3 0), (Value.ref 64), (Value.bool Bool.true), (Value.int 181 0), (Value.ref 65), Value.none, (Value.ref 66), (Value.ref 67), (Value.ref 68), (Value.int 268 0), (Value.int 59 0), (Value.str (sL [47,99,108,97,105,109,47,99,117,116,46,112,121]) 269)])) #[])
noncomputable def ob_70 (P : Params) : Obj := fO (Value.type SZ.s7174869446012820540x8) none #[] (stN (mB) 4) (sL [95,115,116,114,105,112,95,113,117,111,116,101,100,95,114,101,97,108,110,97,109,101,115]) 3 [] Value.none Value.none Value.none (Value.str (sL [99,112,121,51,49,51,46,101,109,97,105,108,46,117,116,105,108,115]) 247) none (Value.ref 69) Value.none 0
noncomputable def ob_71 (P : Params) : Obj := (Obj.mk (Value.type SZ.s2766695959194262286x5) none (Data.seq #[] 0) #[])
noncomputable def ob_72 (P : Params) : Obj := (Obj.mk Value.none none (Data.fields #[]) #[])
noncomputable def ob_73 (P : Params) : Obj := (Obj.mk (Value.type SZ.s2766695959194262286x5) none (Data.seq (List.toArray [(Value.str (sL [97,100,100,114]) 274), (Value.str (sL [111,112,101,110,115]) 275), (Value.str (sL [112,111,115]) 276), (Value.str (sL [99,104]) 277)]) 0) #[])
noncomputable def ob_74 (P : Params) : Obj := (Obj.mk (Value.type SZ.s2766695959194262286x5) none (Data.seq #[] 0) #[])
noncomputable def ob_75 (P : Params) : Obj := fO Value.none none #[] (stN (mB) 5) (sL [95,99,104,101,99,107,95,112,97,114,101,110,116,104,101,115,105,115]) 0 [] Value.none Value.none Value.none Value.none none Value.none Value.none 0
noncomputable def ob_76 (P : Params) : Obj := (Obj.mk (Value.type SZ.s5856160107412720595x4) none (Data.fields (List.toArray [(Value.str (sL [95,99,104,101,99,107,95,112,97,114,101,110,116,104,101,115,105,115]) 271), (Value.str (sL [95,99,104,101,99,107,95,112,97,114,101,110,116,104,101,115,105,115]) 272), (Value.str (sL [47,99,108,97,105,109,47,99,117,116,46,112,121]) 273), (Value.int 77 0), (Value.int 1 0), (Value.int 0 0), (Value.int 0 0), (Value.int 3 0), (Value.ref 71), (Value.bool Bool.true), (Value.int 181 0), (Value.ref 72), Value.none, (Value.ref 73), (Value.ref 74), (Value.ref 75), (Value.int 278 0), (Value.int 77 0), (Value.str (sL [47,99,108,97,105,109,47,99,117,116,46,112,121]) 279)])) #[])
noncomputable def ob_77 (P : Params) : Obj := fO (Value.type SZ.s7174869446012820540x8) none #[] (stN (mB) 5) (sL [95,99,104,101,99,107,95,112,97,114,101,110,116,104,101,115,105,115]) 3 [] Value.none Value.none Value.none (Value.str (sL [99,112,121,51,49,51,46,101,109,97,105,108,46,117,116,105,108,115]) 247) none (Value.ref 76) Value.none 0
noncomputable def ob_78 (P : Params) : Obj := (Obj.mk (Value.type SZ.s14018661285674007319x4) none (Data.dict (List.toArray [kE P (sL [33]) 381 (Value.int 54 379), kE P (sL [33,61]) 383 (Value.int 28 327), kE P (sL [37]) 385 (Value.int 24 319), kE P (sL [37,61]) 387 (Value.int 40 351), kE P (sL [38]) 389 (Value.int 19 309), kE P (sL [38,61]) 391 (Value.int 41 353), kE P (sL [40]) 393 (Value.int 7 285), kE P (sL [41]) 395 (Value.int 8 287), kE P (sL [42]) 397 (Value.int 16 303), kE P (sL [42,42]) 399 (Value.int 35 341), kE P (sL [42,42,61]) 401 (Value.int 46 363), kE P (sL [42,61]) 403 (Value.int 38 347), kE P (sL [43]) 405 (Value.int 14 299), kE P (sL [43,61]) 407 (Value.int 36 343), kE P (sL [44]) 409 (Value.int 12 295), kE P (sL [45]) 411 (Value.int 15 301), kE P (sL [45,61]) 413 (Value.int 37 345), kE P (sL [45,62]) 415 (Value.int 51 373), kE P (sL [46]) 417 (Value.int 23 317), kE P (sL [46,46,46]) 419 (Value.int 52 375), kE P (sL [47]) 421 (Value.int 17 305), kE P (sL [47,47]) 423 (Value.int 47 365), kE P (sL [47,47,61]) 425 (Value.int 48 367), kE P (sL [47,61]) 427 (Value.int 39 349), kE P (sL [58]) 429 (Value.int 11 293), kE P (sL [58,61]) 431 (Value.int 53 377), kE P (sL [59]) 433 (Value.int 13 297), kE P (sL [60]) 435 (Value.int 20 311), kE P (sL [60,60]) 437 (Value.int 33 337), kE P (sL [60,60,61]) 439 (Value.int 44 359), kE P (sL [60,61]) 441 (Value.int 29 329), kE P (sL [61]) 443 (Value.int 22 315), kE P (sL [61,61]) 445 (Value.int 27 325), kE P (sL [62]) 447 (Value.int 21 313), kE P (sL [62,61]) 449 (Value.int 30 331), kE P (sL [62,62]) 450 (Value.int 34 339), kE P (sL [62,62,61]) 451 (Value.int 45 361), kE P (sL [64]) 452 (Value.int 49 369), kE P (sL [64,61]) 453 (Value.int 50 371), kE P (sL [91]) 454 (Value.int 9 289), kE P (sL [93]) 455 (Value.int 10 291), kE P (sL [94]) 456 (Value.int 32 335), kE P (sL [94,61]) 457 (Value.int 43 357), kE P (sL [123]) 458 (Value.int 25 321), kE P (sL [124]) 459 (Value.int 18 307), kE P (sL [124,61]) 460 (Value.int 42 355), kE P (sL [125]) 461 (Value.int 26 323), kE P (sL [126]) 462 (Value.int 31 333)]) 48) #[])
noncomputable def ob_81 (P : Params) : Obj := (Obj.mk (Value.type SZ.s2766695959194262286x5) none (Data.seq #[] 0) #[])
noncomputable def ob_82 (P : Params) : Obj := (Obj.mk Value.none none (Data.fields #[]) #[])
noncomputable def ob_83 (P : Params) : Obj := (Obj.mk (Value.type SZ.s2766695959194262286x5) none (Data.seq (List.toArray [(Value.str (sL [120]) 481)]) 0) #[])
noncomputable def ob_84 (P : Params) : Obj := (Obj.mk (Value.type SZ.s2766695959194262286x5) none (Data.seq #[] 0) #[])
noncomputable def ob_85 (P : Params) : Obj := fO Value.none none #[] (stN (mB) 57) (sL [73,83,69,79,70]) 0 [] Value.none Value.none Value.none Value.none none Value.none Value.none 0
noncomputable def ob_86 (P : Params) : Obj := (Obj.mk (Value.type SZ.s5856160107412720595x4) none (Data.fields (List.toArray [(Value.str (sL [73,83,69,79,70]) 478), (Value.str (sL [73,83,69,79,70]) 479), (Value.str (sL [47,99,108,97,105,109,47,99,117,116,46,112,121]) 480), (Value.int 139 0), (Value.int 1 0), (Value.int 0 0), (Value.int 0 0), (Value.int 3 0), (Value.ref 81), (Value.bool Bool.true), (Value.int 181 0), (Value.ref 82), Value.none, (Value.ref 83), (Value.ref 84), (Value.ref 85), (Value.int 482 0), (Value.int 139 0), (Value.str (sL [47,99,108,97,105,109,47,99,117,116,46,112,121]) 483)])) #[])
noncomputable def ob_87 (P : Params) : Obj := fO (Value.type SZ.s7174869446012820540x8) none #[] (stN (mB) 57) (sL [73,83,69,79,70]) 3 [] Value.none Value.none Value.none (Value.str (sL [99,112,121,51,49,51,46,116,111,107,101,110]) 281) none (Value.ref 86) Value.none 0
noncomputable def ob_88 (P : Params) : Obj := (Obj.mk (Value.type SZ.s2766695959194262286x5) none (Data.seq #[] 0) #[])
noncomputable def ob_89 (P : Params) : Obj := (Obj.mk Value.none none (Data.fields #[]) #[])
noncomputable def ob_90 (P : Params) : Obj := (Obj.mk (Value.type SZ.s2766695959194262286x5) none (Data.seq (List.toArray [(Value.str (sL [98,105,116,115]) 490), (Value.str (sL [112,97,105,114,115]) 491), (Value.str (sL [114,111,119]) 492), (Value.str (sL [111,112,101,110,101,100]) 493), (Value.str (sL [107]) 494)]) 0) #[])
noncomputable def ob_91 (P : Params) : Obj := (Obj.mk (Value.type SZ.s2766695959194262286x5) none (Data.seq #[] 0) #[])
noncomputable def ob_92 (P : Params) : Obj := fO Value.none none #[] (stN (mB) 59) (sL [95,108,97,119,95,114,111,119]) 0 [] Value.none Value.none Value.none Value.none none Value.none Value.none 0
noncomputable def ob_93 (P : Params) : Obj := (Obj.mk (Value.type SZ.s5856160107412720595x4) none (Data.fields (List.toArray [(Value.str (sL [95,108,97,119,95,114,111,119]) 487), (Value.str (sL [95,108,97,119,95,114,111,119]) 488), (Value.str (sL [47,99,108,97,105,109,47,99,117,116,46,112,121]) 489), (Value.int 142 0), (Value.int 2 0), (Value.int 0 0), (Value.int 0 0), (Value.int 3 0), (Value.ref 88), (Value.bool Bool.true), (Value.int 181 0), (Value.ref 89), Value.none, (Value.ref 90), (Value.ref 91), (Value.ref 92), (Value.int 495 0), (Value.int 142 0), (Value.str (sL [47,99,108,97,105,109,47,99,117,116,46,112,121]) 496)])) #[])
noncomputable def ob_94 (P : Params) : Obj := fO (Value.type SZ.s7174869446012820540x8) none #[] (stN (mB) 59) (sL [95,108,97,119,95,114,111,119]) 3 [] Value.none Value.none Value.none (Value.str (sL [108,97,119,95,114,115,48,49,51,50,95,48,49]) 485) none (Value.ref 93) Value.none 0
noncomputable def ob_95 (P : Params) : Obj := (Obj.mk (Value.type SZ.s2766695959194262286x5) none (Data.seq #[] 0) #[])
noncomputable def ob_96 (P : Params) : Obj := (Obj.mk Value.none none (Data.fields #[]) #[])
noncomputable def ob_97 (P : Params) : Obj := (Obj.mk (Value.type SZ.s2766695959194262286x5) none (Data.seq (List.toArray [(Value.str (sL [114,111,119]) 501), (Value.str (sL [99,111,100,101]) 502), (Value.str (sL [107,105,110,100,115]) 503), (Value.str (sL [116,101,120,116]) 504), (Value.str (sL [107]) 505)]) 0) #[])
noncomputable def ob_98 (P : Params) : Obj := (Obj.mk (Value.type SZ.s2766695959194262286x5) none (Data.seq #[] 0) #[])
noncomputable def ob_99 (P : Params) : Obj := fO Value.none none #[] (stN (mB) 60) (sL [95,108,97,119,95,100,114,101,115,115,101,100]) 0 [] Value.none Value.none Value.none Value.none none Value.none Value.none 0
noncomputable def ob_100 (P : Params) : Obj := (Obj.mk (Value.type SZ.s5856160107412720595x4) none (Data.fields (List.toArray [(Value.str (sL [95,108,97,119,95,100,114,101,115,115,101,100]) 498), (Value.str (sL [95,108,97,119,95,100,114,101,115,115,101,100]) 499), (Value.str (sL [47,99,108,97,105,109,47,99,117,116,46,112,121]) 500), (Value.int 152 0), (Value.int 2 0), (Value.int 0 0), (Value.int 0 0), (Value.int 3 0), (Value.ref 95), (Value.bool Bool.true), (Value.int 181 0), (Value.ref 96), Value.none, (Value.ref 97), (Value.ref 98), (Value.ref 99), (Value.int 506 0), (Value.int 152 0), (Value.str (sL [47,99,108,97,105,109,47,99,117,116,46,112,121]) 507)])) #[])
noncomputable def ob_101 (P : Params) : Obj := fO (Value.type SZ.s7174869446012820540x8) none #[] (stN (mB) 60) (sL [95,108,97,119,95,100,114,101,115,115,101,100]) 3 [] Value.none Value.none Value.none (Value.str (sL [108,97,119,95,114,115,48,49,51,50,95,48,49]) 485) none (Value.ref 100) Value.none 0
noncomputable def ob_102 (P : Params) : Obj := (Obj.mk (Value.type SZ.s2766695959194262286x5) none (Data.seq #[] 0) #[])
noncomputable def ob_103 (P : Params) : Obj := (Obj.mk Value.none none (Data.fields #[]) #[])
noncomputable def ob_104 (P : Params) : Obj := (Obj.mk (Value.type SZ.s2766695959194262286x5) none (Data.seq (List.toArray [(Value.str (sL [116,101,120,116]) 512), (Value.str (sL [99,111,100,101]) 513), (Value.str (sL [115,112,101,108,108,101,100]) 514), (Value.str (sL [97,104,101,97,100]) 515)]) 0) #[])
noncomputable def ob_105 (P : Params) : Obj := (Obj.mk (Value.type SZ.s2766695959194262286x5) none (Data.seq #[] 0) #[])
noncomputable def ob_106 (P : Params) : Obj := fO Value.none none #[] (stN (mB) 61) (sL [95,108,97,119,95,119,114,105,116,116,101,110]) 0 [] Value.none Value.none Value.none Value.none none Value.none Value.none 0
noncomputable def ob_107 (P : Params) : Obj := (Obj.mk (Value.type SZ.s5856160107412720595x4) none (Data.fields (List.toArray [(Value.str (sL [95,108,97,119,95,119,114,105,116,116,101,110]) 509), (Value.str (sL [95,108,97,119,95,119,114,105,116,116,101,110]) 510), (Value.str (sL [47,99,108,97,105,109,47,99,117,116,46,112,121]) 511), (Value.int 161 0), (Value.int 2 0), (Value.int 0 0), (Value.int 0 0), (Value.int 3 0), (Value.ref 102), (Value.bool Bool.true), (Value.int 181 0), (Value.ref 103), Value.none, (Value.ref 104), (Value.ref 105), (Value.ref 106), (Value.int 516 0), (Value.int 161 0), (Value.str (sL [47,99,108,97,105,109,47,99,117,116,46,112,121]) 517)])) #[])
noncomputable def ob_108 (P : Params) : Obj := fO (Value.type SZ.s7174869446012820540x8) none #[] (stN (mB) 61) (sL [95,108,97,119,95,119,114,105,116,116,101,110]) 3 [] Value.none Value.none Value.none (Value.str (sL [108,97,119,95,114,115,48,49,51,50,95,48,49]) 485) none (Value.ref 107) Value.none 0
noncomputable def ob_109 (P : Params) : Obj := (Obj.mk (Value.type SZ.s2766695959194262286x5) none (Data.seq #[] 0) #[])
noncomputable def ob_110 (P : Params) : Obj := (Obj.mk Value.none none (Data.fields #[]) #[])
noncomputable def ob_111 (P : Params) : Obj := (Obj.mk (Value.type SZ.s2766695959194262286x5) none (Data.seq (List.toArray [(Value.str (sL [116,101,120,116]) 522), (Value.str (sL [115,116,114,101,97,109]) 523)]) 0) #[])
noncomputable def ob_112 (P : Params) : Obj := (Obj.mk (Value.type SZ.s2766695959194262286x5) none (Data.seq (List.toArray [(Value.str (sL [115,105,103,110,115]) 524)]) 0) #[])
noncomputable def ob_113 (P : Params) : Obj := fO Value.none none #[] (stN (mB) 62) (sL [95,108,97,119,95,108,101,120,101,114]) 0 [] Value.none Value.none Value.none Value.none none Value.none Value.none 0
noncomputable def ob_114 (P : Params) : Obj := (Obj.mk (Value.type SZ.s5856160107412720595x4) none (Data.fields (List.toArray [(Value.str (sL [95,108,97,119,95,108,101,120,101,114]) 519), (Value.str (sL [95,108,97,119,95,108,101,120,101,114]) 520), (Value.str (sL [47,99,108,97,105,109,47,99,117,116,46,112,121]) 521), (Value.int 169 0), (Value.int 1 0), (Value.int 0 0), (Value.int 0 0), (Value.int 3 0), (Value.ref 109), (Value.bool Bool.true), (Value.int 181 0), (Value.ref 110), Value.none, (Value.ref 111), (Value.ref 112), (Value.ref 113), (Value.int 525 0), (Value.int 169 0), (Value.str (sL [47,99,108,97,105,109,47,99,117,116,46,112,121]) 526)])) #[])
noncomputable def ob_115 (P : Params) : Obj := fO (Value.type SZ.s7174869446012820540x8) none #[] (stN (mB) 62) (sL [95,108,97,119,95,108,101,120,101,114]) 3 [] Value.none Value.none Value.none (Value.str (sL [108,97,119,95,114,115,48,49,51,50,95,48,49]) 485) none (Value.ref 114) Value.none 0
noncomputable def ob_116 (P : Params) : Obj := (Obj.mk (Value.type SZ.s2766695959194262286x5) none (Data.seq #[] 0) #[])
noncomputable def ob_117 (P : Params) : Obj := (Obj.mk Value.none none (Data.fields #[]) #[])
noncomputable def ob_118 (P : Params) : Obj := (Obj.mk (Value.type SZ.s2766695959194262286x5) none (Data.seq (List.toArray [(Value.str (sL [110,101,115,116]) 531), (Value.str (sL [108,101,120,101,114]) 532), (Value.str (sL [114,111,119]) 533), (Value.str (sL [119,111,114,100]) 534), (Value.str (sL [105,110,110,101,114]) 535), (Value.str (sL [115,105,122,101]) 536)]) 0) #[])
noncomputable def ob_119 (P : Params) : Obj := (Obj.mk (Value.type SZ.s2766695959194262286x5) none (Data.seq #[] 0) #[])
noncomputable def ob_120 (P : Params) : Obj := fO Value.none none #[] (stN (mB) 63) (sL [95,108,97,119,95,108,101,100,95,111,118,101,114]) 0 [] Value.none Value.none Value.none Value.none none Value.none Value.none 0
noncomputable def ob_121 (P : Params) : Obj := (Obj.mk (Value.type SZ.s5856160107412720595x4) none (Data.fields (List.toArray [(Value.str (sL [95,108,97,119,95,108,101,100,95,111,118,101,114]) 528), (Value.str (sL [95,108,97,119,95,108,101,100,95,111,118,101,114]) 529), (Value.str (sL [47,99,108,97,105,109,47,99,117,116,46,112,121]) 530), (Value.int 174 0), (Value.int 2 0), (Value.int 0 0), (Value.int 0 0), (Value.int 3 0), (Value.ref 116), (Value.bool Bool.true), (Value.int 181 0), (Value.ref 117), Value.none, (Value.ref 118), (Value.ref 119), (Value.ref 120), (Value.int 537 0), (Value.int 174 0), (Value.str (sL [47,99,108,97,105,109,47,99,117,116,46,112,121]) 538)])) #[])
noncomputable def ob_122 (P : Params) : Obj := fO (Value.type SZ.s7174869446012820540x8) none #[] (stN (mB) 63) (sL [95,108,97,119,95,108,101,100,95,111,118,101,114]) 3 [] Value.none Value.none Value.none (Value.str (sL [108,97,119,95,114,115,48,49,51,50,95,48,49]) 485) none (Value.ref 121) Value.none 0
noncomputable def ob_123 (P : Params) : Obj := (Obj.mk (Value.type SZ.s2766695959194262286x5) none (Data.seq #[] 0) #[])
noncomputable def ob_124 (P : Params) : Obj := (Obj.mk Value.none none (Data.fields #[]) #[])
noncomputable def ob_125 (P : Params) : Obj := (Obj.mk (Value.type SZ.s2766695959194262286x5) none (Data.seq (List.toArray [(Value.str (sL [114,111,119]) 543), (Value.str (sL [108,101,118,101,108,115]) 544), (Value.str (sL [108,101,118,101,108]) 545), (Value.str (sL [115,105,103,110]) 546)]) 0) #[])
noncomputable def ob_126 (P : Params) : Obj := (Obj.mk (Value.type SZ.s2766695959194262286x5) none (Data.seq #[] 0) #[])
noncomputable def ob_127 (P : Params) : Obj := fO Value.none none #[] (stN (mB) 64) (sL [95,108,97,119,95,108,101,118,101,108,115]) 0 [] Value.none Value.none Value.none Value.none none Value.none Value.none 0
noncomputable def ob_128 (P : Params) : Obj := (Obj.mk (Value.type SZ.s5856160107412720595x4) none (Data.fields (List.toArray [(Value.str (sL [95,108,97,119,95,108,101,118,101,108,115]) 540), (Value.str (sL [95,108,97,119,95,108,101,118,101,108,115]) 541), (Value.str (sL [47,99,108,97,105,109,47,99,117,116,46,112,121]) 542), (Value.int 189 0), (Value.int 1 0), (Value.int 0 0), (Value.int 0 0), (Value.int 3 0), (Value.ref 123), (Value.bool Bool.true), (Value.int 181 0), (Value.ref 124), Value.none, (Value.ref 125), (Value.ref 126), (Value.ref 127), (Value.int 547 0), (Value.int 189 0), (Value.str (sL [47,99,108,97,105,109,47,99,117,116,46,112,121]) 548)])) #[])
noncomputable def ob_129 (P : Params) : Obj := fO (Value.type SZ.s7174869446012820540x8) none #[] (stN (mB) 64) (sL [95,108,97,119,95,108,101,118,101,108,115]) 3 [] Value.none Value.none Value.none (Value.str (sL [108,97,119,95,114,115,48,49,51,50,95,48,49]) 485) none (Value.ref 128) Value.none 0
noncomputable def ob_130 (P : Params) : Obj := (Obj.mk (Value.type SZ.s2766695959194262286x5) none (Data.seq #[] 0) #[])
noncomputable def ob_131 (P : Params) : Obj := (Obj.mk Value.none none (Data.fields #[]) #[])
noncomputable def ob_132 (P : Params) : Obj := (Obj.mk (Value.type SZ.s2766695959194262286x5) none (Data.seq (List.toArray [(Value.str (sL [108,101,118,101,108,115]) 553), (Value.str (sL [100,117,101]) 554), (Value.str (sL [115,116,101,112]) 555), (Value.str (sL [108,101,118,101,108]) 556)]) 0) #[])
noncomputable def ob_133 (P : Params) : Obj := (Obj.mk (Value.type SZ.s2766695959194262286x5) none (Data.seq #[] 0) #[])
noncomputable def ob_134 (P : Params) : Obj := fO Value.none none #[] (stN (mB) 65) (sL [95,108,97,119,95,100,117,101]) 0 [] Value.none Value.none Value.none Value.none none Value.none Value.none 0
noncomputable def ob_135 (P : Params) : Obj := (Obj.mk (Value.type SZ.s5856160107412720595x4) none (Data.fields (List.toArray [(Value.str (sL [95,108,97,119,95,100,117,101]) 550), (Value.str (sL [95,108,97,119,95,100,117,101]) 551), (Value.str (sL [47,99,108,97,105,109,47,99,117,116,46,112,121]) 552), (Value.int 199 0), (Value.int 1 0), (Value.int 0 0), (Value.int 0 0), (Value.int 3 0), (Value.ref 130), (Value.bool Bool.true), (Value.int 181 0), (Value.ref 131), Value.none, (Value.ref 132), (Value.ref 133), (Value.ref 134), (Value.int 557 0), (Value.int 199 0), (Value.str (sL [47,99,108,97,105,109,47,99,117,116,46,112,121]) 558)])) #[])
noncomputable def ob_136 (P : Params) : Obj := fO (Value.type SZ.s7174869446012820540x8) none #[] (stN (mB) 65) (sL [95,108,97,119,95,100,117,101]) 3 [] Value.none Value.none Value.none (Value.str (sL [108,97,119,95,114,115,48,49,51,50,95,48,49]) 485) none (Value.ref 135) Value.none 0
noncomputable def ob_137 (P : Params) : Obj := (Obj.mk (Value.type SZ.s2766695959194262286x5) none (Data.seq #[] 0) #[])
noncomputable def ob_138 (P : Params) : Obj := (Obj.mk Value.none none (Data.fields #[]) #[])
noncomputable def ob_139 (P : Params) : Obj := (Obj.mk (Value.type SZ.s2766695959194262286x5) none (Data.seq (List.toArray [(Value.str (sL [108,101,118,101,108,115]) 563), (Value.str (sL [116,119,111,115]) 564), (Value.str (sL [107]) 565), (Value.str (sL [111,116,104,101,114]) 566)]) 0) #[])
noncomputable def ob_140 (P : Params) : Obj := (Obj.mk (Value.type SZ.s2766695959194262286x5) none (Data.seq #[] 0) #[])
noncomputable def ob_141 (P : Params) : Obj := fO Value.none none #[] (stN (mB) 66) (sL [95,108,97,119,95,116,119,111,115]) 0 [] Value.none Value.none Value.none Value.none none Value.none Value.none 0
noncomputable def ob_142 (P : Params) : Obj := (Obj.mk (Value.type SZ.s5856160107412720595x4) none (Data.fields (List.toArray [(Value.str (sL [95,108,97,119,95,116,119,111,115]) 560), (Value.str (sL [95,108,97,119,95,116,119,111,115]) 561), (Value.str (sL [47,99,108,97,105,109,47,99,117,116,46,112,121]) 562), (Value.int 208 0), (Value.int 1 0), (Value.int 0 0), (Value.int 0 0), (Value.int 3 0), (Value.ref 137), (Value.bool Bool.true), (Value.int 181 0), (Value.ref 138), Value.none, (Value.ref 139), (Value.ref 140), (Value.ref 141), (Value.int 567 0), (Value.int 208 0), (Value.str (sL [47,99,108,97,105,109,47,99,117,116,46,112,121]) 568)])) #[])
noncomputable def ob_143 (P : Params) : Obj := fO (Value.type SZ.s7174869446012820540x8) none #[] (stN (mB) 66) (sL [95,108,97,119,95,116,119,111,115]) 3 [] Value.none Value.none Value.none (Value.str (sL [108,97,119,95,114,115,48,49,51,50,95,48,49]) 485) none (Value.ref 142) Value.none 0
noncomputable def ob_144 (P : Params) : Obj := (Obj.mk (Value.type SZ.s2766695959194262286x5) none (Data.seq #[] 0) #[])
noncomputable def ob_145 (P : Params) : Obj := (Obj.mk Value.none none (Data.fields #[]) #[])
noncomputable def ob_146 (P : Params) : Obj := (Obj.mk (Value.type SZ.s2766695959194262286x5) none (Data.seq (List.toArray [(Value.str (sL [114,111,119]) 573), (Value.str (sL [97,114,101,97]) 574), (Value.str (sL [111,112,101,110,101,100]) 575), (Value.str (sL [97,104,101,97,100]) 576), (Value.str (sL [115,105,103,110]) 577), (Value.str (sL [98,111,117,110,99,101]) 578), (Value.str (sL [115,116,111,112]) 579)]) 0) #[])
noncomputable def ob_147 (P : Params) : Obj := (Obj.mk (Value.type SZ.s2766695959194262286x5) none (Data.seq #[] 0) #[])
noncomputable def ob_148 (P : Params) : Obj := fO Value.none none #[] (stN (mB) 67) (sL [95,108,97,119,95,114,101,97,100]) 0 [] Value.none Value.none Value.none Value.none none Value.none Value.none 0
noncomputable def ob_149 (P : Params) : Obj := (Obj.mk (Value.type SZ.s5856160107412720595x4) none (Data.fields (List.toArray [(Value.str (sL [95,108,97,119,95,114,101,97,100]) 570), (Value.str (sL [95,108,97,119,95,114,101,97,100]) 571), (Value.str (sL [47,99,108,97,105,109,47,99,117,116,46,112,121]) 572), (Value.int 215 0), (Value.int 1 0), (Value.int 0 0), (Value.int 0 0), (Value.int 3 0), (Value.ref 144), (Value.bool Bool.true), (Value.int 181 0), (Value.ref 145), Value.none, (Value.ref 146), (Value.ref 147), (Value.ref 148), (Value.int 580 0), (Value.int 215 0), (Value.str (sL [47,99,108,97,105,109,47,99,117,116,46,112,121]) 581)])) #[])
noncomputable def ob_150 (P : Params) : Obj := fO (Value.type SZ.s7174869446012820540x8) none #[] (stN (mB) 67) (sL [95,108,97,119,95,114,101,97,100]) 3 [] Value.none Value.none Value.none (Value.str (sL [108,97,119,95,114,115,48,49,51,50,95,48,49]) 485) none (Value.ref 149) Value.none 0
noncomputable def ob_151 (P : Params) : Obj := (Obj.mk (Value.type SZ.s2766695959194262286x5) none (Data.seq #[] 0) #[])
noncomputable def ob_152 (P : Params) : Obj := (Obj.mk Value.none none (Data.fields #[]) #[])
noncomputable def ob_153 (P : Params) : Obj := fO Value.none none #[] (stN (mB) 68) (sL [108,97,119]) 0 [] Value.none Value.none Value.none Value.none none Value.none Value.none 0
noncomputable def ob_154 (P : Params) : Obj := (Obj.mk (Value.type SZ.s5856160107412720595x4) none (Data.fields (List.toArray [(Value.str (sL [108,97,119]) 583), (Value.str (sL [108,97,119]) 584), (Value.str (sL [47,99,108,97,105,109,47,99,117,116,46,112,121]) 585), (Value.int 231 0), (Value.int 1 0), (Value.int 0 0), (Value.int 0 0), (Value.int 3 0), (Value.ref 151), (Value.bool Bool.true), (Value.int 181 0), (Value.ref 152), Value.none, Value.none, Value.none, (Value.ref 153), (Value.int 586 0), (Value.int 231 0), (Value.str (sL [47,99,108,97,105,109,47,99,117,116,46,112,121]) 587)])) #[])
noncomputable def ob_155 (P : Params) : Obj := fO (Value.type SZ.s7174869446012820540x8) none #[] (stN (mB) 68) (sL [108,97,119]) 3 [] Value.none Value.none Value.none (Value.str (sL [108,97,119,95,114,115,48,49,51,50,95,48,49]) 485) none (Value.ref 154) Value.none 0
noncomputable def ob_16 (P : Params) : Obj := (Obj.mk (Value.type "builtin_function_or_method") none (Data.fields (List.toArray [(Value.builtin "type.__prepare__"), (Value.type "type")])) #[])
noncomputable def ob_17 (P : Params) : Obj := (Obj.mk (Value.type "dict") none (Data.dict (List.toArray [kE P (sL [95,95,109,111,100,117,108,101,95,95]) 196 (Value.str (sL [99,112,121,51,49,51,46,110,101,116,114,99]) 187), kE P (sL [95,95,113,117,97,108,110,97,109,101,95,95]) 198 (Value.str (sL [95,110,101,116,114,99,108,101,120]) 197), kE P (sL [95,95,102,105,114,115,116,108,105,110,101,110,111,95,95]) 200 (Value.int 2 199), kE P (sL [95,95,105,110,105,116,95,95]) 208 (Value.ref 28), kE P (sL [95,114,101,97,100,95,99,104,97,114]) 216 (Value.ref 35), kE P (sL [103,101,116,95,116,111,107,101,110]) 226 (Value.ref 42), kE P (sL [112,117,115,104,95,116,111,107,101,110]) 234 (Value.ref 49), kE P (sL [95,95,115,116,97,116,105,99,95,97,116,116,114,105,98,117,116,101,115,95,95]) 239 (Value.ref 50)]) 8) #[])
noncomputable def ob_18 (P : Params) : Obj := (Obj.mk (Value.type "tuple") none (Data.seq #[] 0) #[])
noncomputable def ob_19 (P : Params) : Obj := (Obj.mk Value.none none (Data.fields (List.toArray [(Value.int 4 0), (Value.int 4 0), (Value.ref 27), (Value.int 10 0), (Value.int 4 0), (Value.ref 34), (Value.int 16 0), (Value.int 4 0), (Value.ref 41), (Value.int 43 0), (Value.int 4 0), (Value.ref 48)])) #[])
noncomputable def ob_20 (P : Params) : Obj := (Obj.mk (Value.type "code") none (Data.fields (List.toArray [(Value.str (sL [95,110,101,116,114,99,108,101,120]) 191), (Value.str (sL [95,110,101,116,114,99,108,101,120]) 192), (Value.str (sL [47,99,108,97,105,109,47,99,117,116,46,112,121]) 193), (Value.int 2 0), (Value.int 0 0), (Value.int 0 0), (Value.int 0 0), (Value.int 0 0), (Value.ref 18), (Value.bool false), (Value.int 181 0), (Value.ref 19), Value.none, Value.none, Value.none, Value.none, (Value.int 194 0), (Value.int 2 0), (Value.str (sL [47,99,108,97,105,109,47,99,117,116,46,112,121]) 195)])) #[])
noncomputable def ob_21 (P : Params) : Obj := (Obj.mk (Value.type "frame") none Data.plain (List.toArray [(some (Value.ref 20)), (some (Value.ref 3)), (some (Value.ref 17)), none, (some (Value.str (sL [99,112,121,51,49,51,46,110,101,116,114,99]) 187)), none, (some (Value.ref 0))]))
noncomputable def ob_55 (P : Params) : Obj := (Obj.mk (Value.type "super") none (Data.fields (List.toArray [(Value.ref 52), (Value.ref 52), (Value.ref 52)])) #[])
noncomputable def ob_56 (P : Params) : Obj := (Obj.mk (Value.type "builtin_function_or_method") none (Data.fields (List.toArray [(Value.builtin "object.__init_subclass__"), (Value.ref 52)])) #[])
noncomputable def ob_79 (P : Params) : Obj := (Obj.mk (Value.type "dict") none (Data.dict (List.toArray [kE P (sL [45,62]) 415 (Value.int 51 373), kE P (sL [46]) 417 (Value.int 23 317), kE P (sL [46,46,46]) 419 (Value.int 52 375), kE P (sL [47]) 421 (Value.int 17 305), kE P (sL [47,47]) 423 (Value.int 47 365), kE P (sL [47,47,61]) 425 (Value.int 48 367), kE P (sL [47,61]) 427 (Value.int 39 349), kE P (sL [58]) 429 (Value.int 11 293), kE P (sL [58,61]) 431 (Value.int 53 377), kE P (sL [59]) 433 (Value.int 13 297), kE P (sL [60]) 435 (Value.int 20 311), kE P (sL [60,60]) 437 (Value.int 33 337), kE P (sL [60,60,61]) 439 (Value.int 44 359), kE P (sL [60,61]) 441 (Value.int 29 329), kE P (sL [61]) 443 (Value.int 22 315), kE P (sL [61,61]) 445 (Value.int 27 325), kE P (sL [62]) 447 (Value.int 21 313)]) 17) #[])
noncomputable def ob_80 (P : Params) : Obj := (Obj.mk (Value.type "dict") none (Data.dict (List.toArray [kE P (sL [62,61]) 449 (Value.int 30 331), kE P (sL [62,62]) 450 (Value.int 34 339), kE P (sL [62,62,61]) 451 (Value.int 45 361), kE P (sL [64]) 452 (Value.int 49 369), kE P (sL [64,61]) 453 (Value.int 50 371), kE P (sL [91]) 454 (Value.int 9 289), kE P (sL [93]) 455 (Value.int 10 291), kE P (sL [94]) 456 (Value.int 32 335), kE P (sL [94,61]) 457 (Value.int 43 357), kE P (sL [123]) 458 (Value.int 25 321), kE P (sL [124]) 459 (Value.int 18 307), kE P (sL [124,61]) 460 (Value.int 42 355), kE P (sL [125]) 461 (Value.int 26 323), kE P (sL [126]) 462 (Value.int 31 333)]) 14) #[])
/-- the whole heap behind the top -/
noncomputable def hzT (P : Params) : BT := (.node (ob_0 P) (.node (ob_1 P) (.node (ob_3 P) (.node (ob_7 P) (.node (ob_15 P) (.node (ob_31 P) (.node (ob_63 P) (.node (ob_127 P) .nil .nil) .nil) (.node (ob_95 P) .nil .nil)) (.node (ob_47 P) (.node (ob_79 P) (.node (ob_143 P) .nil .nil) .nil) (.node (ob_111 P) .nil .nil))) (.node (ob_23 P) (.node (ob_39 P) (.node (ob_71 P) (.node (ob_135 P) .nil .nil) .nil) (.node (ob_103 P) .nil .nil)) (.node (ob_55 P) (.node (ob_87 P) (.node (ob_151 P) .nil .nil) .nil) (.node (ob_119 P) .nil .nil)))) (.node (ob_11 P) (.node (ob_19 P) (.node (ob_35 P) (.node (ob_67 P) (.node (ob_131 P) .nil .nil) .nil) (.node (ob_99 P) .nil .nil)) (.node (ob_51 P) (.node (ob_83 P) (.node (ob_147 P) .nil .nil) .nil) (.node (ob_115 P) .nil .nil))) (.node (ob_27 P) (.node (ob_43 P) (.node (ob_75 P) (.node (ob_139 P) .nil .nil) .nil) (.node (ob_107 P) .nil .nil)) (.node (ob_59 P) (.node (ob_91 P) (.node (ob_155 P) .nil .nil) .nil) (.node (ob_123 P) .nil .nil))))) (.node (ob_5 P) (.node (ob_9 P) (.node (ob_17 P) (.node (ob_33 P) (.node (ob_65 P) (.node (ob_129 P) .nil .nil) .nil) (.node (ob_97 P) .nil .nil)) (.node (ob_49 P) (.node (ob_81 P) (.node (ob_145 P) .nil .nil) .nil) (.node (ob_113 P) .nil .nil))) (.node (ob_25 P) (.node (ob_41 P) (.node (ob_73 P) (.node (ob_137 P) .nil .nil) .nil) (.node (ob_105 P) .nil .nil)) (.node (ob_57 P) (.node (ob_89 P) (.node (ob_153 P) .nil .nil) .nil) (.node (ob_121 P) .nil .nil)))) (.node (ob_13 P) (.node (ob_21 P) (.node (ob_37 P) (.node (ob_69 P) (.node (ob_133 P) .nil .nil) .nil) (.node (ob_101 P) .nil .nil)) (.node (ob_53 P) (.node (ob_85 P) (.node (ob_149 P) .nil .nil) .nil) (.node (ob_117 P) .nil .nil))) (.node (ob_29 P) (.node (ob_45 P) (.node (ob_77 P) (.node (ob_141 P) .nil .nil) .nil) (.node (ob_109 P) .nil .nil)) (.node (ob_61 P) (.node (ob_93 P) .nil .nil) (.node (ob_125 P) .nil .nil)))))) (.node (ob_2 P) (.node (ob_4 P) (.node (ob_8 P) (.node (ob_16 P) (.node (ob_32 P) (.node (ob_64 P) (.node (ob_128 P) .nil .nil) .nil) (.node (ob_96 P) .nil .nil)) (.node (ob_48 P) (.node (ob_80 P) (.node (ob_144 P) .nil .nil) .nil) (.node (ob_112 P) .nil .nil))) (.node (ob_24 P) (.node (ob_40 P) (.node (ob_72 P) (.node (ob_136 P) .nil .nil) .nil) (.node (ob_104 P) .nil .nil)) (.node (ob_56 P) (.node (ob_88 P) (.node (ob_152 P) .nil .nil) .nil) (.node (ob_120 P) .nil .nil)))) (.node (ob_12 P) (.node (ob_20 P) (.node (ob_36 P) (.node (ob_68 P) (.node (ob_132 P) .nil .nil) .nil) (.node (ob_100 P) .nil .nil)) (.node (ob_52 P) (.node (ob_84 P) (.node (ob_148 P) .nil .nil) .nil) (.node (ob_116 P) .nil .nil))) (.node (ob_28 P) (.node (ob_44 P) (.node (ob_76 P) (.node (ob_140 P) .nil .nil) .nil) (.node (ob_108 P) .nil .nil)) (.node (ob_60 P) (.node (ob_92 P) .nil .nil) (.node (ob_124 P) .nil .nil))))) (.node (ob_6 P) (.node (ob_10 P) (.node (ob_18 P) (.node (ob_34 P) (.node (ob_66 P) (.node (ob_130 P) .nil .nil) .nil) (.node (ob_98 P) .nil .nil)) (.node (ob_50 P) (.node (ob_82 P) (.node (ob_146 P) .nil .nil) .nil) (.node (ob_114 P) .nil .nil))) (.node (ob_26 P) (.node (ob_42 P) (.node (ob_74 P) (.node (ob_138 P) .nil .nil) .nil) (.node (ob_106 P) .nil .nil)) (.node (ob_58 P) (.node (ob_90 P) (.node (ob_154 P) .nil .nil) .nil) (.node (ob_122 P) .nil .nil)))) (.node (ob_14 P) (.node (ob_22 P) (.node (ob_38 P) (.node (ob_70 P) (.node (ob_134 P) .nil .nil) .nil) (.node (ob_102 P) .nil .nil)) (.node (ob_54 P) (.node (ob_86 P) (.node (ob_150 P) .nil .nil) .nil) (.node (ob_118 P) .nil .nil))) (.node (ob_30 P) (.node (ob_46 P) (.node (ob_78 P) (.node (ob_142 P) .nil .nil) .nil) (.node (ob_110 P) .nil .nil)) (.node (ob_62 P) (.node (ob_94 P) .nil .nil) (.node (ob_126 P) .nil .nil)))))))
noncomputable def hzO (P : Params) : List Obj := [ob_0 P, ob_1 P, ob_2 P, ob_3 P, ob_4 P, ob_5 P, ob_6 P, ob_7 P, ob_8 P, ob_9 P, ob_10 P, ob_11 P, ob_12 P, ob_13 P, ob_14 P, ob_15 P, ob_16 P, ob_17 P, ob_18 P, ob_19 P, ob_20 P, ob_21 P, ob_22 P, ob_23 P, ob_24 P, ob_25 P, ob_26 P, ob_27 P, ob_28 P, ob_29 P, ob_30 P, ob_31 P, ob_32 P, ob_33 P, ob_34 P, ob_35 P, ob_36 P, ob_37 P, ob_38 P, ob_39 P, ob_40 P, ob_41 P, ob_42 P, ob_43 P, ob_44 P, ob_45 P, ob_46 P, ob_47 P, ob_48 P, ob_49 P, ob_50 P, ob_51 P, ob_52 P, ob_53 P, ob_54 P, ob_55 P, ob_56 P, ob_57 P, ob_58 P, ob_59 P, ob_60 P, ob_61 P, ob_62 P, ob_63 P, ob_64 P, ob_65 P, ob_66 P, ob_67 P, ob_68 P, ob_69 P, ob_70 P, ob_71 P, ob_72 P, ob_73 P, ob_74 P, ob_75 P, ob_76 P, ob_77 P, ob_78 P, ob_79 P, ob_80 P, ob_81 P, ob_82 P, ob_83 P, ob_84 P, ob_85 P, ob_86 P, ob_87 P, ob_88 P, ob_89 P, ob_90 P, ob_91 P, ob_92 P, ob_93 P, ob_94 P, ob_95 P, ob_96 P, ob_97 P, ob_98 P, ob_99 P, ob_100 P, ob_101 P, ob_102 P, ob_103 P, ob_104 P, ob_105 P, ob_106 P, ob_107 P, ob_108 P, ob_109 P, ob_110 P, ob_111 P, ob_112 P, ob_113 P, ob_114 P, ob_115 P, ob_116 P, ob_117 P, ob_118 P, ob_119 P, ob_120 P, ob_121 P, ob_122 P, ob_123 P, ob_124 P, ob_125 P, ob_126 P, ob_127 P, ob_128 P, ob_129 P, ob_130 P, ob_131 P, ob_132 P, ob_133 P, ob_134 P, ob_135 P, ob_136 P, ob_137 P, ob_138 P, ob_139 P, ob_140 P, ob_141 P, ob_142 P, ob_143 P, ob_144 P, ob_145 P, ob_146 P, ob_147 P, ob_148 P, ob_149 P, ob_150 P, ob_151 P, ob_152 P, ob_153 P, ob_154 P, ob_155 P]
noncomputable def hzS (P : Params) : SharedT := ⟨hzT P, 156, {}, #[], {}, 589, {}⟩
noncomputable def hzE (P : Params) : Shared := ⟨⟨⟨hzO P⟩, {}⟩, #[], {}, 589, {}⟩
noncomputable def heapK (P : Params) : Frag := [(0, ob_0 P), (1, ob_1 P), (2, ob_2 P), (3, ob_3 P), (4, ob_4 P), (5, ob_5 P), (6, ob_6 P), (7, ob_7 P), (8, ob_8 P), (9, ob_9 P), (10, ob_10 P), (11, ob_11 P), (12, ob_12 P), (13, ob_13 P), (14, ob_14 P), (15, ob_15 P), (22, ob_22 P), (23, ob_23 P), (24, ob_24 P), (25, ob_25 P), (26, ob_26 P), (27, ob_27 P), (28, ob_28 P), (29, ob_29 P), (30, ob_30 P), (31, ob_31 P), (32, ob_32 P), (33, ob_33 P), (34, ob_34 P), (35, ob_35 P), (36, ob_36 P), (37, ob_37 P), (38, ob_38 P), (39, ob_39 P), (40, ob_40 P), (41, ob_41 P), (42, ob_42 P), (43, ob_43 P), (44, ob_44 P), (45, ob_45 P), (46, ob_46 P), (47, ob_47 P), (48, ob_48 P), (49, ob_49 P), (50, ob_50 P), (51, ob_51 P), (52, ob_52 P), (53, ob_53 P), (54, ob_54 P), (57, ob_57 P), (58, ob_58 P), (59, ob_59 P), (60, ob_60 P), (61, ob_61 P), (62, ob_62 P), (63, ob_63 P), (64, ob_64 P), (65, ob_65 P), (66, ob_66 P), (67, ob_67 P), (68, ob_68 P), (69, ob_69 P), (70, ob_70 P), (71, ob_71 P), (72, ob_72 P), (73, ob_73 P), (74, ob_74 P), (75, ob_75 P), (76, ob_76 P), (77, ob_77 P), (78, ob_78 P), (81, ob_81 P), (82, ob_82 P), (83, ob_83 P), (84, ob_84 P), (85, ob_85 P), (86, ob_86 P), (87, ob_87 P), (88, ob_88 P), (89, ob_89 P), (90, ob_90 P), (91, ob_91 P), (92, ob_92 P), (93, ob_93 P), (94, ob_94 P), (95, ob_95 P), (96, ob_96 P), (97, ob_97 P), (98, ob_98 P), (99, ob_99 P), (100, ob_100 P), (101, ob_101 P), (102, ob_102 P), (103, ob_103 P), (104, ob_104 P), (105, ob_105 P), (106, ob_106 P), (107, ob_107 P), (108, ob_108 P), (109, ob_109 P), (110, ob_110 P), (111, ob_111 P), (112, ob_112 P), (113, ob_113 P), (114, ob_114 P), (115, ob_115 P), (116, ob_116 P), (117, ob_117 P), (118, ob_118 P), (119, ob_119 P), (120, ob_120 P), (121, ob_121 P), (122, ob_122 P), (123, ob_123 P), (124, ob_124 P), (125, ob_125 P), (126, ob_126 P), (127, ob_127 P), (128, ob_128 P), (129, ob_129 P), (130, ob_130 P), (131, ob_131 P), (132, ob_132 P), (133, ob_133 P), (134, ob_134 P), (135, ob_135 P), (136, ob_136 P), (137, ob_137 P), (138, ob_138 P), (139, ob_139 P), (140, ob_140 P), (141, ob_141 P), (142, ob_142 P), (143, ob_143 P), (144, ob_144 P), (145, ob_145 P), (146, ob_146 P), (147, ob_147 P), (148, ob_148 P), (149, ob_149 P), (150, ob_150 P), (151, ob_151 P), (152, ob_152 P), (153, ob_153 P), (154, ob_154 P), (155, ob_155 P)]
noncomputable def hzA : List Nat := [0, 1, 2, 3, 4, 5, 6, 7, 8, 9, 10, 11, 12, 13, 14, 15, 22, 23, 24, 25, 26, 27, 28, 29, 30, 31, 32, 33, 34, 35, 36, 37, 38, 39, 40, 41, 42, 43, 44, 45, 46, 47, 48, 49, 50, 51, 52, 53, 54, 57, 58, 59, 60, 61, 62, 63, 64, 65, 66, 67, 68, 69, 70, 71, 72, 73, 74, 75, 76, 77, 78, 81, 82, 83, 84, 85, 86, 87, 88, 89, 90, 91, 92, 93, 94, 95, 96, 97, 98, 99, 100, 101, 102, 103, 104, 105, 106, 107, 108, 109, 110, 111, 112, 113, 114, 115, 116, 117, 118, 119, 120, 121, 122, 123, 124, 125, 126, 127, 128, 129, 130, 131, 132, 133, 134, 135, 136, 137, 138, 139, 140, 141, 142, 143, 144, 145, 146, 147, 148, 149, 150, 151, 152, 153, 154, 155]
noncomputable def ktop (P : Params) : KT := (.node (some (ob_0 P)) (.node (some (ob_1 P)) (.node (some (ob_3 P)) (.node (some (ob_7 P)) (.node (some (ob_15 P)) (.node (some (ob_31 P)) (.node (some (ob_63 P)) (.node (some (ob_127 P)) .nil .nil) .nil) (.node (some (ob_95 P)) .nil .nil)) (.node (some (ob_47 P)) (.node none (.node (some (ob_143 P)) .nil .nil) .nil) (.node (some (ob_111 P)) .nil .nil))) (.node (some (ob_23 P)) (.node (some (ob_39 P)) (.node (some (ob_71 P)) (.node (some (ob_135 P)) .nil .nil) .nil) (.node (some (ob_103 P)) .nil .nil)) (.node none (.node (some (ob_87 P)) (.node (some (ob_151 P)) .nil .nil) .nil) (.node (some (ob_119 P)) .nil .nil)))) (.node (some (ob_11 P)) (.node none (.node (some (ob_35 P)) (.node (some (ob_67 P)) (.node (some (ob_131 P)) .nil .nil) .nil) (.node (some (ob_99 P)) .nil .nil)) (.node (some (ob_51 P)) (.node (some (ob_83 P)) (.node (some (ob_147 P)) .nil .nil) .nil) (.node (some (ob_115 P)) .nil .nil))) (.node (some (ob_27 P)) (.node (some (ob_43 P)) (.node (some (ob_75 P)) (.node (some (ob_139 P)) .nil .nil) .nil) (.node (some (ob_107 P)) .nil .nil)) (.node (some (ob_59 P)) (.node (some (ob_91 P)) (.node (some (ob_155 P)) .nil .nil) .nil) (.node (some (ob_123 P)) .nil .nil))))) (.node (some (ob_5 P)) (.node (some (ob_9 P)) (.node none (.node (some (ob_33 P)) (.node (some (ob_65 P)) (.node (some (ob_129 P)) .nil .nil) .nil) (.node (some (ob_97 P)) .nil .nil)) (.node (some (ob_49 P)) (.node (some (ob_81 P)) (.node (some (ob_145 P)) .nil .nil) .nil) (.node (some (ob_113 P)) .nil .nil))) (.node (some (ob_25 P)) (.node (some (ob_41 P)) (.node (some (ob_73 P)) (.node (some (ob_137 P)) .nil .nil) .nil) (.node (some (ob_105 P)) .nil .nil)) (.node (some (ob_57 P)) (.node (some (ob_89 P)) (.node (some (ob_153 P)) .nil .nil) .nil) (.node (some (ob_121 P)) .nil .nil)))) (.node (some (ob_13 P)) (.node none (.node (some (ob_37 P)) (.node (some (ob_69 P)) (.node (some (ob_133 P)) .nil .nil) .nil) (.node (some (ob_101 P)) .nil .nil)) (.node (some (ob_53 P)) (.node (some (ob_85 P)) (.node (some (ob_149 P)) .nil .nil) .nil) (.node (some (ob_117 P)) .nil .nil))) (.node (some (ob_29 P)) (.node (some (ob_45 P)) (.node (some (ob_77 P)) (.node (some (ob_141 P)) .nil .nil) .nil) (.node (some (ob_109 P)) .nil .nil)) (.node (some (ob_61 P)) (.node (some (ob_93 P)) .nil .nil) (.node (some (ob_125 P)) .nil .nil)))))) (.node (some (ob_2 P)) (.node (some (ob_4 P)) (.node (some (ob_8 P)) (.node none (.node (some (ob_32 P)) (.node (some (ob_64 P)) (.node (some (ob_128 P)) .nil .nil) .nil) (.node (some (ob_96 P)) .nil .nil)) (.node (some (ob_48 P)) (.node none (.node (some (ob_144 P)) .nil .nil) .nil) (.node (some (ob_112 P)) .nil .nil))) (.node (some (ob_24 P)) (.node (some (ob_40 P)) (.node (some (ob_72 P)) (.node (some (ob_136 P)) .nil .nil) .nil) (.node (some (ob_104 P)) .nil .nil)) (.node none (.node (some (ob_88 P)) (.node (some (ob_152 P)) .nil .nil) .nil) (.node (some (ob_120 P)) .nil .nil)))) (.node (some (ob_12 P)) (.node none (.node (some (ob_36 P)) (.node (some (ob_68 P)) (.node (some (ob_132 P)) .nil .nil) .nil) (.node (some (ob_100 P)) .nil .nil)) (.node (some (ob_52 P)) (.node (some (ob_84 P)) (.node (some (ob_148 P)) .nil .nil) .nil) (.node (some (ob_116 P)) .nil .nil))) (.node (some (ob_28 P)) (.node (some (ob_44 P)) (.node (some (ob_76 P)) (.node (some (ob_140 P)) .nil .nil) .nil) (.node (some (ob_108 P)) .nil .nil)) (.node (some (ob_60 P)) (.node (some (ob_92 P)) .nil .nil) (.node (some (ob_124 P)) .nil .nil))))) (.node (some (ob_6 P)) (.node (some (ob_10 P)) (.node none (.node (some (ob_34 P)) (.node (some (ob_66 P)) (.node (some (ob_130 P)) .nil .nil) .nil) (.node (some (ob_98 P)) .nil .nil)) (.node (some (ob_50 P)) (.node (some (ob_82 P)) (.node (some (ob_146 P)) .nil .nil) .nil) (.node (some (ob_114 P)) .nil .nil))) (.node (some (ob_26 P)) (.node (some (ob_42 P)) (.node (some (ob_74 P)) (.node (some (ob_138 P)) .nil .nil) .nil) (.node (some (ob_106 P)) .nil .nil)) (.node (some (ob_58 P)) (.node (some (ob_90 P)) (.node (some (ob_154 P)) .nil .nil) .nil) (.node (some (ob_122 P)) .nil .nil)))) (.node (some (ob_14 P)) (.node (some (ob_22 P)) (.node (some (ob_38 P)) (.node (some (ob_70 P)) (.node (some (ob_134 P)) .nil .nil) .nil) (.node (some (ob_102 P)) .nil .nil)) (.node (some (ob_54 P)) (.node (some (ob_86 P)) (.node (some (ob_150 P)) .nil .nil) .nil) (.node (some (ob_118 P)) .nil .nil))) (.node (some (ob_30 P)) (.node (some (ob_46 P)) (.node (some (ob_78 P)) (.node (some (ob_142 P)) .nil .nil) .nil) (.node (some (ob_110 P)) .nil .nil)) (.node (some (ob_62 P)) (.node (some (ob_94 P)) .nil .nil) (.node (some (ob_126 P)) .nil .nil)))))))
theorem keysE (P : Params) : hzA = (heapK P).map (·.1) := by kernel_rfl
theorem ktE (P : Params) : KT.of (heapK P) = ktop P := by kernel_rfl
noncomputable abbrev hzP := Challenge.pw_rs0132_01
noncomputable abbrev hzQ : Program := view hzP ([1, 3, 4, 5] ++ (List.range 51).map (· + 7) ++ (List.range 10).map (· + 59))
noncomputable abbrev hzL : List Str := [Str.ofString "EXACT_TOKEN_TYPES"]
noncomputable abbrev hzV : List (Str × WData) := []
theorem hzSaid : Challenge.rw_rs0132_01.wellSaid = true := by
  rw [PySem.W.Fast.te9446332074065402090]
  kernel_rfl
theorem hzAbs (P : Params) : (hzS P).abs = hzE P := by kernel_rfl
theorem hzTop0 (w : World) : (opnQ hzP (w.withFollow "special-get-raises" false) 4600).bind (topQ hzP (w.withFollow "special-get-raises" false) 4600) = some (hzS w.params) := by
  kernel_rfl
theorem hzTop1 (w : World) : (opnQ hzP (w.withFollow "special-get-raises" true) 4600).bind (topQ hzP (w.withFollow "special-get-raises" true) 4600) = some (hzS w.params) := by
  kernel_rfl
theorem hzEnd0 (w : World) : (opnQ hzP (w.withFollow "special-get-raises" false) 4600).map (fun s₀ => endOk hzP s₀ (hzE w.params)) = some true := by
  kernel_rfl
theorem hzEnd1 (w : World) : (opnQ hzP (w.withFollow "special-get-raises" true) 4600).map (fun s₀ => endOk hzP s₀ (hzE w.params)) = some true := by
  kernel_rfl
noncomputable abbrev hzX : Shared → Bool := fun s => xlAt hzQ hzV s && recOk (RowW.records Challenge.rw_rs0132_01.row.toRowW) s
theorem hzC0 (P : Params) : (seeQ hzP hzQ hzL hzX true (hzE P)).1 = expectedOf hzQ := by
  kernel_rfl
theorem hzC1 (P : Params) : (seeQ hzP hzQ hzL hzX true (hzE P)).2.1 = bltViewBooted := by
  kernel_rfl
theorem hzC2 (P : Params) : (seeQ hzP hzQ hzL hzX true (hzE P)).2.2.1 = true := by
  kernel_rfl
theorem hzC3 (P : Params) : (seeQ hzP hzQ hzL hzX true (hzE P)).2.2.2.1 = true := by
  kernel_rfl
theorem hzC4 (P : Params) : (seeQ hzP hzQ hzL hzX true (hzE P)).2.2.2.2.1 = pinGoodD (drecsOf hzQ) := by
  kernel_rfl
theorem hzC5 (P : Params) : (seeQ hzP hzQ hzL hzX true (hzE P)).2.2.2.2.2.1 = plainGoodE hzQ (looseW hzQ hzL) := by
  kernel_rfl
theorem hzC6 (P : Params) : (seeQ hzP hzQ hzL hzX true (hzE P)).2.2.2.2.2.2.1 = plainGoodD hzQ hzL := by
  kernel_rfl
theorem hzC7 (P : Params) : (seeQ hzP hzQ hzL hzX true (hzE P)).2.2.2.2.2.2.2.1 = wideGood hzQ := by
  kernel_rfl
theorem hzC8 (P : Params) : (seeQ hzP hzQ hzL hzX true (hzE P)).2.2.2.2.2.2.2.2 = clsGoodW hzQ hzL := by
  kernel_rfl
theorem hzC (P : Params) : seeQ hzP hzQ hzL hzX true (hzE P) = openGood hzQ hzL :=
  Prod.ext (hzC0 P) (Prod.ext (hzC1 P) (Prod.ext (hzC2 P) (Prod.ext (hzC3 P) (Prod.ext (hzC4 P) (Prod.ext (hzC5 P) (Prod.ext (hzC6 P) (Prod.ext (hzC7 P) (hzC8 P))))))))
theorem hzY (w : World) : obsZ hzA (hzE w.params) = PySem.W.X.valZ heapK 156 589 w := by
  kernel_rfl
theorem zh {h h' : Heap} {K : Frag} {T : KT} (e : KT.of K = T) (k : ∀ b o, h.get? b = some o → h'.get? b = some o) (A : AllIn h K) : KT.Holds h' 1 0 T := by
  subst e
  exact KT.Holds.keeps k (holds_of A)
noncomputable abbrev hzR : OpenRow := Challenge.rw_rs0132_01.row
noncomputable def dq : DefRec × List (Str × Expr) := (defOf hzQ hzR.name).getD (⟨⟨#[]⟩, ⟨[], [], none, [], [], none, []⟩, [], default, default⟩, [])
theorem dq1 : defOf hzQ hzR.name = some (dq.1, dq.2) := by kernel_rfl
theorem dq2 : hzR.prog.theDef hzR.name = some (dq.1.params, dq.1.body, dq.1.scope) := by kernel_rfl
theorem dq3 : kwWritten? dq.1.params.kwonlyargs dq.1.params.kw_defaults = some dq.2 := by kernel_rfl
theorem dq4 : (chainsOk hzQ && opensWell hzR.prog && (frees hzR.toRowW && hzR.within.isEmpty)) = true := by kernel_rfl
theorem dq5 : hzR.prog.tablesWhole = true := by kernel_rfl
theorem zk (walk : Walk hzP 155 156 589 ktop) : Challenge.rw_rs0132_01.Holds := by
  refine holds_law hzSaid fun said' => ?_
  refine holds_openX (q := hzQ) (loose := hzL) (Xt := fun s => xlAt hzQ hzV s && recOk (RowW.records Challenge.rw_rs0132_01.row.toRowW) s) (XP := XL hzQ hzV) (Yf := obsZ hzA) (Ya := PySem.W.X.valZ heapK 156 589) (N := 4600)
    (leftS "special-get-raises" hzAbs (fun w b => by cases b; exact hzTop0 w; exact hzTop1 w) (fun w b => by cases b; exact hzEnd0 w; exact hzEnd1 w) hzC hzY) (fun s e => xl_of s (Bool.and_eq_true_iff.mp e).1) XL.keeps (d := dq.1) (kwd := dq.2) dq1 dq2 dq3 (fun s e => recFacts_of (Bool.and_eq_true_iff.mp e).2) (by rfl) said' dq4 ⟨rfl, rfl, rfl, rfl, rfl, dq5⟩ ?hw ?hc
  case hw => w_witness2
  case hc =>
    intro w s₀ s₁ mg mb G y fa o pm cd doc dV kV ho hd hcd hD hmg hg args vals as L hpre hlay hrd hwl hlo
    obtain ⟨ZA, ZI, ZN, ZT⟩ := z_facts keysE y
    have KX : Frag.In (heapK w.params) s₁.heap := InK.keeps w s₀.heap s₁.heap ZI (Laid.keeps L)
    have ZH : KT.Holds s₁.heap 1 0 (ktop w.params) := zh (ktE w.params) (Laid.keeps L) ZA
    refine Ground.open G ?_
    intro T B D TE TW
    wrow_args hpre hlay hrd hwl hlo
    obtain ⟨hat, hsz⟩ := script_at L
    have htk := script_toks L ZT
    rw [ZN] at hat hsz
    subst hat
    obtain rfl : fa = 155 := Value.ref.inj (Option.some.inj (hmg.symm.trans (mg_of (v := .ref 155) KX T.g (by kernel_rfl))))
    all_lens
    rename Heap.IsList _ _ _ => hL
    have hob := script_obj L hL
    rename IntsAre _ _ => hi
    rename PyData.layable0 (PyData.list _) = true => hly
    clear hcd hD y hd hmg
    exact walk w s₁ _ _ _ _ hg ZH hsz htk hL hi (by omega) hly hob (fun s' k o b => good_end (fun _ => rfl) (by kernel_rfl) k o b)
end Mine
end
-- part Pg1
section
namespace Mine
open PySem PySem.Spec PySem.Calls PyProof.Rows PySem.W PySem.W.X
noncomputable abbrev K1 := ktop
noncomputable abbrev U1 (P : Par K1) : Bs := P.U PySem.Challenge.pw_rs0132_01
/-- what a contract of a call of a def starts from -/
noncomputable abbrev fn (a : Nat) (args : List Value) (s : Sh) : St := at_ (.call (.ref a) ⟨args, []⟩) (fnA (.call (.ref a) ⟨args, []⟩)) s
noncomputable abbrev V0 (U : Bs) : XV := U.V {} (fun _ _ => True)
noncomputable def p0 : Nat → Pos := fun _ => default
noncomputable def nextC (ga : Nat) : Code := .call (.builtin "generator.__next__") ⟨[.ref ga], []⟩
end Mine
namespace Mine
open PySem PySem.Spec PySem.Calls PyProof.Rows PySem.W PySem.W.X
end Mine
end
-- part G1
section
set_option maxRecDepth 100000
namespace Mine
open PySem PySem.Spec PySem.Calls PyProof.Rows PySem.W PySem.W.X
/-- a generator of _iter_escaped_chars, its objects -/
noncomputable def genO (g : Nat) (a b : Tok) : Obj := { cls := .type "generator", data := .fields #[.int (Int.ofNat g) 0, .str ⟨#[95, 105, 116, 101, 114, 95, 101, 115, 99, 97, 112, 101, 100, 95, 99, 104, 97, 114, 115]⟩ a, .str ⟨#[95, 105, 116, 101, 114, 95, 101, 115, 99, 97, 112, 101, 100, 95, 99, 104, 97, 114, 115]⟩ b] }
noncomputable def enO (it : Nat) (k : Nat) (old : Value) : Obj := { cls := .type "enumerate", data := .fields #[.none, .bool false, .ref it, .int (Int.ofNat k) 0, .none, old] }
noncomputable def sAddr : Str := ⟨#[97, 100, 100, 114]⟩
noncomputable def sPos : Str := ⟨#[112, 111, 115]⟩
noncomputable def sEsc : Str := ⟨#[101, 115, 99, 97, 112, 101]⟩
noncomputable def sCh : Str := ⟨#[99, 104]⟩
noncomputable def fr1 (h1 : Int) (t1 : Tok) (v1 : Value) (ep : Nat) : Obj := { cls := .type "frame", data := .dict #[⟨h1, .str sAddr t1, v1⟩] ep }
noncomputable def fr3 (h1 h2 h3 : Int) (t1 t2 t3 : Tok) (v1 v2 v3 : Value) (ep : Nat) : Obj := { cls := .type "frame", data := .dict #[⟨h1, .str sAddr t1, v1⟩, ⟨h2, .str sPos t2, v2⟩, ⟨h3, .str sEsc t3, v3⟩] ep }
noncomputable def fr4 (h1 h2 h3 h4 : Int) (t1 t2 t3 t4 : Tok) (v1 v2 v3 v4 : Value) (ep : Nat) : Obj := { cls := .type "frame", data := .dict #[⟨h1, .str sAddr t1, v1⟩, ⟨h2, .str sPos t2, v2⟩, ⟨h3, .str sEsc t3, v3⟩, ⟨h4, .str sCh t4, v4⟩] ep }
/-- the generator's code -/
noncomputable def gStart (P : Par K1) (f g : Nat) : St := (run (V0 (U1 P)) [] 12 [0,0,1,1,0] (fn 63 [.str ⟨#[]⟩ 0] ⟨[], f, 0, [], g⟩) p0).st (fn 63 [.str ⟨#[]⟩ 0] ⟨[], f, 0, [], g⟩)
noncomputable def gCode (P : Par K1) (f : Nat) : Code := match (gStart P f 0).GL with
  | (_, .fresh c) :: _ => c
  | _ => .expr default default
/-- a call of the def: the generator -/
theorem gen_spec (P : Par K1) (x : Str) (tk : Tok) (sh : Sh) : Cn (U1 P) 1 (.call (.ref 63) ⟨[.str x tk], []⟩) sh
    (fun r s' => r = .ok (.ret (.ref (sh.N + 1))) ∧ ∃ h1 t1 t2 t3, s' = ⟨(sh.N + 1, genO sh.G t2 t3) :: (sh.N, fr1 h1 t1 (.str x tk) 1) :: sh.L, sh.N + 2, sh.i + 3, (sh.G, .fresh (gCode P sh.N)) :: sh.GL, sh.G + 1⟩) := by
  obtain ⟨L, N, i, GL, G⟩ := sh
  refine Cn.of_fn ?_ fun A R O hE => ?_
  · kernel_rfl
  refine run_seg O.good [] 12 [0,0,1,1,0] _ (fun ps => ⟨?_, ?_⟩) fun ps => ?_
  · kernel_rfl
  · kernel_rfl
  · generalize hs : (run ((U1 P).V A R) [] 12 [0,0,1,1,0] (fn 63 [.str x tk] ⟨L, N, i, GL, G⟩) ps).st (fn 63 [.str x tk] ⟨L, N, i, GL, G⟩) = s
    refine Mn_done (r := .ok (.ret (.ref (N + 1)))) (sh := ⟨(N + 1, genO G (tokOf (fldAt (obAt s 0) 1)) (tokOf (fldAt (obAt s 0) 2))) :: (N, fr1 (entAt (obAt s 1) 0).hash (keyTok (entAt (obAt s 1) 0)) (.str x tk) 1) :: L, N + 2, i + 3, (G, .fresh (gCode P N)) :: GL, G + 1⟩) ?_ (hE _ _ ⟨rfl, _, _, _, _, rfl⟩)
    subst hs
    refine ⟨⟨?_, ?_, ?_⟩, ?_, ?_⟩
    · kernel_rfl
    · kernel_rfl
    · kernel_rfl
    · kernel_rfl
    · kernel_rfl
end Mine
end
-- part G2
section
set_option maxRecDepth 100000
namespace Mine
open PySem PySem.Spec PySem.Calls PyProof.Rows PySem.W PySem.W.X
noncomputable def setP (p : Pos) : Option (List PySem.Frame) → List PySem.Frame
  | some (.ret k hd g l c _ kp :: []) => [.ret k hd g l c p kp]
  | _ => []
noncomputable def gIn (P : Par K1) (f M i g : Nat) (x : Str) (tk : Tok) (h1 : Int) (t1 a b : Tok) (L : Lg) (GL : Gg) (G : Nat) : St :=
  at_ (nextC (f+1)) (denZ (nextC (f+1))) ⟨(f+1, genO g a b) :: (f, fr1 h1 t1 (.str x tk) 1) :: L, M, i, (g, .fresh (gCode P f)) :: GL, G⟩
noncomputable def gHead0 (P : Par K1) (f M : Nat) : St :=
  (run (V0 (U1 P)) [spEnum ⟨#[]⟩ (by decide +kernel)] 53 [1, 2, 1, 0, 0, 0, 2, 2, 2, 2, 0, 0, 2, 0, 0, 4, 1, 1, 0, 1, 0, 1, 1, 1, 0, 1, 0, 1, 0] (gIn P f M 0 0 ⟨#[]⟩ 0 0 0 0 0 [] [] 1) p0).st (gIn P f M 0 0 ⟨#[]⟩ 0 0 0 0 0 [] [] 1)
noncomputable def gLoop (P : Par K1) (f M : Nat) : Code := (gHead0 P f M).c
noncomputable def gFr (P : Par K1) (f M : Nat) (p : Pos) : List PySem.Frame := setP p (gHead0 P f M).md
noncomputable def nextB (ga : Nat) : Code := .builtin "generator.__next__" ⟨[.ref ga], []⟩
/-- the generator at the head of its loop -/
noncomputable def headSt (P : Par K1) (f M g : Nat) (p : Pos) (k' : GenResult → Sem Fin) (own L : Lg) (N i : Nat) (GL : Gg) (G : Nat) : St :=
  { c := gLoop P f M, md := some (gFr P f M p), κ := .gen g (nextB (f+1)) k' .base, t := denZ (gLoop P f M), chg := [], L := own ++ L, N := N, i := i, GL := (g, .running) :: GL, G := G }
noncomputable abbrev H4 := Int × Int × Int × Int
noncomputable abbrev T4 := Nat × Nat × Nat × Nat
/-- the generator's objects: itself, the enumerate, the iterator, the frame -/
noncomputable def ownR (f M : Nat) (x : Str) (tk : Tok) (k : Nat) (old : Value) (fo : Obj) : Lg :=
  [(M+1, enO M k old), (M, strIt x tk (Int.ofNat k)), (f, fo)]
noncomputable def own (f M g : Nat) (x : Str) (tk : Tok) (k : Nat) (a b : Tok) (old : Value) (fo : Obj) : Lg :=
  (f+1, genO g a b) :: ownR f M x tk k old fo
noncomputable def frA (x : Str) (tk : Tok) (h : H4) (t : T4) (p2 tp : Nat) (ep : Nat) : Obj := fr3 h.1 h.2.1 h.2.2.1 t.1 t.2.1 t.2.2.1 (.str x tk) (.int (Int.ofNat p2) tp) (.bool false) ep
noncomputable def frB (x : Str) (tk : Tok) (e : Bool) (h : H4) (t : T4) (p2 tp : Nat) (v4 : Value) (ep : Nat) : Obj := fr4 h.1 h.2.1 h.2.2.1 h.2.2.2 t.1 t.2.1 t.2.2.1 t.2.2.2 (.str x tk) (.int (Int.ofNat p2) tp) (.bool e) v4 ep
noncomputable def tup2 (a b : Value) : Obj := { cls := .type "tuple", data := .seq #[a, b] }
noncomputable def enP (m it : Nat) (k : Nat) (old : Value) : Obj := { cls := .type "enumerate", data := .fields #[.int (Int.ofNat m) 0, .bool false, .ref it, .int (Int.ofNat k) 0, .none, old] }
/-- a pair of enumerate's at hand, known to be its own -/
noncomputable def ownSt (P : Par K1) (V : XV) (f M g : Nat) (p : Pos) (k' : GenResult → Sem Fin) (x : Str) (tk : Tok) (k c : Nat) (a b : Tok) (fo : Obj) (L : Lg) (N i : Nat) (GL : Gg) (G : Nat) : St :=
  { c := gLoop P f M, md := some (gFr P f M p), κ := .gen g (nextB (f+1)) k' .base, t := ownU (gLoop P f M) (M + 1) N, chg := [],
    L := (N, tup2 (.int (Int.ofNat k) (V.t₀ + (i + 1))) (.str ⟨#[c]⟩ (V.t₀ + i))) :: (f+1, genO g a b) :: (M+1, enP N M (k + 1) (.str ⟨#[c]⟩ (V.t₀ + i))) :: (M, strIt x tk (Int.ofNat (k + 1))) :: (f, fo) :: L, N := N + 1, i := i + 2, GL := (g, .running) :: GL, G := G }

noncomputable def sus (s : St) (l : List Value) (p q : Pos) : GenState := match s.GL with
  | (_, .suspended k _ c _ fs cl) :: _ => .suspended k l c p (setP q (some fs)) cl
  | _ => .finished
noncomputable def susL (s : St) : List Value := match s.GL with
  | (_, .suspended _ l _ _ _ _) :: _ => l
  | _ => []
noncomputable def susP (s : St) : Pos := match s.GL with
  | (_, .suspended _ _ _ p _ _) :: _ => p
  | _ => default
noncomputable def susQ (s : St) : Pos := match s.GL with
  | (_, .suspended _ _ _ _ fs _) :: _ => match fs with
    | .ret _ _ _ _ _ p _ :: _ => p
    | _ => default
  | _ => default
noncomputable def mdP (s : St) : Pos := match s.md with
  | some (.ret _ _ _ _ _ p _ :: _) => p
  | _ => default
noncomputable def adAt (s : St) (j : Nat) : Nat := ((s.L[j]?).map (·.1)).getD 0
noncomputable def hs4 (o : Obj) : H4 := ((entAt o 0).hash, (entAt o 1).hash, (entAt o 2).hash, (entAt o 3).hash)
noncomputable def ts4 (o : Obj) : T4 := (keyTok (entAt o 0), keyTok (entAt o 1), keyTok (entAt o 2), keyTok (entAt o 3))
/-- the generator has yielded -/
noncomputable def outY (f g : Nat) (k' : GenResult → Sem Fin) (a : Nat) (v1 v2 : Value) (own L : Lg) (N i : Nat) (gs : GenState) (GL : Gg) (G : Nat) : St :=
  { c := nextB (f+1), md := none, κ := .base, t := k' (.yielded (.ref a)), chg := [], L := (a, tup2 v1 v2) :: (own ++ L), N := N, i := i, GL := (g, gs) :: GL, G := G }
noncomputable def gBst (P : Par K1) (f M : Nat) : St :=
  let s := ownSt P (V0 (U1 P)) f M 0 default (fun _ => .pure (.done .next)) ⟨#[]⟩ 0 0 97 0 0 (frB ⟨#[]⟩ 0 false (0,0,0,0) (0,0,0,0) 0 0 .none 0) [] 0 0 [] 0
  (run (V0 (U1 P)) [spEq ⟨#[97]⟩ ⟨#[92]⟩ false (by decide)] 83 [3, 3, 1, 1, 1, 0, 1, 0, 1, 1, 0, 1, 0, 1, 1, 2, 1, 1, 1, 0, 1, 0, 1, 1, 2, 1, 1, 1, 0, 1, 0, 1, 1, 2, 1, 1, 1, 8, 8, 8, 8, 8, 8, 4, 8, 8, 0] s p0).st s
noncomputable def gAst (P : Par K1) (f M : Nat) : St :=
  let s := ownSt P (V0 (U1 P)) f M 0 default (fun _ => .pure (.done .next)) ⟨#[]⟩ 0 0 97 0 0 (frB ⟨#[]⟩ 0 true (0,0,0,0) (0,0,0,0) 0 0 .none 0) [] 0 0 [] 0
  (run (V0 (U1 P)) [] 83 [3, 3, 1, 1, 1, 0, 1, 0, 1, 1, 0, 1, 0, 1, 1, 2, 1, 1, 1, 0, 1, 0, 1, 1, 2, 1, 1, 1, 0, 1, 0, 1, 1, 2, 1, 1, 1, 8, 8, 8, 8, 8, 8, 8, 0, 0, 0] s p0).st s
noncomputable def gCst (P : Par K1) (f M : Nat) : St :=
  let s := headSt P f M 0 default (fun _ => .pure (.done .next)) (own f M 0 ⟨#[]⟩ 0 0 0 0 .none (frB ⟨#[]⟩ 0 true (0,0,0,0) (0,0,0,0) 0 0 .none 0)) [] 0 0 [] 0
  (run (V0 (U1 P)) [spEnd ⟨#[]⟩ 0 rfl] 24 [2, 0, 2, 0, 2, 3, 4, 2, 1, 0, 6, 6, 0] s p0).st s
end Mine
end
-- part G3
section
set_option maxRecDepth 100000
set_option maxHeartbeats 0
set_option Elab.async false
namespace Mine
open PySem PySem.Spec PySem.Calls PyProof.Rows PySem.W PySem.W.X
/-- what generator.__next__ makes of the end of a turn -/
noncomputable def gK (r : GenResult) : Sem Fin := match r with
  | .yielded v => .pure (.done (.ret v))
  | .returned v => match v with
    | .none => R.bindR (PySem.W.ZFast.zw11364817496384490316 (.type "StopIteration") []) fun e => R.bindR (PySem.W.ZFast.zw17609497360097468838 e) fun (_ : Unit) => .unsupported "alt"
    | _ => .unsupported "alt"
  | _ => .unsupported "alt"
noncomputable def stopO (tu : Nat) : Obj := { cls := .type "StopIteration", data := .fields #[.ref tu, .none, .none, .none, .bool false, .none] }
/-- the end: StopIteration is raised -/
noncomputable def outE (f e tu : Nat) (L : Lg) (N i : Nat) (GL : Gg) (G : Nat) : St :=
  { c := nextB (f+1), md := none, κ := .base, t := .raise (.ref e), chg := [], L := (e, stopO tu) :: L, N := N, i := i, GL := GL, G := G }
section
variable {A : Around} {R : Result → Shared → Prop} {lv : Nat}
theorem g_item (P : Par K1) (O : Lvl A lv) {f M g : Nat} {p : Pos} {x : Str} {tk : Tok} {k c : Nat} {a b : Tok} {old : Value} {fo : Obj} {h4 : H4} {t4 : T4} {p2 tp ep : Nat} {v4 : Value} {L : Lg} {N i : Nat} {GL : Gg} {G : Nat} (hk : x.cps[k]? = some c)
    (h : Mn ((U1 P).V A R) (ownSt P ((U1 P).V A R) f M g p gK x tk k c a b (fo) L N i GL G)) : Mn ((U1 P).V A R) (headSt P f M g p gK (own f M g x tk k a b old (fo)) L N i GL G) := by
  obtain ⟨w₀, b1, b2, b3, h₀, d, t₀, os, ok⟩ := P
  cases b1
  all_goals
    refine run_seg O.good [spNext x k c hk] 27 [2, 0, 2, 0, 2, 3, 4, 2, 2, 2, 2, 2, 2, 2, 3, 3, 3, 3, 3, 3, 3, 3] _ (fun ps => ⟨?_, ?_⟩) fun ps => ?_
    · kernel_rfl
    · kernel_rfl
    refine own_step' (r := M+1) (a := N) (j := 2) (vs := #[.int (Int.ofNat N) 0, .bool false, .ref M, .int (Int.ofNat (k + 1)) 0, .none, .str ⟨#[c]⟩ (t₀ + i)]) ⟨?_, ?_, ?_⟩ ?_ ?_
    · kernel_rfl
    · kernel_rfl
    · kernel_rfl
    · kernel_rfl
    · refine Mn_eq h ?_
      kernel_rfl
theorem g_plain3 (P : Par K1) (O : Lvl A lv) {f M g : Nat} {p : Pos} {x : Str} {tk : Tok} {k c : Nat} {a b : Tok} {old : Value} {fo : Obj} {h4 : H4} {t4 : T4} {p2 tp ep : Nat} {v4 : Value} {L : Lg} {N i : Nat} {GL : Gg} {G : Nat} (hc : ((⟨#[c]⟩ : Str).cps.toList == (⟨#[92]⟩ : Str).cps.toList) = false)
    (h : ∀ (N i a' : Nat) (t1 t2 : Tok) (old : Value) (hh : H4) (tt : T4) (tp' : Tok) (v4' : Value) (ep' : Nat) (l : List Value) (pp q : Pos), Mn ((U1 P).V A R) (outY f g gK a' (.int (Int.ofNat k) t1) (.str ⟨#[c]⟩ t2) (own f M g x tk (k + 1) a b old (frB x tk false hh tt k tp' v4' ep')) L N i (sus (gBst P f M) l pp q) GL G)) : Mn ((U1 P).V A R) (ownSt P ((U1 P).V A R) f M g p gK x tk k c a b (frA x tk h4 t4 p2 tp ep) L N i GL G) := by
  obtain ⟨w₀, b1, b2, b3, h₀, d, t₀, os, ok⟩ := P
  cases b1
  all_goals
    refine run_seg O.good [spEq ⟨#[c]⟩ ⟨#[92]⟩ false hc] 83 [3, 3, 1, 1, 1, 0, 1, 0, 1, 1, 0, 1, 0, 1, 1, 2, 1, 1, 1, 0, 1, 0, 1, 1, 2, 1, 1, 1, 0, 1, 0, 1, 1, 2, 1, 1, 1, 8, 8, 8, 8, 8, 8, 4, 8, 8, 0] _ (fun ps => ⟨?_, ?_⟩) fun ps => ?_
    · kernel_rfl
    · kernel_rfl
    generalize hs : (run _ _ 83 _ _ ps).st _ = s
    refine Mn_pick (ps := [0, 5, 6, 7, 8]) (m := 9) (gs := [0]) (gm := 1) ?_ ?_ ?_
    · kernel_rfl
    · kernel_rfl
    refine Mn_eq (h s.N s.i (adAt s 0) (tokOf (fldAt (obAt s 0) 0)) (tokOf (fldAt (obAt s 0) 1)) (fldAt (obAt s 6) 5) (hs4 (obAt s 8)) (ts4 (obAt s 8)) (tokOf (entAt (obAt s 8) 1).val) (entAt (obAt s 8) 3).val (epOf (obAt s 8)) (susL s) (susP s) (susQ s)) ?_
    subst hs
    kernel_rfl
theorem g_plain4 (P : Par K1) (O : Lvl A lv) {f M g : Nat} {p : Pos} {x : Str} {tk : Tok} {k c : Nat} {a b : Tok} {old : Value} {fo : Obj} {h4 : H4} {t4 : T4} {p2 tp ep : Nat} {v4 : Value} {L : Lg} {N i : Nat} {GL : Gg} {G : Nat} (hc : ((⟨#[c]⟩ : Str).cps.toList == (⟨#[92]⟩ : Str).cps.toList) = false)
    (h : ∀ (N i a' : Nat) (t1 t2 : Tok) (old : Value) (hh : H4) (tt : T4) (tp' : Tok) (v4' : Value) (ep' : Nat) (l : List Value) (pp q : Pos), Mn ((U1 P).V A R) (outY f g gK a' (.int (Int.ofNat k) t1) (.str ⟨#[c]⟩ t2) (own f M g x tk (k + 1) a b old (frB x tk false hh tt k tp' v4' ep')) L N i (sus (gBst P f M) l pp q) GL G)) : Mn ((U1 P).V A R) (ownSt P ((U1 P).V A R) f M g p gK x tk k c a b (frB x tk false h4 t4 p2 tp v4 ep) L N i GL G) := by
  obtain ⟨w₀, b1, b2, b3, h₀, d, t₀, os, ok⟩ := P
  cases b1
  all_goals
    refine run_seg O.good [spEq ⟨#[c]⟩ ⟨#[92]⟩ false hc] 83 [3, 3, 1, 1, 1, 0, 1, 0, 1, 1, 0, 1, 0, 1, 1, 2, 1, 1, 1, 0, 1, 0, 1, 1, 2, 1, 1, 1, 0, 1, 0, 1, 1, 2, 1, 1, 1, 8, 8, 8, 8, 8, 8, 4, 8, 8, 0] _ (fun ps => ⟨?_, ?_⟩) fun ps => ?_
    · kernel_rfl
    · kernel_rfl
    generalize hs : (run _ _ 83 _ _ ps).st _ = s
    refine Mn_pick (ps := [0, 5, 6, 7, 8]) (m := 9) (gs := [0]) (gm := 1) ?_ ?_ ?_
    · kernel_rfl
    · kernel_rfl
    refine Mn_eq (h s.N s.i (adAt s 0) (tokOf (fldAt (obAt s 0) 0)) (tokOf (fldAt (obAt s 0) 1)) (fldAt (obAt s 6) 5) (hs4 (obAt s 8)) (ts4 (obAt s 8)) (tokOf (entAt (obAt s 8) 1).val) (entAt (obAt s 8) 3).val (epOf (obAt s 8)) (susL s) (susP s) (susQ s)) ?_
    subst hs
    kernel_rfl
theorem g_esc (P : Par K1) (O : Lvl A lv) {f M g : Nat} {p : Pos} {x : Str} {tk : Tok} {k c : Nat} {a b : Tok} {old : Value} {fo : Obj} {h4 : H4} {t4 : T4} {p2 tp ep : Nat} {v4 : Value} {L : Lg} {N i : Nat} {GL : Gg} {G : Nat} 
    (h : ∀ (N i a' : Nat) (t1 t2 : Tok) (old : Value) (hh : H4) (tt : T4) (tp' : Tok) (v4' : Value) (ep' : Nat) (l : List Value) (pp q : Pos), Mn ((U1 P).V A R) (outY f g gK a' (.int (Int.ofNat k) t1) (.str ⟨#[92, c]⟩ t2) (own f M g x tk (k + 1) a b old (frB x tk true hh tt k tp' v4' ep')) L N i (sus (gAst P f M) l pp q) GL G)) : Mn ((U1 P).V A R) (ownSt P ((U1 P).V A R) f M g p gK x tk k c a b (frB x tk true h4 t4 p2 tp v4 ep) L N i GL G) := by
  obtain ⟨w₀, b1, b2, b3, h₀, d, t₀, os, ok⟩ := P
  cases b1
  all_goals
    refine run_seg O.good [] 83 [3, 3, 1, 1, 1, 0, 1, 0, 1, 1, 0, 1, 0, 1, 1, 2, 1, 1, 1, 0, 1, 0, 1, 1, 2, 1, 1, 1, 0, 1, 0, 1, 1, 2, 1, 1, 1, 8, 8, 8, 8, 8, 8, 8, 0, 0, 0] _ (fun ps => ⟨?_, ?_⟩) fun ps => ?_
    · kernel_rfl
    · kernel_rfl
    generalize hs : (run _ _ 83 _ _ ps).st _ = s
    refine Mn_pick (ps := [0, 5, 6, 7, 8]) (m := 9) (gs := [0]) (gm := 1) ?_ ?_ ?_
    · kernel_rfl
    · kernel_rfl
    refine Mn_eq (h s.N s.i (adAt s 0) (tokOf (fldAt (obAt s 0) 0)) (tokOf (fldAt (obAt s 0) 1)) (fldAt (obAt s 6) 5) (hs4 (obAt s 8)) (ts4 (obAt s 8)) (tokOf (entAt (obAt s 8) 1).val) (entAt (obAt s 8) 3).val (epOf (obAt s 8)) (susL s) (susP s) (susQ s)) ?_
    subst hs
    kernel_rfl
theorem g_bs3 (P : Par K1) (O : Lvl A lv) {f M g : Nat} {p : Pos} {x : Str} {tk : Tok} {k c : Nat} {a b : Tok} {old : Value} {fo : Obj} {h4 : H4} {t4 : T4} {p2 tp ep : Nat} {v4 : Value} {L : Lg} {N i : Nat} {GL : Gg} {G : Nat} (hc : ((⟨#[c]⟩ : Str).cps.toList == (⟨#[92]⟩ : Str).cps.toList) = true)
    (h : ∀ (N i : Nat) (old : Value) (hh : H4) (tt : T4) (tp' : Tok) (v4' : Value) (ep' : Nat), Mn ((U1 P).V A R) (headSt P f M g p gK (own f M g x tk (k + 1) a b old (frB x tk true hh tt k tp' v4' ep')) L N i GL G)) : Mn ((U1 P).V A R) (ownSt P ((U1 P).V A R) f M g p gK x tk k c a b (frA x tk h4 t4 p2 tp ep) L N i GL G) := by
  obtain ⟨w₀, b1, b2, b3, h₀, d, t₀, os, ok⟩ := P
  cases b1
  all_goals
    refine run_seg O.good [spEq ⟨#[c]⟩ ⟨#[92]⟩ true hc] 83 [3, 3, 1, 1, 1, 0, 1, 0, 1, 1, 0, 1, 0, 1, 1, 2, 1, 1, 1, 0, 1, 0, 1, 1, 2, 1, 1, 1, 0, 1, 0, 1, 1, 2, 1, 1, 1, 8, 8, 8, 8, 8, 8, 4, 8, 8, 0] _ (fun ps => ⟨?_, ?_⟩) fun ps => ?_
    · kernel_rfl
    · kernel_rfl
    generalize hs : (run _ _ 83 _ _ ps).st _ = s
    refine Mn_pick (ps := [4, 5, 6, 7]) (m := 8) (gs := [0]) (gm := 1) ?_ ?_ ?_
    · kernel_rfl
    · kernel_rfl
    refine Mn_eq (h s.N s.i (fldAt (obAt s 5) 5) (hs4 (obAt s 7)) (ts4 (obAt s 7)) (tokOf (entAt (obAt s 7) 1).val) (entAt (obAt s 7) 3).val (epOf (obAt s 7))) ?_
    subst hs
    kernel_rfl
theorem g_bs4 (P : Par K1) (O : Lvl A lv) {f M g : Nat} {p : Pos} {x : Str} {tk : Tok} {k c : Nat} {a b : Tok} {old : Value} {fo : Obj} {h4 : H4} {t4 : T4} {p2 tp ep : Nat} {v4 : Value} {L : Lg} {N i : Nat} {GL : Gg} {G : Nat} (hc : ((⟨#[c]⟩ : Str).cps.toList == (⟨#[92]⟩ : Str).cps.toList) = true)
    (h : ∀ (N i : Nat) (old : Value) (hh : H4) (tt : T4) (tp' : Tok) (v4' : Value) (ep' : Nat), Mn ((U1 P).V A R) (headSt P f M g p gK (own f M g x tk (k + 1) a b old (frB x tk true hh tt k tp' v4' ep')) L N i GL G)) : Mn ((U1 P).V A R) (ownSt P ((U1 P).V A R) f M g p gK x tk k c a b (frB x tk false h4 t4 p2 tp v4 ep) L N i GL G) := by
  obtain ⟨w₀, b1, b2, b3, h₀, d, t₀, os, ok⟩ := P
  cases b1
  all_goals
    refine run_seg O.good [spEq ⟨#[c]⟩ ⟨#[92]⟩ true hc] 83 [3, 3, 1, 1, 1, 0, 1, 0, 1, 1, 0, 1, 0, 1, 1, 2, 1, 1, 1, 0, 1, 0, 1, 1, 2, 1, 1, 1, 0, 1, 0, 1, 1, 2, 1, 1, 1, 8, 8, 8, 8, 8, 8, 4, 8, 8, 0] _ (fun ps => ⟨?_, ?_⟩) fun ps => ?_
    · kernel_rfl
    · kernel_rfl
    generalize hs : (run _ _ 83 _ _ ps).st _ = s
    refine Mn_pick (ps := [4, 5, 6, 7]) (m := 8) (gs := [0]) (gm := 1) ?_ ?_ ?_
    · kernel_rfl
    · kernel_rfl
    refine Mn_eq (h s.N s.i (fldAt (obAt s 5) 5) (hs4 (obAt s 7)) (ts4 (obAt s 7)) (tokOf (entAt (obAt s 7) 1).val) (entAt (obAt s 7) 3).val (epOf (obAt s 7))) ?_
    subst hs
    kernel_rfl
theorem g_end3 (P : Par K1) (O : Lvl A lv) {f M g : Nat} {p : Pos} {x : Str} {tk : Tok} {k c : Nat} {a b : Tok} {old : Value} {fo : Obj} {h4 : H4} {t4 : T4} {p2 tp ep : Nat} {v4 : Value} {L : Lg} {N i : Nat} {GL : Gg} {G : Nat} (hk : x.cps[k]? = none)
    (h : ∀ (N i e tu : Nat), Mn ((U1 P).V A R) (outE f e tu L N i GL G)) : Mn ((U1 P).V A R) (headSt P f M g p gK (own f M g x tk k a b old (frA x tk h4 t4 p2 tp ep)) L N i GL G) := by
  obtain ⟨w₀, b1, b2, b3, h₀, d, t₀, os, ok⟩ := P
  cases b1
  all_goals
    refine run_seg O.good [spEnd x k hk] 20 [2, 0, 2, 0, 2, 3, 4, 2, 1, 0, 6, 0] _ (fun ps => ⟨?_, ?_⟩) fun ps => ?_
    · kernel_rfl
    · kernel_rfl
    generalize hs : (run _ _ 20 _ _ ps).st _ = s
    refine Mn_pick (ps := [0]) (m := 8) (gs := []) (gm := 1) ?_ ?_ ?_
    · kernel_rfl
    · kernel_rfl
    refine Mn_eq (h s.N s.i (adAt s 0) (adAt s 1)) ?_
    subst hs
    kernel_rfl
theorem g_end4 (P : Par K1) (O : Lvl A lv) {f M g : Nat} {p : Pos} {x : Str} {tk : Tok} {k c : Nat} {a b : Tok} {old : Value} {fo : Obj} {h4 : H4} {t4 : T4} {p2 tp ep : Nat} {v4 : Value} {L : Lg} {N i : Nat} {GL : Gg} {G : Nat} (hk : x.cps[k]? = none)
    (h : ∀ (N i e tu : Nat), Mn ((U1 P).V A R) (outE f e tu L N i GL G)) : Mn ((U1 P).V A R) (headSt P f M g p gK (own f M g x tk k a b old (frB x tk false h4 t4 p2 tp v4 ep)) L N i GL G) := by
  obtain ⟨w₀, b1, b2, b3, h₀, d, t₀, os, ok⟩ := P
  cases b1
  all_goals
    refine run_seg O.good [spEnd x k hk] 20 [2, 0, 2, 0, 2, 3, 4, 2, 1, 0, 6, 0] _ (fun ps => ⟨?_, ?_⟩) fun ps => ?_
    · kernel_rfl
    · kernel_rfl
    generalize hs : (run _ _ 20 _ _ ps).st _ = s
    refine Mn_pick (ps := [0]) (m := 8) (gs := []) (gm := 1) ?_ ?_ ?_
    · kernel_rfl
    · kernel_rfl
    refine Mn_eq (h s.N s.i (adAt s 0) (adAt s 1)) ?_
    subst hs
    kernel_rfl
theorem g_endC (P : Par K1) (O : Lvl A lv) {f M g : Nat} {p : Pos} {x : Str} {tk : Tok} {k c : Nat} {a b : Tok} {old : Value} {fo : Obj} {h4 : H4} {t4 : T4} {p2 tp ep : Nat} {v4 : Value} {L : Lg} {N i : Nat} {GL : Gg} {G : Nat} (hk : x.cps[k]? = none)
    (h : ∀ (N i a' : Nat) (t1 t2 : Tok) (l : List Value) (pp q : Pos), Mn ((U1 P).V A R) (outY f g gK a' (.int (Int.ofNat p2) t1) (.str ⟨#[92]⟩ t2) [(f+1, genO g a b)] L N i (sus (gCst P f M) l pp q) GL G)) : Mn ((U1 P).V A R) (headSt P f M g p gK (own f M g x tk k a b old (frB x tk true h4 t4 p2 tp v4 ep)) L N i GL G) := by
  obtain ⟨w₀, b1, b2, b3, h₀, d, t₀, os, ok⟩ := P
  cases b1
  all_goals
    refine run_seg O.good [spEnd x k hk] 24 [2, 0, 2, 0, 2, 3, 4, 2, 1, 0, 6, 6, 0] _ (fun ps => ⟨?_, ?_⟩) fun ps => ?_
    · kernel_rfl
    · kernel_rfl
    generalize hs : (run _ _ 24 _ _ ps).st _ = s
    refine Mn_pick (ps := [0, 3]) (m := 7) (gs := [0]) (gm := 1) ?_ ?_ ?_
    · kernel_rfl
    · kernel_rfl
    refine Mn_eq (h s.N s.i (adAt s 0) (tokOf (fldAt (obAt s 0) 0)) (tokOf (fldAt (obAt s 0) 1)) (susL s) (susP s) (susQ s)) ?_
    subst hs
    kernel_rfl
theorem g_fresh (P : Par K1) (O : Lvl A lv) {f M g : Nat} {x : Str} {tk : Tok} {a b : Tok} {h1 : Int} {t1 ep : Nat} {L : Lg} {i : Nat} {GL : Gg} {G : Nat} (hx : x.cps.all (· < 128) = true)
    (h : ∀ (N i : Nat) (hh : H4) (tt : T4) (tp' : Tok) (ep' : Nat) (p : Pos), Mn ((U1 P).V A R) (headSt P f M g p gK (own f M g x tk 0 a b .none (frA x tk hh tt 0 tp' ep')) L N i GL G)) : Mn ((U1 P).V A R) (at_ (nextC (f+1)) (denZ (nextC (f+1))) ⟨[(f+1, genO g a b), (f, fr1 h1 t1 (.str x tk) ep)] ++ L, M, i, (g, .fresh (gCode P f)) :: GL, G⟩) := by
  obtain ⟨w₀, b1, b2, b3, h₀, d, t₀, os, ok⟩ := P
  cases b1
  all_goals
    refine run_seg O.good [spEnum x hx] 53 [1, 2, 1, 0, 0, 0, 2, 2, 2, 2, 0, 0, 2, 0, 0, 4, 1, 1, 0, 1, 0, 1, 1, 1, 0, 1, 0, 1, 0] _ (fun ps => ⟨?_, ?_⟩) fun ps => ?_
    · kernel_rfl
    · kernel_rfl
    generalize hs : (run _ _ 53 _ _ ps).st _ = s
    refine Mn_pick (ps := [2, 0, 1, 3]) (m := 4) (gs := [0]) (gm := 1) ?_ ?_ ?_
    · kernel_rfl
    · kernel_rfl
    refine Mn_eq (h s.N s.i (hs4 (obAt s 3)) (ts4 (obAt s 3)) (tokOf (entAt (obAt s 3) 1).val) (epOf (obAt s 3)) (mdP s)) ?_
    subst hs
    kernel_rfl
theorem g_resB (P : Par K1) (O : Lvl A lv) {f M g : Nat} {p : Pos} {x : Str} {tk : Tok} {k c : Nat} {a b : Tok} {old : Value} {fo : Obj} {h4 : H4} {t4 : T4} {p2 tp ep : Nat} {v4 : Value} {L : Lg} {N i : Nat} {GL : Gg} {G : Nat} {l : List Value} {pp q : Pos}
    (h : ∀ (N i : Nat) (hh : H4) (tt : T4) (tp' : Tok) (v4' : Value) (ep' : Nat), Mn ((U1 P).V A R) (headSt P f M g q gK (own f M g x tk k a b old (frB x tk false hh tt p2 tp' v4' ep')) L N i GL G)) : Mn ((U1 P).V A R) (at_ (nextC (f+1)) (denZ (nextC (f+1))) ⟨own f M g x tk k a b old (frB x tk false h4 t4 p2 tp v4 ep) ++ L, N, i, (g, sus (gBst P f M) l pp q) :: GL, G⟩) := by
  obtain ⟨w₀, b1, b2, b3, h₀, d, t₀, os, ok⟩ := P
  cases b1
  all_goals
    refine run_seg O.good [] 7 [1, 2, 1, 0, 0, 0, 0] _ (fun ps => ⟨?_, ?_⟩) fun ps => ?_
    · kernel_rfl
    · kernel_rfl
    generalize hs : (run _ _ 7 _ _ ps).st _ = s
    refine Mn_pick (ps := [0, 1, 2, 3]) (m := 4) (gs := [0]) (gm := 1) ?_ ?_ ?_
    · kernel_rfl
    · kernel_rfl
    refine Mn_eq (h s.N s.i (hs4 (obAt s 3)) (ts4 (obAt s 3)) (tokOf (entAt (obAt s 3) 1).val) (entAt (obAt s 3) 3).val (epOf (obAt s 3))) ?_
    subst hs
    kernel_rfl
theorem g_resA (P : Par K1) (O : Lvl A lv) {f M g : Nat} {p : Pos} {x : Str} {tk : Tok} {k c : Nat} {a b : Tok} {old : Value} {fo : Obj} {h4 : H4} {t4 : T4} {p2 tp ep : Nat} {v4 : Value} {L : Lg} {N i : Nat} {GL : Gg} {G : Nat} {l : List Value} {pp q : Pos}
    (h : ∀ (N i : Nat) (hh : H4) (tt : T4) (tp' : Tok) (v4' : Value) (ep' : Nat), Mn ((U1 P).V A R) (headSt P f M g q gK (own f M g x tk k a b old (frB x tk false hh tt p2 tp' v4' ep')) L N i GL G)) : Mn ((U1 P).V A R) (at_ (nextC (f+1)) (denZ (nextC (f+1))) ⟨own f M g x tk k a b old (frB x tk true h4 t4 p2 tp v4 ep) ++ L, N, i, (g, sus (gAst P f M) l pp q) :: GL, G⟩) := by
  obtain ⟨w₀, b1, b2, b3, h₀, d, t₀, os, ok⟩ := P
  cases b1
  all_goals
    refine run_seg O.good [] 15 [1, 2, 1, 0, 0, 0, 4, 4, 0] _ (fun ps => ⟨?_, ?_⟩) fun ps => ?_
    · kernel_rfl
    · kernel_rfl
    generalize hs : (run _ _ 15 _ _ ps).st _ = s
    refine Mn_pick (ps := [0, 1, 2, 3]) (m := 4) (gs := [0]) (gm := 1) ?_ ?_ ?_
    · kernel_rfl
    · kernel_rfl
    refine Mn_eq (h s.N s.i (hs4 (obAt s 3)) (ts4 (obAt s 3)) (tokOf (entAt (obAt s 3) 1).val) (entAt (obAt s 3) 3).val (epOf (obAt s 3))) ?_
    subst hs
    kernel_rfl
theorem g_resC (P : Par K1) (O : Lvl A lv) {f M g : Nat} {p : Pos} {x : Str} {tk : Tok} {k c : Nat} {a b : Tok} {old : Value} {fo : Obj} {h4 : H4} {t4 : T4} {p2 tp ep : Nat} {v4 : Value} {L : Lg} {N i : Nat} {GL : Gg} {G : Nat} {l : List Value} {pp q : Pos}
    (h : ∀ (N i e tu : Nat), Mn ((U1 P).V A R) (outE f e tu L N i GL G)) : Mn ((U1 P).V A R) (at_ (nextC (f+1)) (denZ (nextC (f+1))) ⟨[(f+1, genO g a b)] ++ L, N, i, (g, sus (gCst P f M) l pp q) :: GL, G⟩) := by
  obtain ⟨w₀, b1, b2, b3, h₀, d, t₀, os, ok⟩ := P
  cases b1
  all_goals
    refine run_seg O.good [] 10 [1, 2, 1, 0, 0, 0, 0] _ (fun ps => ⟨?_, ?_⟩) fun ps => ?_
    · kernel_rfl
    · kernel_rfl
    generalize hs : (run _ _ 10 _ _ ps).st _ = s
    refine Mn_pick (ps := [0]) (m := 3) (gs := []) (gm := 1) ?_ ?_ ?_
    · kernel_rfl
    · kernel_rfl
    refine Mn_eq (h s.N s.i (adAt s 0) (adAt s 1)) ?_
    subst hs
    kernel_rfl
end
end Mine
end
-- part G4
section
set_option maxRecDepth 100000
set_option Elab.async false
namespace Mine
open PySem PySem.Spec PySem.Calls PyProof.Rows PySem.W PySem.W.X
/-- what _iter_escaped_chars yields, from place k on -/
noncomputable def pcs : List Nat → Nat → List (Nat × Str)
  | [], _ => []
  | [c], k => [(k, ⟨#[c]⟩)]
  | c :: d :: l, k => if c = 92 then (k + 1, ⟨#[92, d]⟩) :: pcs l (k + 2) else (k, ⟨#[c]⟩) :: pcs (d :: l) (k + 1)
/-- a generator that yields these pairs and then ends -/
noncomputable def Feeds (U : Bs) (lv ga g : Nat) (ta tb : Tok) : List (Nat × Str) → Lg → GenState → Prop
  | [], own, gs => ∀ L N i GL G, Cn U lv (nextC ga) ⟨(ga, genO g ta tb) :: (own ++ L), N, i, (g, gs) :: GL, G⟩ fun r s' => ∃ e tu N' i', r = .error (.ref e) ∧ s' = ⟨(e, stopO tu) :: L, N', i', GL, G⟩
  | p :: ps, own, gs => ∀ L N i GL G, Cn U lv (nextC ga) ⟨(ga, genO g ta tb) :: (own ++ L), N, i, (g, gs) :: GL, G⟩ fun r s' => ∃ a t1 t2 own' gs' N' i', r = .ok (.ret (.ref a)) ∧
      s' = ⟨(a, tup2 (.int (Int.ofNat p.1) t1) (.str p.2 t2)) :: (ga, genO g ta tb) :: (own' ++ L), N', i', (g, gs') :: GL, G⟩ ∧ Feeds U lv ga g ta tb ps own' gs'
theorem drop_cons {x : Str} {k c : Nat} {l : List Nat} (h : x.cps.toList.drop k = c :: l) : x.cps[k]? = some c ∧ x.cps.toList.drop (k + 1) = l := by
  constructor
  · have e : (x.cps.toList.drop k)[0]? = some c := by rw [h]; rfl
    rw [List.getElem?_drop, Nat.add_zero, Array.getElem?_toList] at e
    exact e
  · have e : (x.cps.toList.drop k).drop 1 = l := by rw [h]; rfl
    rw [List.drop_drop] at e
    exact e
theorem drop_nil {x : Str} {k : Nat} (h : x.cps.toList.drop k = []) : x.cps[k]? = none := by
  have e : (x.cps.toList.drop k)[0]? = none := by rw [h]; rfl
  rw [List.getElem?_drop, Nat.add_zero, Array.getElem?_toList] at e
  exact e
theorem one_ne {c : Nat} (h : c ≠ 92) : ((⟨#[c]⟩ : Str).cps.toList == (⟨#[92]⟩ : Str).cps.toList) = false := by
  simp [h]
theorem one_eq : ((⟨#[92]⟩ : Str).cps.toList == (⟨#[92]⟩ : Str).cps.toList) = true := by decide
noncomputable def GenAt (P : Par K1) (f M : Nat) (x : Str) (tk : Tok) (k : Nat) (ow : Lg) (gs : GenState) : Prop :=
  ∃ old hh tt p2 tp v4 ep l pp q, (ow = ownR f M x tk k old (frB x tk false hh tt p2 tp v4 ep) ∧ gs = sus (gBst P f M) l pp q) ∨ (ow = ownR f M x tk k old (frB x tk true hh tt p2 tp v4 ep) ∧ gs = sus (gAst P f M) l pp q)
section
variable {A : Around} {R : Result → Shared → Prop}
theorem done_Y {U : Bs} {f g a : Nat} {v1 v2 : Value} {own L : Lg} {N i : Nat} {gs : GenState} {GL : Gg} {G : Nat} {P : Result → Sh → Prop} (hE : ∀ r s', P r s' → Ends (U.V A R) r s')
    (h : P (.ok (.ret (.ref a))) ⟨(a, tup2 v1 v2) :: (own ++ L), N, i, (g, gs) :: GL, G⟩) : Mn (U.V A R) (outY f g gK a v1 v2 own L N i gs GL G) :=
  Mn_done (r := .ok (.ret (.ref a))) (sh := ⟨(a, tup2 v1 v2) :: (own ++ L), N, i, (g, gs) :: GL, G⟩) ⟨⟨rfl, rfl, rfl⟩, rfl, rfl⟩ (hE _ _ h)
theorem done_E {U : Bs} {f e tu : Nat} {L : Lg} {N i : Nat} {GL : Gg} {G : Nat} {P : Result → Sh → Prop} (hE : ∀ r s', P r s' → Ends (U.V A R) r s')
    (h : P (.error (.ref e)) ⟨(e, stopO tu) :: L, N, i, GL, G⟩) : Mn (U.V A R) (outE f e tu L N i GL G) :=
  Mn_done (r := .error (.ref e)) (sh := ⟨(e, stopO tu) :: L, N, i, GL, G⟩) ⟨⟨rfl, rfl, rfl⟩, rfl, rfl⟩ (hE _ _ h)
theorem g_res (P : Par K1) (O : Lvl A 1) {f M g : Nat} {x : Str} {tk : Tok} {k : Nat} {a b : Tok} {ow : Lg} {gs : GenState} (hg : GenAt P f M x tk k ow gs) {L : Lg} {N i : Nat} {GL : Gg} {G : Nat}
    (h : ∀ (q : Pos) (N i : Nat) (old : Value) (hh : H4) (tt : T4) (p2 tp : Nat) (v4' : Value) (ep' : Nat), Mn ((U1 P).V A R) (headSt P f M g q gK (own f M g x tk k a b old (frB x tk false hh tt p2 tp v4' ep')) L N i GL G)) :
    Mn ((U1 P).V A R) (at_ (nextC (f+1)) (denZ (nextC (f+1))) ⟨(f+1, genO g a b) :: (ow ++ L), N, i, (g, gs) :: GL, G⟩) := by
  obtain ⟨old, hh, tt, p2, tp, v4, ep, l, pp, q, ⟨rfl, rfl⟩ | ⟨rfl, rfl⟩⟩ := hg
  · exact g_resB (p := default) (c := 0) (fo := default) P O fun N i hh tt tp' v4' ep' => h q N i old hh tt p2 tp' v4' ep'
  · exact g_resA (p := default) (c := 0) (fo := default) P O fun N i hh tt tp' v4' ep' => h q N i old hh tt p2 tp' v4' ep'
end
theorem feeds_C (P : Par K1) {f M g : Nat} {a b : Tok} {l : List Value} {pp q : Pos} : Feeds (U1 P) 1 (f+1) g a b [] [] (sus (gCst P f M) l pp q) := by
  intro L N i GL G
  refine Cn.of_den fun A R O hE => ?_
  refine g_resC (p := default) (x := ⟨#[]⟩) (tk := 0) (k := 0) (c := 0) (old := .none) (fo := default) (h4 := (0,0,0,0)) (t4 := (0,0,0,0)) (p2 := 0) (tp := 0) (ep := 0) (v4 := .none) P O fun N i e tu => ?_
  exact done_E hE ⟨e, tu, N, i, rfl, rfl⟩
theorem feeds_at (P : Par K1) {f M g : Nat} {x : Str} {tk : Tok} {a b : Tok} : ∀ (n : Nat) (l : List Nat) (k : Nat), l.length ≤ n → x.cps.toList.drop k = l → ∀ ow gs, GenAt P f M x tk k ow gs → Feeds (U1 P) 1 (f+1) g a b (pcs l k) ow gs := by
  intro n
  induction n with
  | zero =>
    intro l k hl hd ow gs hg
    have : l = [] := List.eq_nil_of_length_eq_zero (Nat.le_zero.mp hl)
    subst this
    intro L N i GL G
    refine Cn.of_den fun A R O hE => ?_
    refine g_res P O hg fun q N i old hh tt p2 tp v4 ep => ?_
    refine g_end4 (c := 0) (fo := default) P O (drop_nil hd) fun N i e tu => ?_
    exact done_E hE ⟨e, tu, N, i, rfl, rfl⟩
  | succ n ih =>
    intro l k hl hd ow gs hg
    match l, hl, hd with
    | [], _, hd =>
      intro L N i GL G
      refine Cn.of_den fun A R O hE => ?_
      refine g_res P O hg fun q N i old hh tt p2 tp v4 ep => ?_
      refine g_end4 (c := 0) (fo := default) P O (drop_nil hd) fun N i e tu => ?_
      exact done_E hE ⟨e, tu, N, i, rfl, rfl⟩
    | [c], _, hd =>
      obtain ⟨hc, hd'⟩ := drop_cons hd
      intro L N i GL G
      refine Cn.of_den fun A R O hE => ?_
      refine g_res P O hg fun q N i old hh tt p2 tp v4 ep => ?_
      refine g_item (c := c) (h4 := hh) (t4 := tt) (p2 := p2) (tp := tp) (ep := ep) (v4 := v4) P O hc ?_
      by_cases h92 : c = 92
      · subst h92
        refine g_bs4 (old := old) (fo := default) P O one_eq fun N i old hh tt tp' v4' ep' => ?_
        refine g_endC (c := 0) (fo := default) P O (drop_nil hd') fun N i a' t1 t2 l pp q => ?_
        exact done_Y hE ⟨a', t1, t2, [], _, N, i, rfl, rfl, feeds_C P⟩
      · refine g_plain4 (old := old) (fo := default) P O (one_ne h92) fun N i a' t1 t2 old hh tt tp' v4' ep' l pp q => ?_
        exact done_Y hE ⟨a', t1, t2, ownR f _ x tk _ old _, _, N, i, rfl, rfl, ih [] (k+1) (Nat.zero_le _) hd' _ _ ⟨_, _, _, _, _, _, _, _, _, _, .inl ⟨rfl, rfl⟩⟩⟩
    | c :: d :: l, hl, hd =>
      obtain ⟨hc, hd'⟩ := drop_cons hd
      obtain ⟨hdd, hd''⟩ := drop_cons hd'
      by_cases h92 : c = 92
      · subst h92
        have e : pcs (92 :: d :: l) k = (k + 1, ⟨#[92, d]⟩) :: pcs l (k + 2) := by simp [pcs]
        rw [e]
        intro L N i GL G
        refine Cn.of_den fun A R O hE => ?_
        refine g_res P O hg fun q N i old hh tt p2 tp v4 ep => ?_
        refine g_item (c := 92) (h4 := hh) (t4 := tt) (p2 := p2) (tp := tp) (ep := ep) (v4 := v4) P O hc ?_
        refine g_bs4 (old := old) (fo := default) P O one_eq fun N i old hh tt tp' v4' ep' => ?_
        refine g_item (c := d) (h4 := hh) (t4 := tt) (p2 := p2) (tp := tp) (ep := ep) (v4 := v4) P O hdd ?_
        refine g_esc (old := old) (fo := default) P O fun N i a' t1 t2 old hh tt tp' v4' ep' l' pp q => ?_
        exact done_Y hE ⟨a', t1, t2, ownR f _ x tk _ old _, _, N, i, rfl, rfl, ih l (k+2) (by simp only [List.length_cons] at hl; omega) hd'' _ _ ⟨_, _, _, _, _, _, _, _, _, _, .inr ⟨rfl, rfl⟩⟩⟩
      · have e : pcs (c :: d :: l) k = (k, ⟨#[c]⟩) :: pcs (d :: l) (k + 1) := by simp [pcs, h92]
        rw [e]
        intro L N i GL G
        refine Cn.of_den fun A R O hE => ?_
        refine g_res P O hg fun q N i old hh tt p2 tp v4 ep => ?_
        refine g_item (c := c) (h4 := hh) (t4 := tt) (p2 := p2) (tp := tp) (ep := ep) (v4 := v4) P O hc ?_
        refine g_plain4 (old := old) (fo := default) P O (one_ne h92) fun N i a' t1 t2 old hh tt tp' v4' ep' l' pp q => ?_
        exact done_Y hE ⟨a', t1, t2, ownR f _ x tk _ old _, _, N, i, rfl, rfl, ih (d :: l) (k+1) (by simp only [List.length_cons] at hl ⊢; omega) hd' _ _ ⟨_, _, _, _, _, _, _, _, _, _, .inl ⟨rfl, rfl⟩⟩⟩
theorem feeds_fresh (P : Par K1) {f g : Nat} {x : Str} {tk : Tok} (hx : x.cps.all (· < 128) = true) {a b : Tok} {h1 : Int} {t1 ep : Nat} :
    Feeds (U1 P) 1 (f+1) g a b (pcs x.cps.toList 0) [(f, fr1 h1 t1 (.str x tk) ep)] (.fresh (gCode P f)) := by
  have hd0 : x.cps.toList.drop 0 = x.cps.toList := rfl
  match hl : x.cps.toList with
  | [] =>
    intro L N i GL G
    refine Cn.of_den fun A R O hE => ?_
    refine g_fresh P O hx fun N' i hh tt tp ep p => ?_
    refine g_end3 (c := 0) (fo := default) (v4 := .none) P O (drop_nil (hd0.trans hl)) fun N i e tu => ?_
    exact done_E hE ⟨e, tu, N, i, rfl, rfl⟩
  | [c] =>
    obtain ⟨hc, hd'⟩ := drop_cons (hd0.trans hl)
    intro L M i GL G
    refine Cn.of_den fun A R O hE => ?_
    refine g_fresh P O hx fun N' i hh tt tp ep p => ?_
    refine g_item (c := c) (h4 := hh) (t4 := tt) (p2 := 0) (tp := tp) (ep := ep) (v4 := .none) P O hc ?_
    by_cases h92 : c = 92
    · subst h92
      refine g_bs3 (old := .none) (fo := default) (v4 := .none) P O one_eq fun N i old hh tt tp' v4' ep' => ?_
      refine g_endC (c := 0) (fo := default) P O (drop_nil hd') fun N i a' t1 t2 l pp q => ?_
      exact done_Y hE ⟨a', t1, t2, [], _, N, i, rfl, rfl, feeds_C P⟩
    · refine g_plain3 (old := .none) (fo := default) (v4 := .none) P O (one_ne h92) fun N i a' t1 t2 old hh tt tp' v4' ep' l pp q => ?_
      exact done_Y hE ⟨a', t1, t2, ownR f _ x tk _ old _, _, N, i, rfl, rfl, feeds_at P 0 [] 1 (Nat.zero_le _) hd' _ _ ⟨_, _, _, _, _, _, _, _, _, _, .inl ⟨rfl, rfl⟩⟩⟩
  | c :: d :: l =>
    obtain ⟨hc, hd'⟩ := drop_cons (hd0.trans hl)
    obtain ⟨hdd, hd''⟩ := drop_cons hd'
    by_cases h92 : c = 92
    · subst h92
      have e : pcs (92 :: d :: l) 0 = (0 + 1, ⟨#[92, d]⟩) :: pcs l (0 + 2) := by simp [pcs]
      rw [e]
      intro L M i GL G
      refine Cn.of_den fun A R O hE => ?_
      refine g_fresh P O hx fun N' i hh tt tp ep p => ?_
      refine g_item (c := 92) (h4 := hh) (t4 := tt) (p2 := 0) (tp := tp) (ep := ep) (v4 := .none) P O hc ?_
      refine g_bs3 (old := .none) (fo := default) (v4 := .none) P O one_eq fun N i old hh tt tp' v4' ep' => ?_
      refine g_item (c := d) (h4 := hh) (t4 := tt) (p2 := 0) (tp := tp) (ep := ep) (v4 := .none) P O hdd ?_
      refine g_esc (old := old) (fo := default) P O fun N i a' t1 t2 old hh tt tp' v4' ep' l' pp q => ?_
      exact done_Y hE ⟨a', t1, t2, ownR f _ x tk _ old _, _, N, i, rfl, rfl, feeds_at P l.length l 2 (Nat.le_refl _) hd'' _ _ ⟨_, _, _, _, _, _, _, _, _, _, .inr ⟨rfl, rfl⟩⟩⟩
    · have e : pcs (c :: d :: l) 0 = (0, ⟨#[c]⟩) :: pcs (d :: l) (0 + 1) := by simp [pcs, h92]
      rw [e]
      intro L M i GL G
      refine Cn.of_den fun A R O hE => ?_
      refine g_fresh P O hx fun N' i hh tt tp ep p => ?_
      refine g_item (c := c) (h4 := hh) (t4 := tt) (p2 := 0) (tp := tp) (ep := ep) (v4 := .none) P O hc ?_
      refine g_plain3 (old := .none) (fo := default) (v4 := .none) P O (one_ne h92) fun N i a' t1 t2 old hh tt tp' v4' ep' l' pp q => ?_
      exact done_Y hE ⟨a', t1, t2, ownR f _ x tk _ old _, _, N, i, rfl, rfl, feeds_at P (d :: l).length (d :: l) 1 (Nat.le_refl _) hd' _ _ ⟨_, _, _, _, _, _, _, _, _, _, .inl ⟨rfl, rfl⟩⟩⟩
end Mine
end
-- part G5
section
set_option maxRecDepth 100000
set_option Elab.async false
namespace Mine
open PySem PySem.Spec PySem.Calls PyProof.Rows PySem.W PySem.W.X
theorem Cn.perm {U : Bs} {lv : Nat} {c : Code} {L₁ L₂ : Lg} {N i : Nat} {GL : Gg} {G : Nat} {P P₂ : Result → Sh → Prop} (C : Cn U lv c ⟨L₁, N, i, GL, G⟩ P) (hp : L₁.Perm L₂)
    (h : ∀ r s', P r s' → ∃ L', s'.L.Perm L' ∧ P₂ r ⟨L', s'.N, s'.i, s'.GL, s'.G⟩) : Cn U lv c ⟨L₂, N, i, GL, G⟩ P₂ := by
  intro A R hp' gens O D DG hE
  refine C A R hp' gens O (D.perm hp) DG fun r s' hP => ?_
  obtain ⟨L', hL, h2⟩ := h r s' hP
  intro h' gens' D' DG'
  exact hE r _ h2 h' gens' (D'.perm hL.symm) DG'
theorem Ends.sub {V : XV} {r : Result} {L L' : Lg} {N i : Nat} {GL GL' : Gg} {G : Nat} (h : Ends V r ⟨L', N, i, GL', G⟩) (hL : L'.Sublist L) (hG : GL'.Sublist GL) : Ends V r ⟨L, N, i, GL, G⟩ :=
  fun hp gens D DG => h hp gens (D.sublist hL) (DG.sublist hG)
/-- the next pair, objects of one's own ahead of the generator's -/
theorem Feeds.next {U : Bs} {lv ga g : Nat} {ta tb : Tok} {p : Nat × Str} {ps : List (Nat × Str)} {own : Lg} {gs : GenState} (F : Feeds U lv ga g ta tb (p :: ps) own gs) (K L : Lg) (N i : Nat) (GL : Gg) (G : Nat) :
    Cn U lv (nextC ga) ⟨(ga, genO g ta tb) :: (K ++ (own ++ L)), N, i, (g, gs) :: GL, G⟩ fun r s' => ∃ a t1 t2 own' gs' N' i', r = .ok (.ret (.ref a)) ∧
      s' = ⟨(a, tup2 (.int (Int.ofNat p.1) t1) (.str p.2 t2)) :: (ga, genO g ta tb) :: (K ++ (own' ++ L)), N', i', (g, gs') :: GL, G⟩ ∧ Feeds U lv ga g ta tb ps own' gs' := by
  refine Cn.perm (F (K ++ L) N i GL G) (List.Perm.cons _ (List.perm_append_comm_assoc ..)) ?_
  rintro r s' ⟨a, t1, t2, own', gs', N', i', rfl, rfl, F'⟩
  exact ⟨_, List.Perm.cons _ (List.Perm.cons _ (List.perm_append_comm_assoc ..)), a, t1, t2, own', gs', N', i', rfl, rfl, F'⟩
theorem Feeds.stop {U : Bs} {lv ga g : Nat} {ta tb : Tok} {own : Lg} {gs : GenState} (F : Feeds U lv ga g ta tb [] own gs) (K L : Lg) (N i : Nat) (GL : Gg) (G : Nat) :
    Cn U lv (nextC ga) ⟨(ga, genO g ta tb) :: (K ++ (own ++ L)), N, i, (g, gs) :: GL, G⟩ fun r s' => ∃ e tu N' i', r = .error (.ref e) ∧ s' = ⟨(e, stopO tu) :: (K ++ L), N', i', GL, G⟩ := by
  refine Cn.perm (F (K ++ L) N i GL G) (List.Perm.cons _ (List.perm_append_comm_assoc ..)) ?_
  rintro r s' ⟨e, tu, N', i', rfl, rfl⟩
  exact ⟨_, List.Perm.refl _, e, tu, N', i', rfl, rfl⟩
end Mine
end
-- part L1strip
section
set_option maxRecDepth 100000
set_option maxHeartbeats 0
set_option Elab.async false
set_option linter.unusedVariables false
namespace Mine
open PySem PySem.Spec PySem.Calls PyProof.Rows PySem.W PySem.W.X

noncomputable abbrev kt (P : Par K1) : KT := (U1 P).kt
noncomputable def oV (q : Option Nat) (t : Tok) : Value := match q with
  | none => .none
  | some o => .int (Int.ofNat o) t
noncomputable abbrev isQ (y : Str) : Bool := y.cps.toList == (⟨#[34]⟩ : Str).cps.toList
noncomputable def sub (x : Str) (a b : Nat) : Str := pySlice x (some (Int.ofNat a)) (some (Int.ofNat b))
/-- what the loop of _strip_quoted_realnames makes of the pieces -/
noncomputable def stF (x : Str) : List (Nat × Str) → Nat → Option Nat → List Str → Nat × List Str
  | [], s, _, acc => (s, acc)
  | p :: ps, s, q, acc => if isQ p.2 then (match q with
      | none => stF x ps s (some p.1) acc
      | some o => stF x ps (p.1 + 1) none (if s = o then acc else acc ++ [sub x s o]))
    else stF x ps s q acc
noncomputable def Inc (n : Nat) : Nat → List (Nat × Str) → Prop
  | _, [] => True
  | k, p :: ps => k ≤ p.1 ∧ p.1 < n ∧ Inc n (p.1 + 1) ps
theorem stF_n {x y : Str} {k s : Nat} {ps : List (Nat × Str)} {q : Option Nat} {acc : List Str} (h : isQ y = false) : stF x ((k, y) :: ps) s q acc = stF x ps s q acc := by
  cases q <;> (rw [stF]; dsimp only; rw [h]; rfl)
theorem stF_p {x y : Str} {k s : Nat} {ps : List (Nat × Str)} {acc : List Str} (h : isQ y = true) : stF x ((k, y) :: ps) s none acc = stF x ps s (some k) acc := by
  rw [stF]; dsimp only; rw [h]; rfl
theorem stF_c {x y : Str} {k s o : Nat} {ps : List (Nat × Str)} {acc : List Str} (h : isQ y = true) : stF x ((k, y) :: ps) s (some o) acc = stF x ps (k + 1) none (if s = o then acc else acc ++ [sub x s o]) := by
  rw [stF]; dsimp only; rw [h]; rfl
theorem sub_len (x : Str) (s o : Nat) : (sub x s o).length ≤ x.length := pySlice_len ..
noncomputable def slK (x : Str) (lo hi : Option Int) (t f : Tok) : Tok := slT ((PySem.Builtin.Str.strSliceIndices lo hi 1 x.length).length == x.length) t f
noncomputable def stC (P : Par K1) (f ga : Nat) : Code := forC (stAt (bodyOf (kt P) 70) 4) ga (envAt (kt P) 70 f)
theorem pcs_inc : ∀ (l : List Nat) (k : Nat), Inc (k + l.length) k (pcs l k)
  | [], _ => trivial
  | [c], k => ⟨Nat.le_refl _, Nat.lt_succ_self _, trivial⟩
  | c :: d :: l, k => by
    unfold pcs
    split
    · refine ⟨Nat.le_succ _, by simp only [List.length_cons]; omega, ?_⟩
      have := pcs_inc l (k + 2)
      simp only [List.length_cons]
      rw [show k + (l.length + 1 + 1) = k + 2 + l.length from by omega]
      exact this
    · refine ⟨Nat.le_refl _, by simp only [List.length_cons]; omega, ?_⟩
      have := pcs_inc (d :: l) (k + 1)
      simp only [List.length_cons] at this ⊢
      rw [show k + (l.length + 1 + 1) = k + 1 + (l.length + 1) from by omega]
      exact this
theorem pcs_len : ∀ (l : List Nat) (k : Nat), (pcs l k).length ≤ l.length
  | [], _ => Nat.le_refl _
  | [c], k => Nat.le_refl _
  | c :: d :: l, k => by
    unfold pcs
    split
    · have := pcs_len l (k + 2)
      simp only [List.length_cons]; omega
    · have := pcs_len (d :: l) (k + 1)
      simp only [List.length_cons] at this ⊢; omega
section
variable {A : Around} {R : Result → Shared → Prop}
theorem st_loop (P : Par K1) (O : Lvl A 2) {f ga g rl : Nat} {ta tb : Tok} {x : Str} {tk : Tok} {L : Lg} {GL : Gg} {G : Nat} (hx : x.length ≤ 500) :
    ∀ (ps : List (Nat × Str)) (own : Lg) (gs : GenState) (k s : Nat) (q : Option Nat) (l : List (Str × Tok)) (items : List Value) (ts to : Tok) (tl : T2) (m : HT) (ep n N i : Nat), items = strValues l → Feeds (U1 P) 1 ga g ta tb ps own gs → Inc x.length k ps → s ≤ k → k ≤ x.length →
    (∀ o, q = some o → s ≤ o ∧ o < k ∧ o < x.length) → l.length + ps.length ≤ 500 → (∀ p ∈ l, p.1.length ≤ 500) →
    (∀ s' acc', stF x ps s q (l.map (·.1)) = (s', acc') → s' ≤ x.length → ∀ (q' : Option Nat) (l' : List (Str × Tok)) (items : List Value), items = strValues l' → l'.map (·.1) = acc' → l'.length ≤ 500 → (∀ p ∈ l', p.1.length ≤ 500) → ∀ (ts to : Tok) (tl : T2) (m : HT) (ep n N i : Nat),
      Ends ((U1 P).V A R) (.ok .next) ⟨(f, fr ([(⟨#[97, 100, 100, 114]⟩ : Str), (⟨#[115, 116, 97, 114, 116]⟩ : Str), (⟨#[111, 112, 101, 110, 95, 112, 111, 115]⟩ : Str), (⟨#[114, 101, 115, 117, 108, 116]⟩ : Str)] ++ tn2 (⟨#[112, 111, 115]⟩ : Str) (⟨#[99, 104]⟩ : Str) tl) ([.str x tk, .int (Int.ofNat s') ts, oV q' to, .ref rl] ++ tv2 tl) m ep) :: (rl, listO ⟨items⟩ n) :: L, N, i, GL, G⟩) →
    Mn ((U1 P).V A R) (hd (stC P f ga) ⟨(ga, genO g ta tb) :: (f, fr ([(⟨#[97, 100, 100, 114]⟩ : Str), (⟨#[115, 116, 97, 114, 116]⟩ : Str), (⟨#[111, 112, 101, 110, 95, 112, 111, 115]⟩ : Str), (⟨#[114, 101, 115, 117, 108, 116]⟩ : Str)] ++ tn2 (⟨#[112, 111, 115]⟩ : Str) (⟨#[99, 104]⟩ : Str) tl) ([.str x tk, .int (Int.ofNat s) ts, oV q to, .ref rl] ++ tv2 tl) m ep) :: (rl, listO ⟨items⟩ n) :: (own ++ L), N, i, (g, gs) :: GL, G⟩) := by
  intro ps
  induction ps with
  | nil =>
    intro own gs k s q l items ts to tl m ep n N i hil F hi hs hk hq hl hp hE
    have hE := hE s _ rfl (by omega) q l items hil rfl (by simpa using hl) hp ts to tl m ep n
    rcases tl with _ | ⟨v3, v4⟩
    all_goals
      rcases q with _ | o
      all_goals
        refine sg_call O [] [.go 2 [1]] [0, 1, 2] 3 [0] 1 (fun z1 => F.stop [(f, obAt z1 1), (rl, obAt z1 2)] L z1.N z1.i GL G) (by omega) (fun pz => ?_) (fun pz => ?_)
        · kernel_rfl
        intro z1
        rintro r sh' ⟨e, tu, N', i', rfl, rfl⟩
        refine sg_fit O.good [] [.go 2 [1, 0]] [1, 2] 3 [] 0 _ (fun pz => ?_) (fun z => Mn_fin (c := z.c) (r := .ok .next) (sh := ⟨(f, _) :: (rl, listO ⟨items⟩ n) :: L, z.N, z.i, GL, G⟩) (hE z.N z.i))
        kernel_rfl
  | cons p ps ih =>
    obtain ⟨kp, y⟩ := p
    intro own gs k s q l items ts to tl m ep n N i hil F hi hs hk hq hl hp hE
    obtain ⟨i1, i2, i3⟩ := hi
    dsimp only at i1 i2 i3
    simp only [List.length_cons] at hl
    rcases tl with _ | ⟨v3, v4⟩
    all_goals
      rcases q with _ | o
      · refine sg_call O [] [.go 2 [1]] [0, 1, 2] 3 [0] 1 (fun z1 => F.next [(f, obAt z1 1), (rl, obAt z1 2)] L z1.N z1.i GL G) (by omega) (fun pz => ?_) (fun pz => ?_)
        · kernel_rfl
        intro z1
        rintro r sh' ⟨a, t1, t2, own', gs', N', i', rfl, rfl, F'⟩
        cases q1 : isQ y with
        | false =>
          refine sg_fit O.good [spEq y (⟨#[34]⟩ : Str) false q1] [.go 5 [2, 1, 1, 1], .jn 0 0 [] 0 [], .go 60 [0, 1, 0, 1, 1, 0, 1, 0, 1, 1, 2, 1, 1, 1, 0, 1, 0, 1, 1, 2, 1, 1, 1, 0, 1, 0, 1, 1, 2, 1, 1, 1, 6, 6, 6, 6, 6], .jn 0 0 [] 0 [], .go 2 [4, 0]] [4, 5, 6] 7 [0] 1 _ (fun pz => ?_) (fun z => ih own' gs' (kp + 1) s none l items (z.tk 1 1) (z.tk 1 2) (some (z.vl 1 4, z.vl 1 5)) (z.m 1) (z.e 1) (z.e 2) z.N z.i hil F' i3 (by omega) (by omega) (fun o h => by cases h) (by omega) hp fun s' acc' e => hE s' acc' (by rw [stF_n q1]; exact e))
          kernel_rfl
        | true =>
          refine sg_fit O.good [spEq y (⟨#[34]⟩ : Str) true q1] [.go 5 [2, 1, 1, 1], .jn 0 0 [] 0 [], .go 60 [0, 1, 0, 1, 1, 0, 1, 0, 1, 1, 2, 1, 1, 1, 0, 1, 0, 1, 1, 2, 1, 1, 1, 0, 1, 0, 1, 1, 2, 1, 1, 1, 6, 6, 6, 6, 6], .jn 0 0 [] 0 [], .go 16 [4, 6, 6, 6, 6, 0]] [4, 5, 6] 7 [0] 1 _ (fun pz => ?_) (fun z => ih own' gs' (kp + 1) s (some kp) l items (z.tk 1 1) (z.tk 1 2) (some (z.vl 1 4, z.vl 1 5)) (z.m 1) (z.e 1) (z.e 2) z.N z.i hil F' i3 (by omega) (by omega) (fun o h => by cases h; omega) (by omega) hp fun s' acc' e => hE s' acc' (by rw [stF_p q1]; exact e))
          kernel_rfl
      · obtain ⟨q1', q2', q3'⟩ := hq o rfl
        refine sg_call O [] [.go 2 [1]] [0, 1, 2] 3 [0] 1 (fun z2 => F.next [(f, obAt z2 1), (rl, obAt z2 2)] L z2.N z2.i GL G) (by omega) (fun pz => ?_) (fun pz => ?_)
        · kernel_rfl
        intro z2
        rintro r sh' ⟨a, t1, t2, own', gs', N', i', rfl, rfl, F'⟩
        cases q1 : isQ y with
        | false =>
          refine sg_fit O.good [spEq y (⟨#[34]⟩ : Str) false q1] [.go 5 [2, 1, 1, 1], .jn 0 0 [] 0 [], .go 60 [0, 1, 0, 1, 1, 0, 1, 0, 1, 1, 2, 1, 1, 1, 0, 1, 0, 1, 1, 2, 1, 1, 1, 0, 1, 0, 1, 1, 2, 1, 1, 1, 6, 6, 6, 6, 6], .jn 0 0 [] 0 [], .go 2 [4, 0]] [4, 5, 6] 7 [0] 1 _ (fun pz => ?_) (fun z => ih own' gs' (kp + 1) s (some o) l items (z.tk 1 1) (z.tk 1 2) (some (z.vl 1 4, z.vl 1 5)) (z.m 1) (z.e 1) (z.e 2) z.N z.i hil F' i3 (by omega) (by omega) (fun o h => by cases h; omega) (by omega) hp fun s' acc' e => hE s' acc' (by rw [stF_n q1]; exact e))
          kernel_rfl
        | true =>
          by_cases hso : s = o
          · have h2' : ((Int.ofNat s) != (Int.ofNat o)) = false := by subst hso; exact bne_self_eq_false _
            refine sg_fit O.good [spEq y (⟨#[34]⟩ : Str) true q1, spINe (Int.ofNat s) (Int.ofNat o) false h2'] [.go 5 [2, 1, 1, 1], .jn 0 0 [] 0 [], .go 60 [0, 1, 0, 1, 1, 0, 1, 0, 1, 1, 2, 1, 1, 1, 0, 1, 0, 1, 1, 2, 1, 1, 1, 0, 1, 0, 1, 1, 2, 1, 1, 1, 6, 6, 6, 6, 6], .jn 0 0 [] 0 [], .go 11 [4, 6, 6, 6], .jn 0 0 [] 0 [], .go 26 [5, 6, 0, 0, 6, 6, 6, 6, 0]] [4, 5, 6] 7 [0] 1 _ (fun pz => ?_) (fun z => ih own' gs' (kp + 1) (kp + 1) none l items (z.tk 1 1) (z.tk 1 2) (some (z.vl 1 4, z.vl 1 5)) (z.m 1) (z.e 1) (z.e 2) z.N z.i hil F' i3 (Nat.le_refl _) (by omega) (fun o h => by cases h) (by omega) hp fun s' acc' e => hE s' acc' (by rw [stF_c q1, if_pos hso]; exact e))
            kernel_rfl
          · have h2' : ((Int.ofNat s) != (Int.ofNat o)) = true := by rw [bne_iff_ne]; intro e; exact hso (Int.ofNat.inj e)
            have hp2 : ∀ t, ∀ p ∈ l ++ [(sub x s o, t)], p.1.length ≤ 500 := fun t p hp' => by
              rcases List.mem_append.mp hp' with h | h
              · exact hp p h
              · rw [List.mem_singleton.mp h]; exact Nat.le_trans (sub_len ..) hx
            refine sg_fit O.good [spEq y (⟨#[34]⟩ : Str) true q1, spINe (Int.ofNat s) (Int.ofNat o) true h2', spS x (some (Int.ofNat s)) (some (Int.ofNat o)) (sub x s o) (by omega) rfl, spApp items (sz (by rw [hil]; simp [strValues]; omega))] [.go 5 [2, 1, 1, 1], .jn 0 0 [] 0 [], .go 60 [0, 1, 0, 1, 1, 0, 1, 0, 1, 1, 2, 1, 1, 1, 0, 1, 0, 1, 1, 2, 1, 1, 1, 0, 1, 0, 1, 1, 2, 1, 1, 1, 6, 6, 6, 6, 6], .jn 0 0 [] 0 [], .go 11 [4, 6, 6, 6], .jn 0 0 [] 0 [], .go 47 [5, 6, 7, 7, 7, 7, 6, 6, 6, 6, 0, 7, 7, 7, 0, 0, 7, 7, 7, 7, 0]] [5, 6, 7] 8 [0] 1 _ (fun pz => ?_) (fun z => ih own' gs' (kp + 1) (kp + 1) none (l ++ [(sub x s o, slK x (some (Int.ofNat s)) (some (Int.ofNat o)) tk (P.t₀ + (i' + 3)))]) (items.concat (.str (sub x s o) (slK x (some (Int.ofNat s)) (some (Int.ofNat o)) tk (P.t₀ + (i' + 3))))) (z.tk 1 1) (z.tk 1 2) (some (z.vl 1 4, z.vl 1 5)) (z.m 1) (z.e 1) (z.e 2) z.N z.i (by rw [hil]; exact strVals_snoc ..) F' i3 (Nat.le_refl _) (by omega) (fun o h => by cases h) (by simp only [List.length_append, List.length_singleton]; omega) (hp2 _) fun s' acc' e => hE s' acc' (by rw [stF_c q1, if_neg hso]; rw [List.map_append] at e; exact e))
            kernel_rfl
end
theorem st_loopC (P : Par K1) {f ga g rl : Nat} {ta tb : Tok} {x : Str} {tk : Tok} {L : Lg} {GL : Gg} {G : Nat} (hx : x.length ≤ 500) {own : Lg} {gs : GenState} (F : Feeds (U1 P) 1 ga g ta tb (pcs x.cps.toList 0) own gs) (ts to : Tok) (m : HT) (ep n N i : Nat) :
    Cn (U1 P) 2 (stC P f ga) ⟨(ga, genO g ta tb) :: (f, fr ([(⟨#[97, 100, 100, 114]⟩ : Str), (⟨#[115, 116, 97, 114, 116]⟩ : Str), (⟨#[111, 112, 101, 110, 95, 112, 111, 115]⟩ : Str), (⟨#[114, 101, 115, 117, 108, 116]⟩ : Str)] ++ tn2 (⟨#[112, 111, 115]⟩ : Str) (⟨#[99, 104]⟩ : Str) none) ([.str x tk, .int (Int.ofNat 0) ts, oV none to, .ref rl] ++ tv2 none) m ep) :: (rl, listO ⟨[]⟩ n) :: (own ++ L), N, i, (g, gs) :: GL, G⟩ fun r s' =>
      ∃ (q' : Option Nat) (l' : List (Str × Tok)) (items : List Value) (ts to : Tok) (tl : T2) (m : HT) (ep n N i : Nat), (stF x (pcs x.cps.toList 0) 0 none []).1 ≤ x.length ∧ items = strValues l' ∧ l'.map (·.1) = (stF x (pcs x.cps.toList 0) 0 none []).2 ∧ l'.length ≤ 500 ∧ (∀ p ∈ l', p.1.length ≤ 500) ∧
        r = .ok .next ∧ s' = ⟨(f, fr ([(⟨#[97, 100, 100, 114]⟩ : Str), (⟨#[115, 116, 97, 114, 116]⟩ : Str), (⟨#[111, 112, 101, 110, 95, 112, 111, 115]⟩ : Str), (⟨#[114, 101, 115, 117, 108, 116]⟩ : Str)] ++ tn2 (⟨#[112, 111, 115]⟩ : Str) (⟨#[99, 104]⟩ : Str) tl) ([.str x tk, .int (Int.ofNat (stF x (pcs x.cps.toList 0) 0 none []).1) ts, oV q' to, .ref rl] ++ tv2 tl) m ep) :: (rl, listO ⟨items⟩ n) :: L, N, i, GL, G⟩ := by
  refine Cn.of_walk fun A R O hE => ?_
  have hl := pcs_len x.cps.toList 0
  have hn : x.cps.toList.length = x.length := by simp [Str.length]
  refine st_loop P O hx _ own gs 0 0 none [] [] ts to none m ep n N i rfl F (by have := pcs_inc x.cps.toList 0; rw [hn, Nat.zero_add] at this; exact this) (Nat.le_refl _) (Nat.zero_le _) (fun o h => by cases h) (by simp only [List.length_nil]; omega) (fun p h => nomatch h) ?_
  intro s' acc' e hs q' l' items hi hm hl' hp ts to tl m ep n N i
  have e' : stF x (pcs x.cps.toList 0) 0 none [] = (s', acc') := e
  refine hE _ _ ⟨q', l', items, ts, to, tl, m, ep, n, N, i, ?_, hi, ?_, hl', hp, rfl, ?_⟩
  · rw [e']; exact hs
  · rw [e']; exact hm
  · rw [e']
/-- what _strip_quoted_realnames gives -/
noncomputable def stripS (x : Str) : Str := if 34 ∈ x.cps.toList then
    catS ((stF x (pcs x.cps.toList 0) 0 none []).2 ++ (if (stF x (pcs x.cps.toList 0) 0 none []).1 < x.length then [pySlice x (some (Int.ofNat (stF x (pcs x.cps.toList 0) 0 none []).1)) none] else []))
  else x
theorem strip_spec (P : Par K1) (x : Str) (tk : Tok) (hx : x.length ≤ 500) (ha : x.cps.all (· < 128) = true) (sh : Sh) : Cn (U1 P) 3 (.call (.ref 70) ⟨[.str x tk], []⟩) sh
    (fun r s' => ∃ tk' N' i' G', r = .ok (.ret (.str (stripS x) tk')) ∧ s' = ⟨sh.L, N', i', sh.GL, G'⟩) := by
  obtain ⟨L, N, i, GL, G⟩ := sh
  have hc := StrLaws.found_one x 34
  refine Cn.of_fn (by kernel_rfl) fun A R O hE => ?_
  by_cases hq : 34 ∈ x.cps.toList
  · rw [decide_eq_true hq] at hc
    refine sg_call O [spCon x (⟨#[34]⟩ : Str) true hc] [.go 50 [0, 0, 1, 1, 0, 0, 1, 4, 1, 1, 1, 1, 2, 2, 0, 2, 0]] [1, 0] 2 [] 0 (fun z1 => gen_spec _ x tk z1.sh) (by omega) (fun pz => ?_) (fun pz => ?_)
    · kernel_rfl
    intro z1
    rintro r sh' ⟨rfl, h1, t1, t2, t3, rfl⟩
    refine sg_call O [] [.go 4 [1, 1], .jn 0 0 [] 0 [], .go 5 [0, 1, 0, 1]] [0, 2, 3, 1] 4 [0] 1 (fun z2 => st_loopC _ hx (feeds_fresh _ (f := z1.N) (g := z1.G) (tk := tk) (a := t2) (b := t3) (h1 := h1) (t1 := t1) (ep := 1) ha) (z2.tk 1 1) 0 (z2.m 1) (z2.e 1) (z2.e 2) z2.N z2.i (f := N) (rl := z2.a 2) (L := L) (GL := GL) (G := z1.G + 1) (tk := tk)) (by omega) (fun pz => ?_) (fun pz => ?_)
    · kernel_rfl
    intro z2
    rintro r sh' ⟨q', l', items, ts, to, tl, m, ep, n, N', i', hs, hi, hm, hl, hp, rfl, rfl⟩
    have e0 : stripS x = catS ((stF x (pcs x.cps.toList 0) 0 none []).2 ++ (if (stF x (pcs x.cps.toList 0) 0 none []).1 < x.length then [pySlice x (some (Int.ofNat (stF x (pcs x.cps.toList 0) 0 none []).1)) none] else [])) := if_pos hq
    generalize stF x (pcs x.cps.toList 0) 0 none [] = sf at hs hm e0
    rcases tl with _ | ⟨v3, v4⟩
    all_goals
      by_cases hlt : sf.1 < x.length
      · rw [if_pos hlt] at e0
        have h2 : decide ((Int.ofNat sf.1) < (Int.ofNat x.length)) = true := decide_eq_true (by simpa using hlt)
        have hi2 : ∀ y t, items.concat (.str y t) = strValues (l' ++ [(y, t)]) := fun y t => by rw [hi]; exact strVals_snoc ..
        have hp2 : ∀ t, ∀ p ∈ l' ++ [(pySlice x (some (Int.ofNat sf.1)) none, t)], p.1.length ≤ 500 := fun t p hp' => by
          rcases List.mem_append.mp hp' with h | h
          · exact hp p h
          · rw [List.mem_singleton.mp h]; exact Nat.le_trans (pySlice_len ..) hx
        have hl2 : ∀ t, (l' ++ [(pySlice x (some (Int.ofNat sf.1)) none, t)]).length * 500 ≤ 1000000 := fun t => by simp only [List.length_append, List.length_singleton]; omega
        have hm' : ∀ t : Tok, catS ((l' ++ [(pySlice x (some (Int.ofNat sf.1)) none, t)]).map (·.1)) = stripS x := fun t => by rw [e0, List.map_append, hm]; rfl
        refine sg_fit O.good [spLen x (by omega), spLt (Int.ofNat sf.1) (Int.ofNat x.length) true h2, spS x (some (Int.ofNat sf.1)) none _ (by omega) rfl, spApp items (sz (by rw [hi]; simp [strValues]; omega)), spJ _ _ (stripS x) 500 (hi2 (pySlice x (some (Int.ofNat sf.1)) none) (slK x (some (Int.ofNat sf.1)) none tk (P.t₀ + (i' + 2)))) (hp2 _) (hl2 _) (hm' _)] [.go 12 [1, 0, 0, 1, 4], .jn 0 0 [] 0 [], .go 29 [5, 1, 2, 2, 2, 2, 1, 1, 6, 0, 7, 2, 2, 8, 2]] [] 3 [] 0 _ (fun pz => ?_) (fun z => Mn_fin (c := z.c) (r := .ok (.ret (.str (stripS x) z.rt))) (sh := ⟨L, z.N, z.i, GL, z.G⟩) (hE _ _ ⟨_, z.N, z.i, z.G, rfl, rfl⟩))
        kernel_rfl
      · rw [if_neg hlt] at e0
        have h2 : decide ((Int.ofNat sf.1) < (Int.ofNat x.length)) = false := decide_eq_false (by simpa using hlt)
        have hm' : catS (l'.map (·.1)) = stripS x := by rw [e0, hm, List.append_nil]
        refine sg_fit O.good [spLen x (by omega), spLt (Int.ofNat sf.1) (Int.ofNat x.length) false h2, spJ items l' (stripS x) 500 hi hp (by omega) hm'] [.go 12 [1, 0, 0, 1, 4], .jn 0 0 [] 0 [], .go 10 [5, 1, 6, 1]] [] 2 [] 0 _ (fun pz => ?_) (fun z => Mn_fin (c := z.c) (r := .ok (.ret (.str (stripS x) z.rt))) (sh := ⟨L, z.N, z.i, GL, z.G⟩) (hE _ _ ⟨_, z.N, z.i, z.G, rfl, rfl⟩))
        kernel_rfl
  · rw [decide_eq_false hq] at hc
    have e0 : stripS x = x := if_neg hq
    refine sg_fit O.good [spCon x (⟨#[34]⟩ : Str) false hc] [.go 19 [0, 0, 1, 1, 0, 0, 1, 4, 1]] [] 1 [] 0 _ (fun pz => ?_) (fun z => Mn_fin (c := z.c) (r := .ok (.ret (.str x tk))) (sh := ⟨L, z.N, z.i, GL, G⟩) (hE _ _ ⟨tk, z.N, z.i, G, by rw [e0], rfl⟩))
    kernel_rfl
/-- the signs of what is left are signs of the text -/
theorem cutL_mem {α : Type} {l : List α} {lo hi : Option Int} {c : α} (h : c ∈ cutL l lo hi) : c ∈ l := List.mem_of_mem_drop (List.mem_of_mem_take h)
theorem stF_sub {x : Str} : ∀ (ps : List (Nat × Str)) (s : Nat) (q : Option Nat) (acc : List Str), (∀ y ∈ acc, ∀ c ∈ y.cps.toList, c ∈ x.cps.toList) → ∀ y ∈ (stF x ps s q acc).2, ∀ c ∈ y.cps.toList, c ∈ x.cps.toList
  | [], _, _, _, h => h
  | (k, y) :: ps, s, q, acc, h => by
    cases h1 : isQ y with
    | false => rw [stF_n h1]; exact stF_sub ps _ _ _ h
    | true =>
      cases q with
      | none => rw [stF_p h1]; exact stF_sub ps _ _ _ h
      | some o =>
        rw [stF_c h1]
        refine stF_sub ps _ _ _ ?_
        split
        · exact h
        · intro y hy c hc
          rcases List.mem_append.mp hy with hy | hy
          · exact h y hy c hc
          · rw [List.mem_singleton.mp hy] at hc
            exact cutL_mem hc
theorem strip_sub {x : Str} {c : Nat} (h : c ∈ (stripS x).cps.toList) : c ∈ x.cps.toList := by
  unfold stripS at h
  split at h
  · obtain ⟨y, hy, hc⟩ := List.mem_flatMap.mp h
    rcases List.mem_append.mp hy with hy | hy
    · exact stF_sub _ 0 none [] (by simp) y hy c hc
    · split at hy
      · rw [List.mem_singleton.mp hy] at hc; exact cutL_mem hc
      · nomatch hy
  · exact h
theorem strip_ascii {x : Str} (ha : x.cps.all (· < 128) = true) : (stripS x).cps.all (· < 128) = true := by
  rw [← Array.all_toList, List.all_eq_true] at ha ⊢
  exact fun c hc => ha c (strip_sub hc)

end Mine
end
-- part L1lex
section
set_option maxRecDepth 100000
set_option maxHeartbeats 0
set_option Elab.async false
set_option linter.unusedVariables false
namespace Mine
open PySem PySem.Spec PySem.Calls PyProof.Rows PySem.W PySem.W.X

noncomputable def ch (c : Nat) : Str := ⟨#[c]⟩
section
variable {A : Around} {R : Result → Shared → Prop}
theorem ext_loop (P : Par K1) (O : Lvl A 1) {S I : Nat} {x : Str} {t : Tok} {L : Lg} {GL : Gg} {G : Nat} (hx : x.length ≤ 1000) : ∀ (l : List Nat) (k : Nat) (cs : List (Str × Tok)) (items : List Value) (n N i : Nat), x.cps.toList.drop k = l → items = strValues cs → cs.length = k → k ≤ x.length →
    (∀ (cs' : List (Str × Tok)) (items : List Value) (n N i : Nat), items = strValues cs' → cs'.map (·.1) = cs.map (·.1) ++ l.map ch → Ends ((U1 P).V A R) (.ok (.ret .none)) ⟨(S, listO ⟨items⟩ n) :: L, N, i, GL, G⟩) →
    Mn ((U1 P).V A R) (hd (lext S I) ⟨(I, strIt x t k) :: (S, listO ⟨items⟩ n) :: L, N, i, GL, G⟩) := by
  intro l
  induction l with
  | nil =>
    intro k cs items n N i hd hi hk hl hE
    have hE := hE cs items n
    refine sg_fit O.good [spEnd x k (drop_nil hd)] [.go 3 [1, 4, 0, 1]] [3] 4 [] 0 _ (fun pz => ?_) (fun z => Mn_fin (c := z.c) (r := .ok (.ret .none)) (sh := ⟨(S, listO ⟨items⟩ n) :: L, z.N, z.i, GL, G⟩) (hE z.N z.i hi (by simp)))
    kernel_rfl
  | cons c l ih =>
    intro k cs items n N i hd hi hk hl hE
    obtain ⟨hc, hd'⟩ := drop_cons hd
    have hlt : k < x.length := (Array.getElem?_eq_some_iff.mp hc).1
    refine sg_mid O.good [spNext x k c hc] [.go 2 [1, 4, 0]] [0, 1] 2 [] 0 (fun pz => ?_) (fun pz => ?_)
    · kernel_rfl
    intro z1
    refine push_step (S := S) (j := 1) (n := n) (xs := items) (v := .str (ch c) (P.t₀ + i)) (k := fun _ => PySem.W.ZFast.zw12377390311714414960 (lext S I)) ?_ ?_ (by rw [hi]; simp [strValues]; omega) ?_
    · kernel_rfl
    · kernel_rfl
    refine sg_fit O.good [] [.go 1 [0]] [0, 1] 2 [] 0 _ (fun pz => ?_) (fun z => ih (k + 1) (cs ++ [(ch c, P.t₀ + i)]) (items.concat (.str (ch c) (P.t₀ + i))) (z.e 1) z.N z.i hd' (by rw [hi]; exact strVals_snoc ..) (by simp [hk]) hlt (fun cs' items n N i h1 h2 => hE cs' items n N i h1 (by rw [h2]; simp)))
    kernel_rfl
end
theorem list_str (P : Par K1) {S n : Nat} {x : Str} {t : Tok} {L : Lg} {GL : Gg} {N i G : Nat} (hx : x.length ≤ 1000) (ha : x.cps.all (· < 128) = true) :
    Cn (U1 P) 1 (.call (.builtin "list.__init__") ⟨[.ref S, .str x t], []⟩) ⟨(S, listO #[] n) :: L, N, i, GL, G⟩ fun r s' => ∃ (cs : List (Str × Tok)) (items : List Value) (n N i : Nat), items = strValues cs ∧ cs.map (·.1) = x.cps.toList.map ch ∧ r = .ok (.ret .none) ∧ s' = ⟨(S, listO ⟨items⟩ n) :: L, N, i, GL, G⟩ := by
  refine list_init_str ha (by omega) (Cn.of_walk fun A R O hE => ?_)
  exact ext_loop P O hx x.cps.toList 0 [] [] n (N + 1) i rfl rfl rfl (Nat.zero_le _) fun cs items n N i h1 h2 => hE _ _ ⟨cs, items, n, N, i, h1, h2, rfl, rfl⟩
/-- a def's text, its lambda's data -/
noncomputable def lamOf : Stmt → PySem.Expr
  | .Assign _ v _ => v
  | _ => default
noncomputable def rdFd (P : Par K1) (cell cd ct : Nat) : FuncData := match lamOf (stAt (bodyOf (kt P) 115) 2) with
  | .Lambda args body scope _ => { name := (⟨#[60, 108, 97, 109, 98, 100, 97, 62]⟩ : Str), qualname := (⟨#[95, 108, 97, 119, 95, 108, 101, 120, 101, 114, 46, 60, 108, 111, 99, 97, 108, 115, 62, 46, 60, 108, 97, 109, 98, 100, 97, 62]⟩ : Str), params := args, body := .expr body, scope := scope, globals := 3, closure := [((⟨#[115, 105, 103, 110, 115]⟩ : Str), cell)], defaults := .none, kwdefaults := .none, doc := .none, pyModule := .str (⟨#[108, 97, 119, 95, 114, 115, 48, 49, 51, 50, 95, 48, 49]⟩ : Str) 485, annotations := none, code := .ref cd, closureTuple := .ref ct, builtins := 0 }
  | _ => default
noncomputable def rdO (P : Par K1) (cell cd ct : Nat) : Obj := { cls := .type "function", data := .func (rdFd P cell cd ct) }
noncomputable def dcO (ns : List Str) (vs : List Value) (m : HT) (ep : Nat) : Obj := { cls := .type "dict", data := .dict ⟨mkE ns vs 0 m⟩ ep }
/-- the lexer: where its parts lie, and what does not turn -/
structure LX where
  lx : Nat
  ld : Nat
  pb : Nat
  st : Nat
  sd : Nat
  rd : Nat
  cd : Nat
  ct : Nat
  cell : Nat
  sg : Nat
  mS : HT
  eS : Nat
  fd : FuncData
  v0 : Value
  tq : Tok
  vr : List Value
/-- what turns: the line's number, the signs, the line -/
structure LY where
  ln : Int
  sgs : List Value
  pbs : List Value
  tl : Tok
  tw : Tok
  m : HT
  ep : Nat
  n1 : Nat
  n2 : Nat
noncomputable def lexL (P : Par K1) (X : LX) (Y : LY) : Lg :=
  [(X.lx, { cls := .ref 52, dict := some X.ld, data := .plain }),
   (X.ld, dcO [(⟨#[108, 105, 110, 101, 110, 111]⟩ : Str), (⟨#[105, 110, 115, 116, 114, 101, 97, 109]⟩ : Str), (⟨#[119, 104, 105, 116, 101, 115, 112, 97, 99, 101]⟩ : Str), (⟨#[112, 117, 115, 104, 98, 97, 99, 107]⟩ : Str)] [.int Y.ln Y.tl, .ref X.st, .str (⟨#[10, 9, 13, 32]⟩ : Str) Y.tw, .ref X.pb] Y.m Y.ep),
   (X.pb, listO ⟨Y.pbs⟩ Y.n1),
   (X.st, { cls := .type "function", dict := some X.sd, data := .func X.fd }),
   (X.sd, dcO [(⟨#[114, 101, 97, 100]⟩ : Str)] [.ref X.rd] X.mS X.eS),
   (X.rd, rdO P X.cell X.cd X.ct),
   (X.cd, { cls := .type "code", data := .fields ⟨X.v0 :: .str (⟨#[95, 108, 97, 119, 95, 108, 101, 120, 101, 114, 46, 60, 108, 111, 99, 97, 108, 115, 62, 46, 60, 108, 97, 109, 98, 100, 97, 62]⟩ : Str) X.tq :: X.vr⟩ }),
   (X.cell, { cls := .type "cell", data := .cell (some (.ref X.sg)) }),
   (X.sg, listO ⟨Y.sgs⟩ Y.n2)]
theorem lexer_spec (P : Par K1) (x : Str) (tk : Tok) (hx : x.length ≤ 1000) (ha : x.cps.all (· < 128) = true) (L : Lg) (N i : Nat) (GL : Gg) (G : Nat) : Cn (U1 P) 3 (.call (.ref 115) ⟨[.str x tk], []⟩) ⟨(110, tableObj #[]) :: L, N, i, GL, G⟩
    (fun r s' => ∃ X Y N' i' cs, r = .ok (.ret (.ref X.lx)) ∧ Y.ln = 1 ∧ Y.pbs = [] ∧ Y.sgs = strValues cs ∧ cs.map (·.1) = x.cps.toList.map ch ∧ s' = ⟨lexL P X Y ++ L, N', i', GL, G⟩) := by
  refine Cn.of_fn (by kernel_rfl) fun A R O hE => ?_
  refine sg_call O [spLNew] [.go 23 [0, 0, 2, 2, 0, 0, 0, 0, 2, 0, 0, 4, 1, 1]] [0, 2, 1, 3] 4 [] 0 (fun z1 => list_str _ (S := z1.a 0) (n := z1.e 0) (L := z1.L.drop 1) (N := z1.N) (i := z1.i) (GL := GL) (G := G) (t := tk) hx ha) (by omega) (fun pz => ?_) (fun pz => ?_)
  · kernel_rfl
  intro z1
  rintro r sh' ⟨cs, items, n, N', i', hi, hc, rfl, rfl⟩
  refine sg_fit O.good [] [.go 262 [3, 3, 0, 4, 10, 10, 10, 0, 0, 0, 9, 9, 0, 12, 18, 18, 18, 0, 0, 0, 17, 9, 0, 9, 0, 9, 9, 9, 10, 1, 1, 1, 0, 18, 0, 0, 0, 0, 0, 0, 0, 0, 0, 0, 0, 0, 0, 0, 0, 0, 0, 0, 0, 0, 0, 0, 0, 0, 0, 0, 0, 0, 0, 0, 0, 0, 0, 1, 0, 1, 0, 0, 0, 0, 1, 0, 0, 1, 1, 1, 1, 0, 0, 1, 2, 0, 0, 0, 0, 2, 0, 0, 2, 0, 2, 0, 0, 0, 2, 0, 3, 3, 3, 1, 1, 2, 0, 0, 0, 0, 2, 0, 0, 2, 0, 2, 0, 0, 0, 2, 0, 3, 3, 3, 1, 2, 0, 0, 0, 0, 2, 0, 0, 2, 0, 2, 0, 0, 0, 2, 0, 3, 3, 3, 2, 3, 0, 0, 0, 0, 3, 0, 0, 3, 0, 3, 0, 0, 0, 3, 0, 4, 4, 4]] [2, 3, 0, 13, 4, 5, 6, 22, 20] 24 [] 0 _ (fun pz => ?_) (fun z => Mn_fin (c := z.c) (r := .ok (.ret (.ref (z.a 0)))) (sh := ⟨lexL _ ⟨z.a 0, z.a 1, z.a 2, z.a 3, z.a 4, z.a 5, z.a 6, ctOf (obAt z 5), z.a 7, z.a 8, z.m 4, z.e 4, fdO (obAt z 3), fldAt (obAt z 6) 0, tokOf (fldAt (obAt z 6) 1), fdRest (obAt z 6)⟩ ⟨1, items, [], z.tk 1 0, z.tk 1 2, z.m 1, z.e 1, z.e 2, z.e 8⟩ ++ L, z.N, z.i, GL, G⟩) (hE _ _ ⟨_, _, z.N, z.i, cs, rfl, rfl, rfl, hi, hc, rfl⟩))
  kernel_rfl

end Mine
end
-- part L1rd
section
set_option maxRecDepth 100000
set_option maxHeartbeats 0
set_option Elab.async false
set_option linter.unusedVariables false
namespace Mine
open PySem PySem.Spec PySem.Calls PyProof.Rows PySem.W PySem.W.X

theorem ch_eq {c d : Nat} : ((ch c).cps.toList == (⟨#[d]⟩ : Str).cps.toList) = decide (c = d) := by
  show ([c] == [d]) = _
  by_cases h : c = d <;> simp [h]
noncomputable def lnUp (c : Nat) (ln : Int) : Int := if c = 10 then ln + 1 else ln
theorem rdchar_spec (P : Par K1) (X : LX) {ln : Int} {c : Nat} {t : Tok} {rest pbs : List Value} {tl tw : Tok} {m : HT} {ep n1 n2 : Nat} {L : Lg} {N i : Nat} {GL : Gg} {G : Nat} (hr : rest.length < 100000) :
    Cn (U1 P) 2 (.call (.ref 35) ⟨[.ref X.lx], []⟩) ⟨lexL P X ⟨ln, .str (ch c) t :: rest, pbs, tl, tw, m, ep, n1, n2⟩ ++ L, N, i, GL, G⟩ fun r s' => ∃ tl m ep n2 N i, r = .ok (.ret (.str (ch c) t)) ∧ s' = ⟨lexL P X ⟨lnUp c ln, rest, pbs, tl, tw, m, ep, n1, n2⟩ ++ L, N, i, GL, G⟩ := by
  refine Cn.of_fn (by kernel_rfl) fun A R O hE => ?_
  by_cases hc : c = 10
  · have e : lnUp c ln = ln + 1 := if_pos hc
    rw [e] at hE
    have h1 : ((ch c).cps.toList == (⟨#[10]⟩ : Str).cps.toList) = true := by rw [ch_eq]; exact decide_eq_true hc
    refine sg_fit O.good [spPop0 (.str (ch c) t) rest (by omega), spEq (ch c) (⟨#[10]⟩ : Str) true h1] [.go 67 [0, 0, 1, 1, 0, 0, 1, 2, 0, 0, 0, 0, 2, 0, 0, 0, 2, 2, 0, 3, 5, 5, 5, 5, 0, 5, 0, 5, 5, 5, 6, 7, 1, 7, 8, 1, 1, 0, 3, 10, 12, 1, 12], .jn 0 0 [] 0 [], .go 35 [0, 12, 0, 1, 12, 1, 11, 12, 12, 12, 12, 4, 11, 3, 3, 3], .jn 0 0 [] 0 [], .go 54 [5, 3, 4, 0, 0, 0, 0, 4, 0, 0, 0, 4, 4, 0, 5, 0, 0, 4, 0, 0, 0, 0, 4, 0, 0, 4, 0, 4, 0, 0, 0, 4, 0, 5, 5, 5, 3]] [3, 4, 5, 6, 7, 8, 9, 10, 11] 12 [] 0 _ (fun pz => ?_) (fun z => Mn_fin (c := z.c) (r := .ok (.ret (.str (ch c) t))) (sh := ⟨lexL _ X ⟨ln + 1, rest, pbs, z.tk 1 0, tw, z.m 1, z.e 1, n1, z.e 8⟩ ++ L, z.N, z.i, GL, G⟩) (hE _ _ ⟨_, _, _, _, _, _, rfl, rfl⟩))
    kernel_rfl
  · have e : lnUp c ln = ln := if_neg hc
    rw [e] at hE
    have h1 : ((ch c).cps.toList == (⟨#[10]⟩ : Str).cps.toList) = false := by rw [ch_eq]; exact decide_eq_false hc
    refine sg_fit O.good [spPop0 (.str (ch c) t) rest (by omega), spEq (ch c) (⟨#[10]⟩ : Str) false h1] [.go 67 [0, 0, 1, 1, 0, 0, 1, 2, 0, 0, 0, 0, 2, 0, 0, 0, 2, 2, 0, 3, 5, 5, 5, 5, 0, 5, 0, 5, 5, 5, 6, 7, 1, 7, 8, 1, 1, 0, 3, 10, 12, 1, 12], .jn 0 0 [] 0 [], .go 35 [0, 12, 0, 1, 12, 1, 11, 12, 12, 12, 12, 4, 11, 3, 3, 3], .jn 0 0 [] 0 [], .go 4 [5, 3]] [3, 4, 5, 6, 7, 8, 9, 10, 11] 12 [] 0 _ (fun pz => ?_) (fun z => Mn_fin (c := z.c) (r := .ok (.ret (.str (ch c) t))) (sh := ⟨lexL _ X ⟨ln, rest, pbs, z.tk 1 0, tw, z.m 1, z.e 1, n1, z.e 8⟩ ++ L, z.N, z.i, GL, G⟩) (hE _ _ ⟨_, _, _, _, _, _, rfl, rfl⟩))
    kernel_rfl
theorem rdchar_end (P : Par K1) (X : LX) {ln : Int} {pbs : List Value} {tl tw : Tok} {m : HT} {ep n1 n2 : Nat} {L : Lg} {N i : Nat} {GL : Gg} {G : Nat} :
    Cn (U1 P) 2 (.call (.ref 35) ⟨[.ref X.lx], []⟩) ⟨lexL P X ⟨ln, [], pbs, tl, tw, m, ep, n1, n2⟩ ++ L, N, i, GL, G⟩ fun r s' => ∃ t tl m ep n2 N i, r = .ok (.ret (.str (⟨#[]⟩ : Str) t)) ∧ s' = ⟨lexL P X ⟨ln, [], pbs, tl, tw, m, ep, n1, n2⟩ ++ L, N, i, GL, G⟩ := by
  refine Cn.of_fn (by kernel_rfl) fun A R O hE => ?_
  refine sg_fit O.good [] [.go 67 [0, 0, 1, 1, 0, 0, 1, 2, 0, 0, 0, 0, 2, 0, 0, 0, 2, 2, 0, 3, 5, 5, 5, 5, 0, 5, 0, 5, 5, 5, 6, 7, 1, 7, 8, 1, 1, 0, 3, 10, 12, 1, 12], .jn 0 0 [] 0 [], .go 28 [0, 12, 0, 1, 12, 1, 0, 12, 1, 12, 1, 3, 3, 3], .jn 0 0 [] 0 [], .go 6 [0, 0, 3]] [3, 4, 5, 6, 7, 8, 9, 10, 11] 12 [] 0 _ (fun pz => ?_) (fun z => Mn_fin (c := z.c) (r := .ok (.ret (.str (⟨#[]⟩ : Str) z.rt))) (sh := ⟨lexL _ X ⟨ln, [], pbs, z.tk 1 0, tw, z.m 1, z.e 1, n1, z.e 8⟩ ++ L, z.N, z.i, GL, G⟩) (hE _ _ ⟨_, _, _, _, _, _, _, rfl, rfl⟩))
  kernel_rfl

end Mine
end
-- part L1tok
section
set_option maxRecDepth 100000
set_option maxHeartbeats 0
set_option Elab.async false
set_option linter.unusedVariables false
namespace Mine
open PySem PySem.Spec PySem.Calls PyProof.Rows PySem.W PySem.W.X

noncomputable def ciO (bm : Nat) (ts : Tok) : Obj := { cls := .type "callable_iterator", data := .fields #[.ref bm, .str (⟨#[]⟩ : Str) ts, .bool false] }
noncomputable def ciE : Obj := { cls := .type "callable_iterator", data := .fields #[.none, .none, .bool true] }
noncomputable def bmO (lx : Nat) : Obj := { cls := .type "method", data := .fields #[.ref 35, .ref lx] }
noncomputable abbrev nextCI (it : Nat) : Code := .call (.builtin "callable_iterator.__next__") ⟨[.ref it], []⟩
theorem next_ch (P : Par K1) (X : LX) {it bm : Nat} {ts : Tok} {ln : Int} {c : Nat} {t : Tok} {rest pbs : List Value} {tl tw : Tok} {m : HT} {ep n1 n2 : Nat} {L : Lg} {N i : Nat} {GL : Gg} {G : Nat} (hr : rest.length < 100000) :
    Cn (U1 P) 3 (nextCI it) ⟨(it, ciO bm ts) :: (bm, bmO X.lx) :: (lexL P X ⟨ln, .str (ch c) t :: rest, pbs, tl, tw, m, ep, n1, n2⟩ ++ L), N, i, GL, G⟩ fun r s' => ∃ tl m ep n2 N i, r = .ok (.ret (.str (ch c) t)) ∧ s' = ⟨(it, ciO bm ts) :: (bm, bmO X.lx) :: (lexL P X ⟨lnUp c ln, rest, pbs, tl, tw, m, ep, n1, n2⟩ ++ L), N, i, GL, G⟩ := by
  refine Cn.of_den fun A R O hE => ?_
  refine sg_again O [] [.go 8 [1, 0, 1, 1, 2, 0, 0, 2]] [2, 3, 4, 5, 6, 7, 8, 9, 10, 0, 1] 11 [] 0 (fun z1 => rdchar_spec _ X (ln := ln) (c := c) (t := t) (rest := rest) (pbs := pbs) (tl := tl) (tw := tw) (m := m) (ep := ep) (n1 := n1) (n2 := n2) (L := (it, ciO bm ts) :: (bm, bmO X.lx) :: L) (N := z1.N) (i := z1.i) (GL := GL) (G := G) hr) (by omega) (fun pz => ?_) (fun pz => ?_)
  · kernel_rfl
  intro z1
  rintro r sh' ⟨tl, m, ep, n2, N', i', rfl, rfl⟩
  refine sg_mid O.good [] [.go 2 [10, 10]] [9, 10, 0, 1, 2, 3, 4, 5, 6, 7, 8] 11 [] 0 (fun pz => ?_) (fun pz => ?_)
  · kernel_rfl
  intro z2
  refine eqb_step (a := (⟨#[]⟩ : Str)) (b := ch c) (t := ts) (u := t) (k := ciK it (.str (ch c) t)) ?_ ?_
  · kernel_rfl
  refine sg_fit O.good [] [] [0, 1, 2, 3, 4, 5, 6, 7, 8, 9, 10] 11 [] 0 _ (fun pz => ?_) (fun z => Mn_fin (c := z.c) (r := .ok (.ret (.str (ch c) t))) (sh := ⟨(it, ciO bm ts) :: (bm, bmO X.lx) :: (lexL _ X ⟨lnUp c ln, rest, pbs, tl, tw, m, ep, n1, n2⟩ ++ L), z.N, z.i, GL, G⟩) (hE _ _ ⟨_, _, _, _, _, _, rfl, rfl⟩))
  kernel_rfl
theorem next_end (P : Par K1) (X : LX) {it bm : Nat} {ts : Tok} {ln : Int} {pbs : List Value} {tl tw : Tok} {m : HT} {ep n1 n2 : Nat} {L : Lg} {N i : Nat} {GL : Gg} {G : Nat} :
    Cn (U1 P) 3 (nextCI it) ⟨(it, ciO bm ts) :: (bm, bmO X.lx) :: (lexL P X ⟨ln, [], pbs, tl, tw, m, ep, n1, n2⟩ ++ L), N, i, GL, G⟩ fun r s' => ∃ e tu tl m ep n2 N i, r = .error (.ref e) ∧ s' = ⟨(e, stopO tu) :: (it, ciE) :: (bm, bmO X.lx) :: (lexL P X ⟨ln, [], pbs, tl, tw, m, ep, n1, n2⟩ ++ L), N, i, GL, G⟩ := by
  refine Cn.of_den fun A R O hE => ?_
  refine sg_again O [] [.go 8 [1, 0, 1, 1, 2, 0, 0, 2]] [2, 3, 4, 5, 6, 7, 8, 9, 10, 0, 1] 11 [] 0 (fun z1 => rdchar_end _ X (ln := ln) (pbs := pbs) (tl := tl) (tw := tw) (m := m) (ep := ep) (n1 := n1) (n2 := n2) (L := (it, ciO bm ts) :: (bm, bmO X.lx) :: L) (N := z1.N) (i := z1.i) (GL := GL) (G := G)) (by omega) (fun pz => ?_) (fun pz => ?_)
  · kernel_rfl
  intro z1
  rintro r sh' ⟨t, tl, m, ep, n2, N', i', rfl, rfl⟩
  refine sg_mid O.good [] [.go 2 [10, 10]] [9, 10, 0, 1, 2, 3, 4, 5, 6, 7, 8] 11 [] 0 (fun pz => ?_) (fun pz => ?_)
  · kernel_rfl
  intro z2
  refine eqb_step (a := (⟨#[]⟩ : Str)) (b := (⟨#[]⟩ : Str)) (t := ts) (u := t) (k := ciK it (.str (⟨#[]⟩ : Str) t)) ?_ ?_
  · kernel_rfl
  refine sg_fit O.good [] [.go 13 [1, 2, 0, 1, 1, 1, 1, 1, 1]] [0, 2, 3, 4, 5, 6, 7, 8, 9, 10, 11, 12] 13 [] 0 _ (fun pz => ?_) (fun z => Mn_fin (c := z.c) (r := .error (.ref (z.a 0))) (sh := ⟨(z.a 0, stopO (tuOf (obAt z 0))) :: (it, ciE) :: (bm, bmO X.lx) :: (lexL _ X ⟨ln, [], pbs, tl, tw, m, ep, n1, n2⟩ ++ L), z.N, z.i, GL, G⟩) (hE _ _ ⟨_, _, _, _, _, _, _, _, rfl, rfl⟩))
  kernel_rfl
theorem next_done (P : Par K1) {it : Nat} {L : Lg} {N i : Nat} {GL : Gg} {G : Nat} :
    Cn (U1 P) 3 (nextCI it) ⟨(it, ciE) :: L, N, i, GL, G⟩ fun r s' => ∃ e tu N i, r = .error (.ref e) ∧ s' = ⟨(e, stopO tu) :: (it, ciE) :: L, N, i, GL, G⟩ := by
  refine Cn.of_den fun A R O hE => ?_
  refine sg_fit O.good [] [.go 7 [1, 0, 1]] [0, 2] 3 [] 0 _ (fun pz => ?_) (fun z => Mn_fin (c := z.c) (r := .error (.ref (z.a 0))) (sh := ⟨(z.a 0, stopO (tuOf (obAt z 0))) :: (it, ciE) :: L, z.N, z.i, GL, G⟩) (hE _ _ ⟨_, _, _, _, rfl, rfl⟩))
  kernel_rfl

end Mine
end
-- part L1quo
section
set_option maxRecDepth 100000
set_option maxHeartbeats 0
set_option Elab.async false
set_option linter.unusedVariables false
namespace Mine
open PySem PySem.Spec PySem.Calls PyProof.Rows PySem.W PySem.W.X

/-- the signs that are left -/
noncomputable def Sg (sgs : List Value) (cs : List Nat) : Prop := ∃ l : List (Str × Tok), sgs = strValues l ∧ l.map (·.1) = cs.map ch
theorem Sg.nil {sgs : List Value} (h : Sg sgs []) : sgs = [] := by
  obtain ⟨l, rfl, h⟩ := h
  have : l = [] := List.map_eq_nil_iff.mp h
  subst this; rfl
theorem Sg.cons {sgs : List Value} {c : Nat} {cs : List Nat} (h : Sg sgs (c :: cs)) : ∃ t rest, sgs = .str (ch c) t :: rest ∧ Sg rest cs := by
  obtain ⟨l, rfl, h⟩ := h
  match l, h with
  | p :: l, h =>
    rw [List.map_cons, List.map_cons] at h
    injection h with h1 h2
    exact ⟨p.2, strValues l, by rw [← h1]; rfl, l, rfl, h2⟩
theorem Sg.len {sgs : List Value} {cs : List Nat} (h : Sg sgs cs) : sgs.length = cs.length := by
  obtain ⟨l, rfl, h⟩ := h
  have := congrArg List.length h
  simp only [List.length_map] at this
  simp [strValues, this]
noncomputable abbrev tx (l : List Nat) : Str := ⟨⟨l⟩⟩
theorem tx_snoc (l : List Nat) (c : Nat) : tx l ++ ch c = tx (l ++ [c]) := by
  refine Str.ext' ?_
  simp [Str.cps_append, ch]
theorem tx_nil (l : List Nat) : tx l ++ (⟨#[]⟩ : Str) = tx l := by
  refine Str.ext' ?_
  simp [Str.cps_append]
/-- how many line ends -/
noncomputable def nls (cs : List Nat) : Nat := cs.countP (· == 10)
theorem lnUp_nls (c : Nat) (cs : List Nat) (ln : Int) : lnUp c ln + nls cs = ln + nls (c :: cs) := by
  unfold lnUp nls
  rw [List.countP_cons]
  by_cases h : c = 10 <;> simp [h] <;> omega
/-- the rest of a word in marks: the word, what is left if it ends by a mark -/
noncomputable def quoF : List Nat → List Nat → List Nat × Option (List Nat)
  | [], tok => (tok, none)
  | [c], tok => if c = 34 then (tok, some []) else if c = 92 then (tok, none) else (tok ++ [c], none)
  | c :: d :: cs, tok => if c = 34 then (tok, some (d :: cs)) else if c = 92 then quoF cs (tok ++ [d]) else quoF (d :: cs) (tok ++ [c])
noncomputable def gtC (P : Par K1) (f it : Nat) : Code := forC (stAt (bodyOf (kt P) 42) 3) it (envAt (kt P) 42 f)
noncomputable def quC (P : Par K1) (f it : Nat) : Code := forC (stAt (sbA (stAt (sbA (stAt (bodyOf (kt P) 42) 3)) 1)) 0) it (envAt (kt P) 42 f)
noncomputable def baC (P : Par K1) (f it : Nat) : Code := forC (stAt (sbB (stAt (sbA (stAt (bodyOf (kt P) 42) 3)) 1)) 2) it (envAt (kt P) 42 f)
section
variable {A : Around} {R : Result → Shared → Prop}
theorem quo_loop (P : Par K1) (O : Lvl A 4) (X : LX) {f it bm : Nat} {ts tw : Tok} {pbs : List Value} {n1 : Nat} {L : Lg} {GL : Gg} {G : Nat} : ∀ (n : Nat) (cs : List Nat) (sgs : List Value) (tok : List Nat) (ln : Int) (tt tl : Tok) (m : HT) (ep n2 : Nat) (c1 : Value) (mf : HT) (ef N i : Nat),
    cs.length ≤ n → Sg sgs cs → tok.length + cs.length ≤ 2000 →
    (∀ tok' rest, quoF cs tok = (tok', some rest) → ∀ sgs ln' t tl m ep n2 N i, Sg sgs rest → ln' + nls rest = ln + nls cs → Ends ((U1 P).V A R) (.ok (.ret (.str (tx tok') t))) ⟨lexL P X ⟨ln', sgs, pbs, tl, tw, m, ep, n1, n2⟩ ++ L, N, i, GL, G⟩) →
    (∀ tok', quoF cs tok = (tok', none) → ∀ ln' tt c1 mf ef tl m ep n2 N i, ln' = ln + nls cs → Ends ((U1 P).V A R) (.ok .next) ⟨(it, ciE) :: (bm, bmO X.lx) :: (lexL P X ⟨ln', [], pbs, tl, tw, m, ep, n1, n2⟩ ++ ((f, fr [(⟨#[115, 101, 108, 102]⟩ : Str), (⟨#[116, 111, 107, 101, 110]⟩ : Str), (⟨#[102, 105, 116, 101, 114]⟩ : Str), (⟨#[99, 104]⟩ : Str)] [.ref X.lx, .str (tx tok') tt, .ref it, c1] mf ef) :: L)), N, i, GL, G⟩) →
    Mn ((U1 P).V A R) (hd (quC P f it) ⟨(it, ciO bm ts) :: (bm, bmO X.lx) :: (lexL P X ⟨ln, sgs, pbs, tl, tw, m, ep, n1, n2⟩ ++ ((f, fr [(⟨#[115, 101, 108, 102]⟩ : Str), (⟨#[116, 111, 107, 101, 110]⟩ : Str), (⟨#[102, 105, 116, 101, 114]⟩ : Str), (⟨#[99, 104]⟩ : Str)] [.ref X.lx, .str (tx tok) tt, .ref it, c1] mf ef) :: L)), N, i, GL, G⟩) := by
  intro n
  induction n with
  | zero =>
    intro cs sgs tok ln tt tl m ep n2 c1 mf ef N i hn hs hl hE1 hE2
    have : cs = [] := List.eq_nil_of_length_eq_zero (Nat.le_zero.mp hn)
    subst this
    obtain rfl := hs.nil
    have hE2 := hE2 tok rfl
    refine sg_call O [] [.go 2 [1]] [0, 1, 2, 3, 4, 5, 6, 7, 8, 9, 10, 11] 12 [] 0 (fun z1 => next_end _ X (it := it) (bm := bm) (ts := ts) (ln := ln) (pbs := pbs) (tl := tl) (tw := tw) (m := m) (ep := ep) (n1 := n1) (n2 := n2) (L := (f, obAt z1 11) :: L) (N := z1.N) (i := z1.i) (GL := GL) (G := G)) (by omega) (fun pz => ?_) (fun pz => ?_)
    · kernel_rfl
    intro z1
    rintro r sh' ⟨e, tu, tl, m, ep, n2, N', i', rfl, rfl⟩
    refine sg_fit O.good [] [.go 2 [1, 0]] [1, 2, 3, 4, 5, 6, 7, 8, 9, 10, 11, 12] 13 [] 0 _ (fun pz => ?_) (fun z => Mn_fin (c := z.c) (r := .ok .next) (sh := ⟨_, z.N, z.i, GL, G⟩) (hE2 ln tt c1 mf ef tl m ep n2 z.N z.i (by simp [nls])))
    kernel_rfl
  | succ n ih =>
    intro cs sgs tok ln tt tl m ep n2 c1 mf ef N i hn hs hl hE1 hE2
    match cs, hn, hs, hl, hE1, hE2 with
    | [], hn, hs, hl, hE1, hE2 =>
      obtain rfl := hs.nil
      have hE2 := hE2 tok rfl
      refine sg_call O [] [.go 2 [1]] [0, 1, 2, 3, 4, 5, 6, 7, 8, 9, 10, 11] 12 [] 0 (fun z1 => next_end _ X (it := it) (bm := bm) (ts := ts) (ln := ln) (pbs := pbs) (tl := tl) (tw := tw) (m := m) (ep := ep) (n1 := n1) (n2 := n2) (L := (f, obAt z1 11) :: L) (N := z1.N) (i := z1.i) (GL := GL) (G := G)) (by omega) (fun pz => ?_) (fun pz => ?_)
      · kernel_rfl
      intro z1
      rintro r sh' ⟨e, tu, tl, m, ep, n2, N', i', rfl, rfl⟩
      refine sg_fit O.good [] [.go 2 [1, 0]] [1, 2, 3, 4, 5, 6, 7, 8, 9, 10, 11, 12] 13 [] 0 _ (fun pz => ?_) (fun z => Mn_fin (c := z.c) (r := .ok .next) (sh := ⟨_, z.N, z.i, GL, G⟩) (hE2 ln tt c1 mf ef tl m ep n2 z.N z.i (by simp [nls])))
      kernel_rfl
    | c :: cs, hn, hs, hl, hE1, hE2 =>
      obtain ⟨t, rest, rfl, hs'⟩ := hs.cons
      have hlen := hs'.len
      simp only [List.length_cons] at hn hl
      refine sg_call O [] [.go 2 [1]] [0, 1, 2, 3, 4, 5, 6, 7, 8, 9, 10, 11] 12 [] 0 (fun z2 => next_ch _ X (it := it) (bm := bm) (ts := ts) (ln := ln) (c := c) (t := t) (rest := rest) (pbs := pbs) (tl := tl) (tw := tw) (m := m) (ep := ep) (n1 := n1) (n2 := n2) (L := (f, obAt z2 11) :: L) (N := z2.N) (i := z2.i) (GL := GL) (G := G) (by omega)) (by omega) (fun pz => ?_) (fun pz => ?_)
      · kernel_rfl
      intro z2
      rintro r sh' ⟨tl, m, ep, n2, N', i', rfl, rfl⟩
      by_cases h34 : c = 34
      · subst h34
        have e : quoF (34 :: cs) tok = (tok, some cs) := by cases cs <;> simp [quoF]
        refine sg_fit O.good [spEq (ch 34) (⟨#[34]⟩ : Str) true rfl] [.go 12 [12, 12, 12], .jn 0 0 [] 0 [], .go 4 [4, 12]] [2, 3, 4, 5, 6, 7, 8, 9, 10] 12 [] 0 _ (fun pz => ?_) (fun z => Mn_fin (c := z.c) (r := .ok (.ret (.str (tx tok) tt))) (sh := ⟨_, z.N, z.i, GL, G⟩) (hE1 tok cs e rest (lnUp 34 ln) tt tl m ep n2 z.N z.i hs' (lnUp_nls ..)))
        kernel_rfl
      · have q34 : ((ch c).cps.toList == (⟨#[34]⟩ : Str).cps.toList) = false := by rw [ch_eq]; exact decide_eq_false h34
        by_cases h92 : c = 92
        · subst h92
          match cs, hs', hn, hl, hE1, hE2 with
          | [], hs', hn, hl, hE1, hE2 =>
            obtain rfl := hs'.nil
            have hE2 := hE2 tok (by simp [quoF])
            refine sg_call O [spEq (ch 92) (⟨#[34]⟩ : Str) false rfl, spEq (ch 92) (⟨#[92]⟩ : Str) true rfl] [.go 12 [12, 12, 12], .jn 0 0 [] 0 [], .go 6 [4, 12], .jn 0 0 [] 0 [], .go 23 [5, 12, 3, 0, 0, 0, 3, 0, 0, 0, 3, 0, 0, 0, 0, 3, 4, 0]] [2, 3, 4, 5, 6, 7, 8, 9, 10, 0, 1, 11] 12 [] 0 (fun z3 => rdchar_end _ X (ln := lnUp 92 ln) (pbs := pbs) (tl := tl) (tw := tw) (m := m) (ep := ep) (n1 := n1) (n2 := n2) (L := (it, ciO bm ts) :: (bm, bmO X.lx) :: (f, obAt z3 11) :: L) (N := z3.N) (i := z3.i) (GL := GL) (G := G)) (by omega) (fun pz => ?_) (fun pz => ?_)
            · kernel_rfl
            intro z3
            rintro r sh' ⟨t', tl, m, ep, n2, N', i', rfl, rfl⟩
            have hx : tok.length ≤ 1000000 := by simp only [List.length_nil] at hl; omega
            have e0 : ∀ tok', quoF [] tok = (tok', none) → tok = tok' := fun tok' q => (Prod.mk.inj q).1
            have hb : lnUp 92 ln + nls [] = ln + nls [92] := lnUp_nls ..
            refine sg_fit O.good [spCat (tx tok) (⟨#[]⟩ : Str) (tx tok) (tx_nil tok) (sz hx)] [.go 23 [12, 12, 12, 12, 4, 12, 12, 0]] [9, 10, 0, 1, 2, 3, 4, 5, 6, 7, 8, 11] 12 [] 0 _ (fun pz => ?_) (fun z => ih [] [] tok (lnUp 92 ln) (z.tk 11 1) tl m ep n2 (z.vl 11 3) (z.m 11) (z.e 11) z.N z.i (Nat.zero_le _) ⟨[], rfl, rfl⟩ (by simp only [List.length_nil] at hl ⊢; omega) (fun tok' rest q => by simp [quoF] at q) (fun tok' q ln' tt c1 mf ef tl m ep n2 N i b => by rw [← e0 tok' q]; exact hE2 ln' tt c1 mf ef tl m ep n2 N i (b.trans hb)))
            kernel_rfl
          | d :: cs, hs', hn, hl, hE1, hE2 =>
            obtain ⟨t', rest', rfl, hs''⟩ := hs'.cons
            have hlen'' := hs''.len
            simp only [List.length_cons] at hn hl
            have e : quoF (92 :: d :: cs) tok = quoF cs (tok ++ [d]) := by simp [quoF]
            refine sg_call O [spEq (ch 92) (⟨#[34]⟩ : Str) false rfl, spEq (ch 92) (⟨#[92]⟩ : Str) true rfl] [.go 12 [12, 12, 12], .jn 0 0 [] 0 [], .go 6 [4, 12], .jn 0 0 [] 0 [], .go 23 [5, 12, 3, 0, 0, 0, 3, 0, 0, 0, 3, 0, 0, 0, 0, 3, 4, 0]] [2, 3, 4, 5, 6, 7, 8, 9, 10, 0, 1, 11] 12 [] 0 (fun z3 => rdchar_spec _ X (ln := lnUp 92 ln) (c := d) (t := t') (rest := rest') (pbs := pbs) (tl := tl) (tw := tw) (m := m) (ep := ep) (n1 := n1) (n2 := n2) (L := (it, ciO bm ts) :: (bm, bmO X.lx) :: (f, obAt z3 11) :: L) (N := z3.N) (i := z3.i) (GL := GL) (G := G) (by omega)) (by omega) (fun pz => ?_) (fun pz => ?_)
            · kernel_rfl
            intro z3
            rintro r sh' ⟨tl, m, ep, n2, N', i', rfl, rfl⟩
            refine sg_fit O.good [spCat (tx tok) (ch d) (tx (tok ++ [d])) (tx_snoc tok d) (sz (by show (tok ++ [d]).length ≤ _; simp only [List.length_append, List.length_singleton]; omega))] [.go 23 [12, 12, 12, 12, 4, 12, 12, 0]] [9, 10, 0, 1, 2, 3, 4, 5, 6, 7, 8, 11] 12 [] 0 _ (fun pz => ?_) (fun z => ih cs rest' (tok ++ [d]) (lnUp d (lnUp 92 ln)) (z.tk 11 1) tl m ep n2 (z.vl 11 3) (z.m 11) (z.e 11) z.N z.i (by omega) hs'' (by simp only [List.length_append, List.length_singleton]; omega) (fun tok' rest q sgs ln' t tl m ep n2 N i a b => hE1 tok' rest (e.trans q) sgs ln' t tl m ep n2 N i a (by rw [b, lnUp_nls, lnUp_nls])) (fun tok' q ln' tt c1 mf ef tl m ep n2 N i b => hE2 tok' (e.trans q) ln' tt c1 mf ef tl m ep n2 N i (by rw [b, lnUp_nls, lnUp_nls])))
            kernel_rfl
        · have q92 : ((ch c).cps.toList == (⟨#[92]⟩ : Str).cps.toList) = false := by rw [ch_eq]; exact decide_eq_false h92
          have e : quoF (c :: cs) tok = quoF cs (tok ++ [c]) := by cases cs <;> simp [quoF, h34, h92]
          refine sg_fit O.good [spEq (ch c) (⟨#[34]⟩ : Str) false q34, spEq (ch c) (⟨#[92]⟩ : Str) false q92, spCat (tx tok) (ch c) (tx (tok ++ [c])) (tx_snoc tok c) (sz (by show (tok ++ [c]).length ≤ _; simp only [List.length_append, List.length_singleton]; omega))] [.go 12 [12, 12, 12], .jn 0 0 [] 0 [], .go 6 [4, 12], .jn 0 0 [] 0 [], .go 16 [5, 12, 12, 6, 12, 12, 0]] [0, 1, 2, 3, 4, 5, 6, 7, 8, 9, 10, 11] 12 [] 0 _ (fun pz => ?_) (fun z => ih cs rest (tok ++ [c]) (lnUp c ln) (z.tk 11 1) tl m ep n2 (z.vl 11 3) (z.m 11) (z.e 11) z.N z.i (by omega) hs' (by simp only [List.length_append, List.length_singleton]; omega) (fun tok' rest q sgs ln' t tl m ep n2 N i a b => hE1 tok' rest (e.trans q) sgs ln' t tl m ep n2 N i a (by rw [b, lnUp_nls])) (fun tok' q ln' tt c1 mf ef tl m ep n2 N i b => hE2 tok' (e.trans q) ln' tt c1 mf ef tl m ep n2 N i (by rw [b, lnUp_nls])))
          kernel_rfl
end

end Mine
end
-- part L1levels
section
set_option maxRecDepth 100000
set_option maxHeartbeats 0
set_option Elab.async false
set_option linter.unusedVariables false
namespace Mine
open PySem PySem.Spec PySem.Calls PyProof.Rows PySem.W PySem.W.X

/-- the levels of a row's pairs -/
noncomputable def levF : List Nat → Int → List Int → List Int
  | [], _, acc => acc
  | c :: cs, lv, acc => if c = 40 then levF cs (lv + 1) (acc ++ [lv]) else levF cs (lv - 1) acc
noncomputable def levC (P : Par K1) (f it : Nat) : Code := forC (stAt (bodyOf (kt P) 129) 2) it (envAt (kt P) 129 f)
section
variable {A : Around} {R : Result → Shared → Prop}
theorem lev_loop (P : Par K1) (O : Lvl A 2) {f it rl : Nat} {x : Str} {tk : Tok} {L : Lg} {GL : Gg} {G : Nat} (hx : x.length ≤ 500) : ∀ (cs : List Nat) (k : Nat) (lv : Int) (l : List (Int × Tok)) (items : List Value) (to : Tok) (tl : T1) (m : HT) (ep n N i : Nat), x.cps.toList.drop k = cs → k ≤ x.length → items = ivs l → l.length ≤ k →
    (∀ (l' : List (Int × Tok)) (items : List Value) (lv' : Int) (to : Tok) (tl : T1) (m : HT) (ep n N i : Nat), items = ivs l' → l'.map (·.1) = levF cs lv (l.map (·.1)) → l'.length ≤ 500 → Ends ((U1 P).V A R) (.ok .next) ⟨(f, fr ([(⟨#[114, 111, 119]⟩ : Str), (⟨#[108, 101, 118, 101, 108, 115]⟩ : Str), (⟨#[108, 101, 118, 101, 108]⟩ : Str)] ++ tn1 (⟨#[115, 105, 103, 110]⟩ : Str) tl) ([.str x tk, .ref rl, .int lv' to] ++ tv1 tl) m ep) :: (rl, listO ⟨items⟩ n) :: L, N, i, GL, G⟩) →
    Mn ((U1 P).V A R) (hd (levC P f it) ⟨(it, strIt x tk k) :: (f, fr ([(⟨#[114, 111, 119]⟩ : Str), (⟨#[108, 101, 118, 101, 108, 115]⟩ : Str), (⟨#[108, 101, 118, 101, 108]⟩ : Str)] ++ tn1 (⟨#[115, 105, 103, 110]⟩ : Str) tl) ([.str x tk, .ref rl, .int lv to] ++ tv1 tl) m ep) :: (rl, listO ⟨items⟩ n) :: L, N, i, GL, G⟩) := by
  intro cs
  induction cs with
  | nil =>
    intro k lv l items to tl m ep n N i hd hk hi hl hE
    have hE := hE l items lv to tl m ep n
    have hl' : l.length ≤ 500 := by omega
    rcases tl with _ | v3
    all_goals
      refine sg_fit O.good [spEnd x k (drop_nil hd)] [.go 5 [1, 4, 0, 1, 0]] [3, 4] 5 [] 0 _ (fun pz => ?_) (fun z => Mn_fin (c := z.c) (r := .ok .next) (sh := ⟨_, z.N, z.i, GL, G⟩) (hE z.N z.i hi rfl hl'))
      kernel_rfl
  | cons c cs ih =>
    intro k lv l items to tl m ep n N i hd hk hi hl hE
    obtain ⟨hc, hd'⟩ := drop_cons hd
    have hlt : k < x.length := (Array.getElem?_eq_some_iff.mp hc).1
    by_cases h40 : c = 40
    · have q : ((ch c).cps.toList == (⟨#[40]⟩ : Str).cps.toList) = true := by rw [h40]; rfl
      have e : levF (c :: cs) lv (l.map (·.1)) = levF cs (lv + 1) ((l ++ [(lv, to)]).map (·.1)) := by rw [List.map_append]; exact if_pos h40
      rcases tl with _ | v3
      all_goals
        refine sg_fit O.good [spNext x k c hc, spEq (ch c) (⟨#[40]⟩ : Str) true q, spApp items (sz (by rw [hi]; simp [ivs]; omega)), spAddI lv 1 (lv + 1) rfl] [.go 15 [1, 4, 0, 2, 2, 2], .jn 0 0 [] 0 [], .go 29 [5, 2, 3, 3, 3, 3, 2, 6, 2, 2, 7, 2, 2, 0]] [0, 1, 2] 3 [] 0 _ (fun pz => ?_) (fun z => ih (k + 1) (lv + 1) (l ++ [(lv, to)]) (items.concat (.int lv to)) (z.tk 1 2) (some (z.vl 1 3)) (z.m 1) (z.e 1) (z.e 2) z.N z.i hd' hlt (by rw [hi]; exact ivs_snoc) (by simp only [List.length_append, List.length_singleton]; omega) (by rw [← e]; exact hE))
        kernel_rfl
    · have q : ((ch c).cps.toList == (⟨#[40]⟩ : Str).cps.toList) = false := by rw [ch_eq]; exact decide_eq_false h40
      have e : levF (c :: cs) lv (l.map (·.1)) = levF cs (lv - 1) (l.map (·.1)) := if_neg h40
      rcases tl with _ | v3
      all_goals
        refine sg_fit O.good [spNext x k c hc, spEq (ch c) (⟨#[40]⟩ : Str) false q, spSubI lv 1 (lv - 1) rfl] [.go 15 [1, 4, 0, 2, 2, 2], .jn 0 0 [] 0 [], .go 15 [5, 2, 6, 2, 2, 0]] [0, 1, 2] 3 [] 0 _ (fun pz => ?_) (fun z => ih (k + 1) (lv - 1) l items (z.tk 1 2) (some (z.vl 1 3)) (z.m 1) (z.e 1) (z.e 2) z.N z.i hd' hlt hi (by omega) (by rw [← e]; exact hE))
        kernel_rfl
end
theorem lev_loopC (P : Par K1) {f it rl : Nat} {x : Str} {tk : Tok} {L : Lg} {GL : Gg} {G : Nat} (hx : x.length ≤ 500) (to : Tok) (m : HT) (ep n N i : Nat) : Cn (U1 P) 2 (levC P f it) ⟨(it, strIt x tk 0) :: (f, fr ([(⟨#[114, 111, 119]⟩ : Str), (⟨#[108, 101, 118, 101, 108, 115]⟩ : Str), (⟨#[108, 101, 118, 101, 108]⟩ : Str)] ++ tn1 (⟨#[115, 105, 103, 110]⟩ : Str) none) ([.str x tk, .ref rl, .int 0 to] ++ tv1 none) m ep) :: (rl, listO ⟨[]⟩ n) :: L, N, i, GL, G⟩ fun r s' => ∃ (l' : List (Int × Tok)) (items : List Value) (lv' : Int) (to : Tok) (tl : T1) (m : HT) (ep n N i : Nat), items = ivs l' ∧ l'.map (·.1) = levF x.cps.toList 0 [] ∧ l'.length ≤ 500 ∧ r = .ok .next ∧ s' = ⟨(f, fr ([(⟨#[114, 111, 119]⟩ : Str), (⟨#[108, 101, 118, 101, 108, 115]⟩ : Str), (⟨#[108, 101, 118, 101, 108]⟩ : Str)] ++ tn1 (⟨#[115, 105, 103, 110]⟩ : Str) tl) ([.str x tk, .ref rl, .int lv' to] ++ tv1 tl) m ep) :: (rl, listO ⟨items⟩ n) :: L, N, i, GL, G⟩ := by
  refine Cn.of_walk fun A R O hE => ?_
  exact lev_loop P O hx x.cps.toList 0 0 [] [] to none m ep n N i rfl (Nat.zero_le _) rfl (Nat.le_refl _) fun l' items lv' to tl m ep n N i h1 h2 h3 => hE _ _ ⟨l', items, lv', to, tl, m, ep, n, N, i, h1, h2, h3, rfl, rfl⟩
theorem levels_spec (P : Par K1) (x : Str) (tk : Tok) (hx : x.length ≤ 500) (ha : x.cps.all (· < 128) = true) (L : Lg) (N i : Nat) (GL : Gg) (G : Nat) : Cn (U1 P) 3 (.call (.ref 129) ⟨[.str x tk], []⟩) ⟨L, N, i, GL, G⟩ fun r s' => ∃ (l' : List (Int × Tok)) (items : List Value) (rl n N i : Nat), items = ivs l' ∧ l'.map (·.1) = levF x.cps.toList 0 [] ∧ l'.length ≤ 500 ∧ r = .ok (.ret (.ref rl)) ∧ s' = ⟨(rl, listO ⟨items⟩ n) :: L, N, i, GL, G⟩ := by
  refine Cn.of_fn (by kernel_rfl) fun A R O hE => ?_
  refine sg_call O [spIter x ha] [.go 33 [0, 0, 1, 1, 0, 0, 2, 2, 2, 2, 2], .jn 0 0 [] 0 [], .go 2 [4, 1]] [0, 2, 1] 3 [] 0 (fun z1 => lev_loopC _ hx (z1.tk 1 2) (z1.m 1) (z1.e 1) (z1.e 2) z1.N z1.i (f := N) (it := z1.a 0) (rl := z1.a 2) (tk := tk) (L := L) (GL := GL) (G := G)) (by omega) (fun pz => ?_) (fun pz => ?_)
  · kernel_rfl
  intro z1
  rintro r sh' ⟨l', items, lv', to, tl, m, ep, n, N', i', hi, hm, hl, rfl, rfl⟩
  rcases tl with _ | v3
  all_goals
    refine sg_fit O.good [] [.go 3 [1]] [1] 2 [] 0 _ (fun pz => ?_) (fun z => Mn_fin (c := z.c) (r := .ok (.ret (.ref (z.a 0)))) (sh := ⟨(z.a 0, listO ⟨items⟩ n) :: L, z.N, z.i, GL, G⟩) (hE _ _ ⟨l', items, _, _, z.N, z.i, hi, hm, hl, rfl, rfl⟩))
    kernel_rfl

end Mine
end
-- part L1row
section
set_option maxRecDepth 100000
set_option maxHeartbeats 0
set_option Elab.async false
set_option linter.unusedVariables false
namespace Mine
open PySem PySem.Spec PySem.Calls PyProof.Rows PySem.W PySem.W.X

noncomputable def riO (x : Nat) (left : Int) : Obj := { cls := .type "range_iterator", data := .fields #[.int (Int.ofNat x) 0, .int left 0, .int 1 0] }
theorem left_s (n : Nat) : Int.ofNat (n + 1) - 1 = Int.ofNat n := by simp
/-- a row of brackets -/
noncomputable def rowF (p bits : Nat) : Nat → Nat → Nat → List Nat → List Nat
  | 0, _, _, row => row
  | n + 1, k, o, row => if 2 * o = k ∨ (o < p ∧ bits / 2 ^ k % 2 = 1) then rowF p bits n (k + 1) (o + 1) (row ++ [40]) else rowF p bits n (k + 1) o (row ++ [41])
theorem two_o (o : Nat) : (2 : Int) * Int.ofNat o = Int.ofNat (2 * o) := by simp
theorem pow_o (k : Nat) : (2 : Int) ^ k = Int.ofNat (2 ^ k) := by simp
theorem div_o (a b : Nat) : (Int.ofNat a).fdiv (Int.ofNat b) = Int.ofNat (a / b) := (Int.ofNat_fdiv a b).symm
theorem mod_o (a b : Nat) : (Int.ofNat a).fmod (Int.ofNat b) = Int.ofNat (a % b) := (Int.ofNat_fmod a b).symm
theorem ieq_t {a b : Nat} (h : a = b) : ((Int.ofNat a) == (Int.ofNat b)) = true := by rw [h]; exact beq_self_eq_true _
theorem ieq_f {a b : Nat} (h : a ≠ b) : ((Int.ofNat a) == (Int.ofNat b)) = false := by rw [beq_eq_false_iff_ne]; intro e; exact h (Int.ofNat.inj e)
theorem ilt_t {a b : Nat} (h : a < b) : decide ((Int.ofNat a) < (Int.ofNat b)) = true := decide_eq_true (by simpa using h)
theorem ilt_f {a b : Nat} (h : ¬ a < b) : decide ((Int.ofNat a) < (Int.ofNat b)) = false := decide_eq_false (by simpa using h)
theorem pow_small {k : Nat} (h : k < 60) : (Int.ofNat (2 ^ k)).natAbs < 2 ^ 64 := by
  show 2 ^ k < 2 ^ 64
  exact Nat.pow_lt_pow_right (by decide) (by omega)
theorem pow_pos' (k : Nat) : Int.ofNat (2 ^ k) ≠ 0 := by
  intro h
  have : 2 ^ k = 0 := Int.ofNat.inj h
  exact absurd this (Nat.ne_of_gt (Nat.two_pow_pos k))
noncomputable def rowC (P : Par K1) (f it : Nat) : Code := forC (stAt (bodyOf (kt P) 94) 2) it (envAt (kt P) 94 f)
section
variable {A : Around} {R : Result → Shared → Prop}
theorem row_loop (P : Par K1) (O : Lvl A 2) {f it : Nat} {p bits : Nat} {tb tp : Tok} {L : Lg} {GL : Gg} {G : Nat} : ∀ (n k o : Nat) (left : Int) (row : List Nat) (tr to : Tok) (tl : T1) (m : HT) (ep N i : Nat), left = Int.ofNat n → k + n ≤ 50 → o ≤ 50 + k → row.length ≤ k →
    (∀ o' tr to tl m ep N i, Ends ((U1 P).V A R) (.ok .next) ⟨(f, fr ([(⟨#[98, 105, 116, 115]⟩ : Str), (⟨#[112, 97, 105, 114, 115]⟩ : Str), (⟨#[114, 111, 119]⟩ : Str), (⟨#[111, 112, 101, 110, 101, 100]⟩ : Str)] ++ tn1 (⟨#[107]⟩ : Str) tl) ([.int (Int.ofNat bits) tb, .int (Int.ofNat p) tp, .str (tx (rowF p bits n k o row)) tr, .int (Int.ofNat o') to] ++ tv1 tl) m ep) :: L, N, i, GL, G⟩) →
    Mn ((U1 P).V A R) (hd (rowC P f it) ⟨(it, riO k left) :: (f, fr ([(⟨#[98, 105, 116, 115]⟩ : Str), (⟨#[112, 97, 105, 114, 115]⟩ : Str), (⟨#[114, 111, 119]⟩ : Str), (⟨#[111, 112, 101, 110, 101, 100]⟩ : Str)] ++ tn1 (⟨#[107]⟩ : Str) tl) ([.int (Int.ofNat bits) tb, .int (Int.ofNat p) tp, .str (tx row) tr, .int (Int.ofNat o) to] ++ tv1 tl) m ep) :: L, N, i, GL, G⟩) := by
  intro n
  induction n with
  | zero =>
    intro k o left row tr to tl m ep N i hleft hk ho hr hE
    subst hleft
    have hE := hE o tr to tl m ep
    rcases tl with _ | v3
    all_goals
      refine sg_fit O.good [] [.go 15 [1, 0, 1, 0, 1, 1, 1, 1, 0]] [3] 4 [] 0 _ (fun pz => ?_) (fun z => Mn_fin (c := z.c) (r := .ok .next) (sh := ⟨_, z.N, z.i, GL, G⟩) (hE z.N z.i))
      kernel_rfl
  | succ n ih =>
    intro k o left row tr to tl m ep N i hleft hk ho hr hE
    subst hleft
    have hz : (tx (row ++ [40])).length ≤ sizeLine := sz (by show (row ++ [40]).length ≤ _; simp only [List.length_append, List.length_singleton]; omega)
    have hz' : (tx (row ++ [41])).length ≤ sizeLine := sz (by show (row ++ [41]).length ≤ _; simp only [List.length_append, List.length_singleton]; omega)
    have hk2 : k + 1 + n ≤ 50 := by omega
    by_cases h1 : 2 * o = k
    · have e : rowF p bits (n + 1) k o row = rowF p bits n (k + 1) (o + 1) (row ++ [40]) := if_pos (.inl h1)
      have ho2 : o + 1 ≤ 50 + (k + 1) := by omega
      rcases tl with _ | v3
      all_goals
        refine sg_fit O.good [spMul 2 (Int.ofNat o) (Int.ofNat (2 * o)) (two_o o) (by decide) (by decide), spIEq (Int.ofNat (2 * o)) (Int.ofNat k) true (ieq_t h1), spCat (tx row) (⟨#[40]⟩ : Str) (tx (row ++ [40])) (tx_snoc row 40) hz] [.go 30 [1, 0, 1, 0, 1, 1, 1, 1, 1, 1, 1, 2, 2, 2, 4, 2], .jn 0 0 [] 0 [], .go 32 [5, 2, 6, 2, 2, 2, 0, 0, 2, 2, 0]] [0, 1] 2 [] 0 _ (fun pz => ?_) (fun z => ih (k + 1) (o + 1) (Int.ofNat (n + 1) - 1) (row ++ [40]) (z.tk 1 2) (z.tk 1 3) (some (z.vl 1 4)) (z.m 1) (z.e 1) z.N z.i (left_s n) hk2 ho2 (by simp only [List.length_append, List.length_singleton]; omega) (by rw [← e]; exact hE))
        kernel_rfl
    · by_cases h2 : o < p
      · by_cases h3 : bits / 2 ^ k % 2 = 1
        · have e : rowF p bits (n + 1) k o row = rowF p bits n (k + 1) (o + 1) (row ++ [40]) := if_pos (.inr ⟨h2, h3⟩)
          have ho2 : o + 1 ≤ 50 + (k + 1) := by omega
          rcases tl with _ | v3
          all_goals
            refine sg_fit O.good [spMul 2 (Int.ofNat o) (Int.ofNat (2 * o)) (two_o o) (by decide) (by decide), spIEq (Int.ofNat (2 * o)) (Int.ofNat k) false (ieq_f h1), spLt (Int.ofNat o) (Int.ofNat p) true (ilt_t h2), spPow 2 k (Int.ofNat (2 ^ k)) (pow_o k) (.inl rfl) (by omega), spDiv (Int.ofNat bits) (Int.ofNat (2 ^ k)) (Int.ofNat (bits / 2 ^ k)) (div_o ..) (pow_pos' k) (pow_small (by omega)), spMod (Int.ofNat (bits / 2 ^ k)) 2 (Int.ofNat (bits / 2 ^ k % 2)) (mod_o _ 2) (by decide), spIEq (Int.ofNat (bits / 2 ^ k % 2)) 1 true (ieq_t (b := 1) h3), spCat (tx row) (⟨#[40]⟩ : Str) (tx (row ++ [40])) (tx_snoc row 40) hz] [.go 30 [1, 0, 1, 0, 1, 1, 1, 1, 1, 1, 1, 2, 2, 2, 4, 2], .jn 0 0 [] 0 [], .go 6 [5, 2, 2], .jn 0 0 [] 0 [], .go 15 [6, 2, 2, 7, 8, 9], .jn 0 0 [] 0 [], .go 32 [10, 2, 11, 2, 2, 2, 0, 0, 2, 2, 0]] [0, 1] 2 [] 0 _ (fun pz => ?_) (fun z => ih (k + 1) (o + 1) (Int.ofNat (n + 1) - 1) (row ++ [40]) (z.tk 1 2) (z.tk 1 3) (some (z.vl 1 4)) (z.m 1) (z.e 1) z.N z.i (left_s n) hk2 ho2 (by simp only [List.length_append, List.length_singleton]; omega) (by rw [← e]; exact hE))
            kernel_rfl
        · have e : rowF p bits (n + 1) k o row = rowF p bits n (k + 1) o (row ++ [41]) := if_neg (by rintro (h | h); exact h1 h; exact h3 h.2)
          have ho2 : o ≤ 50 + (k + 1) := by omega
          rcases tl with _ | v3
          all_goals
            refine sg_fit O.good [spMul 2 (Int.ofNat o) (Int.ofNat (2 * o)) (two_o o) (by decide) (by decide), spIEq (Int.ofNat (2 * o)) (Int.ofNat k) false (ieq_f h1), spLt (Int.ofNat o) (Int.ofNat p) true (ilt_t h2), spPow 2 k (Int.ofNat (2 ^ k)) (pow_o k) (.inl rfl) (by omega), spDiv (Int.ofNat bits) (Int.ofNat (2 ^ k)) (Int.ofNat (bits / 2 ^ k)) (div_o ..) (pow_pos' k) (pow_small (by omega)), spMod (Int.ofNat (bits / 2 ^ k)) 2 (Int.ofNat (bits / 2 ^ k % 2)) (mod_o _ 2) (by decide), spIEq (Int.ofNat (bits / 2 ^ k % 2)) 1 false (ieq_f (b := 1) h3), spCat (tx row) (⟨#[41]⟩ : Str) (tx (row ++ [41])) (tx_snoc row 41) hz'] [.go 30 [1, 0, 1, 0, 1, 1, 1, 1, 1, 1, 1, 2, 2, 2, 4, 2], .jn 0 0 [] 0 [], .go 6 [5, 2, 2], .jn 0 0 [] 0 [], .go 15 [6, 2, 2, 7, 8, 9], .jn 0 0 [] 0 [], .go 16 [10, 2, 11, 2, 2, 0]] [0, 1] 2 [] 0 _ (fun pz => ?_) (fun z => ih (k + 1) (o) (Int.ofNat (n + 1) - 1) (row ++ [41]) (z.tk 1 2) (z.tk 1 3) (some (z.vl 1 4)) (z.m 1) (z.e 1) z.N z.i (left_s n) hk2 ho2 (by simp only [List.length_append, List.length_singleton]; omega) (by rw [← e]; exact hE))
            kernel_rfl
      · have e : rowF p bits (n + 1) k o row = rowF p bits n (k + 1) o (row ++ [41]) := if_neg (by rintro (h | h); exact h1 h; exact h2 h.1)
        have ho2 : o ≤ 50 + (k + 1) := by omega
        rcases tl with _ | v3
        all_goals
          refine sg_fit O.good [spMul 2 (Int.ofNat o) (Int.ofNat (2 * o)) (two_o o) (by decide) (by decide), spIEq (Int.ofNat (2 * o)) (Int.ofNat k) false (ieq_f h1), spLt (Int.ofNat o) (Int.ofNat p) false (ilt_f h2), spCat (tx row) (⟨#[41]⟩ : Str) (tx (row ++ [41])) (tx_snoc row 41) hz'] [.go 30 [1, 0, 1, 0, 1, 1, 1, 1, 1, 1, 1, 2, 2, 2, 4, 2], .jn 0 0 [] 0 [], .go 6 [5, 2, 2], .jn 0 0 [] 0 [], .go 16 [6, 2, 7, 2, 2, 0]] [0, 1] 2 [] 0 _ (fun pz => ?_) (fun z => ih (k + 1) (o) (Int.ofNat (n + 1) - 1) (row ++ [41]) (z.tk 1 2) (z.tk 1 3) (some (z.vl 1 4)) (z.m 1) (z.e 1) z.N z.i (left_s n) hk2 ho2 (by simp only [List.length_append, List.length_singleton]; omega) (by rw [← e]; exact hE))
          kernel_rfl
end
theorem row_loopC (P : Par K1) {f it : Nat} {p bits : Nat} {tb tp : Tok} {L : Lg} {GL : Gg} {G : Nat} (n : Nat) (left : Int) (tr to : Tok) (m : HT) (ep N i : Nat) (hl : left = Int.ofNat n) (hn : n ≤ 50) : Cn (U1 P) 2 (rowC P f it) ⟨(it, riO 0 left) :: (f, fr ([(⟨#[98, 105, 116, 115]⟩ : Str), (⟨#[112, 97, 105, 114, 115]⟩ : Str), (⟨#[114, 111, 119]⟩ : Str), (⟨#[111, 112, 101, 110, 101, 100]⟩ : Str)] ++ tn1 (⟨#[107]⟩ : Str) none) ([.int (Int.ofNat bits) tb, .int (Int.ofNat p) tp, .str (tx []) tr, .int (Int.ofNat 0) to] ++ tv1 none) m ep) :: L, N, i, GL, G⟩ fun r s' => ∃ o' tr to tl m ep N i, r = .ok .next ∧ s' = ⟨(f, fr ([(⟨#[98, 105, 116, 115]⟩ : Str), (⟨#[112, 97, 105, 114, 115]⟩ : Str), (⟨#[114, 111, 119]⟩ : Str), (⟨#[111, 112, 101, 110, 101, 100]⟩ : Str)] ++ tn1 (⟨#[107]⟩ : Str) tl) ([.int (Int.ofNat bits) tb, .int (Int.ofNat p) tp, .str (tx (rowF p bits n 0 0 [])) tr, .int (Int.ofNat o') to] ++ tv1 tl) m ep) :: L, N, i, GL, G⟩ := by
  refine Cn.of_walk fun A R O hE => ?_
  exact row_loop P O n 0 0 left [] tr to none m ep N i hl (by omega) (by omega) (Nat.le_refl _) fun o' tr to tl m ep N i => hE _ _ ⟨o', tr, to, tl, m, ep, N, i, rfl, rfl⟩
theorem row_spec (P : Par K1) (bits p : Nat) (hp : p = 5 ∨ p = 6) (tb tp : Tok) (L : Lg) (N i : Nat) (GL : Gg) (G : Nat) : Cn (U1 P) 3 (.call (.ref 94) ⟨[.int (Int.ofNat bits) tb, .int (Int.ofNat p) tp], []⟩) ⟨L, N, i, GL, G⟩ fun r s' => ∃ t N' i', r = .ok (.ret (.str (tx (rowF p bits (2 * p) 0 0 [])) t)) ∧ s' = ⟨L, N', i', GL, G⟩ := by
  have hn : 2 * p ≤ 50 := by omega
  have hl : ∀ (q : Int), q = Int.ofNat p → 2 * q = Int.ofNat (2 * p) := fun q e => by rw [e]; simp
  refine Cn.of_fn (by kernel_rfl) fun A R O hE => ?_
  rcases hp with rfl | rfl
  · refine sg_call O [spMul 2 5 10 rfl (by decide) (by decide)] [.go 63 [0, 0, 1, 1, 1, 1, 0, 0, 1, 1, 1, 1, 0, 0, 1, 4, 0, 0, 0, 0, 1, 1, 0, 1, 0, 1, 1, 1], .jn 0 0 [] 0 [], .go 9 [0, 1, 0, 1, 1, 1, 1]] [0, 2] 3 [] 0 (fun z1 => row_loopC _ (p := 5) 10 10 (z1.tk 1 2) (z1.tk 1 3) (z1.m 1) (z1.e 1) z1.N z1.i rfl hn (f := N) (it := z1.a 0) (bits := bits) (tb := tb) (tp := tp) (L := L) (GL := GL) (G := G)) (by omega) (fun pz => ?_) (fun pz => ?_)
    · kernel_rfl
    intro z1
    rintro r sh' ⟨o', tr, to, tl, m, ep, N', i', rfl, rfl⟩
    rcases tl with _ | v3
    all_goals
      refine sg_fit O.good [] [.go 3 [1]] [] 1 [] 0 _ (fun pz => ?_) (fun z => Mn_fin (c := z.c) (r := .ok (.ret (.str (tx (rowF 5 bits 10 0 0 [])) tr))) (sh := ⟨L, z.N, z.i, GL, G⟩) (hE _ _ ⟨_, z.N, z.i, rfl, rfl⟩))
      kernel_rfl
  · refine sg_call O [spMul 2 6 12 rfl (by decide) (by decide)] [.go 63 [0, 0, 1, 1, 1, 1, 0, 0, 1, 1, 1, 1, 0, 0, 1, 4, 0, 0, 0, 0, 1, 1, 0, 1, 0, 1, 1, 1], .jn 0 0 [] 0 [], .go 9 [0, 1, 0, 1, 1, 1, 1]] [0, 2] 3 [] 0 (fun z1 => row_loopC _ (p := 6) 12 12 (z1.tk 1 2) (z1.tk 1 3) (z1.m 1) (z1.e 1) z1.N z1.i rfl hn (f := N) (it := z1.a 0) (bits := bits) (tb := tb) (tp := tp) (L := L) (GL := GL) (G := G)) (by omega) (fun pz => ?_) (fun pz => ?_)
    · kernel_rfl
    intro z1
    rintro r sh' ⟨o', tr, to, tl, m, ep, N', i', rfl, rfl⟩
    rcases tl with _ | v3
    all_goals
      refine sg_fit O.good [] [.go 3 [1]] [] 1 [] 0 _ (fun pz => ?_) (fun z => Mn_fin (c := z.c) (r := .ok (.ret (.str (tx (rowF 6 bits 12 0 0 [])) tr))) (sh := ⟨L, z.N, z.i, GL, G⟩) (hE _ _ ⟨_, z.N, z.i, rfl, rfl⟩))
      kernel_rfl

end Mine
end
-- part L1due
section
set_option maxRecDepth 100000
set_option maxHeartbeats 0
set_option Elab.async false
set_option linter.unusedVariables false
namespace Mine
open PySem PySem.Spec PySem.Calls PyProof.Rows PySem.W PySem.W.X

theorem ivs_get {l : List (Int × Tok)} {k : Nat} {v : Int} {t : Tok} {r : List (Int × Tok)} (h : l.drop k = (v, t) :: r) : (ivs l)[k]? = some (.int v t) ∧ l.drop (k + 1) = r ∧ k < l.length := by
  have h1 : l[k]? = some (v, t) := by rw [← List.head?_drop, h]; rfl
  refine ⟨?_, ?_, (List.getElem?_eq_some_iff.mp h1).1⟩
  · unfold ivs; rw [List.getElem?_map, h1]; rfl
  · rw [show k + 1 = 1 + k from Nat.add_comm .., Nat.add_comm 1 k, ← List.drop_drop, h]; rfl
theorem ivs_none {l : List (Int × Tok)} {k : Nat} (h : l.drop k = []) : (ivs l)[k]? = none := by
  have : l.length ≤ k := List.drop_eq_nil_iff.mp h
  rw [List.getElem?_eq_none_iff]; simpa [ivs] using this
theorem ivs_len (l : List (Int × Tok)) : (ivs l).length = l.length := by simp [ivs]
/-- the row's part for a step -/
noncomputable def dueI : List Int → Int → List Nat → List Nat
  | [], _, acc => acc
  | v :: vs, s, acc => dueI vs s (if v = s then acc ++ [40] else if v = s - 1 then acc ++ [41] else acc)
noncomputable def dueF (lv : List Int) : Nat → Nat → List Nat → List Nat
  | 0, _, acc => acc
  | n + 1, s, acc => dueF lv n (s + 1) (dueI lv (Int.ofNat s) acc)
theorem dueI_len : ∀ (lv : List Int) (s : Int) (acc : List Nat), (dueI lv s acc).length ≤ acc.length + lv.length
  | [], _, _ => Nat.le_refl _
  | v :: vs, s, acc => by
    unfold dueI
    have := dueI_len vs s (if v = s then acc ++ [40] else if v = s - 1 then acc ++ [41] else acc)
    have h2 : (if v = s then acc ++ [40] else if v = s - 1 then acc ++ [41] else acc).length ≤ acc.length + 1 := by
      split
      · simp
      · split
        · simp
        · omega
    simp only [List.length_cons]
    omega
noncomputable def dueC (P : Par K1) (f it : Nat) : Code := forC (stAt (bodyOf (kt P) 136) 1) it (envAt (kt P) 136 f)
noncomputable def dueD (P : Par K1) (f it : Nat) : Code := forC (stAt (sbA (stAt (bodyOf (kt P) 136) 1)) 0) it (envAt (kt P) 136 f)
/-- the names that the outer loop adds -/
noncomputable def tnS (a b : Str) : Option (Value × T1) → List Str
  | none => []
  | some (_, tl) => a :: tn1 b tl
noncomputable def tvS : Option (Value × T1) → List Value
  | none => []
  | some (v, tl) => v :: tv1 tl
section
variable {A : Around} {R : Result → Shared → Prop}
theorem due_in (P : Par K1) (O : Lvl A 2) {f it rl : Nat} {s : Int} {ts : Tok} {l : List (Int × Tok)} {items : List Value} {n : Nat} {L : Lg} {GL : Gg} {G : Nat} (hil : items = ivs l) (hl : l.length ≤ 20) : ∀ (r : List (Int × Tok)) (k : Nat) (acc : List Nat) (td : Tok) (tl : T1) (m : HT) (ep N i : Nat), l.drop k = r → acc.length + r.length ≤ 500 →
    (∀ (td : Tok) (tl : T1) (m : HT) (ep N i : Nat), Ends ((U1 P).V A R) (.ok .next) ⟨(f, fr ([(⟨#[108, 101, 118, 101, 108, 115]⟩ : Str), (⟨#[100, 117, 101]⟩ : Str), (⟨#[115, 116, 101, 112]⟩ : Str)] ++ tn1 (⟨#[108, 101, 118, 101, 108]⟩ : Str) tl) ([.ref rl, .str (tx (dueI (r.map (·.1)) s acc)) td, .int s ts] ++ tv1 tl) m ep) :: (rl, listO ⟨items⟩ n) :: L, N, i, GL, G⟩) →
    Mn ((U1 P).V A R) (hd (dueD P f it) ⟨(it, liO rl k) :: (f, fr ([(⟨#[108, 101, 118, 101, 108, 115]⟩ : Str), (⟨#[100, 117, 101]⟩ : Str), (⟨#[115, 116, 101, 112]⟩ : Str)] ++ tn1 (⟨#[108, 101, 118, 101, 108]⟩ : Str) tl) ([.ref rl, .str (tx acc) td, .int s ts] ++ tv1 tl) m ep) :: (rl, listO ⟨items⟩ n) :: L, N, i, GL, G⟩) := by
  intro r
  induction r with
  | nil =>
    intro k acc td tl m ep N i hd ha hE
    have hE := hE td tl m ep
    have hg := ivs_none hd
    rw [← hil] at hg
    rcases tl with _ | v3
    all_goals
      refine sg_fit O.good [spIEnd items k hg] [.go 5 [1, 4, 0, 2, 1, 0]] [3, 4] 5 [] 0 _ (fun pz => ?_) (fun z => Mn_fin (c := z.c) (r := .ok .next) (sh := ⟨_, z.N, z.i, GL, G⟩) (hE z.N z.i))
      kernel_rfl
  | cons p r ih =>
    obtain ⟨v, t⟩ := p
    intro k acc td tl m ep N i hd ha hE
    obtain ⟨hg, hd', hk⟩ := ivs_get hd
    rw [← hil] at hg
    simp only [List.length_cons] at ha
    have hz : (tx (acc ++ [40])).length ≤ sizeLine := sz (by show (acc ++ [40]).length ≤ _; simp only [List.length_append, List.length_singleton]; omega)
    have hz' : (tx (acc ++ [41])).length ≤ sizeLine := sz (by show (acc ++ [41]).length ≤ _; simp only [List.length_append, List.length_singleton]; omega)
    by_cases h1 : v = s
    · have e : dueI (((v, t) :: r).map (·.1)) s acc = dueI (r.map (·.1)) s (acc ++ [40]) := by rw [List.map_cons, dueI, if_pos h1]
      have q : (v == s) = true := by rw [h1]; exact beq_self_eq_true _
      rcases tl with _ | v3
      all_goals
        refine sg_fit O.good [spINext items k (.int v t) hg, spIEq v s true q, spCat (tx acc) (⟨#[40]⟩ : Str) (tx (acc ++ [40])) (tx_snoc acc 40) hz] [.go 16 [1, 4, 0, 2, 2, 2, 2, 2], .jn 0 0 [] 0 [], .go 16 [5, 2, 6, 2, 2, 0]] [0, 1, 2] 3 [] 0 _ (fun pz => ?_) (fun z => ih (k + 1) (acc ++ [40]) (z.tk 1 1) (some (z.vl 1 3)) (z.m 1) (z.e 1) z.N z.i hd' (by simp only [List.length_append, List.length_singleton]; omega) (by rw [← e]; exact hE))
        kernel_rfl
    · have q : (v == s) = false := by rw [beq_eq_false_iff_ne]; exact h1
      by_cases h2 : v = s - 1
      · have e : dueI (((v, t) :: r).map (·.1)) s acc = dueI (r.map (·.1)) s (acc ++ [41]) := by rw [List.map_cons, dueI, if_neg h1, if_pos h2]
        have q2 : (v == s - 1) = true := by rw [h2]; exact beq_self_eq_true _
        rcases tl with _ | v3
        all_goals
          refine sg_fit O.good [spINext items k (.int v t) hg, spIEq v s false q, spSubI s 1 (s - 1) rfl, spIEq v (s - 1) true q2, spCat (tx acc) (⟨#[41]⟩ : Str) (tx (acc ++ [41])) (tx_snoc acc 41) hz'] [.go 16 [1, 4, 0, 2, 2, 2, 2, 2], .jn 0 0 [] 0 [], .go 10 [5, 2, 2, 6], .jn 0 0 [] 0 [], .go 16 [7, 2, 8, 2, 2, 0]] [0, 1, 2] 3 [] 0 _ (fun pz => ?_) (fun z => ih (k + 1) (acc ++ [41]) (z.tk 1 1) (some (z.vl 1 3)) (z.m 1) (z.e 1) z.N z.i hd' (by simp only [List.length_append, List.length_singleton]; omega) (by rw [← e]; exact hE))
          kernel_rfl
      · have e : dueI (((v, t) :: r).map (·.1)) s acc = dueI (r.map (·.1)) s acc := by rw [List.map_cons, dueI, if_neg h1, if_neg h2]
        have q2 : (v == s - 1) = false := by rw [beq_eq_false_iff_ne]; exact h2
        rcases tl with _ | v3
        all_goals
          refine sg_fit O.good [spINext items k (.int v t) hg, spIEq v s false q, spSubI s 1 (s - 1) rfl, spIEq v (s - 1) false q2] [.go 16 [1, 4, 0, 2, 2, 2, 2, 2], .jn 0 0 [] 0 [], .go 10 [5, 2, 2, 6], .jn 0 0 [] 0 [], .go 2 [7, 0]] [0, 1, 2] 3 [] 0 _ (fun pz => ?_) (fun z => ih (k + 1) acc (z.tk 1 1) (some (z.vl 1 3)) (z.m 1) (z.e 1) z.N z.i hd' (by omega) (by rw [← e]; exact hE))
          kernel_rfl
end
theorem due_inC (P : Par K1) {f it rl : Nat} {s : Int} {ts : Tok} {l : List (Int × Tok)} {items : List Value} {n : Nat} {L : Lg} {GL : Gg} {G : Nat} (hil : items = ivs l) (hl : l.length ≤ 20) (acc : List Nat) (td : Tok) (tl : T1) (m : HT) (ep N i : Nat) (ha : acc.length + l.length ≤ 500) : Cn (U1 P) 2 (dueD P f it) ⟨(it, liO rl 0) :: (f, fr ([(⟨#[108, 101, 118, 101, 108, 115]⟩ : Str), (⟨#[100, 117, 101]⟩ : Str), (⟨#[115, 116, 101, 112]⟩ : Str)] ++ tn1 (⟨#[108, 101, 118, 101, 108]⟩ : Str) tl) ([.ref rl, .str (tx acc) td, .int s ts] ++ tv1 tl) m ep) :: (rl, listO ⟨items⟩ n) :: L, N, i, GL, G⟩ fun r s' => ∀ E : Result → Sh → Prop, (∀ td tl m ep N i, E (.ok .next) ⟨(f, fr ([(⟨#[108, 101, 118, 101, 108, 115]⟩ : Str), (⟨#[100, 117, 101]⟩ : Str), (⟨#[115, 116, 101, 112]⟩ : Str)] ++ tn1 (⟨#[108, 101, 118, 101, 108]⟩ : Str) tl) ([.ref rl, .str (tx (dueI (l.map (·.1)) s acc)) td, .int s ts] ++ tv1 tl) m ep) :: (rl, listO ⟨items⟩ n) :: L, N, i, GL, G⟩) → E r s' := by
  refine Cn.of_walk fun A R O hE => ?_
  exact due_in P O hil hl l 0 acc td tl m ep N i rfl ha fun td tl m ep N i => hE _ _ fun E k => k td tl m ep N i
section
variable {A : Around} {R : Result → Shared → Prop}
theorem due_out (P : Par K1) (O : Lvl A 3) {f it rl : Nat} {l : List (Int × Tok)} {items : List Value} {n : Nat} {L : Lg} {GL : Gg} {G : Nat} (hil : items = ivs l) (hl : l.length ≤ 20) : ∀ (c s : Nat) (left : Int) (acc : List Nat) (td : Tok) (tl : Option (Value × T1)) (m : HT) (ep N i : Nat), left = Int.ofNat c → acc.length + c * 20 ≤ 500 →
    (∀ (td : Tok) (tl : Option (Value × T1)) (m : HT) (ep N i : Nat), Ends ((U1 P).V A R) (.ok .next) ⟨(f, fr ([(⟨#[108, 101, 118, 101, 108, 115]⟩ : Str), (⟨#[100, 117, 101]⟩ : Str)] ++ tnS (⟨#[115, 116, 101, 112]⟩ : Str) (⟨#[108, 101, 118, 101, 108]⟩ : Str) tl) ([.ref rl, .str (tx (dueF (l.map (·.1)) c s acc)) td] ++ tvS tl) m ep) :: (rl, listO ⟨items⟩ n) :: L, N, i, GL, G⟩) →
    Mn ((U1 P).V A R) (hd (dueC P f it) ⟨(it, riO s left) :: (f, fr ([(⟨#[108, 101, 118, 101, 108, 115]⟩ : Str), (⟨#[100, 117, 101]⟩ : Str)] ++ tnS (⟨#[115, 116, 101, 112]⟩ : Str) (⟨#[108, 101, 118, 101, 108]⟩ : Str) tl) ([.ref rl, .str (tx acc) td] ++ tvS tl) m ep) :: (rl, listO ⟨items⟩ n) :: L, N, i, GL, G⟩) := by
  intro c
  induction c with
  | zero =>
    intro s left acc td tl m ep N i hleft ha hE
    subst hleft
    have hE := hE td tl m ep
    rcases tl with _ | ⟨v3, _ | v4⟩
    all_goals
      refine sg_fit O.good [] [.go 15 [1, 0, 1, 0, 1, 1, 1, 1, 0]] [3, 4] 5 [] 0 _ (fun pz => ?_) (fun z => Mn_fin (c := z.c) (r := .ok .next) (sh := ⟨_, z.N, z.i, GL, G⟩) (hE z.N z.i))
      kernel_rfl
  | succ c ih =>
    intro s left acc td tl m ep N i hleft ha hE
    subst hleft
    have hn := dueI_len (l.map (·.1)) (Int.ofNat s) acc
    simp only [List.length_map] at hn
    have ha1 : acc.length + l.length ≤ 500 := by omega
    have e : dueF (l.map (·.1)) (c + 1) s acc = dueF (l.map (·.1)) c (s + 1) (dueI (l.map (·.1)) (Int.ofNat s) acc) := rfl
    have ha2 : (dueI (l.map (·.1)) (Int.ofNat s) acc).length + c * 20 ≤ 500 := by omega
    rcases tl with _ | ⟨v3, _ | v4⟩
    · refine sg_call O [] [.go 27 [1, 0, 1, 0, 1, 1, 1, 1, 1, 1, 1, 2, 2, 2, 3, 3], .jn 0 0 [] 0 [], .go 6 [0, 3, 0, 1]] [0, 2, 3, 1] 4 [] 0 (fun z1 => due_inC _ hil hl acc (z1.tk 1 1) none (z1.m 1) (z1.e 1) z1.N z1.i ha1 (f := f) (it := z1.a 0) (rl := rl) (s := Int.ofNat s) (ts := z1.tk 1 2) (n := n) (L := (it, obAt z1 3) :: L) (GL := GL) (G := G)) (by omega) (fun pz => ?_) (fun pz => ?_)
      · kernel_rfl
      intro z1
      intro r sh' H
      refine H (fun r sh' => Mn _ (St.back z1 r sh')) ?_
      rintro td tl m ep N' i'
      rcases tl with _ | v5
      · refine sg_fit O.good [] [.go 1 [0]] [2, 0, 1] 3 [] 0 _ (fun pz => ?_) (fun z => ih (s + 1) (Int.ofNat (c + 1) - 1) (dueI (l.map (·.1)) (Int.ofNat s) acc) td (some (z.vl 1 2, none)) m ep z.N z.i (left_s c) ha2 (by rw [← e]; exact hE))
        kernel_rfl
      · refine sg_fit O.good [] [.go 1 [0]] [2, 0, 1] 3 [] 0 _ (fun pz => ?_) (fun z => ih (s + 1) (Int.ofNat (c + 1) - 1) (dueI (l.map (·.1)) (Int.ofNat s) acc) td (some (z.vl 1 2, (some (z.vl 1 3)))) m ep z.N z.i (left_s c) ha2 (by rw [← e]; exact hE))
        kernel_rfl
    · refine sg_call O [] [.go 27 [1, 0, 1, 0, 1, 1, 1, 1, 1, 1, 1, 2, 2, 2, 3, 3], .jn 0 0 [] 0 [], .go 6 [0, 3, 0, 1]] [0, 2, 3, 1] 4 [] 0 (fun z1 => due_inC _ hil hl acc (z1.tk 1 1) none (z1.m 1) (z1.e 1) z1.N z1.i ha1 (f := f) (it := z1.a 0) (rl := rl) (s := Int.ofNat s) (ts := z1.tk 1 2) (n := n) (L := (it, obAt z1 3) :: L) (GL := GL) (G := G)) (by omega) (fun pz => ?_) (fun pz => ?_)
      · kernel_rfl
      intro z1
      intro r sh' H
      refine H (fun r sh' => Mn _ (St.back z1 r sh')) ?_
      rintro td tl m ep N' i'
      rcases tl with _ | v5
      · refine sg_fit O.good [] [.go 1 [0]] [2, 0, 1] 3 [] 0 _ (fun pz => ?_) (fun z => ih (s + 1) (Int.ofNat (c + 1) - 1) (dueI (l.map (·.1)) (Int.ofNat s) acc) td (some (z.vl 1 2, none)) m ep z.N z.i (left_s c) ha2 (by rw [← e]; exact hE))
        kernel_rfl
      · refine sg_fit O.good [] [.go 1 [0]] [2, 0, 1] 3 [] 0 _ (fun pz => ?_) (fun z => ih (s + 1) (Int.ofNat (c + 1) - 1) (dueI (l.map (·.1)) (Int.ofNat s) acc) td (some (z.vl 1 2, (some (z.vl 1 3)))) m ep z.N z.i (left_s c) ha2 (by rw [← e]; exact hE))
        kernel_rfl
    · refine sg_call O [] [.go 27 [1, 0, 1, 0, 1, 1, 1, 1, 1, 1, 1, 2, 2, 2, 3, 3], .jn 0 0 [] 0 [], .go 6 [0, 3, 0, 1]] [0, 2, 3, 1] 4 [] 0 (fun z1 => due_inC _ hil hl acc (z1.tk 1 1) (some v4) (z1.m 1) (z1.e 1) z1.N z1.i ha1 (f := f) (it := z1.a 0) (rl := rl) (s := Int.ofNat s) (ts := z1.tk 1 2) (n := n) (L := (it, obAt z1 3) :: L) (GL := GL) (G := G)) (by omega) (fun pz => ?_) (fun pz => ?_)
      · kernel_rfl
      intro z1
      intro r sh' H
      refine H (fun r sh' => Mn _ (St.back z1 r sh')) ?_
      rintro td tl m ep N' i'
      rcases tl with _ | v5
      · refine sg_fit O.good [] [.go 1 [0]] [2, 0, 1] 3 [] 0 _ (fun pz => ?_) (fun z => ih (s + 1) (Int.ofNat (c + 1) - 1) (dueI (l.map (·.1)) (Int.ofNat s) acc) td (some (z.vl 1 2, none)) m ep z.N z.i (left_s c) ha2 (by rw [← e]; exact hE))
        kernel_rfl
      · refine sg_fit O.good [] [.go 1 [0]] [2, 0, 1] 3 [] 0 _ (fun pz => ?_) (fun z => ih (s + 1) (Int.ofNat (c + 1) - 1) (dueI (l.map (·.1)) (Int.ofNat s) acc) td (some (z.vl 1 2, (some (z.vl 1 3)))) m ep z.N z.i (left_s c) ha2 (by rw [← e]; exact hE))
        kernel_rfl
end
theorem due_outC (P : Par K1) {f it rl : Nat} {l : List (Int × Tok)} {items : List Value} {n : Nat} {L : Lg} {GL : Gg} {G : Nat} (hil : items = ivs l) (hl : l.length ≤ 20) (c : Nat) (hc : c ≤ 20) (left : Int) (td : Tok) (m : HT) (ep N i : Nat) (hleft : left = Int.ofNat c) : Cn (U1 P) 3 (dueC P f it) ⟨(it, riO 0 left) :: (f, fr ([(⟨#[108, 101, 118, 101, 108, 115]⟩ : Str), (⟨#[100, 117, 101]⟩ : Str)] ++ tnS (⟨#[115, 116, 101, 112]⟩ : Str) (⟨#[108, 101, 118, 101, 108]⟩ : Str) none) ([.ref rl, .str (tx []) td] ++ tvS none) m ep) :: (rl, listO ⟨items⟩ n) :: L, N, i, GL, G⟩ fun r s' => ∃ td tl m ep N i, r = .ok .next ∧ s' = ⟨(f, fr ([(⟨#[108, 101, 118, 101, 108, 115]⟩ : Str), (⟨#[100, 117, 101]⟩ : Str)] ++ tnS (⟨#[115, 116, 101, 112]⟩ : Str) (⟨#[108, 101, 118, 101, 108]⟩ : Str) tl) ([.ref rl, .str (tx (dueF (l.map (·.1)) c 0 [])) td] ++ tvS tl) m ep) :: (rl, listO ⟨items⟩ n) :: L, N, i, GL, G⟩ := by
  refine Cn.of_walk fun A R O hE => ?_
  exact due_out P O hil hl c 0 left [] td none m ep N i hleft (by simp; omega) fun td tl m ep N i => hE _ _ ⟨td, tl, m, ep, N, i, rfl, rfl⟩
theorem due_spec (P : Par K1) {rl n : Nat} {l : List (Int × Tok)} {items : List Value} (hil : items = ivs l) {q : Nat} (hq : q = 5 ∨ q = 6) (hl : l.length = q) (L : Lg) (N i : Nat) (GL : Gg) (G : Nat) : Cn (U1 P) 4 (.call (.ref 136) ⟨[.ref rl], []⟩) ⟨(rl, listO ⟨items⟩ n) :: L, N, i, GL, G⟩ fun r s' => ∃ t N' i', r = .ok (.ret (.str (tx (dueF (l.map (·.1)) (q + 1) 0 [])) t)) ∧ s' = ⟨(rl, listO ⟨items⟩ n) :: L, N', i', GL, G⟩ := by
  have hlen : items.length = q := by rw [hil, ivs_len]; exact hl
  have h20 : l.length ≤ 20 := by omega
  have h100 : items.length ≤ 1000 := by omega
  refine Cn.of_fn (by kernel_rfl) fun A R O hE => ?_
  rcases hq with rfl | rfl
  · refine sg_call O [spLenN items 5 hlen h100, spAddI 5 1 6 rfl] [.go 56 [0, 0, 1, 1, 0, 0, 1, 1, 0, 0, 0, 0, 1, 4, 1, 5, 0, 0, 0, 0, 1, 1, 0, 1, 0, 1, 1, 1], .jn 0 0 [] 0 [], .go 9 [0, 1, 0, 1, 1, 1, 1]] [0, 2, 3] 4 [] 0 (fun z1 => due_outC _ hil h20 6 (by omega) 6 (z1.tk 1 1) (z1.m 1) (z1.e 1) z1.N z1.i rfl (f := N) (it := z1.a 0) (rl := rl) (n := n) (L := L) (GL := GL) (G := G)) (by omega) (fun pz => ?_) (fun pz => ?_)
    · kernel_rfl
    intro z1
    rintro r sh' ⟨td, tl, m, ep, N', i', rfl, rfl⟩
    rcases tl with _ | ⟨v3, _ | v4⟩
    all_goals
      refine sg_fit O.good [] [.go 3 [1]] [1] 2 [] 0 _ (fun pz => ?_) (fun z => Mn_fin (c := z.c) (r := .ok (.ret (.str (tx (dueF (l.map (·.1)) 6 0 [])) td))) (sh := ⟨_, z.N, z.i, GL, G⟩) (hE _ _ ⟨_, z.N, z.i, rfl, rfl⟩))
      kernel_rfl
  · refine sg_call O [spLenN items 6 hlen h100, spAddI 6 1 7 rfl] [.go 56 [0, 0, 1, 1, 0, 0, 1, 1, 0, 0, 0, 0, 1, 4, 1, 5, 0, 0, 0, 0, 1, 1, 0, 1, 0, 1, 1, 1], .jn 0 0 [] 0 [], .go 9 [0, 1, 0, 1, 1, 1, 1]] [0, 2, 3] 4 [] 0 (fun z1 => due_outC _ hil h20 7 (by omega) 7 (z1.tk 1 1) (z1.m 1) (z1.e 1) z1.N z1.i rfl (f := N) (it := z1.a 0) (rl := rl) (n := n) (L := L) (GL := GL) (G := G)) (by omega) (fun pz => ?_) (fun pz => ?_)
    · kernel_rfl
    intro z1
    rintro r sh' ⟨td, tl, m, ep, N', i', rfl, rfl⟩
    rcases tl with _ | ⟨v3, _ | v4⟩
    all_goals
      refine sg_fit O.good [] [.go 3 [1]] [1] 2 [] 0 _ (fun pz => ?_) (fun z => Mn_fin (c := z.c) (r := .ok (.ret (.str (tx (dueF (l.map (·.1)) 7 0 [])) td))) (sh := ⟨_, z.N, z.i, GL, G⟩) (hE _ _ ⟨_, z.N, z.i, rfl, rfl⟩))
      kernel_rfl

end Mine
end
-- part L1ba
section
set_option maxRecDepth 100000
set_option maxHeartbeats 0
set_option Elab.async false
set_option linter.unusedVariables false
namespace Mine
open PySem PySem.Spec PySem.Calls PyProof.Rows PySem.W PySem.W.X

noncomputable abbrev isW (c : Nat) : Bool := decide (c ∈ ((⟨#[10, 9, 13, 32]⟩ : Str) : Str).cps.toList)
/-- the rest of a bare word -/
noncomputable def baF : List Nat → List Nat → List Nat × Option (List Nat)
  | [], tok => (tok, none)
  | [c], tok => if isW c = true then (tok, some []) else if c = 92 then (tok, none) else (tok ++ [c], none)
  | c :: d :: cs, tok => if isW c = true then (tok, some (d :: cs)) else if c = 92 then baF cs (tok ++ [d]) else baF (d :: cs) (tok ++ [c])
section
variable {A : Around} {R : Result → Shared → Prop}
theorem ba_loop (P : Par K1) (O : Lvl A 4) (X : LX) {f it bm : Nat} {ts tw : Tok} {pbs : List Value} {n1 : Nat} {L : Lg} {GL : Gg} {G : Nat} : ∀ (n : Nat) (cs : List Nat) (sgs : List Value) (tok : List Nat) (ln : Int) (tt tl : Tok) (m : HT) (ep n2 : Nat) (c1 : Value) (mf : HT) (ef N i : Nat),
    cs.length ≤ n → Sg sgs cs → tok.length + cs.length ≤ 2000 →
    (∀ tok' rest, baF cs tok = (tok', some rest) → ∀ sgs ln' t tl m ep n2 N i, Sg sgs rest → ln' + nls rest = ln + nls cs → Ends ((U1 P).V A R) (.ok (.ret (.str (tx tok') t))) ⟨lexL P X ⟨ln', sgs, pbs, tl, tw, m, ep, n1, n2⟩ ++ L, N, i, GL, G⟩) →
    (∀ tok', baF cs tok = (tok', none) → ∀ ln' tt c1 mf ef tl m ep n2 N i, ln' = ln + nls cs → Ends ((U1 P).V A R) (.ok .next) ⟨(it, ciE) :: (bm, bmO X.lx) :: (lexL P X ⟨ln', [], pbs, tl, tw, m, ep, n1, n2⟩ ++ ((f, fr [(⟨#[115, 101, 108, 102]⟩ : Str), (⟨#[116, 111, 107, 101, 110]⟩ : Str), (⟨#[102, 105, 116, 101, 114]⟩ : Str), (⟨#[99, 104]⟩ : Str)] [.ref X.lx, .str (tx tok') tt, .ref it, c1] mf ef) :: L)), N, i, GL, G⟩) →
    Mn ((U1 P).V A R) (hd (baC P f it) ⟨(it, ciO bm ts) :: (bm, bmO X.lx) :: (lexL P X ⟨ln, sgs, pbs, tl, tw, m, ep, n1, n2⟩ ++ ((f, fr [(⟨#[115, 101, 108, 102]⟩ : Str), (⟨#[116, 111, 107, 101, 110]⟩ : Str), (⟨#[102, 105, 116, 101, 114]⟩ : Str), (⟨#[99, 104]⟩ : Str)] [.ref X.lx, .str (tx tok) tt, .ref it, c1] mf ef) :: L)), N, i, GL, G⟩) := by
  intro n
  induction n with
  | zero =>
    intro cs sgs tok ln tt tl m ep n2 c1 mf ef N i hn hs hl hE1 hE2
    have : cs = [] := List.eq_nil_of_length_eq_zero (Nat.le_zero.mp hn)
    subst this
    obtain rfl := hs.nil
    have hE2 := hE2 tok rfl
    refine sg_call O [] [.go 2 [1]] [0, 1, 2, 3, 4, 5, 6, 7, 8, 9, 10, 11] 12 [] 0 (fun z1 => next_end _ X (it := it) (bm := bm) (ts := ts) (ln := ln) (pbs := pbs) (tl := tl) (tw := tw) (m := m) (ep := ep) (n1 := n1) (n2 := n2) (L := (f, obAt z1 11) :: L) (N := z1.N) (i := z1.i) (GL := GL) (G := G)) (by omega) (fun pz => ?_) (fun pz => ?_)
    · kernel_rfl
    intro z1
    rintro r sh' ⟨e, tu, tl, m, ep, n2, N', i', rfl, rfl⟩
    refine sg_fit O.good [] [.go 2 [1, 0]] [1, 2, 3, 4, 5, 6, 7, 8, 9, 10, 11, 12] 13 [] 0 _ (fun pz => ?_) (fun z => Mn_fin (c := z.c) (r := .ok .next) (sh := ⟨_, z.N, z.i, GL, G⟩) (hE2 ln tt c1 mf ef tl m ep n2 z.N z.i (by simp [nls])))
    kernel_rfl
  | succ n ih =>
    intro cs sgs tok ln tt tl m ep n2 c1 mf ef N i hn hs hl hE1 hE2
    match cs, hn, hs, hl, hE1, hE2 with
    | [], hn, hs, hl, hE1, hE2 =>
      obtain rfl := hs.nil
      have hE2 := hE2 tok rfl
      refine sg_call O [] [.go 2 [1]] [0, 1, 2, 3, 4, 5, 6, 7, 8, 9, 10, 11] 12 [] 0 (fun z1 => next_end _ X (it := it) (bm := bm) (ts := ts) (ln := ln) (pbs := pbs) (tl := tl) (tw := tw) (m := m) (ep := ep) (n1 := n1) (n2 := n2) (L := (f, obAt z1 11) :: L) (N := z1.N) (i := z1.i) (GL := GL) (G := G)) (by omega) (fun pz => ?_) (fun pz => ?_)
      · kernel_rfl
      intro z1
      rintro r sh' ⟨e, tu, tl, m, ep, n2, N', i', rfl, rfl⟩
      refine sg_fit O.good [] [.go 2 [1, 0]] [1, 2, 3, 4, 5, 6, 7, 8, 9, 10, 11, 12] 13 [] 0 _ (fun pz => ?_) (fun z => Mn_fin (c := z.c) (r := .ok .next) (sh := ⟨_, z.N, z.i, GL, G⟩) (hE2 ln tt c1 mf ef tl m ep n2 z.N z.i (by simp [nls])))
      kernel_rfl
    | c :: cs, hn, hs, hl, hE1, hE2 =>
      obtain ⟨t, rest, rfl, hs'⟩ := hs.cons
      have hlen := hs'.len
      simp only [List.length_cons] at hn hl
      refine sg_call O [] [.go 2 [1]] [0, 1, 2, 3, 4, 5, 6, 7, 8, 9, 10, 11] 12 [] 0 (fun z2 => next_ch _ X (it := it) (bm := bm) (ts := ts) (ln := ln) (c := c) (t := t) (rest := rest) (pbs := pbs) (tl := tl) (tw := tw) (m := m) (ep := ep) (n1 := n1) (n2 := n2) (L := (f, obAt z2 11) :: L) (N := z2.N) (i := z2.i) (GL := GL) (G := G) (by omega)) (by omega) (fun pz => ?_) (fun pz => ?_)
      · kernel_rfl
      intro z2
      rintro r sh' ⟨tl, m, ep, n2, N', i', rfl, rfl⟩
      by_cases h34 : isW c = true
      · have e : baF (c :: cs) tok = (tok, some cs) := by cases cs <;> simp [baF, h34]
        have qw := (StrLaws.found_one (⟨#[10, 9, 13, 32]⟩ : Str) c).trans h34
        refine sg_fit O.good [spCon (⟨#[10, 9, 13, 32]⟩ : Str) (ch c) true qw] [.go 34 [12, 12, 12, 12, 3, 0, 0, 0, 0, 3, 0, 0, 0, 3, 3, 0, 4, 4, 12]] [2, 3, 4, 5, 6, 7, 8, 9, 10] 12 [] 0 _ (fun pz => ?_) (fun z => Mn_fin (c := z.c) (r := .ok (.ret (.str (tx tok) tt))) (sh := ⟨_, z.N, z.i, GL, G⟩) (hE1 tok cs e rest (lnUp c ln) tt tl m ep n2 z.N z.i hs' (lnUp_nls ..)))
        kernel_rfl
      · have h34 : isW c = false := by simpa using h34
        have q34 := (StrLaws.found_one (⟨#[10, 9, 13, 32]⟩ : Str) c).trans h34
        by_cases h92 : c = 92
        · subst h92
          match cs, hs', hn, hl, hE1, hE2 with
          | [], hs', hn, hl, hE1, hE2 =>
            obtain rfl := hs'.nil
            have hE2 := hE2 tok (by simp [baF, h34])
            refine sg_call O [spCon (⟨#[10, 9, 13, 32]⟩ : Str) (ch 92) false q34, spEq (ch 92) (⟨#[92]⟩ : Str) true rfl] [.go 36 [12, 12, 12, 12, 3, 0, 0, 0, 0, 3, 0, 0, 0, 3, 3, 0, 4, 4, 12], .jn 0 0 [] 0 [], .go 23 [5, 12, 3, 0, 0, 0, 3, 0, 0, 0, 3, 0, 0, 0, 0, 3, 4, 0]] [2, 3, 4, 5, 6, 7, 8, 9, 10, 0, 1, 11] 12 [] 0 (fun z3 => rdchar_end _ X (ln := lnUp 92 ln) (pbs := pbs) (tl := tl) (tw := tw) (m := m) (ep := ep) (n1 := n1) (n2 := n2) (L := (it, ciO bm ts) :: (bm, bmO X.lx) :: (f, obAt z3 11) :: L) (N := z3.N) (i := z3.i) (GL := GL) (G := G)) (by omega) (fun pz => ?_) (fun pz => ?_)
            · kernel_rfl
            intro z3
            rintro r sh' ⟨t', tl, m, ep, n2, N', i', rfl, rfl⟩
            have hx : tok.length ≤ 1000000 := by simp only [List.length_nil] at hl; omega
            have e0 : ∀ tok', baF [] tok = (tok', none) → tok = tok' := fun tok' q => (Prod.mk.inj q).1
            have hb : lnUp 92 ln + nls [] = ln + nls [92] := lnUp_nls ..
            refine sg_fit O.good [spCat (tx tok) (⟨#[]⟩ : Str) (tx tok) (tx_nil tok) (sz hx)] [.go 23 [12, 12, 12, 12, 4, 12, 12, 0]] [9, 10, 0, 1, 2, 3, 4, 5, 6, 7, 8, 11] 12 [] 0 _ (fun pz => ?_) (fun z => ih [] [] tok (lnUp 92 ln) (z.tk 11 1) tl m ep n2 (z.vl 11 3) (z.m 11) (z.e 11) z.N z.i (Nat.zero_le _) ⟨[], rfl, rfl⟩ (by simp only [List.length_nil] at hl ⊢; omega) (fun tok' rest q => by simp [baF] at q) (fun tok' q ln' tt c1 mf ef tl m ep n2 N i b => by rw [← e0 tok' q]; exact hE2 ln' tt c1 mf ef tl m ep n2 N i (b.trans hb)))
            kernel_rfl
          | d :: cs, hs', hn, hl, hE1, hE2 =>
            obtain ⟨t', rest', rfl, hs''⟩ := hs'.cons
            have hlen'' := hs''.len
            simp only [List.length_cons] at hn hl
            have e : baF (92 :: d :: cs) tok = baF cs (tok ++ [d]) := by simp [baF, h34]
            refine sg_call O [spCon (⟨#[10, 9, 13, 32]⟩ : Str) (ch 92) false q34, spEq (ch 92) (⟨#[92]⟩ : Str) true rfl] [.go 36 [12, 12, 12, 12, 3, 0, 0, 0, 0, 3, 0, 0, 0, 3, 3, 0, 4, 4, 12], .jn 0 0 [] 0 [], .go 23 [5, 12, 3, 0, 0, 0, 3, 0, 0, 0, 3, 0, 0, 0, 0, 3, 4, 0]] [2, 3, 4, 5, 6, 7, 8, 9, 10, 0, 1, 11] 12 [] 0 (fun z3 => rdchar_spec _ X (ln := lnUp 92 ln) (c := d) (t := t') (rest := rest') (pbs := pbs) (tl := tl) (tw := tw) (m := m) (ep := ep) (n1 := n1) (n2 := n2) (L := (it, ciO bm ts) :: (bm, bmO X.lx) :: (f, obAt z3 11) :: L) (N := z3.N) (i := z3.i) (GL := GL) (G := G) (by omega)) (by omega) (fun pz => ?_) (fun pz => ?_)
            · kernel_rfl
            intro z3
            rintro r sh' ⟨tl, m, ep, n2, N', i', rfl, rfl⟩
            refine sg_fit O.good [spCat (tx tok) (ch d) (tx (tok ++ [d])) (tx_snoc tok d) (sz (by show (tok ++ [d]).length ≤ _; simp only [List.length_append, List.length_singleton]; omega))] [.go 23 [12, 12, 12, 12, 4, 12, 12, 0]] [9, 10, 0, 1, 2, 3, 4, 5, 6, 7, 8, 11] 12 [] 0 _ (fun pz => ?_) (fun z => ih cs rest' (tok ++ [d]) (lnUp d (lnUp 92 ln)) (z.tk 11 1) tl m ep n2 (z.vl 11 3) (z.m 11) (z.e 11) z.N z.i (by omega) hs'' (by simp only [List.length_append, List.length_singleton]; omega) (fun tok' rest q sgs ln' t tl m ep n2 N i a b => hE1 tok' rest (e.trans q) sgs ln' t tl m ep n2 N i a (by rw [b, lnUp_nls, lnUp_nls])) (fun tok' q ln' tt c1 mf ef tl m ep n2 N i b => hE2 tok' (e.trans q) ln' tt c1 mf ef tl m ep n2 N i (by rw [b, lnUp_nls, lnUp_nls])))
            kernel_rfl
        · have q92 : ((ch c).cps.toList == (⟨#[92]⟩ : Str).cps.toList) = false := by rw [ch_eq]; exact decide_eq_false h92
          have e : baF (c :: cs) tok = baF cs (tok ++ [c]) := by cases cs <;> simp [baF, h34, h92]
          refine sg_fit O.good [spCon (⟨#[10, 9, 13, 32]⟩ : Str) (ch c) false q34, spEq (ch c) (⟨#[92]⟩ : Str) false q92, spCat (tx tok) (ch c) (tx (tok ++ [c])) (tx_snoc tok c) (sz (by show (tok ++ [c]).length ≤ _; simp only [List.length_append, List.length_singleton]; omega))] [.go 36 [12, 12, 12, 12, 3, 0, 0, 0, 0, 3, 0, 0, 0, 3, 3, 0, 4, 4, 12], .jn 0 0 [] 0 [], .go 16 [5, 12, 12, 6, 12, 12, 0]] [0, 1, 2, 3, 4, 5, 6, 7, 8, 9, 10, 11] 12 [] 0 _ (fun pz => ?_) (fun z => ih cs rest (tok ++ [c]) (lnUp c ln) (z.tk 11 1) tl m ep n2 (z.vl 11 3) (z.m 11) (z.e 11) z.N z.i (by omega) hs' (by simp only [List.length_append, List.length_singleton]; omega) (fun tok' rest q sgs ln' t tl m ep n2 N i a b => hE1 tok' rest (e.trans q) sgs ln' t tl m ep n2 N i a (by rw [b, lnUp_nls])) (fun tok' q ln' tt c1 mf ef tl m ep n2 N i b => hE2 tok' (e.trans q) ln' tt c1 mf ef tl m ep n2 N i (by rw [b, lnUp_nls])))
          kernel_rfl
end

end Mine
end
-- part L1gt
section
set_option maxRecDepth 100000
set_option maxHeartbeats 0
set_option Elab.async false
set_option linter.unusedVariables false
namespace Mine
open PySem PySem.Spec PySem.Calls PyProof.Rows PySem.W PySem.W.X

noncomputable def finF : List Nat × Option (List Nat) → List Nat × List Nat
  | (t, some r) => (t, r)
  | (t, none) => (t, [])
/-- a word of the lexer, what is left -/
noncomputable def tokF : List Nat → List Nat × List Nat
  | [] => ([], [])
  | c :: cs => if isW c = true then tokF cs else if c = 34 then finF (quoF cs []) else if c = 92 then (match cs with
      | [] => ([], [])
      | d :: cs => finF (baF cs [d])) else finF (baF cs [c])
theorem quo_C (P : Par K1) (X : LX) {f it bm : Nat} {ts tw : Tok} {pbs : List Value} {n1 : Nat} {L : Lg} {GL : Gg} {G : Nat} {cs : List Nat} {sgs : List Value} {tok : List Nat} {ln : Int} {tt tl : Tok} {m : HT} {ep n2 : Nat} {c1 : Value} {mf : HT} {ef N i : Nat} (hs : Sg sgs cs) (hl : tok.length + cs.length ≤ 2000) :
    Cn (U1 P) 4 (quC P f it) ⟨(it, ciO bm ts) :: (bm, bmO X.lx) :: (lexL P X ⟨ln, sgs, pbs, tl, tw, m, ep, n1, n2⟩ ++ ((f, fr [(⟨#[115, 101, 108, 102]⟩ : Str), (⟨#[116, 111, 107, 101, 110]⟩ : Str), (⟨#[102, 105, 116, 101, 114]⟩ : Str), (⟨#[99, 104]⟩ : Str)] [.ref X.lx, .str (tx tok) tt, .ref it, c1] mf ef) :: L)), N, i, GL, G⟩ fun r s' =>
    (∃ tok' rest sgs ln' t tl m ep n2 N i, quoF cs tok = (tok', some rest) ∧ Sg sgs rest ∧ ln' + nls rest = ln + nls cs ∧ r = .ok (.ret (.str (tx tok') t)) ∧ s' = ⟨lexL P X ⟨ln', sgs, pbs, tl, tw, m, ep, n1, n2⟩ ++ L, N, i, GL, G⟩) ∨
    (∃ tok' ln' tt c1 mf ef tl m ep n2 N i, quoF cs tok = (tok', none) ∧ ln' = ln + nls cs ∧ r = .ok .next ∧ s' = ⟨(it, ciE) :: (bm, bmO X.lx) :: (lexL P X ⟨ln', [], pbs, tl, tw, m, ep, n1, n2⟩ ++ ((f, fr [(⟨#[115, 101, 108, 102]⟩ : Str), (⟨#[116, 111, 107, 101, 110]⟩ : Str), (⟨#[102, 105, 116, 101, 114]⟩ : Str), (⟨#[99, 104]⟩ : Str)] [.ref X.lx, .str (tx tok') tt, .ref it, c1] mf ef) :: L)), N, i, GL, G⟩) := by
  refine Cn.of_walk fun A R O hE => ?_
  refine quo_loop P O X cs.length cs sgs tok ln tt tl m ep n2 c1 mf ef N i (Nat.le_refl _) hs hl (fun tok' rest e sgs ln' t tl m ep n2 N i a b => hE _ _ (.inl ⟨tok', rest, sgs, ln', t, tl, m, ep, n2, N, i, e, a, b, rfl, rfl⟩)) fun tok' e ln' tt c1 mf ef tl m ep n2 N i b => hE _ _ (.inr ⟨tok', ln', tt, c1, mf, ef, tl, m, ep, n2, N, i, e, b, rfl, rfl⟩)
theorem ba_C (P : Par K1) (X : LX) {f it bm : Nat} {ts tw : Tok} {pbs : List Value} {n1 : Nat} {L : Lg} {GL : Gg} {G : Nat} {cs : List Nat} {sgs : List Value} {tok : List Nat} {ln : Int} {tt tl : Tok} {m : HT} {ep n2 : Nat} {c1 : Value} {mf : HT} {ef N i : Nat} (hs : Sg sgs cs) (hl : tok.length + cs.length ≤ 2000) :
    Cn (U1 P) 4 (baC P f it) ⟨(it, ciO bm ts) :: (bm, bmO X.lx) :: (lexL P X ⟨ln, sgs, pbs, tl, tw, m, ep, n1, n2⟩ ++ ((f, fr [(⟨#[115, 101, 108, 102]⟩ : Str), (⟨#[116, 111, 107, 101, 110]⟩ : Str), (⟨#[102, 105, 116, 101, 114]⟩ : Str), (⟨#[99, 104]⟩ : Str)] [.ref X.lx, .str (tx tok) tt, .ref it, c1] mf ef) :: L)), N, i, GL, G⟩ fun r s' =>
    (∃ tok' rest sgs ln' t tl m ep n2 N i, baF cs tok = (tok', some rest) ∧ Sg sgs rest ∧ ln' + nls rest = ln + nls cs ∧ r = .ok (.ret (.str (tx tok') t)) ∧ s' = ⟨lexL P X ⟨ln', sgs, pbs, tl, tw, m, ep, n1, n2⟩ ++ L, N, i, GL, G⟩) ∨
    (∃ tok' ln' tt c1 mf ef tl m ep n2 N i, baF cs tok = (tok', none) ∧ ln' = ln + nls cs ∧ r = .ok .next ∧ s' = ⟨(it, ciE) :: (bm, bmO X.lx) :: (lexL P X ⟨ln', [], pbs, tl, tw, m, ep, n1, n2⟩ ++ ((f, fr [(⟨#[115, 101, 108, 102]⟩ : Str), (⟨#[116, 111, 107, 101, 110]⟩ : Str), (⟨#[102, 105, 116, 101, 114]⟩ : Str), (⟨#[99, 104]⟩ : Str)] [.ref X.lx, .str (tx tok') tt, .ref it, c1] mf ef) :: L)), N, i, GL, G⟩) := by
  refine Cn.of_walk fun A R O hE => ?_
  refine ba_loop P O X cs.length cs sgs tok ln tt tl m ep n2 c1 mf ef N i (Nat.le_refl _) hs hl (fun tok' rest e sgs ln' t tl m ep n2 N i a b => hE _ _ (.inl ⟨tok', rest, sgs, ln', t, tl, m, ep, n2, N, i, e, a, b, rfl, rfl⟩)) fun tok' e ln' tt c1 mf ef tl m ep n2 N i b => hE _ _ (.inr ⟨tok', ln', tt, c1, mf, ef, tl, m, ep, n2, N, i, e, b, rfl, rfl⟩)
section
variable {A : Around} {R : Result → Shared → Prop}
/-- the outer loop, the signs at their end -/
theorem gt_done (P : Par K1) (O : Lvl A 5) {f it lx : Nat} {L : Lg} {GL : Gg} {G : Nat} {tok : List Nat} {tt : Tok} {c1 : Value} {mf : HT} {ef N i : Nat}
    (hE : ∀ N i, Ends ((U1 P).V A R) (.ok .next) ⟨(f, fr [(⟨#[115, 101, 108, 102]⟩ : Str), (⟨#[116, 111, 107, 101, 110]⟩ : Str), (⟨#[102, 105, 116, 101, 114]⟩ : Str), (⟨#[99, 104]⟩ : Str)] [.ref lx, .str (tx tok) tt, .ref it, c1] mf ef) :: L, N, i, GL, G⟩) :
    Mn ((U1 P).V A R) (hd (gtC P f it) ⟨(it, ciE) :: (f, fr [(⟨#[115, 101, 108, 102]⟩ : Str), (⟨#[116, 111, 107, 101, 110]⟩ : Str), (⟨#[102, 105, 116, 101, 114]⟩ : Str), (⟨#[99, 104]⟩ : Str)] [.ref lx, .str (tx tok) tt, .ref it, c1] mf ef) :: L, N, i, GL, G⟩) := by
  refine sg_call O [] [.go 2 [1]] [0, 1] 2 [] 0 (fun z1 => next_done _ (it := it) (L := (f, obAt z1 1) :: L) (N := z1.N) (i := z1.i) (GL := GL) (G := G)) (by omega) (fun pz => ?_) (fun pz => ?_)
  · kernel_rfl
  intro z1
  rintro r sh' ⟨e, tu, N', i', rfl, rfl⟩
  refine sg_fit O.good [] [.go 2 [1, 0]] [2] 3 [] 0 _ (fun pz => ?_) (fun z => Mn_fin (c := z.c) (r := .ok .next) (sh := ⟨_, z.N, z.i, GL, G⟩) (hE z.N z.i))
  kernel_rfl
theorem gt_loop (P : Par K1) (O : Lvl A 5) (X : LX) {f it bm : Nat} {ts tw : Tok} {pbs : List Value} {n1 : Nat} {L : Lg} {GL : Gg} {G : Nat} : ∀ (cs : List Nat) (sgs : List Value) (ln : Int) (tt tl : Tok) (m : HT) (ep n2 : Nat) (tlv : T1) (mf : HT) (ef N i : Nat),
    Sg sgs cs → cs.length ≤ 1500 →
    (∀ tok' rest, tokF cs = (tok', rest) → ∀ sgs ln' t tl m ep n2 N i, Sg sgs rest → ln' + nls rest = ln + nls cs → Ends ((U1 P).V A R) (.ok (.ret (.str (tx tok') t))) ⟨lexL P X ⟨ln', sgs, pbs, tl, tw, m, ep, n1, n2⟩ ++ L, N, i, GL, G⟩) →
    (∀ tok', tokF cs = (tok', []) → ∀ ln' tt tlv mf ef tl m ep n2 N i, ln' = ln + nls cs → Ends ((U1 P).V A R) (.ok .next) ⟨(f, fr ([(⟨#[115, 101, 108, 102]⟩ : Str), (⟨#[116, 111, 107, 101, 110]⟩ : Str), (⟨#[102, 105, 116, 101, 114]⟩ : Str)] ++ tn1 (⟨#[99, 104]⟩ : Str) tlv) ([.ref X.lx, .str (tx tok') tt, .ref it] ++ tv1 tlv) mf ef) :: (lexL P X ⟨ln', [], pbs, tl, tw, m, ep, n1, n2⟩ ++ L), N, i, GL, G⟩) →
    Mn ((U1 P).V A R) (hd (gtC P f it) ⟨(it, ciO bm ts) :: (bm, bmO X.lx) :: (lexL P X ⟨ln, sgs, pbs, tl, tw, m, ep, n1, n2⟩ ++ ((f, fr ([(⟨#[115, 101, 108, 102]⟩ : Str), (⟨#[116, 111, 107, 101, 110]⟩ : Str), (⟨#[102, 105, 116, 101, 114]⟩ : Str)] ++ tn1 (⟨#[99, 104]⟩ : Str) tlv) ([.ref X.lx, .str (tx []) tt, .ref it] ++ tv1 tlv) mf ef) :: L)), N, i, GL, G⟩) := by
  intro cs
  induction cs with
  | nil =>
    intro sgs ln tt tl m ep n2 tlv mf ef N i hs hl hE1 hE2
    obtain rfl := hs.nil
    have hE2 := hE2 [] rfl ln tt tlv mf ef
    rcases tlv with _ | c1
    all_goals
      refine sg_call O [] [.go 2 [1]] [0, 1, 2, 3, 4, 5, 6, 7, 8, 9, 10, 11] 12 [] 0 (fun z1 => next_end _ X (it := it) (bm := bm) (ts := ts) (ln := ln) (pbs := pbs) (tl := tl) (tw := tw) (m := m) (ep := ep) (n1 := n1) (n2 := n2) (L := (f, obAt z1 11) :: L) (N := z1.N) (i := z1.i) (GL := GL) (G := G)) (by omega) (fun pz => ?_) (fun pz => ?_)
      · kernel_rfl
      intro z1
      rintro r sh' ⟨e, tu, tl, m, ep, n2, N', i', rfl, rfl⟩
      refine sg_fit O.good [] [.go 2 [1, 0]] [12, 3, 4, 5, 6, 7, 8, 9, 10, 11] 13 [] 0 _ (fun pz => ?_) (fun z => Mn_fin (c := z.c) (r := .ok .next) (sh := ⟨_, z.N, z.i, GL, G⟩) (hE2 tl m ep n2 z.N z.i (by simp [nls])))
      kernel_rfl
  | cons c cs ih =>
    intro sgs ln tt tl m ep n2 tlv mf ef N i hs hl hE1 hE2
    obtain ⟨t, rest, rfl, hs'⟩ := hs.cons
    have hlen := hs'.len
    simp only [List.length_cons] at hl
    rcases tlv with _ | c1
    all_goals
      refine sg_call O [] [.go 2 [1]] [0, 1, 2, 3, 4, 5, 6, 7, 8, 9, 10, 11] 12 [] 0 (fun z2 => next_ch _ X (it := it) (bm := bm) (ts := ts) (ln := ln) (c := c) (t := t) (rest := rest) (pbs := pbs) (tl := tl) (tw := tw) (m := m) (ep := ep) (n1 := n1) (n2 := n2) (L := (f, obAt z2 11) :: L) (N := z2.N) (i := z2.i) (GL := GL) (G := G) (by omega)) (by omega) (fun pz => ?_) (fun pz => ?_)
      · kernel_rfl
      intro z2
      rintro r sh' ⟨tl, m, ep, n2, N', i', rfl, rfl⟩
      by_cases hw : isW c = true
      · have e : tokF (c :: cs) = tokF cs := by simp only [tokF, hw, if_true]
        have qw := (StrLaws.found_one (⟨#[10, 9, 13, 32]⟩ : Str) c).trans hw
        refine sg_fit O.good [spCon (⟨#[10, 9, 13, 32]⟩ : Str) (ch c) true qw] [.go 33 [12, 12, 12, 12, 3, 0, 0, 0, 0, 3, 0, 0, 0, 3, 3, 0, 4, 4, 0]] [0, 1, 2, 3, 4, 5, 6, 7, 8, 9, 10, 11] 12 [] 0 _ (fun pz => ?_) (fun z => ih rest (lnUp c ln) (z.tk 11 1) tl m ep n2 (some (z.vl 11 3)) (z.m 11) (z.e 11) z.N z.i hs' (by omega) (fun tok' rest q sgs ln' t tl m ep n2 N i a b => hE1 tok' rest (e.trans q) sgs ln' t tl m ep n2 N i a (by rw [b, lnUp_nls])) (fun tok' q ln' tt c1 mf ef tl m ep n2 N i b => hE2 tok' (e.trans q) ln' tt c1 mf ef tl m ep n2 N i (by rw [b, lnUp_nls])))
        kernel_rfl
      · have hw : isW c = false := by simpa using hw
        have qw := (StrLaws.found_one (⟨#[10, 9, 13, 32]⟩ : Str) c).trans hw
        by_cases h34 : c = 34
        · subst h34
          refine sg_call O [spCon (⟨#[10, 9, 13, 32]⟩ : Str) (ch 34) false qw, spEq (ch 34) (⟨#[34]⟩ : Str) true rfl] [.go 36 [12, 12, 12, 12, 3, 0, 0, 0, 0, 3, 0, 0, 0, 3, 3, 0, 4, 4, 12], .jn 0 0 [] 0 [], .go 7 [5, 12, 1, 1], .jn 0 0 [] 0 [], .go 5 [0, 1, 0, 1]] [0, 1, 2, 3, 4, 5, 6, 7, 8, 9, 10, 11] 12 [] 0 (fun z3 => quo_C _ X (f := f) (it := it) (bm := bm) (ts := ts) (tok := []) (ln := lnUp 34 ln) (sgs := rest) (pbs := pbs) (tt := z3.tk 11 1) (tl := tl) (tw := tw) (m := m) (ep := ep) (n1 := n1) (n2 := n2) (c1 := z3.vl 11 3) (mf := z3.m 11) (ef := z3.e 11) (L := L) (N := z3.N) (i := z3.i) (GL := GL) (G := G) hs' (by simp only [List.length_nil]; omega)) (by omega) (fun pz => ?_) (fun pz => ?_)
          · kernel_rfl
          intro z3
          rintro r sh' (⟨tok', rest, sgs, ln', t, tl, m, ep, n2, N, i, eq, hg, hb, rfl, rfl⟩ | ⟨tok', ln', tt, c1, mf, ef, tl, m, ep, n2, N, i, eq, hb, rfl, rfl⟩)
          · have e : tokF (34 :: cs) = (tok', rest) := by simp only [tokF, hw, if_true, eq, finF]; rfl
            refine sg_fit O.good [] [] [0, 1, 2, 3, 4, 5, 6, 7, 8] 9 [] 0 _ (fun pz => ?_) (fun z => Mn_fin (c := z.c) (r := .ok (.ret (.str (tx tok') t))) (sh := ⟨_, z.N, z.i, GL, G⟩) (hE1 tok' rest e sgs ln' t tl m ep n2 z.N z.i hg (by rw [hb, lnUp_nls])))
            kernel_rfl
          · have e : tokF (34 :: cs) = (tok', []) := by simp only [tokF, hw, if_true, eq, finF]; rfl
            refine sg_fit O.good [] [.go 1 [0]] [0, 11, 2, 3, 4, 5, 6, 7, 8, 9, 10] 12 [] 0 _ (fun pz => ?_) (fun z => gt_done _ O (f := f) (it := it) (lx := X.lx) (tok := tok') (tt := z.tk 1 1) (c1 := z.vl 1 3) (mf := z.m 1) (ef := z.e 1) (L := lexL _ X ⟨ln', [], pbs, tl, tw, m, ep, n1, n2⟩ ++ L) (N := z.N) (i := z.i) (GL := GL) (G := G) (fun N i => hE2 tok' e ln' _ (some _) _ _ tl m ep n2 N i (by rw [hb, lnUp_nls])))
            kernel_rfl
        · have q34 : ((ch c).cps.toList == (⟨#[34]⟩ : Str).cps.toList) = false := by rw [ch_eq]; exact decide_eq_false h34
          by_cases h92 : c = 92
          · subst h92
            match cs, hs', hl, hlen, hE1, hE2 with
            | [], hs', hl, hlen, hE1, hE2 =>
              obtain rfl := hs'.nil
              have e : tokF [92] = ([], []) := by simp [tokF, hw]
              refine sg_call O [spCon (⟨#[10, 9, 13, 32]⟩ : Str) (ch 92) false qw, spEq (ch 92) (⟨#[34]⟩ : Str) false rfl, spEq (ch 92) (⟨#[92]⟩ : Str) true rfl] [.go 36 [12, 12, 12, 12, 3, 0, 0, 0, 0, 3, 0, 0, 0, 3, 3, 0, 4, 4, 12], .jn 0 0 [] 0 [], .go 6 [5, 12], .jn 0 0 [] 0 [], .go 23 [6, 12, 3, 0, 0, 0, 3, 0, 0, 0, 3, 0, 0, 0, 0, 3, 4, 0]] [2, 3, 4, 5, 6, 7, 8, 9, 10, 0, 1, 11] 12 [] 0 (fun z3 => rdchar_end _ X (ln := lnUp 92 ln) (pbs := pbs) (tl := tl) (tw := tw) (m := m) (ep := ep) (n1 := n1) (n2 := n2) (L := (it, ciO bm ts) :: (bm, bmO X.lx) :: (f, obAt z3 11) :: L) (N := z3.N) (i := z3.i) (GL := GL) (G := G)) (by omega) (fun pz => ?_) (fun pz => ?_)
              · kernel_rfl
              intro z3
              rintro r sh' ⟨t', tl, m, ep, n2, N', i', rfl, rfl⟩
              refine sg_call O [spCat (tx []) (⟨#[]⟩ : Str) (tx []) (tx_nil []) (sz (Nat.zero_le _))] [.go 28 [12, 12, 12, 12, 4, 12, 12, 12, 10, 10], .jn 0 0 [] 0 [], .go 5 [0, 10, 0, 10]] [9, 10, 0, 1, 2, 3, 4, 5, 6, 7, 8, 11] 12 [] 0 (fun z4 => ba_C _ X (f := f) (it := it) (bm := bm) (ts := ts) (cs := []) (tok := []) (ln := lnUp 92 ln) (sgs := []) (pbs := pbs) (tt := z4.tk 11 1) (tl := tl) (tw := tw) (m := m) (ep := ep) (n1 := n1) (n2 := n2) (c1 := z4.vl 11 3) (mf := z4.m 11) (ef := z4.e 11) (L := L) (N := z4.N) (i := z4.i) (GL := GL) (G := G) ⟨[], rfl, rfl⟩ (by simp)) (by omega) (fun pz => ?_) (fun pz => ?_)
              · kernel_rfl
              intro z4
              rintro r sh' (⟨tok', rest, sgs, ln', t, tl, m, ep, n2, N, i, eq, hg, hb, rfl, rfl⟩ | ⟨tok', ln', tt, c1, mf, ef, tl, m, ep, n2, N, i, eq, hb, rfl, rfl⟩)
              · exact absurd (Prod.mk.inj eq).2 (by simp)
              · obtain rfl : [] = tok' := (Prod.mk.inj eq).1
                refine sg_fit O.good [] [.go 1 [0]] [0, 11, 2, 3, 4, 5, 6, 7, 8, 9, 10] 12 [] 0 _ (fun pz => ?_) (fun z => gt_done _ O (f := f) (it := it) (lx := X.lx) (tok := []) (tt := z.tk 1 1) (c1 := z.vl 1 3) (mf := z.m 1) (ef := z.e 1) (L := lexL _ X ⟨ln', [], pbs, tl, tw, m, ep, n1, n2⟩ ++ L) (N := z.N) (i := z.i) (GL := GL) (G := G) (fun N i => hE2 [] e ln' _ (some _) _ _ tl m ep n2 N i (by rw [hb, lnUp_nls])))
                kernel_rfl
            | d :: cs, hs', hl, hlen, hE1, hE2 =>
              obtain ⟨t', rest', rfl, hs''⟩ := hs'.cons
              have hlen'' := hs''.len
              simp only [List.length_cons] at hl
              refine sg_call O [spCon (⟨#[10, 9, 13, 32]⟩ : Str) (ch 92) false qw, spEq (ch 92) (⟨#[34]⟩ : Str) false rfl, spEq (ch 92) (⟨#[92]⟩ : Str) true rfl] [.go 36 [12, 12, 12, 12, 3, 0, 0, 0, 0, 3, 0, 0, 0, 3, 3, 0, 4, 4, 12], .jn 0 0 [] 0 [], .go 6 [5, 12], .jn 0 0 [] 0 [], .go 23 [6, 12, 3, 0, 0, 0, 3, 0, 0, 0, 3, 0, 0, 0, 0, 3, 4, 0]] [2, 3, 4, 5, 6, 7, 8, 9, 10, 0, 1, 11] 12 [] 0 (fun z3 => rdchar_spec _ X (ln := lnUp 92 ln) (c := d) (t := t') (rest := rest') (pbs := pbs) (tl := tl) (tw := tw) (m := m) (ep := ep) (n1 := n1) (n2 := n2) (L := (it, ciO bm ts) :: (bm, bmO X.lx) :: (f, obAt z3 11) :: L) (N := z3.N) (i := z3.i) (GL := GL) (G := G) (by omega)) (by omega) (fun pz => ?_) (fun pz => ?_)
              · kernel_rfl
              intro z3
              rintro r sh' ⟨tl, m, ep, n2, N', i', rfl, rfl⟩
              refine sg_call O [spCat (tx []) (ch d) (tx [d]) (tx_snoc [] d) (sz (by show 1 ≤ _; omega))] [.go 28 [12, 12, 12, 12, 4, 12, 12, 12, 10, 10], .jn 0 0 [] 0 [], .go 5 [0, 10, 0, 10]] [9, 10, 0, 1, 2, 3, 4, 5, 6, 7, 8, 11] 12 [] 0 (fun z4 => ba_C _ X (f := f) (it := it) (bm := bm) (ts := ts) (cs := cs) (tok := [d]) (ln := lnUp d (lnUp 92 ln)) (sgs := rest') (pbs := pbs) (tt := z4.tk 11 1) (tl := tl) (tw := tw) (m := m) (ep := ep) (n1 := n1) (n2 := n2) (c1 := z4.vl 11 3) (mf := z4.m 11) (ef := z4.e 11) (L := L) (N := z4.N) (i := z4.i) (GL := GL) (G := G) hs'' (by simp only [List.length_singleton]; omega)) (by omega) (fun pz => ?_) (fun pz => ?_)
              · kernel_rfl
              intro z4
              rintro r sh' (⟨tok', rest, sgs, ln', t, tl, m, ep, n2, N, i, eq, hg, hb, rfl, rfl⟩ | ⟨tok', ln', tt, c1, mf, ef, tl, m, ep, n2, N, i, eq, hb, rfl, rfl⟩)
              · have e : tokF (92 :: d :: cs) = (tok', rest) := by simp [tokF, hw, eq, finF]
                refine sg_fit O.good [] [] [0, 1, 2, 3, 4, 5, 6, 7, 8] 9 [] 0 _ (fun pz => ?_) (fun z => Mn_fin (c := z.c) (r := .ok (.ret (.str (tx tok') t))) (sh := ⟨_, z.N, z.i, GL, G⟩) (hE1 tok' rest e sgs ln' t tl m ep n2 z.N z.i hg (by rw [hb, lnUp_nls, lnUp_nls])))
                kernel_rfl
              · have e : tokF (92 :: d :: cs) = (tok', []) := by simp [tokF, hw, eq, finF]
                refine sg_fit O.good [] [.go 1 [0]] [0, 11, 2, 3, 4, 5, 6, 7, 8, 9, 10] 12 [] 0 _ (fun pz => ?_) (fun z => gt_done _ O (f := f) (it := it) (lx := X.lx) (tok := tok') (tt := z.tk 1 1) (c1 := z.vl 1 3) (mf := z.m 1) (ef := z.e 1) (L := lexL _ X ⟨ln', [], pbs, tl, tw, m, ep, n1, n2⟩ ++ L) (N := z.N) (i := z.i) (GL := GL) (G := G) (fun N i => hE2 tok' e ln' _ (some _) _ _ tl m ep n2 N i (by rw [hb, lnUp_nls, lnUp_nls])))
                kernel_rfl
          · have q92 : ((ch c).cps.toList == (⟨#[92]⟩ : Str).cps.toList) = false := by rw [ch_eq]; exact decide_eq_false h92
            refine sg_call O [spCon (⟨#[10, 9, 13, 32]⟩ : Str) (ch c) false qw, spEq (ch c) (⟨#[34]⟩ : Str) false q34, spEq (ch c) (⟨#[92]⟩ : Str) false q92, spCat (tx []) (ch c) (tx [c]) (tx_snoc [] c) (sz (by show 1 ≤ _; omega))] [.go 36 [12, 12, 12, 12, 3, 0, 0, 0, 0, 3, 0, 0, 0, 3, 3, 0, 4, 4, 12], .jn 0 0 [] 0 [], .go 6 [5, 12], .jn 0 0 [] 0 [], .go 21 [6, 12, 12, 7, 12, 12, 12, 1, 1], .jn 0 0 [] 0 [], .go 5 [0, 1, 0, 1]] [0, 1, 2, 3, 4, 5, 6, 7, 8, 9, 10, 11] 12 [] 0 (fun z4 => ba_C _ X (f := f) (it := it) (bm := bm) (ts := ts) (cs := cs) (tok := [c]) (ln := lnUp c ln) (sgs := rest) (pbs := pbs) (tt := z4.tk 11 1) (tl := tl) (tw := tw) (m := m) (ep := ep) (n1 := n1) (n2 := n2) (c1 := z4.vl 11 3) (mf := z4.m 11) (ef := z4.e 11) (L := L) (N := z4.N) (i := z4.i) (GL := GL) (G := G) hs' (by simp only [List.length_singleton]; omega)) (by omega) (fun pz => ?_) (fun pz => ?_)
            · kernel_rfl
            intro z4
            rintro r sh' (⟨tok', rest, sgs, ln', t, tl, m, ep, n2, N, i, eq, hg, hb, rfl, rfl⟩ | ⟨tok', ln', tt, c1, mf, ef, tl, m, ep, n2, N, i, eq, hb, rfl, rfl⟩)
            · have e : tokF (c :: cs) = (tok', rest) := by simp [tokF, hw, h34, h92, eq, finF]
              refine sg_fit O.good [] [] [0, 1, 2, 3, 4, 5, 6, 7, 8] 9 [] 0 _ (fun pz => ?_) (fun z => Mn_fin (c := z.c) (r := .ok (.ret (.str (tx tok') t))) (sh := ⟨_, z.N, z.i, GL, G⟩) (hE1 tok' rest e sgs ln' t tl m ep n2 z.N z.i hg (by rw [hb, lnUp_nls])))
              kernel_rfl
            · have e : tokF (c :: cs) = (tok', []) := by simp [tokF, hw, h34, h92, eq, finF]
              refine sg_fit O.good [] [.go 1 [0]] [0, 11, 2, 3, 4, 5, 6, 7, 8, 9, 10] 12 [] 0 _ (fun pz => ?_) (fun z => gt_done _ O (f := f) (it := it) (lx := X.lx) (tok := tok') (tt := z.tk 1 1) (c1 := z.vl 1 3) (mf := z.m 1) (ef := z.e 1) (L := lexL _ X ⟨ln', [], pbs, tl, tw, m, ep, n1, n2⟩ ++ L) (N := z.N) (i := z.i) (GL := GL) (G := G) (fun N i => hE2 tok' e ln' _ (some _) _ _ tl m ep n2 N i (by rw [hb, lnUp_nls])))
              kernel_rfl
end

end Mine
end
-- part L1gts
section
set_option maxRecDepth 100000
set_option maxHeartbeats 0
set_option Elab.async false
set_option linter.unusedVariables false
namespace Mine
open PySem PySem.Spec PySem.Calls PyProof.Rows PySem.W PySem.W.X

theorem gt_C (P : Par K1) (X : LX) {f it bm : Nat} {ts tw : Tok} {pbs : List Value} {n1 : Nat} {L : Lg} {GL : Gg} {G : Nat} {cs : List Nat} {sgs : List Value} {ln : Int} {tt tl : Tok} {m : HT} {ep n2 : Nat} {mf : HT} {ef N i : Nat} (hs : Sg sgs cs) (hl : cs.length ≤ 1500) :
    Cn (U1 P) 5 (gtC P f it) ⟨(it, ciO bm ts) :: (bm, bmO X.lx) :: (lexL P X ⟨ln, sgs, pbs, tl, tw, m, ep, n1, n2⟩ ++ ((f, fr ([(⟨#[115, 101, 108, 102]⟩ : Str), (⟨#[116, 111, 107, 101, 110]⟩ : Str), (⟨#[102, 105, 116, 101, 114]⟩ : Str)] ++ tn1 (⟨#[99, 104]⟩ : Str) none) ([.ref X.lx, .str (tx []) tt, .ref it] ++ tv1 none) mf ef) :: L)), N, i, GL, G⟩ fun r s' =>
    (∃ tok rest sgs ln' t tl m ep n2 N i, tokF cs = (tok, rest) ∧ Sg sgs rest ∧ ln' + nls rest = ln + nls cs ∧ r = .ok (.ret (.str (tx tok) t)) ∧ s' = ⟨lexL P X ⟨ln', sgs, pbs, tl, tw, m, ep, n1, n2⟩ ++ L, N, i, GL, G⟩) ∨
    (∃ tok ln' tt tlv mf ef tl m ep n2 N i, tokF cs = (tok, []) ∧ ln' = ln + nls cs ∧ r = .ok .next ∧ s' = ⟨(f, fr ([(⟨#[115, 101, 108, 102]⟩ : Str), (⟨#[116, 111, 107, 101, 110]⟩ : Str), (⟨#[102, 105, 116, 101, 114]⟩ : Str)] ++ tn1 (⟨#[99, 104]⟩ : Str) tlv) ([.ref X.lx, .str (tx tok) tt, .ref it] ++ tv1 tlv) mf ef) :: (lexL P X ⟨ln', [], pbs, tl, tw, m, ep, n1, n2⟩ ++ L), N, i, GL, G⟩) := by
  refine Cn.of_walk fun A R O hE => ?_
  exact gt_loop P O X cs sgs ln tt tl m ep n2 none mf ef N i hs hl (fun tok rest e sgs ln' t tl m ep n2 N i a b => hE _ _ (.inl ⟨tok, rest, sgs, ln', t, tl, m, ep, n2, N, i, e, a, b, rfl, rfl⟩)) fun tok e ln' tt tlv mf ef tl m ep n2 N i b => hE _ _ (.inr ⟨tok, ln', tt, tlv, mf, ef, tl, m, ep, n2, N, i, e, b, rfl, rfl⟩)
theorem gettok_spec (P : Par K1) (X : LX) {cs : List Nat} {sgs : List Value} {ln : Int} {tl tw : Tok} {m : HT} {ep n1 n2 : Nat} {L : Lg} {N i : Nat} {GL : Gg} {G : Nat} (hs : Sg sgs cs) (hl : cs.length ≤ 1500) :
    Cn (U1 P) 6 (.call (.ref 42) ⟨[.ref X.lx], []⟩) ⟨lexL P X ⟨ln, sgs, [], tl, tw, m, ep, n1, n2⟩ ++ L, N, i, GL, G⟩ fun r s' => ∃ sgs ln' t tl m ep n2 N i, Sg sgs (tokF cs).2 ∧ ln' + nls (tokF cs).2 = ln + nls cs ∧ r = .ok (.ret (.str (tx (tokF cs).1) t)) ∧ s' = ⟨lexL P X ⟨ln', sgs, [], tl, tw, m, ep, n1, n2⟩ ++ L, N, i, GL, G⟩ := by
  refine Cn.of_fn (by kernel_rfl) fun A R O hE => ?_
  refine sg_call O [] [.go 109 [0, 0, 1, 1, 0, 0, 1, 2, 0, 0, 0, 0, 2, 0, 0, 0, 2, 2, 0, 3, 4, 4, 0, 4, 0, 4, 0, 4, 1, 1, 0, 0, 1, 2, 0, 0, 0, 0, 2, 0, 0, 0, 0, 0, 0, 2, 2, 0, 3, 0, 0, 0, 0, 0, 0, 0, 0, 1, 3, 3, 3, 1, 1], .jn 0 0 [] 0 [], .go 5 [0, 1, 0, 1]] [0, 1, 3, 4, 5, 6, 7, 8, 9, 10, 11, 2] 12 [] 0 (fun z1 => gt_C _ X (f := N) (it := z1.a 0) (bm := z1.a 1) (ts := tokOf (fldAt (obAt z1 0) 1)) (ln := ln) (sgs := sgs) (pbs := []) (tt := z1.tk 11 1) (tl := tl) (tw := tw) (m := m) (ep := ep) (n1 := n1) (n2 := n2) (mf := z1.m 11) (ef := z1.e 11) (L := L) (N := z1.N) (i := z1.i) (GL := GL) (G := G) hs hl) (by omega) (fun pz => ?_) (fun pz => ?_)
  · kernel_rfl
  intro z1
  rintro r sh' (⟨tok, rest, sgs, ln', t, tl, m, ep, n2, N', i', eq, hg, hb, rfl, rfl⟩ | ⟨tok, ln', tt, tlv, mf, ef, tl, m, ep, n2, N', i', eq, hb, rfl, rfl⟩)
  · rw [eq] at hE
    refine sg_fit O.good [] [] [0, 1, 2, 3, 4, 5, 6, 7, 8] 9 [] 0 _ (fun pz => ?_) (fun z => Mn_fin (c := z.c) (r := .ok (.ret (.str (tx tok) t))) (sh := ⟨lexL _ X ⟨ln', sgs, [], tl, tw, m, ep, n1, n2⟩ ++ L, z.N, z.i, GL, G⟩) (hE _ _ ⟨sgs, ln', t, tl, m, ep, n2, z.N, z.i, hg, hb, rfl, rfl⟩))
    kernel_rfl
  · rw [eq] at hE
    rcases tlv with _ | c1
    all_goals
      refine sg_fit O.good [] [.go 3 [1]] [1, 2, 3, 4, 5, 6, 7, 8, 9] 10 [] 0 _ (fun pz => ?_) (fun z => Mn_fin (c := z.c) (r := .ok (.ret (.str (tx tok) tt))) (sh := ⟨lexL _ X ⟨ln', [], [], tl, tw, m, ep, n1, n2⟩ ++ L, z.N, z.i, GL, G⟩) (hE _ _ ⟨[], ln', tt, tl, m, ep, n2, z.N, z.i, ⟨[], rfl, rfl⟩, by rw [hb]; simp [nls], rfl, rfl⟩))
      kernel_rfl

end Mine
end
-- part L1tk2
section
set_option maxRecDepth 100000
set_option maxHeartbeats 0
set_option Elab.async false
set_option linter.unusedVariables false
namespace Mine
open PySem PySem.Spec PySem.Calls PyProof.Rows PySem.W PySem.W.X

theorem gettok_pop (P : Par K1) (X : LX) {sgs : List Value} {ln : Int} {w : Str} {tv : Tok} {rest : List Value} {tl tw : Tok} {m : HT} {ep n1 n2 : Nat} {L : Lg} {N i : Nat} {GL : Gg} {G : Nat} (hr : rest.length < 900) :
    Cn (U1 P) 6 (.call (.ref 42) ⟨[.ref X.lx], []⟩) ⟨lexL P X ⟨ln, sgs, (.str w tv) :: rest, tl, tw, m, ep, n1, n2⟩ ++ L, N, i, GL, G⟩ fun r s' => ∃ n1 N i, r = .ok (.ret (.str w tv)) ∧ s' = ⟨lexL P X ⟨ln, sgs, rest, tl, tw, m, ep, n1, n2⟩ ++ L, N, i, GL, G⟩ := by
  refine Cn.of_fn (by kernel_rfl) fun A R O hE => ?_
  refine sg_fit O.good [spLenB ((.str w tv) :: rest) (by simp only [List.length_cons]; omega), spPop0 (.str w tv) rest (by omega)] [.go 64 [0, 0, 1, 1, 0, 0, 1, 2, 0, 0, 0, 0, 2, 0, 0, 0, 2, 2, 0, 3, 4, 4, 4, 3, 1, 2, 0, 0, 0, 0, 2, 0, 0, 0, 2, 2, 0, 3, 4, 4, 4, 4, 5, 3]] [1, 2, 3, 4, 5, 6, 7, 8, 9] 10 [] 0 _ (fun pz => ?_) (fun z => Mn_fin (c := z.c) (r := .ok (.ret (.str w tv))) (sh := ⟨lexL _ X ⟨ln, sgs, rest, tl, tw, m, ep, z.e 2, n2⟩ ++ L, z.N, z.i, GL, G⟩) (hE _ _ ⟨_, _, _, rfl, rfl⟩))
  kernel_rfl
theorem pushtok_spec (P : Par K1) (X : LX) {sgs : List Value} {ln : Int} {w : Str} {tv : Tok} {pbs : List Value} {tl tw : Tok} {m : HT} {ep n1 n2 : Nat} {L : Lg} {N i : Nat} {GL : Gg} {G : Nat} (hr : pbs.length < 100000) :
    Cn (U1 P) 2 (.call (.ref 49) ⟨[.ref X.lx, .str w tv], []⟩) ⟨lexL P X ⟨ln, sgs, pbs, tl, tw, m, ep, n1, n2⟩ ++ L, N, i, GL, G⟩ fun r s' => ∃ n1 N i, r = .ok (.ret .none) ∧ s' = ⟨lexL P X ⟨ln, sgs, pbs.concat (.str w tv), tl, tw, m, ep, n1, n2⟩ ++ L, N, i, GL, G⟩ := by
  refine Cn.of_fn (by kernel_rfl) fun A R O hE => ?_
  refine sg_fit O.good [spApp pbs (sz (by omega))] [.go 45 [0, 0, 1, 1, 1, 1, 0, 0, 1, 2, 0, 0, 0, 0, 2, 0, 0, 0, 2, 2, 0, 3, 4, 4, 4, 4, 1, 4, 3]] [1, 2, 3, 4, 5, 6, 7, 8, 9] 10 [] 0 _ (fun pz => ?_) (fun z => Mn_fin (c := z.c) (r := .ok (.ret .none)) (sh := ⟨lexL _ X ⟨ln, sgs, pbs.concat (.str w tv), tl, tw, m, ep, z.e 2, n2⟩ ++ L, z.N, z.i, GL, G⟩) (hE _ _ ⟨_, _, _, rfl, rfl⟩))
  kernel_rfl
theorem iseof_spec (P : Par K1) (x : Int) (t : Tok) (b : Bool) (hb : (x == 0) = b) {L : Lg} {N i : Nat} {GL : Gg} {G : Nat} :
    Cn (U1 P) 2 (.call (.ref 87) ⟨[.int x t], []⟩) ⟨L, N, i, GL, G⟩ fun r s' => ∃ N i, r = .ok (.ret (.bool b)) ∧ s' = ⟨L, N, i, GL, G⟩ := by
  refine Cn.of_fn (by kernel_rfl) fun A R O hE => ?_
  refine sg_fit O.good [spIEq x 0 b hb] [.go 16 [0, 0, 1, 1, 0, 0, 1, 0], .jn 0 0 [] 0 [], .go 1 [4]] [] 1 [] 0 _ (fun pz => ?_) (fun z => Mn_fin (c := z.c) (r := .ok (.ret (.bool b))) (sh := ⟨L, z.N, z.i, GL, G⟩) (hE _ _ ⟨_, _, rfl, rfl⟩))
  kernel_rfl

end Mine
end
-- part L1twos
section
set_option maxRecDepth 100000
set_option maxHeartbeats 0
set_option Elab.async false
set_option linter.unusedVariables false
namespace Mine
open PySem PySem.Spec PySem.Calls PyProof.Rows PySem.W PySem.W.X

noncomputable def twI (v : Int) : List Int → Nat → Nat
  | [], a => a
  | o :: os, a => twI v os (if v - o = 0 ∨ v - o - 1 = 0 then a + 1 else a)
noncomputable def twF : List Int → Nat → Nat
  | [], a => a
  | v :: vs, a => twF vs (twI v vs a)
noncomputable def twoC (P : Par K1) (f it : Nat) : Code := forC (stAt (bodyOf (kt P) 143) 1) it (envAt (kt P) 143 f)
noncomputable def twoD (P : Par K1) (f it : Nat) : Code := forC (stAt (sbA (stAt (bodyOf (kt P) 143) 1)) 0) it (envAt (kt P) 143 f)
section
variable {A : Around} {R : Result → Shared → Prop}
theorem two_in (P : Par K1) (O : Lvl A 3) {f it rl sl k : Nat} {v : Int} {t tk : Tok} {l2 : List (Int × Tok)} {items items2 : List Value} (hi2 : items2 = ivs l2) {n : Nat} {L : Lg} {GL : Gg} {G : Nat} (hv : items[k]? = some (.int v t)) (hk : k ≤ 20) : ∀ (r : List (Int × Tok)) (j a : Nat) (ta : Tok) (tl : T1) (m : HT) (ep N i : Nat), l2.drop j = r →
    (∀ (ta : Tok) (tl : T1) (m : HT) (ep N i : Nat), Ends ((U1 P).V A R) (.ok .next) ⟨(f, fr ([(⟨#[108, 101, 118, 101, 108, 115]⟩ : Str), (⟨#[116, 119, 111, 115]⟩ : Str), (⟨#[107]⟩ : Str)] ++ tn1 (⟨#[111, 116, 104, 101, 114]⟩ : Str) tl) ([.ref rl, .int (Int.ofNat (twI v (r.map (·.1)) a)) ta, .int (Int.ofNat k) tk] ++ tv1 tl) m ep) :: (rl, listO ⟨items⟩ n) :: L, N, i, GL, G⟩) →
    Mn ((U1 P).V A R) (hd (twoD P f it) ⟨(it, liO sl j) :: (f, fr ([(⟨#[108, 101, 118, 101, 108, 115]⟩ : Str), (⟨#[116, 119, 111, 115]⟩ : Str), (⟨#[107]⟩ : Str)] ++ tn1 (⟨#[111, 116, 104, 101, 114]⟩ : Str) tl) ([.ref rl, .int (Int.ofNat a) ta, .int (Int.ofNat k) tk] ++ tv1 tl) m ep) :: (sl, listO ⟨items2⟩ 0) :: (rl, listO ⟨items⟩ n) :: L, N, i, GL, G⟩) := by
  intro r
  induction r with
  | nil =>
    intro j a ta tl m ep N i hd hE
    have hE := hE ta tl m ep
    have hg := ivs_none hd
    rw [← hi2] at hg
    rcases tl with _ | v3
    all_goals
      refine sg_fit O.good [spIEnd items2 j hg] [.go 5 [1, 4, 0, 2, 1, 0]] [3, 5] 6 [] 0 _ (fun pz => ?_) (fun z => Mn_fin (c := z.c) (r := .ok .next) (sh := ⟨_, z.N, z.i, GL, G⟩) (hE z.N z.i))
      kernel_rfl
  | cons p r ih =>
    obtain ⟨o, t'⟩ := p
    intro j a ta tl m ep N i hd hE
    obtain ⟨hg, hd', hj⟩ := ivs_get hd
    rw [← hi2] at hg
    rcases tl with _ | v3
    all_goals
      by_cases h1 : v - o = 0
      · have e : twI v (((o, t') :: r).map (·.1)) a = twI v (r.map (·.1)) (a + 1) := by rw [List.map_cons, twI, if_pos (.inl h1)]
        have q1 : (v - o == 0) = true := by rw [h1]; rfl
        refine sg_call O [spINext items2 j (.int o t') hg, spGetI items k (.int v t) hv (by omega), spSubI v o (v - o) rfl] [.go 28 [1, 4, 0, 2, 2, 2, 0, 2, 2, 4, 4, 4, 5, 3, 2, 6, 0]] [0, 1, 2, 3] 4 [] 0 (fun z1 => iseof_spec _ (v - o) (argT z1.t 0) true q1 (L := (it, obAt z1 0) :: (f, obAt z1 1) :: (sl, obAt z1 2) :: (rl, obAt z1 3) :: L) (N := z1.N) (i := z1.i) (GL := GL) (G := G)) (by omega) (fun pz => ?_) (fun pz => ?_)
        · kernel_rfl
        intro z1
        rintro r sh' ⟨N', i', rfl, rfl⟩
        refine sg_fit O.good [spAddI (Int.ofNat a) 1 (Int.ofNat (a + 1)) rfl] [.go 16 [2, 4, 2, 2, 0]] [0, 1, 2, 3] 4 [] 0 _ (fun pz => ?_) (fun z => ih (j + 1) (a + 1) (z.tk 1 1) (some (z.vl 1 3)) (z.m 1) (z.e 1) z.N z.i hd' (by rw [← e]; exact hE))
        kernel_rfl
      · have q1 : (v - o == 0) = false := by rw [beq_eq_false_iff_ne]; exact h1
        refine sg_call O [spINext items2 j (.int o t') hg, spGetI items k (.int v t) hv (by omega), spSubI v o (v - o) rfl] [.go 28 [1, 4, 0, 2, 2, 2, 0, 2, 2, 4, 4, 4, 5, 3, 2, 6, 0]] [0, 1, 2, 3] 4 [] 0 (fun z1 => iseof_spec _ (v - o) (argT z1.t 0) false q1 (L := (it, obAt z1 0) :: (f, obAt z1 1) :: (sl, obAt z1 2) :: (rl, obAt z1 3) :: L) (N := z1.N) (i := z1.i) (GL := GL) (G := G)) (by omega) (fun pz => ?_) (fun pz => ?_)
        · kernel_rfl
        intro z1
        rintro r sh' ⟨N', i', rfl, rfl⟩
        by_cases h2 : v - o - 1 = 0
        · have e : twI v (((o, t') :: r).map (·.1)) a = twI v (r.map (·.1)) (a + 1) := by rw [List.map_cons, twI, if_pos (.inr h2)]
          have q2 : (v - o - 1 == 0) = true := by rw [h2]; rfl
          refine sg_call O [spGetI items k (.int v t) hv (by omega), spSubI v o (v - o) rfl, spSubI (v - o) 1 (v - o - 1) rfl] [.go 22 [0, 2, 2, 4, 4, 4, 4, 3, 2, 5, 6, 0]] [0, 1, 2, 3] 4 [] 0 (fun z2 => iseof_spec _ (v - o - 1) (argT z2.t 0) true q2 (L := (it, obAt z2 0) :: (f, obAt z2 1) :: (sl, obAt z2 2) :: (rl, obAt z2 3) :: L) (N := z2.N) (i := z2.i) (GL := GL) (G := G)) (by omega) (fun pz => ?_) (fun pz => ?_)
          · kernel_rfl
          intro z2
          rintro r sh' ⟨N', i', rfl, rfl⟩
          refine sg_fit O.good [spAddI (Int.ofNat a) 1 (Int.ofNat (a + 1)) rfl] [.go 16 [2, 4, 2, 2, 0]] [0, 1, 2, 3] 4 [] 0 _ (fun pz => ?_) (fun z => ih (j + 1) (a + 1) (z.tk 1 1) (some (z.vl 1 3)) (z.m 1) (z.e 1) z.N z.i hd' (by rw [← e]; exact hE))
          kernel_rfl
        · have e : twI v (((o, t') :: r).map (·.1)) a = twI v (r.map (·.1)) a := by rw [List.map_cons, twI, if_neg (fun h => h.elim h1 h2)]
          have q2 : (v - o - 1 == 0) = false := by rw [beq_eq_false_iff_ne]; exact h2
          refine sg_call O [spGetI items k (.int v t) hv (by omega), spSubI v o (v - o) rfl, spSubI (v - o) 1 (v - o - 1) rfl] [.go 22 [0, 2, 2, 4, 4, 4, 4, 3, 2, 5, 6, 0]] [0, 1, 2, 3] 4 [] 0 (fun z2 => iseof_spec _ (v - o - 1) (argT z2.t 0) false q2 (L := (it, obAt z2 0) :: (f, obAt z2 1) :: (sl, obAt z2 2) :: (rl, obAt z2 3) :: L) (N := z2.N) (i := z2.i) (GL := GL) (G := G)) (by omega) (fun pz => ?_) (fun pz => ?_)
          · kernel_rfl
          intro z2
          rintro r sh' ⟨N', i', rfl, rfl⟩
          refine sg_fit O.good [] [.go 3 [0]] [0, 1, 2, 3] 4 [] 0 _ (fun pz => ?_) (fun z => ih (j + 1) (a) (z.tk 1 1) (some (z.vl 1 3)) (z.m 1) (z.e 1) z.N z.i hd' (by rw [← e]; exact hE))
          kernel_rfl
end
theorem two_inC (P : Par K1) {f it rl sl k : Nat} {v : Int} {t tk : Tok} {l2 : List (Int × Tok)} {items : List Value} {n : Nat} {L : Lg} {GL : Gg} {G : Nat} (hv : items[k]? = some (.int v t)) (hk : k ≤ 20) (ys : List Value) (hy : ys = ivs l2) (a : Nat) (ta : Tok) (tl : T1) (m : HT) (ep N i : Nat) : Cn (U1 P) 3 (twoD P f it) ⟨(it, liO sl 0) :: (f, fr ([(⟨#[108, 101, 118, 101, 108, 115]⟩ : Str), (⟨#[116, 119, 111, 115]⟩ : Str), (⟨#[107]⟩ : Str)] ++ tn1 (⟨#[111, 116, 104, 101, 114]⟩ : Str) tl) ([.ref rl, .int (Int.ofNat a) ta, .int (Int.ofNat k) tk] ++ tv1 tl) m ep) :: (sl, listO ⟨ys⟩ 0) :: (rl, listO ⟨items⟩ n) :: L, N, i, GL, G⟩ fun r s' => ∃ ta tl m ep N i, r = .ok .next ∧ s' = ⟨(f, fr ([(⟨#[108, 101, 118, 101, 108, 115]⟩ : Str), (⟨#[116, 119, 111, 115]⟩ : Str), (⟨#[107]⟩ : Str)] ++ tn1 (⟨#[111, 116, 104, 101, 114]⟩ : Str) tl) ([.ref rl, .int (Int.ofNat (twI v (l2.map (·.1)) a)) ta, .int (Int.ofNat k) tk] ++ tv1 tl) m ep) :: (rl, listO ⟨items⟩ n) :: L, N, i, GL, G⟩ := by
  refine Cn.of_walk fun A R O hE => ?_
  exact two_in P O hy hv hk l2 0 a ta tl m ep N i rfl fun ta tl m ep N i => hE _ _ ⟨ta, tl, m, ep, N, i, rfl, rfl⟩
section
variable {A : Around} {R : Result → Shared → Prop}
theorem two_out (P : Par K1) (O : Lvl A 4) {f it rl : Nat} {l : List (Int × Tok)} {items : List Value} {n : Nat} {L : Lg} {GL : Gg} {G : Nat} (hil : items = ivs l) (hl : l.length ≤ 20) : ∀ (c k : Nat) (left : Int) (a : Nat) (ta : Tok) (tl : Option (Value × T1)) (m : HT) (ep N i : Nat), left = Int.ofNat c → k + c = l.length →
    (∀ (ta : Tok) (tl : Option (Value × T1)) (m : HT) (ep N i : Nat), Ends ((U1 P).V A R) (.ok .next) ⟨(f, fr ([(⟨#[108, 101, 118, 101, 108, 115]⟩ : Str), (⟨#[116, 119, 111, 115]⟩ : Str)] ++ tnS (⟨#[107]⟩ : Str) (⟨#[111, 116, 104, 101, 114]⟩ : Str) tl) ([.ref rl, .int (Int.ofNat (twF ((l.map (·.1)).drop k) a)) ta] ++ tvS tl) m ep) :: (rl, listO ⟨items⟩ n) :: L, N, i, GL, G⟩) →
    Mn ((U1 P).V A R) (hd (twoC P f it) ⟨(it, riO k left) :: (f, fr ([(⟨#[108, 101, 118, 101, 108, 115]⟩ : Str), (⟨#[116, 119, 111, 115]⟩ : Str)] ++ tnS (⟨#[107]⟩ : Str) (⟨#[111, 116, 104, 101, 114]⟩ : Str) tl) ([.ref rl, .int (Int.ofNat a) ta] ++ tvS tl) m ep) :: (rl, listO ⟨items⟩ n) :: L, N, i, GL, G⟩) := by
  intro c
  induction c with
  | zero =>
    intro k left a ta tl m ep N i hleft hk hE
    subst hleft
    have hq : twF ((l.map (·.1)).drop k) a = a := by rw [List.drop_eq_nil_iff.mpr (by simp; omega)]; rfl
    rw [hq] at hE
    have hE := hE ta tl m ep
    rcases tl with _ | ⟨v3, _ | v4⟩
    all_goals
      refine sg_fit O.good [] [.go 15 [1, 0, 1, 0, 1, 1, 1, 1, 0]] [3, 4] 5 [] 0 _ (fun pz => ?_) (fun z => Mn_fin (c := z.c) (r := .ok .next) (sh := ⟨_, z.N, z.i, GL, G⟩) (hE z.N z.i))
      kernel_rfl
  | succ c ih =>
    intro k left a ta tl m ep N i hleft hk hE
    subst hleft
    have hlt : k < l.length := by omega
    rcases q : l[k] with ⟨v, t⟩
    have hdr : l.drop k = (v, t) :: l.drop (k + 1) := by rw [← q]; exact List.drop_eq_getElem_cons hlt
    obtain ⟨hg, _, _⟩ := ivs_get hdr
    rw [← hil] at hg
    have h20 : k ≤ 20 := by omega
    obtain ⟨ys, hys⟩ : ∃ ys, ys = ivs (l.drop (k + 1)) := ⟨_, rfl⟩
    have hy : (slicePick ⟨items⟩ (some (Int.ofNat (k + 1))) none none).toList = ys := by rw [slice_from, hys, hil]; simp [ivs]
    have hn : items.length ≤ sizeLine := sz (by rw [hil, ivs_len]; omega)
    have e : twF ((l.map (·.1)).drop k) a = twF ((l.map (·.1)).drop (k + 1)) (twI v ((l.drop (k + 1)).map (·.1)) a) := by rw [← List.map_drop, hdr, ← List.map_drop]; rfl
    rcases tl with _ | ⟨v3, _ | v4⟩
    · refine sg_call O [spAddI (Int.ofNat k) 1 (Int.ofNat (k + 1)) rfl, spSlL items (some (Int.ofNat (k + 1))) none none ys hy (fun h => nomatch h) hn] [.go 39 [1, 0, 1, 0, 1, 1, 1, 1, 1, 1, 1, 2, 2, 2, 2, 4, 4, 4, 4, 5, 3, 0, 1, 1], .jn 0 0 [] 0 [], .go 6 [0, 1, 0, 1]] [0, 4, 1, 5, 3] 6 [] 0 (fun z1 => two_inC _ hg h20 ys hys a (z1.tk 1 1) none (z1.m 1) (z1.e 1) z1.N z1.i (f := f) (it := z1.a 0) (sl := z1.a 2) (rl := rl) (tk := z1.tk 1 2) (n := n) (L := (it, obAt z1 4) :: L) (GL := GL) (G := G)) (by omega) (fun pz => ?_) (fun pz => ?_)
      · kernel_rfl
      intro z1
      rintro r sh' ⟨ta, tl, m, ep, N', i', rfl, rfl⟩
      rcases tl with _ | v5
      · refine sg_fit O.good [] [.go 1 [0]] [2, 0, 1] 3 [] 0 _ (fun pz => ?_) (fun z => ih (k + 1) (Int.ofNat (c + 1) - 1) (twI v ((l.drop (k + 1)).map (·.1)) a) ta (some (z.vl 1 2, none)) m ep z.N z.i (left_s c) (by omega) (by rw [← e]; exact hE))
        kernel_rfl
      · refine sg_fit O.good [] [.go 1 [0]] [2, 0, 1] 3 [] 0 _ (fun pz => ?_) (fun z => ih (k + 1) (Int.ofNat (c + 1) - 1) (twI v ((l.drop (k + 1)).map (·.1)) a) ta (some (z.vl 1 2, (some (z.vl 1 3)))) m ep z.N z.i (left_s c) (by omega) (by rw [← e]; exact hE))
        kernel_rfl
    · refine sg_call O [spAddI (Int.ofNat k) 1 (Int.ofNat (k + 1)) rfl, spSlL items (some (Int.ofNat (k + 1))) none none ys hy (fun h => nomatch h) hn] [.go 39 [1, 0, 1, 0, 1, 1, 1, 1, 1, 1, 1, 2, 2, 2, 2, 4, 4, 4, 4, 5, 3, 0, 1, 1], .jn 0 0 [] 0 [], .go 6 [0, 1, 0, 1]] [0, 4, 1, 5, 3] 6 [] 0 (fun z1 => two_inC _ hg h20 ys hys a (z1.tk 1 1) none (z1.m 1) (z1.e 1) z1.N z1.i (f := f) (it := z1.a 0) (sl := z1.a 2) (rl := rl) (tk := z1.tk 1 2) (n := n) (L := (it, obAt z1 4) :: L) (GL := GL) (G := G)) (by omega) (fun pz => ?_) (fun pz => ?_)
      · kernel_rfl
      intro z1
      rintro r sh' ⟨ta, tl, m, ep, N', i', rfl, rfl⟩
      rcases tl with _ | v5
      · refine sg_fit O.good [] [.go 1 [0]] [2, 0, 1] 3 [] 0 _ (fun pz => ?_) (fun z => ih (k + 1) (Int.ofNat (c + 1) - 1) (twI v ((l.drop (k + 1)).map (·.1)) a) ta (some (z.vl 1 2, none)) m ep z.N z.i (left_s c) (by omega) (by rw [← e]; exact hE))
        kernel_rfl
      · refine sg_fit O.good [] [.go 1 [0]] [2, 0, 1] 3 [] 0 _ (fun pz => ?_) (fun z => ih (k + 1) (Int.ofNat (c + 1) - 1) (twI v ((l.drop (k + 1)).map (·.1)) a) ta (some (z.vl 1 2, (some (z.vl 1 3)))) m ep z.N z.i (left_s c) (by omega) (by rw [← e]; exact hE))
        kernel_rfl
    · refine sg_call O [spAddI (Int.ofNat k) 1 (Int.ofNat (k + 1)) rfl, spSlL items (some (Int.ofNat (k + 1))) none none ys hy (fun h => nomatch h) hn] [.go 39 [1, 0, 1, 0, 1, 1, 1, 1, 1, 1, 1, 2, 2, 2, 2, 4, 4, 4, 4, 5, 3, 0, 1, 1], .jn 0 0 [] 0 [], .go 6 [0, 1, 0, 1]] [0, 4, 1, 5, 3] 6 [] 0 (fun z1 => two_inC _ hg h20 ys hys a (z1.tk 1 1) (some v4) (z1.m 1) (z1.e 1) z1.N z1.i (f := f) (it := z1.a 0) (sl := z1.a 2) (rl := rl) (tk := z1.tk 1 2) (n := n) (L := (it, obAt z1 4) :: L) (GL := GL) (G := G)) (by omega) (fun pz => ?_) (fun pz => ?_)
      · kernel_rfl
      intro z1
      rintro r sh' ⟨ta, tl, m, ep, N', i', rfl, rfl⟩
      rcases tl with _ | v5
      · refine sg_fit O.good [] [.go 1 [0]] [2, 0, 1] 3 [] 0 _ (fun pz => ?_) (fun z => ih (k + 1) (Int.ofNat (c + 1) - 1) (twI v ((l.drop (k + 1)).map (·.1)) a) ta (some (z.vl 1 2, none)) m ep z.N z.i (left_s c) (by omega) (by rw [← e]; exact hE))
        kernel_rfl
      · refine sg_fit O.good [] [.go 1 [0]] [2, 0, 1] 3 [] 0 _ (fun pz => ?_) (fun z => ih (k + 1) (Int.ofNat (c + 1) - 1) (twI v ((l.drop (k + 1)).map (·.1)) a) ta (some (z.vl 1 2, (some (z.vl 1 3)))) m ep z.N z.i (left_s c) (by omega) (by rw [← e]; exact hE))
        kernel_rfl
end
theorem two_outC (P : Par K1) {f it rl : Nat} {l : List (Int × Tok)} {items : List Value} {n : Nat} {L : Lg} {GL : Gg} {G : Nat} (hil : items = ivs l) (hl : l.length ≤ 20) (left : Int) (ta : Tok) (m : HT) (ep N i : Nat) (hleft : left = Int.ofNat l.length) : Cn (U1 P) 4 (twoC P f it) ⟨(it, riO 0 left) :: (f, fr ([(⟨#[108, 101, 118, 101, 108, 115]⟩ : Str), (⟨#[116, 119, 111, 115]⟩ : Str)] ++ tnS (⟨#[107]⟩ : Str) (⟨#[111, 116, 104, 101, 114]⟩ : Str) none) ([.ref rl, .int (Int.ofNat 0) ta] ++ tvS none) m ep) :: (rl, listO ⟨items⟩ n) :: L, N, i, GL, G⟩ fun r s' => ∃ ta tl m ep N i, r = .ok .next ∧ s' = ⟨(f, fr ([(⟨#[108, 101, 118, 101, 108, 115]⟩ : Str), (⟨#[116, 119, 111, 115]⟩ : Str)] ++ tnS (⟨#[107]⟩ : Str) (⟨#[111, 116, 104, 101, 114]⟩ : Str) tl) ([.ref rl, .int (Int.ofNat (twF (l.map (·.1)) 0)) ta] ++ tvS tl) m ep) :: (rl, listO ⟨items⟩ n) :: L, N, i, GL, G⟩ := by
  refine Cn.of_walk fun A R O hE => ?_
  exact two_out P O hil hl l.length 0 left 0 ta none m ep N i hleft (Nat.zero_add _) fun ta tl m ep N i => hE _ _ ⟨ta, tl, m, ep, N, i, rfl, rfl⟩
theorem twos_spec (P : Par K1) {rl n : Nat} {l : List (Int × Tok)} {items : List Value} (hil : items = ivs l) {q : Nat} (hq : q = 5 ∨ q = 6) (hl : l.length = q) (L : Lg) (N i : Nat) (GL : Gg) (G : Nat) : Cn (U1 P) 5 (.call (.ref 143) ⟨[.ref rl], []⟩) ⟨(rl, listO ⟨items⟩ n) :: L, N, i, GL, G⟩ fun r s' => ∃ t N' i', r = .ok (.ret (.int (Int.ofNat (twF (l.map (·.1)) 0)) t)) ∧ s' = ⟨(rl, listO ⟨items⟩ n) :: L, N', i', GL, G⟩ := by
  have hlen : items.length = q := by rw [hil, ivs_len]; exact hl
  have h20 : l.length ≤ 20 := by omega
  have h100 : items.length ≤ 1000 := by omega
  refine Cn.of_fn (by kernel_rfl) fun A R O hE => ?_
  rcases hq with rfl | rfl
  · refine sg_call O [spLenN items 5 hlen h100] [.go 53 [0, 0, 1, 1, 0, 0, 1, 1, 0, 0, 0, 0, 1, 4, 1, 0, 0, 0, 0, 1, 1, 0, 1, 0, 1, 1, 1], .jn 0 0 [] 0 [], .go 9 [0, 1, 0, 1, 1, 1, 1]] [0, 2, 3] 4 [] 0 (fun z1 => two_outC _ hil h20 5 (z1.tk 1 1) (z1.m 1) (z1.e 1) z1.N z1.i (by rw [hl]; rfl) (f := N) (it := z1.a 0) (rl := rl) (n := n) (L := L) (GL := GL) (G := G)) (by omega) (fun pz => ?_) (fun pz => ?_)
    · kernel_rfl
    intro z1
    rintro r sh' ⟨td, tl, m, ep, N', i', rfl, rfl⟩
    rcases tl with _ | ⟨v3, _ | v4⟩
    all_goals
      refine sg_fit O.good [] [.go 3 [1]] [1] 2 [] 0 _ (fun pz => ?_) (fun z => Mn_fin (c := z.c) (r := .ok (.ret (.int (Int.ofNat (twF (l.map (·.1)) 0)) td))) (sh := ⟨_, z.N, z.i, GL, G⟩) (hE _ _ ⟨_, z.N, z.i, rfl, rfl⟩))
      kernel_rfl
  · refine sg_call O [spLenN items 6 hlen h100] [.go 53 [0, 0, 1, 1, 0, 0, 1, 1, 0, 0, 0, 0, 1, 4, 1, 0, 0, 0, 0, 1, 1, 0, 1, 0, 1, 1, 1], .jn 0 0 [] 0 [], .go 9 [0, 1, 0, 1, 1, 1, 1]] [0, 2, 3] 4 [] 0 (fun z1 => two_outC _ hil h20 6 (z1.tk 1 1) (z1.m 1) (z1.e 1) z1.N z1.i (by rw [hl]; rfl) (f := N) (it := z1.a 0) (rl := rl) (n := n) (L := L) (GL := GL) (G := G)) (by omega) (fun pz => ?_) (fun pz => ?_)
    · kernel_rfl
    intro z1
    rintro r sh' ⟨td, tl, m, ep, N', i', rfl, rfl⟩
    rcases tl with _ | ⟨v3, _ | v4⟩
    all_goals
      refine sg_fit O.good [] [.go 3 [1]] [1] 2 [] 0 _ (fun pz => ?_) (fun z => Mn_fin (c := z.c) (r := .ok (.ret (.int (Int.ofNat (twF (l.map (·.1)) 0)) td))) (sh := ⟨_, z.N, z.i, GL, G⟩) (hE _ _ ⟨_, z.N, z.i, rfl, rfl⟩))
      kernel_rfl

end Mine
end
-- part L1tab
section
set_option maxRecDepth 100000
set_option maxHeartbeats 0
set_option Elab.async false
set_option linter.unusedVariables false
namespace Mine
open PySem PySem.Spec PySem.Calls PyProof.Rows PySem.W PySem.W.X

noncomputable def tabF (P : Par K1) (k : Str) : Option Value := dfind ((kt P).get 78) k
theorem tab_map (P : Par K1) (A : Around) (R : Result → Shared → Prop) : ((U1 P).V A R).h₀.MapOf (PySem.strKind ((U1 P).V A R).prog ((U1 P).V A R).w) 78 (tabF P) := by
  obtain ⟨w₀, b1, b2, b3, h₀, d, t₀, os, ok⟩ := P
  have h : (K1 (wset w₀ b1 b2 b3).params).get 78 = some (((K1 (wset w₀ b1 b2 b3).params).get 78).getD default) := by kernel_rfl
  have h2 := ok _ _ h
  have e : tabF ⟨w₀, b1, b2, b3, h₀, d, t₀, os, ok⟩ = dfind (some (((K1 (wset w₀ b1 b2 b3).params).get 78).getD default)) := by unfold tabF; rw [← h]; rfl
  rw [e]
  refine mapOf_of (es := esOf ((K1 (wset w₀ b1 b2 b3).params).get 78)) (ep := 48) h2 ?_ ⟨?_, ?_, ?_⟩ ?_
  all_goals kernel_rfl
theorem tab_open (P : Par K1) : ∃ t, tabF P (ch 40) = some (.int 7 t) := ⟨tokOf ((tabF P (ch 40)).getD .none), by kernel_rfl⟩
theorem tab_close (P : Par K1) : ∃ t, tabF P (ch 41) = some (.int 8 t) := ⟨tokOf ((tabF P (ch 41)).getD .none), by kernel_rfl⟩

end Mine
end
-- part L1dressed
section
set_option maxRecDepth 100000
set_option maxHeartbeats 0
set_option Elab.async false
set_option linter.unusedVariables false
namespace Mine
open PySem PySem.Spec PySem.Calls PyProof.Rows PySem.W PySem.W.X

noncomputable def kindN (j : Nat) : List Nat := ([[], [92, 41], [34, 41, 34], [92, 92], [92, 34], [34, 92, 34, 40, 34]][j]?).getD []
theorem kindN_len (j : Nat) : (kindN j).length ≤ 5 := by
  match j with
  | 0 | 1 | 2 | 3 | 4 | 5 => decide
  | n + 6 => unfold kindN; simp
/-- a row with its dress -/
noncomputable def dreF : List Nat → Nat → Nat → List Nat → List Nat × Nat
  | [], _, cd, tt => (tt, cd)
  | c :: cs, k, cd, tt => if k % 4 = 0 then dreF cs (k + 1) (cd / 6) (tt ++ kindN (cd % 6) ++ [c]) else dreF cs (k + 1) cd (tt ++ [c])
theorem tx_app (a b : List Nat) : tx a ++ tx b = tx (a ++ b) := by
  refine Str.ext' ?_
  simp [Str.cps_append]
/-- a list's items -/
noncomputable def sqOf (o : Obj) : List Value := match o.data with
  | .seq a _ => a.toList
  | _ => []
noncomputable def kvOf (l : List Value) : List Value := [0, 1, 2, 3, 4, 5].map fun j => .str (tx (kindN j)) (tokOf ((l[j]?).getD .none))
theorem kvOf_ok (l : List Value) : ∀ j, j < 6 → ∃ t, (kvOf l)[j]? = some (.str (tx (kindN j)) t) := by
  intro j hj
  match j, hj with
  | 0, _ => exact ⟨_, rfl⟩
  | 1, _ => exact ⟨_, rfl⟩
  | 2, _ => exact ⟨_, rfl⟩
  | 3, _ => exact ⟨_, rfl⟩
  | 4, _ => exact ⟨_, rfl⟩
  | 5, _ => exact ⟨_, rfl⟩
noncomputable def dreC (P : Par K1) (f it : Nat) : Code := forC (stAt (bodyOf (kt P) 101) 2) it (envAt (kt P) 101 f)
section
variable {A : Around} {R : Result → Shared → Prop}
theorem dre_loop (P : Par K1) (O : Lvl A 2) {f it kl : Nat} {x : Str} {tx' : Tok} {kv : List Value} (hkv : ∀ j, j < 6 → ∃ t, kv[j]? = some (.str (tx (kindN j)) t)) {n : Nat} {L : Lg} {GL : Gg} {G : Nat} (hx : x.length ≤ 50) : ∀ (cs : List Nat) (k cd : Nat) (left : Int) (tt : List Nat) (tc t : Tok) (tl : T1) (m : HT) (ep N i : Nat), x.cps.toList.drop k = cs → k ≤ x.length → left = Int.ofNat cs.length → tt.length + 6 * cs.length ≤ 500 →
    (∀ tt' cd', dreF cs k cd tt = (tt', cd') → ∀ (tc t : Tok) (tl : T1) (m : HT) (ep N i : Nat), Ends ((U1 P).V A R) (.ok .next) ⟨(f, fr ([(⟨#[114, 111, 119]⟩ : Str), (⟨#[99, 111, 100, 101]⟩ : Str), (⟨#[107, 105, 110, 100, 115]⟩ : Str), (⟨#[116, 101, 120, 116]⟩ : Str)] ++ tn1 (⟨#[107]⟩ : Str) tl) ([.str x tx', .int (Int.ofNat cd') tc, .ref kl, .str (tx tt') t] ++ tv1 tl) m ep) :: (kl, listO ⟨kv⟩ n) :: L, N, i, GL, G⟩) →
    Mn ((U1 P).V A R) (hd (dreC P f it) ⟨(it, riO k left) :: (f, fr ([(⟨#[114, 111, 119]⟩ : Str), (⟨#[99, 111, 100, 101]⟩ : Str), (⟨#[107, 105, 110, 100, 115]⟩ : Str), (⟨#[116, 101, 120, 116]⟩ : Str)] ++ tn1 (⟨#[107]⟩ : Str) tl) ([.str x tx', .int (Int.ofNat cd) tc, .ref kl, .str (tx tt) t] ++ tv1 tl) m ep) :: (kl, listO ⟨kv⟩ n) :: L, N, i, GL, G⟩) := by
  intro cs
  induction cs with
  | nil =>
    intro k cd left tt tc t tl m ep N i hd hk hleft hl hE
    subst hleft
    have hE := hE tt cd rfl tc t tl m ep
    rcases tl with _ | v3
    all_goals
      refine sg_fit O.good [] [.go 15 [1, 0, 1, 0, 1, 1, 1, 1, 0]] [3, 4] 5 [] 0 _ (fun pz => ?_) (fun z => Mn_fin (c := z.c) (r := .ok .next) (sh := ⟨_, z.N, z.i, GL, G⟩) (hE z.N z.i))
      kernel_rfl
  | cons c cs ih =>
    intro k cd left tt tc t tl m ep N i hd hk hleft hl hE
    have hleft : left = Int.ofNat (cs.length + 1) := hleft
    subst hleft
    obtain ⟨hc, hd'⟩ := drop_cons hd
    have hlt : k < x.length := (Array.getElem?_eq_some_iff.mp hc).1
    simp only [List.length_cons] at hl
    have hk6 : k ≤ 1000000 := by omega
    by_cases h4 : k % 4 = 0
    · have e : dreF (c :: cs) k cd tt = dreF cs (k + 1) (cd / 6) (tt ++ kindN (cd % 6) ++ [c]) := if_pos h4
      obtain ⟨t6, h6⟩ := hkv (cd % 6) (Nat.mod_lt _ (by decide))
      have hkl := kindN_len (cd % 6)
      have hz1 : (tx (tt ++ kindN (cd % 6))).length ≤ sizeLine := sz (by show (tt ++ kindN (cd % 6)).length ≤ _; simp only [List.length_append]; omega)
      have hz2 : (tx (tt ++ kindN (cd % 6) ++ [c])).length ≤ sizeLine := sz (by show (tt ++ kindN (cd % 6) ++ [c]).length ≤ _; simp only [List.length_append, List.length_singleton]; omega)
      have h66 : cd % 6 ≤ 1000000 := by omega
      have hl' : (tt ++ kindN (cd % 6) ++ [c]).length + 6 * cs.length ≤ 500 := by simp only [List.length_append, List.length_singleton]; omega
      generalize kindN (cd % 6) = kd at *
      rcases tl with _ | v3
      all_goals
        refine sg_fit O.good [spMod (Int.ofNat k) 4 (Int.ofNat (k % 4)) (mod_o k 4) (by decide), spIEq (Int.ofNat (k % 4)) 0 true (ieq_t (b := 0) h4), spMod (Int.ofNat cd) 6 (Int.ofNat (cd % 6)) (mod_o cd 6) (by decide), spGetI kv (cd % 6) (.str (tx kd) t6) h6 h66, spCat (tx tt) (tx kd) (tx (tt ++ kd)) (tx_app ..) hz1, spDiv (Int.ofNat cd) 6 (Int.ofNat (cd / 6)) (div_o cd 6) (by decide) (by decide), spGetS x k c hc hk6, spCat (tx (tt ++ kd)) (ch c) (tx (tt ++ kd ++ [c])) (tx_snoc ..) hz2] [.go 29 [1, 0, 1, 0, 1, 1, 1, 1, 1, 1, 1, 2, 2, 2, 4], .jn 0 0 [] 0 [], .go 59 [5, 2, 2, 2, 6, 3, 3, 3, 7, 2, 8, 2, 2, 2, 9, 2, 2, 2, 2, 2, 10, 11, 2, 2, 0]] [0, 1, 2] 3 [] 0 _ (fun pz => ?_) (fun z => ih (k + 1) (cd / 6) (Int.ofNat (cs.length + 1) - 1) (tt ++ kd ++ [c]) (z.tk 1 1) (z.tk 1 3) (some (z.vl 1 4)) (z.m 1) (z.e 1) z.N z.i hd' hlt (left_s _) hl' (by rw [← e]; exact hE))
        kernel_rfl
    · have e : dreF (c :: cs) k cd tt = dreF cs (k + 1) cd (tt ++ [c]) := if_neg h4
      have hz2 : (tx (tt ++ [c])).length ≤ sizeLine := sz (by show (tt ++ [c]).length ≤ _; simp only [List.length_append, List.length_singleton]; omega)
      have hl' : (tt ++ [c]).length + 6 * cs.length ≤ 500 := by simp only [List.length_append, List.length_singleton]; omega
      rcases tl with _ | v3
      all_goals
        refine sg_fit O.good [spMod (Int.ofNat k) 4 (Int.ofNat (k % 4)) (mod_o k 4) (by decide), spIEq (Int.ofNat (k % 4)) 0 false (ieq_f (b := 0) h4), spGetS x k c hc hk6, spCat (tx tt) (ch c) (tx (tt ++ [c])) (tx_snoc ..) hz2] [.go 29 [1, 0, 1, 0, 1, 1, 1, 1, 1, 1, 1, 2, 2, 2, 4], .jn 0 0 [] 0 [], .go 21 [5, 2, 2, 2, 6, 7, 2, 2, 0]] [0, 1, 2] 3 [] 0 _ (fun pz => ?_) (fun z => ih (k + 1) cd (Int.ofNat (cs.length + 1) - 1) (tt ++ [c]) (z.tk 1 1) (z.tk 1 3) (some (z.vl 1 4)) (z.m 1) (z.e 1) z.N z.i hd' hlt (left_s _) hl' (by rw [← e]; exact hE))
        kernel_rfl
end
theorem dre_loopC (P : Par K1) {f it kl : Nat} {x : Str} {tx' : Tok} {kv : List Value} (hkv : ∀ j, j < 6 → ∃ t, kv[j]? = some (.str (tx (kindN j)) t)) {n : Nat} {L : Lg} {GL : Gg} {G : Nat} (q : Nat) (hq : q ≤ 50) (hx : x.length = q) (cd : Nat) (left : Int) (hleft : left = Int.ofNat q) (tc t : Tok) (m : HT) (ep N i : Nat) : Cn (U1 P) 2 (dreC P f it) ⟨(it, riO 0 left) :: (f, fr ([(⟨#[114, 111, 119]⟩ : Str), (⟨#[99, 111, 100, 101]⟩ : Str), (⟨#[107, 105, 110, 100, 115]⟩ : Str), (⟨#[116, 101, 120, 116]⟩ : Str)] ++ tn1 (⟨#[107]⟩ : Str) none) ([.str x tx', .int (Int.ofNat cd) tc, .ref kl, .str (tx []) t] ++ tv1 none) m ep) :: (kl, listO ⟨kv⟩ n) :: L, N, i, GL, G⟩ fun r s' => ∃ (tc t : Tok) (tl : T1) (m : HT) (ep N i : Nat), r = .ok .next ∧ s' = ⟨(f, fr ([(⟨#[114, 111, 119]⟩ : Str), (⟨#[99, 111, 100, 101]⟩ : Str), (⟨#[107, 105, 110, 100, 115]⟩ : Str), (⟨#[116, 101, 120, 116]⟩ : Str)] ++ tn1 (⟨#[107]⟩ : Str) tl) ([.str x tx', .int (Int.ofNat (dreF x.cps.toList 0 cd []).2) tc, .ref kl, .str (tx (dreF x.cps.toList 0 cd []).1) t] ++ tv1 tl) m ep) :: (kl, listO ⟨kv⟩ n) :: L, N, i, GL, G⟩ := by
  have hlen : x.cps.toList.length = q := by rw [← hx]; simp [Str.length]
  refine Cn.of_walk fun A R O hE => ?_
  refine dre_loop P O hkv (by omega) x.cps.toList 0 cd left [] tc t none m ep N i rfl (Nat.zero_le _) (by rw [hlen]; exact hleft) (by rw [hlen]; simp; omega) fun tt' cd' e tc t tl m ep N i => hE _ _ ⟨tc, t, tl, m, ep, N, i, rfl, ?_⟩
  rw [e]
theorem dreF_len : ∀ (cs : List Nat) (k cd : Nat) (tt : List Nat), (dreF cs k cd tt).1.length ≤ tt.length + 6 * cs.length
  | [], _, _, _ => by simp [dreF]
  | c :: cs, k, cd, tt => by
    have hk := kindN_len (cd % 6)
    unfold dreF
    split
    · have := dreF_len cs (k + 1) (cd / 6) (tt ++ kindN (cd % 6) ++ [c])
      simp only [List.length_append, List.length_cons, List.length_nil] at this ⊢
      omega
    · have := dreF_len cs (k + 1) cd (tt ++ [c])
      simp only [List.length_append, List.length_cons, List.length_nil] at this ⊢
      omega
theorem dressed_spec (P : Par K1) (x : Str) (q cd : Nat) (hq : q = 10 ∨ q = 12) (hx : x.length = q) (hc : (dreF x.cps.toList 0 cd []).2 < 2) (t1 t2 : Tok) (L : Lg) (N i : Nat) (GL : Gg) (G : Nat) : Cn (U1 P) 3 (.call (.ref 101) ⟨[.str x t1, .int (Int.ofNat cd) t2], []⟩) ⟨L, N, i, GL, G⟩ fun r s' => ∃ t N i, r = .ok (.ret (.str (tx ((dreF x.cps.toList 0 cd []).1 ++ (if (dreF x.cps.toList 0 cd []).2 = 0 then [] else [92]))) t)) ∧ s' = ⟨L, N, i, GL, G⟩ := by
  have h1000 : x.length ≤ 1000 := by omega
  have hdl := dreF_len x.cps.toList 0 cd []
  have hlen : x.cps.toList.length = q := by rw [← hx]; simp [Str.length]
  rw [hlen] at hdl
  refine Cn.of_fn (by kernel_rfl) fun A R O hE => ?_
  rcases hq with rfl | rfl
  · refine sg_call O [spLenK x 10 hx h1000] [.go 73 [0, 0, 1, 1, 1, 1, 0, 0, 2, 2, 2, 2, 0, 0, 0, 0, 2, 4, 0, 0, 0, 0, 1, 1, 0, 1, 0, 1, 1, 1], .jn 0 0 [] 0 [], .go 9 [0, 1, 0, 1, 1, 1, 1]] [0, 3, 2] 4 [] 0 (fun z1 => dre_loopC _ (kv := kvOf (sqOf (obAt z1 2))) (kvOf_ok _) 10 (by decide) hx cd 10 rfl (z1.tk 1 1) (z1.tk 1 3) (z1.m 1) (z1.e 1) z1.N z1.i (f := N) (it := z1.a 0) (kl := z1.a 2) (tx' := t1) (n := z1.e 2) (L := L) (GL := GL) (G := G)) (by omega) (fun pz => ?_) (fun pz => ?_)
    · kernel_rfl
    intro z1
    rintro r sh' ⟨tc, t, tl, m, ep, N', i', rfl, rfl⟩
    generalize dreF x.cps.toList 0 cd [] = rd at hc hE hdl
    obtain ⟨rt, rc⟩ := rd
    dsimp only at hc hdl
    have hr : rt.length ≤ 500 := by simpa using Nat.le_trans hdl (by decide)
    obtain rfl | rfl : rc = 0 ∨ rc = 1 := by omega
    · rcases tl with _ | v4
      all_goals
        refine sg_fit O.good [spCat (tx rt) (⟨#[]⟩ : Str) (tx (rt ++ [])) (tx_app rt []) (sz (by show (rt ++ []).length ≤ _; simp; omega))] [.go 23 [1, 2, 1, 1, 1, 0, 1, 0, 1, 0, 4]] [] 3 [] 0 _ (fun pz => ?_) (fun z => Mn_fin (c := z.c) (r := .ok (.ret (.str (tx (rt ++ [])) z.rt))) (sh := ⟨L, z.N, z.i, GL, G⟩) (hE _ _ ⟨_, z.N, z.i, rfl, rfl⟩))
        kernel_rfl
    · rcases tl with _ | v4
      all_goals
        refine sg_fit O.good [spCat (tx rt) (⟨#[92]⟩ : Str) (tx (rt ++ [92])) (tx_snoc rt 92) (sz (by show (rt ++ [92]).length ≤ _; simp; omega))] [.go 23 [1, 2, 1, 1, 1, 0, 1, 0, 1, 0, 4]] [] 3 [] 0 _ (fun pz => ?_) (fun z => Mn_fin (c := z.c) (r := .ok (.ret (.str (tx (rt ++ [92])) z.rt))) (sh := ⟨L, z.N, z.i, GL, G⟩) (hE _ _ ⟨_, z.N, z.i, rfl, rfl⟩))
        kernel_rfl
  · refine sg_call O [spLenK x 12 hx h1000] [.go 73 [0, 0, 1, 1, 1, 1, 0, 0, 2, 2, 2, 2, 0, 0, 0, 0, 2, 4, 0, 0, 0, 0, 1, 1, 0, 1, 0, 1, 1, 1], .jn 0 0 [] 0 [], .go 9 [0, 1, 0, 1, 1, 1, 1]] [0, 3, 2] 4 [] 0 (fun z1 => dre_loopC _ (kv := kvOf (sqOf (obAt z1 2))) (kvOf_ok _) 12 (by decide) hx cd 12 rfl (z1.tk 1 1) (z1.tk 1 3) (z1.m 1) (z1.e 1) z1.N z1.i (f := N) (it := z1.a 0) (kl := z1.a 2) (tx' := t1) (n := z1.e 2) (L := L) (GL := GL) (G := G)) (by omega) (fun pz => ?_) (fun pz => ?_)
    · kernel_rfl
    intro z1
    rintro r sh' ⟨tc, t, tl, m, ep, N', i', rfl, rfl⟩
    generalize dreF x.cps.toList 0 cd [] = rd at hc hE hdl
    obtain ⟨rt, rc⟩ := rd
    dsimp only at hc hdl
    have hr : rt.length ≤ 500 := by simpa using Nat.le_trans hdl (by decide)
    obtain rfl | rfl : rc = 0 ∨ rc = 1 := by omega
    · rcases tl with _ | v4
      all_goals
        refine sg_fit O.good [spCat (tx rt) (⟨#[]⟩ : Str) (tx (rt ++ [])) (tx_app rt []) (sz (by show (rt ++ []).length ≤ _; simp; omega))] [.go 23 [1, 2, 1, 1, 1, 0, 1, 0, 1, 0, 4]] [] 3 [] 0 _ (fun pz => ?_) (fun z => Mn_fin (c := z.c) (r := .ok (.ret (.str (tx (rt ++ [])) z.rt))) (sh := ⟨L, z.N, z.i, GL, G⟩) (hE _ _ ⟨_, z.N, z.i, rfl, rfl⟩))
        kernel_rfl
    · rcases tl with _ | v4
      all_goals
        refine sg_fit O.good [spCat (tx rt) (⟨#[92]⟩ : Str) (tx (rt ++ [92])) (tx_snoc rt 92) (sz (by show (rt ++ [92]).length ≤ _; simp; omega))] [.go 23 [1, 2, 1, 1, 1, 0, 1, 0, 1, 0, 4]] [] 3 [] 0 _ (fun pz => ?_) (fun z => Mn_fin (c := z.c) (r := .ok (.ret (.str (tx (rt ++ [92])) z.rt))) (sh := ⟨L, z.N, z.i, GL, G⟩) (hE _ _ ⟨_, z.N, z.i, rfl, rfl⟩))
        kernel_rfl

end Mine
end
-- part L1written
section
set_option maxRecDepth 100000
set_option maxHeartbeats 0
set_option Elab.async false
set_option linter.unusedVariables false
namespace Mine
open PySem PySem.Spec PySem.Calls PyProof.Rows PySem.W PySem.W.X

noncomputable def ahN (j : Nat) : List Nat := ([[], [32], [10], [9, 13, 10]][j]?).getD []
noncomputable def ahOf {c a : Nat} (_ : c = a) : List Nat := ahN a
theorem ahOf_eq {c a : Nat} (h : c = a) : ahOf h = ahN c := by subst h; rfl
noncomputable def spell (l : List Nat) : List Nat := repL 34 [92, 34] (repL 92 [92, 92] l)
theorem repL_len (c : Nat) (a b : Nat) : ∀ l : List Nat, (repL c [a, b] l).length ≤ 2 * l.length
  | [] => Nat.zero_le _
  | k :: r => by
    have := repL_len c a b r
    unfold repL
    rw [List.length_append, List.length_cons]
    split
    · simp only [List.length_cons, List.length_nil]; omega
    · simp only [List.length_cons, List.length_nil]; omega
noncomputable def wrF (l : List Nat) (cd : Nat) : List Nat :=
  if cd % 3 = 0 then ahN (cd / 3) ++ spell l ++ [10]
  else if cd % 3 = 1 then ahN (cd / 3) ++ [34] ++ spell l ++ [34, 10]
  else ahN (cd / 3) ++ [34] ++ spell l
theorem div_e {a b c : Nat} (h : a / b = c) : (Int.ofNat a).fdiv (Int.ofNat b) = Int.ofNat c := by rw [div_o, h]
theorem mod_e {a b c : Nat} (h : a % b = c) : (Int.ofNat a).fmod (Int.ofNat b) = Int.ofNat c := by rw [mod_o, h]
theorem ah_len (j : Nat) : (ahN j).length ≤ 3 := by
  match j with
  | 0 | 1 | 2 | 3 => decide
  | n + 4 => unfold ahN; simp
theorem tx_sz {l : List Nat} (h : l.length ≤ 1000) : (tx l).length ≤ sizeLine := sz (by show l.length ≤ _; omega)
theorem repL_ne (c a b : Nat) : ∀ l : List Nat, l ≠ [] → repL c [a, b] l ≠ []
  | [], h => absurd rfl h
  | k :: r, _ => by
    unfold repL
    split <;> simp
theorem len0 {l : List Nat} (h : l ≠ []) : ((tx l).length == 0) = false := by
  cases l with
  | nil => exact absurd rfl h
  | cons a l => rfl
theorem written_spec (P : Par K1) (l : List Nat) (hne : l ≠ []) (hl : l.length ≤ 120) (cd : Nat) (hc : cd < 12) (t1 t2 : Tok) (L : Lg) (N i : Nat) (GL : Gg) (G : Nat) : Cn (U1 P) 3 (.call (.ref 108) ⟨[.str (tx l) t1, .int (Int.ofNat cd) t2], []⟩) ⟨L, N, i, GL, G⟩ fun r s' => ∃ t N i, r = .ok (.ret (.str (tx (wrF l cd)) t)) ∧ s' = ⟨L, N, i, GL, G⟩ := by
  have g1 := repL_len 92 92 92 l
  have g2 := repL_len 34 92 34 (repL 92 [92, 92] l)
  have g3 := ah_len (cd / 3)
  have h120 : (tx l).length ≤ 1000 := by show l.length ≤ 1000; omega
  have h240 : (tx (repL 92 [92, 92] l)).length ≤ 1000 := by show (repL 92 [92, 92] l).length ≤ 1000; omega
  have s1 : (tx (repL 92 [92, 92] l)).length ≤ sizeLine := tx_sz h240
  have hq : cd / 3 = 0 ∨ cd / 3 = 1 ∨ cd / 3 = 2 ∨ cd / 3 = 3 := by omega
  have s2 : (tx (spell l)).length ≤ sizeLine := tx_sz (by unfold spell; omega)
  have g4 : (spell l).length ≤ 480 := by unfold spell; omega
  have ne : spell l ≠ [] := repL_ne _ _ _ _ (repL_ne _ _ _ _ hne)
  obtain ⟨l1, hl1⟩ : ∃ l1, l1 = repL 92 [92, 92] l := ⟨_, rfl⟩
  obtain ⟨sp, hsp⟩ : ∃ sp, sp = spell l := ⟨_, rfl⟩
  have w1 : (tx l1).cps.toList = repL 92 [92, 92] (tx l).cps.toList := hl1
  have w2 : (tx sp).cps.toList = repL 34 [92, 34] (tx l1).cps.toList := by rw [hsp, hl1]; rfl
  rw [← hl1] at h240 s1
  rw [← hsp] at s2 g4 ne
  have n1 : ∀ a : List Nat, ((tx (a ++ sp)).length == 0) = false := fun a => len0 (by simp [ne])
  have n2 : ∀ a : List Nat, ((tx (a ++ [34])).length == 0) = false := fun a => len0 (by simp)
  have n0 := len0 ne
  have hb1 : repN (tx l) 92 = true ∨ repN (tx l) 92 = false := by cases repN (tx l) 92 <;> simp
  have hb2 : repN (tx l1) 34 = true ∨ repN (tx l1) 34 = false := by cases repN (tx l1) 34 <;> simp
  refine Cn.of_fn (by kernel_rfl) fun A R O hE => ?_
  rcases (by omega : cd % 3 = 0 ∨ cd % 3 = 1 ∨ cd % 3 = 2) with hm | hm | hm
  · have e0 : 0 = 0 := rfl
    rcases hb2 with hb' | hb'
    all_goals
      rcases hb1 with hb | hb
      all_goals
        rcases hq with ha | ha | ha | ha
        all_goals
          have e : wrF l cd = ahOf ha ++ sp ++ [10] := by rw [ahOf_eq ha, hsp]; exact if_pos hm
          have g5 : (ahOf ha).length ≤ 3 := by rw [ahOf_eq]; exact g3
          refine sg_fit O.good [spRep (tx l) 92 [92, 92] (tx l1) _ hb w1 h120 (by decide) (by decide) s1, spRep (tx l1) 34 [92, 34] (tx sp) _ hb' w2 h240 (by decide) (by decide) s2, spDiv (Int.ofNat cd) 3 _ (div_e ha) (by decide) (by decide), spMod (Int.ofNat cd) 3 _ (mod_e hm) (by decide), spCatB (tx (ahOf ha)) (tx sp) (tx (ahOf ha ++ sp)) _ _ rfl n0 (tx_app ..) (tx_sz (by simp only [List.length_append, List.length_cons, List.length_nil]; omega)), spCatB (tx (ahOf ha ++ sp)) (⟨#[10]⟩ : Str) (tx (ahOf ha ++ sp ++ [10])) _ _ (n1 _) rfl (tx_snoc ..) (tx_sz (by simp only [List.length_append, List.length_cons, List.length_nil]; omega))] [.go 76 [0, 0, 1, 1, 1, 1, 0, 0, 1, 4, 5, 1, 1, 2, 6, 1, 1, 1, 0, 1, 0, 1, 0, 2, 2, 2, 7], .jn 0 0 [] 0 [], .go 15 [0, 0, 2, 2, 8, 9]] [] 2 [] 0 _ (fun pz => ?_) (fun z => Mn_fin (c := z.c) (r := .ok (.ret (.str (tx (ahOf ha ++ sp ++ [10])) z.rt))) (sh := ⟨L, z.N, z.i, GL, G⟩) (hE _ _ ⟨_, z.N, z.i, by rw [← e], rfl⟩))
          kernel_rfl
  · have e0 : 0 = 0 := rfl
    rcases hb2 with hb' | hb'
    all_goals
      rcases hb1 with hb | hb
      all_goals
        rcases hq with ha | ha | ha | ha
        all_goals
          have e : wrF l cd = ahOf ha ++ [34] ++ sp ++ [34, 10] := by rw [ahOf_eq ha, hsp]; exact (if_neg (by omega)).trans (if_pos hm)
          have g5 : (ahOf ha).length ≤ 3 := by rw [ahOf_eq]; exact g3
          refine sg_fit O.good [spRep (tx l) 92 [92, 92] (tx l1) _ hb w1 h120 (by decide) (by decide) s1, spRep (tx l1) 34 [92, 34] (tx sp) _ hb' w2 h240 (by decide) (by decide) s2, spDiv (Int.ofNat cd) 3 _ (div_e ha) (by decide) (by decide), spMod (Int.ofNat cd) 3 _ (mod_e hm) (by decide), spCatB (tx (ahOf ha)) (⟨#[34]⟩ : Str) (tx (ahOf ha ++ [34])) _ _ rfl rfl (tx_snoc ..) (tx_sz (by simp only [List.length_append, List.length_cons, List.length_nil]; omega)), spCatB (tx (ahOf ha ++ [34])) (tx sp) (tx (ahOf ha ++ [34] ++ sp)) _ _ (n2 _) n0 (tx_app ..) (tx_sz (by simp only [List.length_append, List.length_cons, List.length_nil]; omega)), spCatB (tx (ahOf ha ++ [34] ++ sp)) (⟨#[34, 10]⟩ : Str) (tx (ahOf ha ++ [34] ++ sp ++ [34, 10])) _ _ (n1 _) rfl (tx_app (ahOf ha ++ [34] ++ sp) [34, 10]) (tx_sz (by simp only [List.length_append, List.length_cons, List.length_nil]; omega))] [.go 76 [0, 0, 1, 1, 1, 1, 0, 0, 1, 4, 5, 1, 1, 2, 6, 1, 1, 1, 0, 1, 0, 1, 0, 2, 2, 2, 7], .jn 0 0 [] 0 [], .go 11 [0, 0, 2, 7], .jn 0 0 [] 0 [], .go 19 [0, 0, 2, 8, 2, 9, 10]] [] 2 [] 0 _ (fun pz => ?_) (fun z => Mn_fin (c := z.c) (r := .ok (.ret (.str (tx (ahOf ha ++ [34] ++ sp ++ [34, 10])) z.rt))) (sh := ⟨L, z.N, z.i, GL, G⟩) (hE _ _ ⟨_, z.N, z.i, by rw [← e], rfl⟩))
          kernel_rfl
  · have e0 : 0 = 0 := rfl
    rcases hb2 with hb' | hb'
    all_goals
      rcases hb1 with hb | hb
      all_goals
        rcases hq with ha | ha | ha | ha
        all_goals
          have e : wrF l cd = ahOf ha ++ [34] ++ sp := by rw [ahOf_eq ha, hsp]; exact (if_neg (by omega)).trans (if_neg (by omega))
          have g5 : (ahOf ha).length ≤ 3 := by rw [ahOf_eq]; exact g3
          refine sg_fit O.good [spRep (tx l) 92 [92, 92] (tx l1) _ hb w1 h120 (by decide) (by decide) s1, spRep (tx l1) 34 [92, 34] (tx sp) _ hb' w2 h240 (by decide) (by decide) s2, spDiv (Int.ofNat cd) 3 _ (div_e ha) (by decide) (by decide), spMod (Int.ofNat cd) 3 _ (mod_e hm) (by decide), spCatB (tx (ahOf ha)) (⟨#[34]⟩ : Str) (tx (ahOf ha ++ [34])) _ _ rfl rfl (tx_snoc ..) (tx_sz (by simp only [List.length_append, List.length_cons, List.length_nil]; omega)), spCatB (tx (ahOf ha ++ [34])) (tx sp) (tx (ahOf ha ++ [34] ++ sp)) _ _ (n2 _) n0 (tx_app ..) (tx_sz (by simp only [List.length_append, List.length_cons, List.length_nil]; omega))] [.go 76 [0, 0, 1, 1, 1, 1, 0, 0, 1, 4, 5, 1, 1, 2, 6, 1, 1, 1, 0, 1, 0, 1, 0, 2, 2, 2, 7], .jn 0 0 [] 0 [], .go 11 [0, 0, 2, 7], .jn 0 0 [] 0 [], .go 15 [0, 0, 2, 8, 2, 9]] [] 2 [] 0 _ (fun pz => ?_) (fun z => Mn_fin (c := z.c) (r := .ok (.ret (.str (tx (ahOf ha ++ [34] ++ sp)) z.rt))) (sh := ⟨L, z.N, z.i, GL, G⟩) (hE _ _ ⟨_, z.N, z.i, by rw [← e], rfl⟩))
          kernel_rfl

end Mine
end
-- part L1chk
section
set_option maxRecDepth 100000
set_option maxHeartbeats 0
set_option Elab.async false
set_option linter.unusedVariables false
namespace Mine
open PySem PySem.Spec PySem.Calls PyProof.Rows PySem.W PySem.W.X

/-- what the loop of _check_parenthesis makes of the pieces -/
noncomputable def chkF : List (Nat × Str) → Int → Option Int
  | [], o => some o
  | p :: ps, o => if (p.2.cps.toList == (⟨#[40]⟩ : Str).cps.toList) then chkF ps (o + 1) else if (p.2.cps.toList == (⟨#[41]⟩ : Str).cps.toList) then (if o - 1 < 0 then none else chkF ps (o - 1)) else chkF ps o
noncomputable def ckC (P : Par K1) (f ga : Nat) : Code := forC (stAt (bodyOf (kt P) 77) 2) ga (envAt (kt P) 77 f)
section
variable {A : Around} {R : Result → Shared → Prop}
theorem chk_loop (P : Par K1) (O : Lvl A 2) {f ga g : Nat} {ta tb : Tok} {x : Str} {tk : Tok} {L : Lg} {GL : Gg} {G : Nat} : ∀ (ps : List (Nat × Str)) (own : Lg) (gs : GenState) (o : Int) (to : Tok) (tl : T2) (m : HT) (ep N i : Nat), Feeds (U1 P) 1 ga g ta tb ps own gs →
    (chkF ps o = none → ∀ N i, Ends ((U1 P).V A R) (.ok (.ret (.bool false))) ⟨L, N, i, GL, G⟩) →
    (∀ o', chkF ps o = some o' → ∀ to tl m ep N i, Ends ((U1 P).V A R) (.ok .next) ⟨(f, fr ([(⟨#[97, 100, 100, 114]⟩ : Str), (⟨#[111, 112, 101, 110, 115]⟩ : Str)] ++ tn2 (⟨#[112, 111, 115]⟩ : Str) (⟨#[99, 104]⟩ : Str) tl) ([.str x tk, .int o' to] ++ tv2 tl) m ep) :: L, N, i, GL, G⟩) →
    Mn ((U1 P).V A R) (hd (ckC P f ga) ⟨(ga, genO g ta tb) :: (f, fr ([(⟨#[97, 100, 100, 114]⟩ : Str), (⟨#[111, 112, 101, 110, 115]⟩ : Str)] ++ tn2 (⟨#[112, 111, 115]⟩ : Str) (⟨#[99, 104]⟩ : Str) tl) ([.str x tk, .int o to] ++ tv2 tl) m ep) :: (own ++ L), N, i, (g, gs) :: GL, G⟩) := by
  intro ps
  induction ps with
  | nil =>
    intro own gs o to tl m ep N i F h1 h2
    have h2 := h2 o rfl to tl m ep
    rcases tl with _ | ⟨v3, v4⟩
    all_goals
      refine sg_call O [] [.go 2 [1]] [0, 1] 2 [0] 1 (fun z1 => F.stop [(f, obAt z1 1)] L z1.N z1.i GL G) (by omega) (fun pz => ?_) (fun pz => ?_)
      · kernel_rfl
      intro z1
      rintro r sh' ⟨e, tu, N', i', rfl, rfl⟩
      refine sg_fit O.good [] [.go 2 [1, 0]] [1] 2 [] 0 _ (fun pz => ?_) (fun z => Mn_fin (c := z.c) (r := .ok .next) (sh := ⟨(f, _) :: L, z.N, z.i, GL, G⟩) (h2 z.N z.i))
      kernel_rfl
  | cons p ps ih =>
    obtain ⟨k, y⟩ := p
    intro own gs o to tl m ep N i F h1 h2
    rcases tl with _ | ⟨v3, v4⟩
    all_goals
      refine sg_call O [] [.go 2 [1]] [0, 1] 2 [0] 1 (fun z1 => F.next [(f, obAt z1 1)] L z1.N z1.i GL G) (by omega) (fun pz => ?_) (fun pz => ?_)
      · kernel_rfl
      intro z1
      rintro r sh' ⟨a, t1, t2, own', gs', N', i', rfl, rfl, F'⟩
      cases q1 : (y.cps.toList == (⟨#[40]⟩ : Str).cps.toList) with
      | true =>
        have e : chkF ((k, y) :: ps) o = chkF ps (o + 1) := by simp only [chkF, q1]; rfl
        refine sg_fit O.good [spEq y (⟨#[40]⟩ : Str) true q1] [.go 5 [2, 1, 1, 1], .jn 0 0 [] 0 [], .go 60 [0, 1, 0, 1, 1, 0, 1, 0, 1, 1, 2, 1, 1, 1, 0, 1, 0, 1, 1, 2, 1, 1, 1, 0, 1, 0, 1, 1, 2, 1, 1, 1, 6, 6, 6, 6, 6], .jn 0 0 [] 0 [], .go 17 [4, 6, 0, 0, 6, 6, 0]] [4, 5] 6 [0] 1 _ (fun pz => ?_) (fun z => ih own' gs' (o + 1) (z.tk 1 1) (some (z.vl 1 2, z.vl 1 3)) (z.m 1) (z.e 1) z.N z.i F' (fun h => h1 (e.trans h)) (fun o'' h => h2 o'' (e.trans h)))
        kernel_rfl
      | false =>
        cases q2 : (y.cps.toList == (⟨#[41]⟩ : Str).cps.toList) with
        | false =>
          have e : chkF ((k, y) :: ps) o = chkF ps o := by simp only [chkF, q1, q2]; rfl
          refine sg_fit O.good [spEq y (⟨#[40]⟩ : Str) false q1, spEq y (⟨#[41]⟩ : Str) false q2] [.go 5 [2, 1, 1, 1], .jn 0 0 [] 0 [], .go 60 [0, 1, 0, 1, 1, 0, 1, 0, 1, 1, 2, 1, 1, 1, 0, 1, 0, 1, 1, 2, 1, 1, 1, 0, 1, 0, 1, 1, 2, 1, 1, 1, 6, 6, 6, 6, 6], .jn 0 0 [] 0 [], .go 6 [4, 6], .jn 0 0 [] 0 [], .go 2 [5, 0]] [4, 5] 6 [0] 1 _ (fun pz => ?_) (fun z => ih own' gs' o (z.tk 1 1) (some (z.vl 1 2, z.vl 1 3)) (z.m 1) (z.e 1) z.N z.i F' (fun h => h1 (e.trans h)) (fun o'' h => h2 o'' (e.trans h)))
          kernel_rfl
        | true =>
          cases q3 : decide (o - 1 < 0) with
          | false =>
            have e : chkF ((k, y) :: ps) o = chkF ps (o - 1) := by
              have := of_decide_eq_false q3
              simp only [chkF, q1, q2]
              simp [this]
            refine sg_fit O.good [spEq y (⟨#[40]⟩ : Str) false q1, spEq y (⟨#[41]⟩ : Str) true q2, spLt (o - 1) 0 false q3] [.go 5 [2, 1, 1, 1], .jn 0 0 [] 0 [], .go 60 [0, 1, 0, 1, 1, 0, 1, 0, 1, 1, 2, 1, 1, 1, 0, 1, 0, 1, 1, 2, 1, 1, 1, 0, 1, 0, 1, 1, 2, 1, 1, 1, 6, 6, 6, 6, 6], .jn 0 0 [] 0 [], .go 6 [4, 6], .jn 0 0 [] 0 [], .go 21 [5, 6, 0, 0, 6, 6, 6], .jn 0 0 [] 0 [], .go 2 [6, 0]] [4, 5] 6 [0] 1 _ (fun pz => ?_) (fun z => ih own' gs' (o - 1) (z.tk 1 1) (some (z.vl 1 2, z.vl 1 3)) (z.m 1) (z.e 1) z.N z.i F' (fun h => h1 (e.trans h)) (fun o'' h => h2 o'' (e.trans h)))
            kernel_rfl
          | true =>
            have e : chkF ((k, y) :: ps) o = none := by
              have := of_decide_eq_true q3
              simp only [chkF, q1, q2]
              simp [this]
            refine sg_fit O.good [spEq y (⟨#[40]⟩ : Str) false q1, spEq y (⟨#[41]⟩ : Str) true q2, spLt (o - 1) 0 true q3] [.go 5 [2, 1, 1, 1], .jn 0 0 [] 0 [], .go 60 [0, 1, 0, 1, 1, 0, 1, 0, 1, 1, 2, 1, 1, 1, 0, 1, 0, 1, 1, 2, 1, 1, 1, 0, 1, 0, 1, 1, 2, 1, 1, 1, 6, 6, 6, 6, 6], .jn 0 0 [] 0 [], .go 6 [4, 6], .jn 0 0 [] 0 [], .go 21 [5, 6, 0, 0, 6, 6, 6], .jn 0 0 [] 0 [], .go 2 [6]] [] 6 [] 1 _ (fun pz => ?_) (fun z => Mn_fin (c := z.c) (r := .ok (.ret (.bool false))) (sh := ⟨own' ++ L, z.N, z.i, GL, G⟩) (Ends.sub (h1 e z.N z.i) (List.sublist_append_right ..) (List.Sublist.refl _)))
            kernel_rfl
end
theorem chk_loopC (P : Par K1) {f ga g : Nat} {ta tb : Tok} {x : Str} {tk : Tok} {L : Lg} {GL : Gg} {G : Nat} {ps : List (Nat × Str)} {own : Lg} {gs : GenState} (F : Feeds (U1 P) 1 ga g ta tb ps own gs) (to : Tok) (m : HT) (ep N i : Nat) :
    Cn (U1 P) 2 (ckC P f ga) ⟨(ga, genO g ta tb) :: (f, fr ([(⟨#[97, 100, 100, 114]⟩ : Str), (⟨#[111, 112, 101, 110, 115]⟩ : Str)] ++ tn2 (⟨#[112, 111, 115]⟩ : Str) (⟨#[99, 104]⟩ : Str) none) ([.str x tk, .int 0 to] ++ tv2 none) m ep) :: (own ++ L), N, i, (g, gs) :: GL, G⟩ fun r s' =>
      (chkF ps 0 = none ∧ ∃ N i, r = .ok (.ret (.bool false)) ∧ s' = ⟨L, N, i, GL, G⟩) ∨
      (∃ o, chkF ps 0 = some o ∧ ∃ to tl m ep N i, r = .ok .next ∧ s' = ⟨(f, fr ([(⟨#[97, 100, 100, 114]⟩ : Str), (⟨#[111, 112, 101, 110, 115]⟩ : Str)] ++ tn2 (⟨#[112, 111, 115]⟩ : Str) (⟨#[99, 104]⟩ : Str) tl) ([.str x tk, .int o to] ++ tv2 tl) m ep) :: L, N, i, GL, G⟩) := by
  refine Cn.of_walk fun A R O hE => ?_
  refine chk_loop P O ps own gs 0 to none m ep N i F (fun h N i => hE _ _ (.inl ⟨h, N, i, rfl, rfl⟩)) fun o h to tl m ep N i => hE _ _ (.inr ⟨o, h, to, tl, m, ep, N, i, rfl, rfl⟩)
noncomputable def checkS (x : Str) : Bool := match chkF (pcs (stripS x).cps.toList 0) 0 with
  | none => false
  | some o => o == 0
theorem check_spec (P : Par K1) (x : Str) (tk : Tok) (hx : x.length ≤ 500) (ha : x.cps.all (· < 128) = true) (sh : Sh) : Cn (U1 P) 4 (.call (.ref 77) ⟨[.str x tk], []⟩) sh
    (fun r s' => ∃ N' i' G', r = .ok (.ret (.bool (checkS x))) ∧ s' = ⟨sh.L, N', i', sh.GL, G'⟩) := by
  obtain ⟨L, N, i, GL, G⟩ := sh
  have ha2 := strip_ascii ha
  refine Cn.of_fn (by kernel_rfl) fun A R O hE => ?_
  refine sg_call O [] [.go 17 [0, 0, 1, 1, 0, 0, 0, 1, 0]] [0] 1 [] 0 (fun z1 => strip_spec _ x tk hx ha z1.sh) (by omega) (fun pz => ?_) (fun pz => ?_)
  · kernel_rfl
  intro z1
  rintro r sh' ⟨tk2, N2, i2, G2, rfl, rfl⟩
  refine sg_call O [] [.go 24 [1, 1, 1, 1, 0, 1, 0]] [0] 1 [] 0 (fun z2 => gen_spec _ (stripS x) tk2 z2.sh) (by omega) (fun pz => ?_) (fun pz => ?_)
  · kernel_rfl
  intro z2
  rintro r sh' ⟨rfl, h1, t1, t2, t3, rfl⟩
  refine sg_call O [] [.go 4 [1, 1], .jn 0 0 [] 0 [], .go 5 [0, 1, 0, 1]] [0, 2, 1] 3 [0] 1 (fun z3 => chk_loopC _ (feeds_fresh _ (f := z2.N) (g := z2.G) (tk := tk2) (a := t2) (b := t3) (h1 := h1) (t1 := t1) (ep := 1) ha2) (z3.tk 1 1) (z3.m 1) (z3.e 1) z3.N z3.i (f := N) (L := L) (GL := GL) (G := z2.G + 1) (tk := tk2) (x := stripS x)) (by omega) (fun pz => ?_) (fun pz => ?_)
  · kernel_rfl
  intro z3
  rintro r sh' (⟨e, N', i', rfl, rfl⟩ | ⟨o, e, to, tl, m, ep, N', i', rfl, rfl⟩)
  · have e0 : checkS x = false := by unfold checkS; rw [e]
    refine sg_fit O.good [] [] [] 0 [] 0 _ (fun pz => ?_) (fun z => Mn_fin (c := z.c) (r := .ok (.ret (.bool false))) (sh := ⟨L, z.N, z.i, GL, z.G⟩) (hE _ _ ⟨z.N, z.i, z.G, by rw [e0], rfl⟩))
    kernel_rfl
  · have e0 : checkS x = (o == 0) := by unfold checkS; rw [e]
    rcases tl with _ | ⟨v3, v4⟩
    all_goals
      cases q : (o == 0) with
      | true =>
        refine sg_fit O.good [spIEq o 0 true q] [.go 5 [1], .jn 0 0 [] 0 [], .go 1 [4]] [] 1 [] 0 _ (fun pz => ?_) (fun z => Mn_fin (c := z.c) (r := .ok (.ret (.bool true))) (sh := ⟨L, z.N, z.i, GL, z.G⟩) (hE _ _ ⟨z.N, z.i, z.G, by rw [e0, q], rfl⟩))
        kernel_rfl
      | false =>
        refine sg_fit O.good [spIEq o 0 false q] [.go 5 [1], .jn 0 0 [] 0 [], .go 1 [4]] [] 1 [] 0 _ (fun pz => ?_) (fun z => Mn_fin (c := z.c) (r := .ok (.ret (.bool false))) (sh := ⟨L, z.N, z.i, GL, z.G⟩) (hE _ _ ⟨z.N, z.i, z.G, by rw [e0, q], rfl⟩))
        kernel_rfl

end Mine
end
-- part L1over
section
set_option maxRecDepth 100000
set_option maxHeartbeats 0
set_option Elab.async false
set_option linter.unusedVariables false
namespace Mine
open PySem PySem.Spec PySem.Calls PyProof.Rows PySem.W PySem.W.X

theorem clip_n (n k d : Nat) : clipN n d (some (Int.ofNat k)) = min k n := by
  unfold clipN
  have : ¬ ((k : Int) < 0) := by omega
  simp only [Int.ofNat_eq_natCast, this, if_false]
  omega
theorem slice_to (w : List Nat) (s : Nat) : pySlice (tx w) none (some (Int.ofNat s)) = tx (w.take s) := by
  unfold pySlice cutL
  rw [clip_n]
  show tx _ = _
  congr 1
  show (w.drop 0).take (min s w.length - 0) = w.take s
  rw [List.drop_zero, Nat.sub_zero]
  by_cases h : s ≤ w.length
  · rw [Nat.min_eq_left h]
  · rw [Nat.min_eq_right (by omega), List.take_of_length_le (Nat.le_refl _), List.take_of_length_le (by omega)]
theorem slice_fr (w : List Nat) (s : Nat) : pySlice (tx w) (some (Int.ofNat s)) none = tx (w.drop s) := by
  unfold pySlice cutL
  rw [clip_n]
  show tx _ = _
  congr 1
  show (w.drop (min s w.length)).take (w.length - min s w.length) = w.drop s
  by_cases h : s ≤ w.length
  · rw [Nat.min_eq_left h, List.take_of_length_le (by simp)]
  · rw [Nat.min_eq_right (by omega), List.drop_eq_nil_of_le (Nat.le_refl _), List.drop_eq_nil_of_le (by omega)]; simp
theorem slice_in (w : List Nat) (h : 2 ≤ w.length) : pySlice (tx w) (some 1) (some (-1)) = tx ((w.drop 1).take (w.length - 2)) := by
  unfold pySlice cutL
  show tx _ = _
  congr 1
  have a : clipN w.length 0 (some 1) = 1 := by unfold clipN; simp; omega
  have b : clipN w.length w.length (some (-1)) = w.length - 1 := by unfold clipN; simp; omega
  show (w.drop (clipN w.length 0 (some 1))).take (clipN w.length w.length (some (-1)) - clipN w.length 0 (some 1)) = _
  rw [a, b, Nat.sub_sub]
/-- the shortest front that is taken -/
noncomputable def szF (w : List Nat) : Nat → Nat → Option Nat
  | 0, s => if checkS (tx (w.take s)) = true then some s else none
  | n + 1, s => if checkS (tx (w.take s)) = true then some s else szF w n (s + 2)
noncomputable def inF : Nat → List Nat → List Nat → List (List Nat) → Option (List Nat × List (List Nat))
  | 0, w, row, q => if w = [] then some (row, q) else none
  | n + 1, w, row, q => if w = [] then some (row, q) else match szF w 10 2 with
    | none => none
    | some s => inF n (w.drop s) (row ++ [40]) (q ++ [w.take s])
noncomputable def ovF : Nat → List Nat → List (List Nat) → List Nat → Option (List Nat)
  | 0, _, _, _ => none
  | n + 1, w, q, row => if w.length < 2 ∨ 100 < w.length then none else match inF 10 ((w.drop 1).take (w.length - 2)) (row ++ [41]) q with
    | none => none
    | some (row', []) => some row'
    | some (row', w' :: q') => ovF n w' q' row'
theorem check_b (P : Par K1) (x : Str) (tk : Tok) (b : Bool) (hb : checkS x = b) (hx : x.length ≤ 500) (ha : x.cps.all (· < 128) = true) (sh : Sh) : Cn (U1 P) 4 (.call (.ref 77) ⟨[.str x tk], []⟩) sh
    (fun r s' => ∃ N' i' G', r = .ok (.ret (.bool b)) ∧ s' = ⟨sh.L, N', i', sh.GL, G'⟩) := hb ▸ check_spec P x tk hx ha sh
noncomputable def ovW (P : Par K1) (f : Nat) : Code := whC (stAt (bodyOf (kt P) 122) 2) (envAt (kt P) 122 f)
noncomputable def inW (P : Par K1) (f : Nat) : Code := whC (stAt (sbA (stAt (bodyOf (kt P) 122) 2)) 2) (envAt (kt P) 122 f)
noncomputable def szW (P : Par K1) (f : Nat) : Code := whC (stAt (sbA (stAt (sbA (stAt (bodyOf (kt P) 122) 2)) 2)) 1) (envAt (kt P) 122 f)
section
variable {A : Around} {R : Result → Shared → Prop}
theorem sz_loop (P : Par K1) (O : Lvl A 5) {f lx : Nat} {xn xr ww : Str} {tn tr tww ti : Tok} {w : List Nat} {L : Lg} {GL : Gg} (hw : w.length ≤ 100) (ha : ∀ c ∈ w, c < 128) {r : Nat} : ∀ (n s : Nat) (ts : Tok) (m : HT) (ep N i G : Nat), szF w n s = some r →
    (∀ ts m ep N i G, Ends ((U1 P).V A R) (.ok .next) ⟨(f, fr [(⟨#[110, 101, 115, 116]⟩ : Str), (⟨#[108, 101, 120, 101, 114]⟩ : Str), (⟨#[114, 111, 119]⟩ : Str), (⟨#[119, 111, 114, 100]⟩ : Str), (⟨#[105, 110, 110, 101, 114]⟩ : Str), (⟨#[115, 105, 122, 101]⟩ : Str)] [.str xn tn, .ref lx, .str xr tr, .str ww tww, .str (tx w) ti, .int (Int.ofNat r) ts] m ep) :: L, N, i, GL, G⟩) →
    Mn ((U1 P).V A R) (hd (szW P f) ⟨(f, fr [(⟨#[110, 101, 115, 116]⟩ : Str), (⟨#[108, 101, 120, 101, 114]⟩ : Str), (⟨#[114, 111, 119]⟩ : Str), (⟨#[119, 111, 114, 100]⟩ : Str), (⟨#[105, 110, 110, 101, 114]⟩ : Str), (⟨#[115, 105, 122, 101]⟩ : Str)] [.str xn tn, .ref lx, .str xr tr, .str ww tww, .str (tx w) ti, .int (Int.ofNat s) ts] m ep) :: L, N, i, GL, G⟩) := by
  have h1 : ∀ s, (tx (w.take s)).length ≤ 500 := fun s => by show (w.take s).length ≤ 500; rw [List.length_take]; omega
  have h2 : ∀ s, (tx (w.take s)).cps.all (· < 128) = true := fun s => by
    show (Array.all ⟨w.take s⟩ _) = true
    simp only [List.all_toArray, List.all_eq_true, decide_eq_true_eq]
    exact fun c hc => ha c (List.mem_of_mem_take hc)
  have h3 : (tx w).length ≤ 1000000 := by show w.length ≤ _; omega
  intro n
  induction n with
  | zero =>
    intro s ts m ep N i G hs hE
    by_cases q : checkS (tx (w.take s)) = true
    · have hs : some s = some r := by rw [← hs]; exact (if_pos q).symm
      have er : s = r := Option.some.inj hs
      subst er
      refine sg_call O [spS (tx w) none (some (Int.ofNat s)) (tx (w.take s)) h3 (slice_to w s)] [.go 11 [0, 1, 1, 4, 0, 0]] [1] 2 [] 0 (fun z1 => check_b _ (tx (w.take s)) (argT z1.t 0) true q (h1 s) (h2 s) ⟨(f, obAt z1 0) :: L, z1.N, z1.i, GL, G⟩) (by omega) (fun pz => ?_) (fun pz => ?_)
      · kernel_rfl
      intro z1
      rintro r sh' ⟨N', i', G', rfl, rfl⟩
      refine sg_fit O.good [] [.go 2 []] [0] 1 [] 0 _ (fun pz => ?_) (fun z => Mn_fin (c := z.c) (r := .ok .next) (sh := ⟨_, z.N, z.i, GL, G'⟩) (hE ts (z.m 0) (z.e 0) z.N z.i G'))
      kernel_rfl
    · have hs : (none : Option Nat) = some r := by rw [← hs]; exact (if_neg q).symm
      cases hs
  | succ n ih =>
    intro s ts m ep N i G hs hE
    by_cases q : checkS (tx (w.take s)) = true
    · have hs : some s = some r := by rw [← hs]; exact (if_pos q).symm
      have er : s = r := Option.some.inj hs
      subst er
      refine sg_call O [spS (tx w) none (some (Int.ofNat s)) (tx (w.take s)) h3 (slice_to w s)] [.go 11 [0, 1, 1, 4, 0, 0]] [1] 2 [] 0 (fun z1 => check_b _ (tx (w.take s)) (argT z1.t 0) true q (h1 s) (h2 s) ⟨(f, obAt z1 0) :: L, z1.N, z1.i, GL, G⟩) (by omega) (fun pz => ?_) (fun pz => ?_)
      · kernel_rfl
      intro z1
      rintro r sh' ⟨N', i', G', rfl, rfl⟩
      refine sg_fit O.good [] [.go 2 []] [0] 1 [] 0 _ (fun pz => ?_) (fun z => Mn_fin (c := z.c) (r := .ok .next) (sh := ⟨_, z.N, z.i, GL, G'⟩) (hE ts (z.m 0) (z.e 0) z.N z.i G'))
      kernel_rfl
    · have hs : szF w n (s + 2) = some r := by rw [← hs]; exact (if_neg q).symm
      have q' : checkS (tx (w.take s)) = false := by simpa using q
      refine sg_call O [spS (tx w) none (some (Int.ofNat s)) (tx (w.take s)) h3 (slice_to w s)] [.go 11 [0, 1, 1, 4, 0, 0]] [1] 2 [] 0 (fun z1 => check_b _ (tx (w.take s)) (argT z1.t 0) false q' (h1 s) (h2 s) ⟨(f, obAt z1 0) :: L, z1.N, z1.i, GL, G⟩) (by omega) (fun pz => ?_) (fun pz => ?_)
      · kernel_rfl
      intro z1
      rintro r sh' ⟨N', i', G', rfl, rfl⟩
      refine sg_fit O.good [spAddI (Int.ofNat s) 2 (Int.ofNat (s + 2)) rfl] [.go 16 [1, 4, 1, 1, 0]] [0] 1 [] 0 _ (fun pz => ?_) (fun z => ih (s + 2) (z.tk 0 5) (z.m 0) (z.e 0) z.N z.i G' hs hE)
      kernel_rfl
end
theorem sz_loopC (P : Par K1) {f lx : Nat} {xn xr ww : Str} {tn tr tww ti : Tok} {w : List Nat} {L : Lg} {GL : Gg} (hw : w.length ≤ 100) (ha : ∀ c ∈ w, c < 128) {r : Nat} (hs : szF w 10 2 = some r) (ts : Tok) (m : HT) (ep N i G : Nat) : Cn (U1 P) 5 (szW P f) ⟨(f, fr [(⟨#[110, 101, 115, 116]⟩ : Str), (⟨#[108, 101, 120, 101, 114]⟩ : Str), (⟨#[114, 111, 119]⟩ : Str), (⟨#[119, 111, 114, 100]⟩ : Str), (⟨#[105, 110, 110, 101, 114]⟩ : Str), (⟨#[115, 105, 122, 101]⟩ : Str)] [.str xn tn, .ref lx, .str xr tr, .str ww tww, .str (tx w) ti, .int 2 ts] m ep) :: L, N, i, GL, G⟩ fun q s' => ∃ ts m ep N i G, q = .ok .next ∧ s' = ⟨(f, fr [(⟨#[110, 101, 115, 116]⟩ : Str), (⟨#[108, 101, 120, 101, 114]⟩ : Str), (⟨#[114, 111, 119]⟩ : Str), (⟨#[119, 111, 114, 100]⟩ : Str), (⟨#[105, 110, 110, 101, 114]⟩ : Str), (⟨#[115, 105, 122, 101]⟩ : Str)] [.str xn tn, .ref lx, .str xr tr, .str ww tww, .str (tx w) ti, .int (Int.ofNat r) ts] m ep) :: L, N, i, GL, G⟩ := by
  refine Cn.of_walk fun A R O hE => ?_
  exact sz_loop P O hw ha 10 2 ts m ep N i G hs fun ts m ep N i G => hE _ _ ⟨ts, m, ep, N, i, G, rfl, rfl⟩
section
variable {A : Around} {R : Result → Shared → Prop}
theorem in_loop (P : Par K1) (O : Lvl A 6) (X : LX) {f : Nat} {xn ww : Str} {tn tww tw tl : Tok} {ln : Int} {sgs : List Value} {mx : HT} {ex n2 : Nat} {L : Lg} {GL : Gg} : ∀ (n : Nat) (w row : List Nat) (q : List (List Nat)) (qs : List (Str × Tok)) (pbs : List Value) (tr ti : Tok) (t6 : T1) (m : HT) (ep n1 N i G : Nat), w.length ≤ 100 → (∀ c ∈ w, c < 128) → row.length + n ≤ 400 → pbs = strValues qs → qs.map (·.1) = q.map tx → q.length + n ≤ 100 →
    (∀ row' q', inF n w row q = some (row', q') → ∀ (qs : List (Str × Tok)) (pbs : List Value) (tr ti : Tok) (t6 : T1) (m : HT) (ep n1 N i G : Nat), pbs = strValues qs → qs.map (·.1) = q'.map tx → Ends ((U1 P).V A R) (.ok .next) ⟨lexL P X ⟨ln, sgs, pbs, tl, tw, mx, ex, n1, n2⟩ ++ ((f, fr ([(⟨#[110, 101, 115, 116]⟩ : Str), (⟨#[108, 101, 120, 101, 114]⟩ : Str), (⟨#[114, 111, 119]⟩ : Str), (⟨#[119, 111, 114, 100]⟩ : Str), (⟨#[105, 110, 110, 101, 114]⟩ : Str)] ++ tn1 (⟨#[115, 105, 122, 101]⟩ : Str) t6) ([.str xn tn, .ref X.lx, .str (tx row') tr, .str ww tww, .str (tx []) ti] ++ tv1 t6) m ep) :: L), N, i, GL, G⟩) →
    inF n w row q ≠ none →
    Mn ((U1 P).V A R) (hd (inW P f) ⟨lexL P X ⟨ln, sgs, pbs, tl, tw, mx, ex, n1, n2⟩ ++ ((f, fr ([(⟨#[110, 101, 115, 116]⟩ : Str), (⟨#[108, 101, 120, 101, 114]⟩ : Str), (⟨#[114, 111, 119]⟩ : Str), (⟨#[119, 111, 114, 100]⟩ : Str), (⟨#[105, 110, 110, 101, 114]⟩ : Str)] ++ tn1 (⟨#[115, 105, 122, 101]⟩ : Str) t6) ([.str xn tn, .ref X.lx, .str (tx row) tr, .str ww tww, .str (tx w) ti] ++ tv1 t6) m ep) :: L), N, i, GL, G⟩) := by
  intro n
  induction n with
  | zero =>
    intro w row q qs pbs tr ti t6 m ep n1 N i G hw ha hr hp hq hl hE hne
    by_cases e : w = []
    · subst e
      have hE := hE row q (if_pos rfl) qs pbs tr ti t6 m ep n1
      rcases t6 with _ | v6
      all_goals
        refine sg_fit O.good [spNe (tx []) (⟨#[]⟩ : Str) false rfl] [.go 4 [10], .jn 0 0 [] 0 [], .go 1 [4]] [0, 1, 2, 3, 4, 5, 6, 7, 8, 9] 10 [] 0 _ (fun pz => ?_) (fun z => Mn_fin (c := z.c) (r := .ok .next) (sh := ⟨_, z.N, z.i, GL, G⟩) (hE z.N z.i G hp hq))
        kernel_rfl
    · exact absurd (if_neg e) hne
  | succ n ih =>
    intro w row q qs pbs tr ti t6 m ep n1 N i G hw ha hr hp hq hl hE hne
    by_cases e : w = []
    · subst e
      have hE := hE row q (if_pos rfl) qs pbs tr ti t6 m ep n1
      rcases t6 with _ | v6
      all_goals
        refine sg_fit O.good [spNe (tx []) (⟨#[]⟩ : Str) false rfl] [.go 4 [10], .jn 0 0 [] 0 [], .go 1 [4]] [0, 1, 2, 3, 4, 5, 6, 7, 8, 9] 10 [] 0 _ (fun pz => ?_) (fun z => Mn_fin (c := z.c) (r := .ok .next) (sh := ⟨_, z.N, z.i, GL, G⟩) (hE z.N z.i G hp hq))
        kernel_rfl
    · have e1 : inF (n + 1) w row q = (match szF w 10 2 with | none => none | some s => inF n (w.drop s) (row ++ [40]) (q ++ [w.take s])) := if_neg e
      rw [e1] at hE hne
      cases hs : szF w 10 2 with
      | none => rw [hs] at hne; exact absurd rfl hne
      | some s =>
        rw [hs] at hE hne
        dsimp only at hE hne
        have hw1 : (tx w).length ≤ 1000000 := by show w.length ≤ _; omega
        have q1 : ((tx w).cps.toList != (⟨#[]⟩ : Str).cps.toList) = true := by rw [bne_iff_ne]; exact e
        have hz : (tx (row ++ [40])).length ≤ sizeLine := tx_sz (by simp only [List.length_append, List.length_singleton]; omega)
        have hpl : pbs.length < 100000 := by
          have h1 : qs.length = q.length := by have := congrArg List.length hq; simpa using this
          rw [hp]; simp [strValues]; omega
        have hw' : (w.drop s).length ≤ 100 := by rw [List.length_drop]; omega
        have ha' : ∀ c ∈ w.drop s, c < 128 := fun c hc => ha c (List.mem_of_mem_drop hc)
        have hp' : ∀ t : Tok, pbs.concat (.str (tx (w.take s)) t) = strValues (qs ++ [(tx (w.take s), t)]) := fun t => by rw [hp]; exact strVals_snoc ..
        have hq' : ∀ t : Tok, (qs ++ [(tx (w.take s), t)]).map (·.1) = (q ++ [w.take s]).map tx := fun t => by rw [List.map_append, List.map_append, hq]; rfl
        have hr' : (row ++ [40]).length + n ≤ 400 := by simp only [List.length_append, List.length_singleton]; omega
        have hl' : (q ++ [w.take s]).length + n ≤ 100 := by simp only [List.length_append, List.length_singleton]; omega
        rcases t6 with _ | v6
        all_goals
          refine sg_call O [spNe (tx w) (⟨#[]⟩ : Str) true q1] [.go 4 [10], .jn 0 0 [] 0 [], .go 11 [4, 10, 10]] [9, 0, 1, 2, 3, 4, 5, 6, 7, 8] 10 [] 0 (fun z1 => sz_loopC _ hw ha hs (z1.tk 0 5) (z1.m 0) (z1.e 0) z1.N z1.i z1.G (f := f) (L := (X.lx, obAt z1 1) :: (X.ld, obAt z1 2) :: (X.pb, obAt z1 3) :: (X.st, obAt z1 4) :: (X.sd, obAt z1 5) :: (X.rd, obAt z1 6) :: (X.cd, obAt z1 7) :: (X.cell, obAt z1 8) :: (X.sg, obAt z1 9) :: L) (GL := GL) (xn := xn) (tn := tn) (lx := X.lx) (xr := tx row) (tr := tr) (ww := ww) (tww := tww) (ti := ti)) (by omega) (fun pz => ?_) (fun pz => ?_)
          · kernel_rfl
          intro z1
          rintro r sh' ⟨ts, m, ep, N', i', G', rfl, rfl⟩
          refine sg_call O [spCat (tx row) (⟨#[40]⟩ : Str) (tx (row ++ [40])) (tx_snoc row 40) hz, spS (tx w) none (some (Int.ofNat s)) (tx (w.take s)) hw1 (slice_to w s)] [.go 43 [1, 4, 1, 1, 1, 2, 0, 0, 0, 2, 0, 0, 0, 2, 0, 0, 0, 0, 2, 3, 1, 1, 5, 0, 0]] [2, 3, 4, 5, 6, 7, 8, 9, 10, 1] 11 [] 0 (fun z2 => pushtok_spec _ X (w := tx (w.take s)) (tv := argT z2.t 1) (sgs := sgs) (ln := ln) (pbs := pbs) (tl := tl) (tw := tw) (m := mx) (ep := ex) (n1 := n1) (n2 := n2) (L := (f, obAt z2 9) :: L) (N := z2.N) (i := z2.i) (GL := GL) (G := z2.G) hpl) (by omega) (fun pz => ?_) (fun pz => ?_)
          · kernel_rfl
          intro z2
          rintro r sh' ⟨n1, N', i', rfl, rfl⟩
          refine sg_fit O.good [spS (tx w) (some (Int.ofNat s)) none (tx (w.drop s)) hw1 (slice_fr w s)] [.go 17 [10, 10, 4, 0, 11, 11, 0]] [1, 2, 3, 4, 5, 6, 7, 8, 9, 10] 11 [] 0 _ (fun pz => ?_) (fun z => ih (w.drop s) (row ++ [40]) (q ++ [w.take s]) (qs ++ [(tx (w.take s), argT z2.t 1)]) (pbs.concat (.str (tx (w.take s)) (argT z2.t 1))) (z.tk 9 2) (z.tk 9 4) (some (z.vl 9 5)) (z.m 9) (z.e 9) n1 z.N z.i z.G hw' ha' hr' (hp' _) (hq' _) hl' hE hne)
          kernel_rfl
end
theorem inF_props : ∀ (n : Nat) (w row : List Nat) (q : List (List Nat)) (row' : List Nat) (q' : List (List Nat)), inF n w row q = some (row', q') → row'.length ≤ row.length + n ∧ q'.length ≤ q.length + n ∧ ((∀ c ∈ w, c < 128) → (∀ v ∈ q, ∀ c ∈ v, c < 128) → ∀ v ∈ q', ∀ c ∈ v, c < 128)
  | 0, w, row, q, row', q', h => by
    unfold inF at h
    split at h <;> cases h
    exact ⟨Nat.le_refl _, Nat.le_refl _, fun _ h => h⟩
  | n + 1, w, row, q, row', q', h => by
    unfold inF at h
    split at h
    · cases h
      exact ⟨by omega, by omega, fun _ h => h⟩
    · split at h
      · cases h
      · rename_i s _
        have := inF_props n _ _ _ _ _ h
        simp only [List.length_append, List.length_singleton] at this
        refine ⟨by omega, by omega, fun hw hq => this.2.2 (fun c hc => hw c (List.mem_of_mem_drop hc)) fun v hv => ?_⟩
        rcases List.mem_append.mp hv with h | h
        · exact hq v h
        · rw [List.mem_singleton.mp h]
          exact fun c hc => hw c (List.mem_of_mem_take hc)
theorem in_loopC (P : Par K1) (X : LX) {f : Nat} {xn ww : Str} {tn tww tw tl : Tok} {ln : Int} {sgs : List Value} {mx : HT} {ex n2 : Nat} {L : Lg} {GL : Gg} {w row : List Nat} {q : List (List Nat)} {qs : List (Str × Tok)} {pbs : List Value} (hw : w.length ≤ 100) (ha : ∀ c ∈ w, c < 128) (hr : row.length + 10 ≤ 400) (hp : pbs = strValues qs) (hq : qs.map (·.1) = q.map tx) (hl : q.length + 10 ≤ 100) {row' : List Nat} {q' : List (List Nat)} (hin : inF 10 w row q = some (row', q')) (tr ti : Tok) (t6 : T1) (m : HT) (ep n1 N i G : Nat) : Cn (U1 P) 6 (inW P f) ⟨lexL P X ⟨ln, sgs, pbs, tl, tw, mx, ex, n1, n2⟩ ++ ((f, fr ([(⟨#[110, 101, 115, 116]⟩ : Str), (⟨#[108, 101, 120, 101, 114]⟩ : Str), (⟨#[114, 111, 119]⟩ : Str), (⟨#[119, 111, 114, 100]⟩ : Str), (⟨#[105, 110, 110, 101, 114]⟩ : Str)] ++ tn1 (⟨#[115, 105, 122, 101]⟩ : Str) t6) ([.str xn tn, .ref X.lx, .str (tx row) tr, .str ww tww, .str (tx w) ti] ++ tv1 t6) m ep) :: L), N, i, GL, G⟩ fun r s' => ∃ (qs : List (Str × Tok)) (pbs : List Value) (tr ti : Tok) (t6 : T1) (m : HT) (ep n1 N i G : Nat), pbs = strValues qs ∧ qs.map (·.1) = q'.map tx ∧ r = .ok .next ∧ s' = ⟨lexL P X ⟨ln, sgs, pbs, tl, tw, mx, ex, n1, n2⟩ ++ ((f, fr ([(⟨#[110, 101, 115, 116]⟩ : Str), (⟨#[108, 101, 120, 101, 114]⟩ : Str), (⟨#[114, 111, 119]⟩ : Str), (⟨#[119, 111, 114, 100]⟩ : Str), (⟨#[105, 110, 110, 101, 114]⟩ : Str)] ++ tn1 (⟨#[115, 105, 122, 101]⟩ : Str) t6) ([.str xn tn, .ref X.lx, .str (tx row') tr, .str ww tww, .str (tx []) ti] ++ tv1 t6) m ep) :: L), N, i, GL, G⟩ := by
  refine Cn.of_walk fun A R O hE => ?_
  refine in_loop P O X 10 w row q qs pbs tr ti t6 m ep n1 N i G hw ha hr hp hq hl (fun row'' q'' e qs pbs tr ti t6 m ep n1 N i G h1 h2 => ?_) (by rw [hin]; exact fun h => nomatch h)
  have e' := hin.symm.trans e
  cases e'
  exact hE _ _ ⟨qs, pbs, tr, ti, t6, m, ep, n1, N, i, G, h1, h2, rfl, rfl⟩
theorem map_cons_tx {qs : List (Str × Tok)} {w : List Nat} {q : List (List Nat)} (h : qs.map (·.1) = (w :: q).map tx) : ∃ tv qs', qs = (tx w, tv) :: qs' ∧ qs'.map (·.1) = q.map tx := by
  match qs, h with
  | p :: qs, h =>
    rw [List.map_cons, List.map_cons] at h
    injection h with h1 h2
    exact ⟨p.2, qs, by rw [← h1], h2⟩
section
variable {A : Around} {R : Result → Shared → Prop}
theorem ov_loop (P : Par K1) (O : Lvl A 7) (X : LX) {f : Nat} {xn : Str} {tn tw tl : Tok} {ln : Int} {sgs : List Value} {cs : List Nat} {mx : HT} {ex n2 : Nat} {L : Lg} {GL : Gg} (hsg : Sg sgs cs) (hcs : cs.length ≤ 1500) (htk : (tokF cs).1 = []) {r : List Nat} : ∀ (n : Nat) (w : List Nat) (q : List (List Nat)) (row : List Nat) (qs : List (Str × Tok)) (pbs : List Value) (tr tww : Tok) (tl6 : Option (Value × T1)) (m : HT) (ep n1 N i G : Nat), ovF n w q row = some r → (∀ c ∈ w, c < 128) → (∀ v ∈ q, ∀ c ∈ v, c < 128) → row.length + 12 * n ≤ 300 → pbs = strValues qs → qs.map (·.1) = q.map tx → q.length + 10 * n ≤ 90 →
    (∀ (sgs' : List Value) (ln' : Int) (tr tww : Tok) (tl6 : Option (Value × T1)) (tl : Tok) (mx : HT) (ex n1 n2 : Nat) (m : HT) (ep N i G : Nat), Sg sgs' (tokF cs).2 → ln' + nls (tokF cs).2 = ln + nls cs → Ends ((U1 P).V A R) (.ok .next) ⟨lexL P X ⟨ln', sgs', [], tl, tw, mx, ex, n1, n2⟩ ++ ((f, fr ([(⟨#[110, 101, 115, 116]⟩ : Str), (⟨#[108, 101, 120, 101, 114]⟩ : Str), (⟨#[114, 111, 119]⟩ : Str), (⟨#[119, 111, 114, 100]⟩ : Str)] ++ tnS (⟨#[105, 110, 110, 101, 114]⟩ : Str) (⟨#[115, 105, 122, 101]⟩ : Str) tl6) ([.str xn tn, .ref X.lx, .str (tx r) tr, .str (tx []) tww] ++ tvS tl6) m ep) :: L), N, i, GL, G⟩) →
    Mn ((U1 P).V A R) (hd (ovW P f) ⟨lexL P X ⟨ln, sgs, pbs, tl, tw, mx, ex, n1, n2⟩ ++ ((f, fr ([(⟨#[110, 101, 115, 116]⟩ : Str), (⟨#[108, 101, 120, 101, 114]⟩ : Str), (⟨#[114, 111, 119]⟩ : Str), (⟨#[119, 111, 114, 100]⟩ : Str)] ++ tnS (⟨#[105, 110, 110, 101, 114]⟩ : Str) (⟨#[115, 105, 122, 101]⟩ : Str) tl6) ([.str xn tn, .ref X.lx, .str (tx row) tr, .str (tx w) tww] ++ tvS tl6) m ep) :: L), N, i, GL, G⟩) := by
  intro n
  induction n with
  | zero =>
    intro w q row qs pbs tr tww tl6 m ep n1 N i G hov
    cases hov
  | succ n ih =>
    intro w q row qs pbs tr tww tl6 m ep n1 N i G hov ha haq hr hp hq hl hE
    have hov : (if w.length < 2 ∨ 100 < w.length then none else match inF 10 ((w.drop 1).take (w.length - 2)) (row ++ [41]) q with | none => none | some (row', []) => some row' | some (row', w' :: q') => ovF n w' q' row') = some r := hov
    by_cases hw2 : w.length < 2 ∨ 100 < w.length
    · rw [if_pos hw2] at hov; cases hov
    rw [if_neg hw2] at hov
    have q1 : ((tx w).cps.toList != (⟨#[]⟩ : Str).cps.toList) = true := by rw [bne_iff_ne]; intro e; have e : w = [] := e; rw [e] at hw2; simp at hw2
    have hz : (tx (row ++ [41])).length ≤ sizeLine := tx_sz (by simp only [List.length_append, List.length_singleton]; omega)
    have hw1 : (tx w).length ≤ 1000000 := by show w.length ≤ _; omega
    have hwi : ((w.drop 1).take (w.length - 2)).length ≤ 100 := by rw [List.length_take, List.length_drop]; omega
    have hai : ∀ c ∈ (w.drop 1).take (w.length - 2), c < 128 := fun c hc => ha c (List.mem_of_mem_drop (List.mem_of_mem_take hc))
    have hri : (row ++ [41]).length + 10 ≤ 400 := by simp only [List.length_append, List.length_singleton]; omega
    cases hin : inF 10 ((w.drop 1).take (w.length - 2)) (row ++ [41]) q with
    | none => rw [hin] at hov; cases hov
    | some rq =>
      obtain ⟨row', q'⟩ := rq
      rw [hin] at hov
      obtain ⟨hb1, hb2, hb3⟩ := inF_props _ _ _ _ _ _ hin
      have hb3 := hb3 hai haq
      simp only [List.length_append, List.length_singleton] at hb1
      match q', hin, hov, hb2, hb3 with
      | [], hin, hov, hb2, hb3 =>
        obtain rfl : row' = r := Option.some.inj hov
        rcases tl6 with _ | ⟨v3, _ | v4⟩
        · have hh : 0 = 0 := rfl
          refine sg_call O [spNe (tx w) (⟨#[]⟩ : Str) true q1, spCat (tx row) (⟨#[41]⟩ : Str) (tx (row ++ [41])) (tx_snoc row 41) hz, spS (tx w) (some 1) (some (-1)) (tx ((w.drop 1).take (w.length - 2))) hw1 (slice_in w (by omega))] [.go 4 [10], .jn 0 0 [] 0 [], .go 36 [4, 10, 5, 10, 10, 10, 0, 0, 6, 0, 11, 11]] [1, 2, 3, 4, 5, 6, 7, 8, 9, 10] 11 [] 0 (fun z1 => in_loopC _ X (w := (w.drop 1).take (w.length - 2)) hwi hai (row := row ++ [41]) hri hp hq (by omega) hin (z1.tk 9 2) (z1.tk 9 4) none (z1.m 9) (z1.e 9) n1 z1.N z1.i z1.G (f := f) (xn := xn) (tn := tn) (ww := tx w) (tww := tww) (ln := ln) (sgs := sgs) (tl := tl) (tw := tw) (mx := mx) (ex := ex) (n2 := n2) (L := L) (GL := GL)) (by omega) (fun pz => ?_) (fun pz => ?_)
          · kernel_rfl
          intro z1
          rintro r sh' ⟨qs, pbs, tr, ti, t6, m, ep, n1, N', i', G', hp', hq', rfl, rfl⟩
          obtain rfl : qs = [] := List.map_eq_nil_iff.mp hq'
          obtain rfl : pbs = [] := hp'
          rcases t6 with _ | v6
          · refine sg_call O [] [.go 22 [10, 1, 0, 0, 0, 1, 0, 0, 0, 1, 0, 0, 0, 0, 1, 2, 0]] [0, 1, 2, 3, 4, 5, 6, 7, 8, 9] 10 [] 0 (fun z2 => gettok_spec _ X (cs := cs) (sgs := sgs) (ln := ln) (tl := tl) (tw := tw) (m := mx) (ep := ex) (n1 := n1) (n2 := n2) (L := (f, obAt z2 9) :: L) (N := z2.N) (i := z2.i) (GL := GL) (G := z2.G) hsg hcs) (by omega) (fun pz => ?_) (fun pz => ?_)
            · kernel_rfl
            intro z2
            rintro r sh' ⟨sgs', ln', t, tl, mx, ex, n2, N', i', hsg', hln, rfl, rfl⟩
            rw [htk]
            refine sg_fit O.good [spNe (tx []) (⟨#[]⟩ : Str) false rfl] [.go 13 [10, 10, 0, 10], .jn 0 0 [] 0 [], .go 1 [4]] [0, 1, 2, 3, 4, 5, 6, 7, 8, 9] 10 [] 0 _ (fun pz => ?_) (fun z => Mn_fin (c := z.c) (r := .ok .next) (sh := ⟨_, z.N, z.i, GL, z.G⟩) (hE sgs' ln' tr t (some (z.vl 9 4, none)) tl mx ex n1 n2 (z.m 9) (z.e 9) z.N z.i z.G hsg' hln))
            kernel_rfl
          · refine sg_call O [] [.go 22 [10, 1, 0, 0, 0, 1, 0, 0, 0, 1, 0, 0, 0, 0, 1, 2, 0]] [0, 1, 2, 3, 4, 5, 6, 7, 8, 9] 10 [] 0 (fun z2 => gettok_spec _ X (cs := cs) (sgs := sgs) (ln := ln) (tl := tl) (tw := tw) (m := mx) (ep := ex) (n1 := n1) (n2 := n2) (L := (f, obAt z2 9) :: L) (N := z2.N) (i := z2.i) (GL := GL) (G := z2.G) hsg hcs) (by omega) (fun pz => ?_) (fun pz => ?_)
            · kernel_rfl
            intro z2
            rintro r sh' ⟨sgs', ln', t, tl, mx, ex, n2, N', i', hsg', hln, rfl, rfl⟩
            rw [htk]
            refine sg_fit O.good [spNe (tx []) (⟨#[]⟩ : Str) false rfl] [.go 13 [10, 10, 0, 10], .jn 0 0 [] 0 [], .go 1 [4]] [0, 1, 2, 3, 4, 5, 6, 7, 8, 9] 10 [] 0 _ (fun pz => ?_) (fun z => Mn_fin (c := z.c) (r := .ok .next) (sh := ⟨_, z.N, z.i, GL, z.G⟩) (hE sgs' ln' tr t (some (z.vl 9 4, (some (z.vl 9 5)))) tl mx ex n1 n2 (z.m 9) (z.e 9) z.N z.i z.G hsg' hln))
            kernel_rfl
        · have hh : 0 = 0 := rfl
          refine sg_call O [spNe (tx w) (⟨#[]⟩ : Str) true q1, spCat (tx row) (⟨#[41]⟩ : Str) (tx (row ++ [41])) (tx_snoc row 41) hz, spS (tx w) (some 1) (some (-1)) (tx ((w.drop 1).take (w.length - 2))) hw1 (slice_in w (by omega))] [.go 4 [10], .jn 0 0 [] 0 [], .go 36 [4, 10, 5, 10, 10, 10, 0, 0, 6, 0, 11, 11]] [1, 2, 3, 4, 5, 6, 7, 8, 9, 10] 11 [] 0 (fun z1 => in_loopC _ X (w := (w.drop 1).take (w.length - 2)) hwi hai (row := row ++ [41]) hri hp hq (by omega) hin (z1.tk 9 2) (z1.tk 9 4) none (z1.m 9) (z1.e 9) n1 z1.N z1.i z1.G (f := f) (xn := xn) (tn := tn) (ww := tx w) (tww := tww) (ln := ln) (sgs := sgs) (tl := tl) (tw := tw) (mx := mx) (ex := ex) (n2 := n2) (L := L) (GL := GL)) (by omega) (fun pz => ?_) (fun pz => ?_)
          · kernel_rfl
          intro z1
          rintro r sh' ⟨qs, pbs, tr, ti, t6, m, ep, n1, N', i', G', hp', hq', rfl, rfl⟩
          obtain rfl : qs = [] := List.map_eq_nil_iff.mp hq'
          obtain rfl : pbs = [] := hp'
          rcases t6 with _ | v6
          · refine sg_call O [] [.go 22 [10, 1, 0, 0, 0, 1, 0, 0, 0, 1, 0, 0, 0, 0, 1, 2, 0]] [0, 1, 2, 3, 4, 5, 6, 7, 8, 9] 10 [] 0 (fun z2 => gettok_spec _ X (cs := cs) (sgs := sgs) (ln := ln) (tl := tl) (tw := tw) (m := mx) (ep := ex) (n1 := n1) (n2 := n2) (L := (f, obAt z2 9) :: L) (N := z2.N) (i := z2.i) (GL := GL) (G := z2.G) hsg hcs) (by omega) (fun pz => ?_) (fun pz => ?_)
            · kernel_rfl
            intro z2
            rintro r sh' ⟨sgs', ln', t, tl, mx, ex, n2, N', i', hsg', hln, rfl, rfl⟩
            rw [htk]
            refine sg_fit O.good [spNe (tx []) (⟨#[]⟩ : Str) false rfl] [.go 13 [10, 10, 0, 10], .jn 0 0 [] 0 [], .go 1 [4]] [0, 1, 2, 3, 4, 5, 6, 7, 8, 9] 10 [] 0 _ (fun pz => ?_) (fun z => Mn_fin (c := z.c) (r := .ok .next) (sh := ⟨_, z.N, z.i, GL, z.G⟩) (hE sgs' ln' tr t (some (z.vl 9 4, none)) tl mx ex n1 n2 (z.m 9) (z.e 9) z.N z.i z.G hsg' hln))
            kernel_rfl
          · refine sg_call O [] [.go 22 [10, 1, 0, 0, 0, 1, 0, 0, 0, 1, 0, 0, 0, 0, 1, 2, 0]] [0, 1, 2, 3, 4, 5, 6, 7, 8, 9] 10 [] 0 (fun z2 => gettok_spec _ X (cs := cs) (sgs := sgs) (ln := ln) (tl := tl) (tw := tw) (m := mx) (ep := ex) (n1 := n1) (n2 := n2) (L := (f, obAt z2 9) :: L) (N := z2.N) (i := z2.i) (GL := GL) (G := z2.G) hsg hcs) (by omega) (fun pz => ?_) (fun pz => ?_)
            · kernel_rfl
            intro z2
            rintro r sh' ⟨sgs', ln', t, tl, mx, ex, n2, N', i', hsg', hln, rfl, rfl⟩
            rw [htk]
            refine sg_fit O.good [spNe (tx []) (⟨#[]⟩ : Str) false rfl] [.go 13 [10, 10, 0, 10], .jn 0 0 [] 0 [], .go 1 [4]] [0, 1, 2, 3, 4, 5, 6, 7, 8, 9] 10 [] 0 _ (fun pz => ?_) (fun z => Mn_fin (c := z.c) (r := .ok .next) (sh := ⟨_, z.N, z.i, GL, z.G⟩) (hE sgs' ln' tr t (some (z.vl 9 4, (some (z.vl 9 5)))) tl mx ex n1 n2 (z.m 9) (z.e 9) z.N z.i z.G hsg' hln))
            kernel_rfl
        · have hh : 0 = 0 := rfl
          refine sg_call O [spNe (tx w) (⟨#[]⟩ : Str) true q1, spCat (tx row) (⟨#[41]⟩ : Str) (tx (row ++ [41])) (tx_snoc row 41) hz, spS (tx w) (some 1) (some (-1)) (tx ((w.drop 1).take (w.length - 2))) hw1 (slice_in w (by omega))] [.go 4 [10], .jn 0 0 [] 0 [], .go 36 [4, 10, 5, 10, 10, 10, 0, 0, 6, 0, 11, 11]] [1, 2, 3, 4, 5, 6, 7, 8, 9, 10] 11 [] 0 (fun z1 => in_loopC _ X (w := (w.drop 1).take (w.length - 2)) hwi hai (row := row ++ [41]) hri hp hq (by omega) hin (z1.tk 9 2) (z1.tk 9 4) (some v4) (z1.m 9) (z1.e 9) n1 z1.N z1.i z1.G (f := f) (xn := xn) (tn := tn) (ww := tx w) (tww := tww) (ln := ln) (sgs := sgs) (tl := tl) (tw := tw) (mx := mx) (ex := ex) (n2 := n2) (L := L) (GL := GL)) (by omega) (fun pz => ?_) (fun pz => ?_)
          · kernel_rfl
          intro z1
          rintro r sh' ⟨qs, pbs, tr, ti, t6, m, ep, n1, N', i', G', hp', hq', rfl, rfl⟩
          obtain rfl : qs = [] := List.map_eq_nil_iff.mp hq'
          obtain rfl : pbs = [] := hp'
          rcases t6 with _ | v6
          · refine sg_call O [] [.go 22 [10, 1, 0, 0, 0, 1, 0, 0, 0, 1, 0, 0, 0, 0, 1, 2, 0]] [0, 1, 2, 3, 4, 5, 6, 7, 8, 9] 10 [] 0 (fun z2 => gettok_spec _ X (cs := cs) (sgs := sgs) (ln := ln) (tl := tl) (tw := tw) (m := mx) (ep := ex) (n1 := n1) (n2 := n2) (L := (f, obAt z2 9) :: L) (N := z2.N) (i := z2.i) (GL := GL) (G := z2.G) hsg hcs) (by omega) (fun pz => ?_) (fun pz => ?_)
            · kernel_rfl
            intro z2
            rintro r sh' ⟨sgs', ln', t, tl, mx, ex, n2, N', i', hsg', hln, rfl, rfl⟩
            rw [htk]
            refine sg_fit O.good [spNe (tx []) (⟨#[]⟩ : Str) false rfl] [.go 13 [10, 10, 0, 10], .jn 0 0 [] 0 [], .go 1 [4]] [0, 1, 2, 3, 4, 5, 6, 7, 8, 9] 10 [] 0 _ (fun pz => ?_) (fun z => Mn_fin (c := z.c) (r := .ok .next) (sh := ⟨_, z.N, z.i, GL, z.G⟩) (hE sgs' ln' tr t (some (z.vl 9 4, none)) tl mx ex n1 n2 (z.m 9) (z.e 9) z.N z.i z.G hsg' hln))
            kernel_rfl
          · refine sg_call O [] [.go 22 [10, 1, 0, 0, 0, 1, 0, 0, 0, 1, 0, 0, 0, 0, 1, 2, 0]] [0, 1, 2, 3, 4, 5, 6, 7, 8, 9] 10 [] 0 (fun z2 => gettok_spec _ X (cs := cs) (sgs := sgs) (ln := ln) (tl := tl) (tw := tw) (m := mx) (ep := ex) (n1 := n1) (n2 := n2) (L := (f, obAt z2 9) :: L) (N := z2.N) (i := z2.i) (GL := GL) (G := z2.G) hsg hcs) (by omega) (fun pz => ?_) (fun pz => ?_)
            · kernel_rfl
            intro z2
            rintro r sh' ⟨sgs', ln', t, tl, mx, ex, n2, N', i', hsg', hln, rfl, rfl⟩
            rw [htk]
            refine sg_fit O.good [spNe (tx []) (⟨#[]⟩ : Str) false rfl] [.go 13 [10, 10, 0, 10], .jn 0 0 [] 0 [], .go 1 [4]] [0, 1, 2, 3, 4, 5, 6, 7, 8, 9] 10 [] 0 _ (fun pz => ?_) (fun z => Mn_fin (c := z.c) (r := .ok .next) (sh := ⟨_, z.N, z.i, GL, z.G⟩) (hE sgs' ln' tr t (some (z.vl 9 4, (some (z.vl 9 5)))) tl mx ex n1 n2 (z.m 9) (z.e 9) z.N z.i z.G hsg' hln))
            kernel_rfl
      | w' :: q', hin, hov, hb2, hb3 =>
        have hov : ovF n w' q' row' = some r := hov
        rcases tl6 with _ | ⟨v3, _ | v4⟩
        · have hh : 0 = 0 := rfl
          refine sg_call O [spNe (tx w) (⟨#[]⟩ : Str) true q1, spCat (tx row) (⟨#[41]⟩ : Str) (tx (row ++ [41])) (tx_snoc row 41) hz, spS (tx w) (some 1) (some (-1)) (tx ((w.drop 1).take (w.length - 2))) hw1 (slice_in w (by omega))] [.go 4 [10], .jn 0 0 [] 0 [], .go 36 [4, 10, 5, 10, 10, 10, 0, 0, 6, 0, 11, 11]] [1, 2, 3, 4, 5, 6, 7, 8, 9, 10] 11 [] 0 (fun z1 => in_loopC _ X (w := (w.drop 1).take (w.length - 2)) hwi hai (row := row ++ [41]) hri hp hq (by omega) hin (z1.tk 9 2) (z1.tk 9 4) none (z1.m 9) (z1.e 9) n1 z1.N z1.i z1.G (f := f) (xn := xn) (tn := tn) (ww := tx w) (tww := tww) (ln := ln) (sgs := sgs) (tl := tl) (tw := tw) (mx := mx) (ex := ex) (n2 := n2) (L := L) (GL := GL)) (by omega) (fun pz => ?_) (fun pz => ?_)
          · kernel_rfl
          intro z1
          rintro r sh' ⟨qs, pbs, tr, ti, t6, m, ep, n1, N', i', G', hp', hq', rfl, rfl⟩
          obtain ⟨tv, qs', rfl, hqq⟩ := map_cons_tx hq'
          obtain rfl : pbs = .str (tx w') tv :: strValues qs' := hp'
          have hql : qs'.length ≤ 800 := by have := congrArg List.length hqq; simp at this hb2; omega
          rcases t6 with _ | v6
          · refine sg_call O [] [.go 22 [10, 1, 0, 0, 0, 1, 0, 0, 0, 1, 0, 0, 0, 0, 1, 2, 0]] [0, 1, 2, 3, 4, 5, 6, 7, 8, 9] 10 [] 0 (fun z2 => gettok_pop _ X (w := tx w') (tv := tv) (rest := strValues qs') (sgs := sgs) (ln := ln) (tl := tl) (tw := tw) (m := mx) (ep := ex) (n1 := n1) (n2 := n2) (L := (f, obAt z2 9) :: L) (N := z2.N) (i := z2.i) (GL := GL) (G := z2.G) (by simp only [strValues, List.length_map]; omega)) (by omega) (fun pz => ?_) (fun pz => ?_)
            · kernel_rfl
            intro z2
            rintro r sh' ⟨n1, N', i', rfl, rfl⟩
            refine sg_fit O.good [] [.go 9 [10, 10, 0]] [0, 1, 2, 3, 4, 5, 6, 7, 8, 9] 10 [] 0 _ (fun pz => ?_) (fun z => ih w' q' row' qs' (strValues qs') tr tv (some (z.vl 9 4, none)) (z.m 9) (z.e 9) n1 z.N z.i z.G hov (hb3 w' (.head _)) (fun v hv => hb3 v (.tail _ hv)) (by omega) rfl hqq (by simp at hb2; omega) hE)
            kernel_rfl
          · refine sg_call O [] [.go 22 [10, 1, 0, 0, 0, 1, 0, 0, 0, 1, 0, 0, 0, 0, 1, 2, 0]] [0, 1, 2, 3, 4, 5, 6, 7, 8, 9] 10 [] 0 (fun z2 => gettok_pop _ X (w := tx w') (tv := tv) (rest := strValues qs') (sgs := sgs) (ln := ln) (tl := tl) (tw := tw) (m := mx) (ep := ex) (n1 := n1) (n2 := n2) (L := (f, obAt z2 9) :: L) (N := z2.N) (i := z2.i) (GL := GL) (G := z2.G) (by simp only [strValues, List.length_map]; omega)) (by omega) (fun pz => ?_) (fun pz => ?_)
            · kernel_rfl
            intro z2
            rintro r sh' ⟨n1, N', i', rfl, rfl⟩
            refine sg_fit O.good [] [.go 9 [10, 10, 0]] [0, 1, 2, 3, 4, 5, 6, 7, 8, 9] 10 [] 0 _ (fun pz => ?_) (fun z => ih w' q' row' qs' (strValues qs') tr tv (some (z.vl 9 4, (some (z.vl 9 5)))) (z.m 9) (z.e 9) n1 z.N z.i z.G hov (hb3 w' (.head _)) (fun v hv => hb3 v (.tail _ hv)) (by omega) rfl hqq (by simp at hb2; omega) hE)
            kernel_rfl
        · have hh : 0 = 0 := rfl
          refine sg_call O [spNe (tx w) (⟨#[]⟩ : Str) true q1, spCat (tx row) (⟨#[41]⟩ : Str) (tx (row ++ [41])) (tx_snoc row 41) hz, spS (tx w) (some 1) (some (-1)) (tx ((w.drop 1).take (w.length - 2))) hw1 (slice_in w (by omega))] [.go 4 [10], .jn 0 0 [] 0 [], .go 36 [4, 10, 5, 10, 10, 10, 0, 0, 6, 0, 11, 11]] [1, 2, 3, 4, 5, 6, 7, 8, 9, 10] 11 [] 0 (fun z1 => in_loopC _ X (w := (w.drop 1).take (w.length - 2)) hwi hai (row := row ++ [41]) hri hp hq (by omega) hin (z1.tk 9 2) (z1.tk 9 4) none (z1.m 9) (z1.e 9) n1 z1.N z1.i z1.G (f := f) (xn := xn) (tn := tn) (ww := tx w) (tww := tww) (ln := ln) (sgs := sgs) (tl := tl) (tw := tw) (mx := mx) (ex := ex) (n2 := n2) (L := L) (GL := GL)) (by omega) (fun pz => ?_) (fun pz => ?_)
          · kernel_rfl
          intro z1
          rintro r sh' ⟨qs, pbs, tr, ti, t6, m, ep, n1, N', i', G', hp', hq', rfl, rfl⟩
          obtain ⟨tv, qs', rfl, hqq⟩ := map_cons_tx hq'
          obtain rfl : pbs = .str (tx w') tv :: strValues qs' := hp'
          have hql : qs'.length ≤ 800 := by have := congrArg List.length hqq; simp at this hb2; omega
          rcases t6 with _ | v6
          · refine sg_call O [] [.go 22 [10, 1, 0, 0, 0, 1, 0, 0, 0, 1, 0, 0, 0, 0, 1, 2, 0]] [0, 1, 2, 3, 4, 5, 6, 7, 8, 9] 10 [] 0 (fun z2 => gettok_pop _ X (w := tx w') (tv := tv) (rest := strValues qs') (sgs := sgs) (ln := ln) (tl := tl) (tw := tw) (m := mx) (ep := ex) (n1 := n1) (n2 := n2) (L := (f, obAt z2 9) :: L) (N := z2.N) (i := z2.i) (GL := GL) (G := z2.G) (by simp only [strValues, List.length_map]; omega)) (by omega) (fun pz => ?_) (fun pz => ?_)
            · kernel_rfl
            intro z2
            rintro r sh' ⟨n1, N', i', rfl, rfl⟩
            refine sg_fit O.good [] [.go 9 [10, 10, 0]] [0, 1, 2, 3, 4, 5, 6, 7, 8, 9] 10 [] 0 _ (fun pz => ?_) (fun z => ih w' q' row' qs' (strValues qs') tr tv (some (z.vl 9 4, none)) (z.m 9) (z.e 9) n1 z.N z.i z.G hov (hb3 w' (.head _)) (fun v hv => hb3 v (.tail _ hv)) (by omega) rfl hqq (by simp at hb2; omega) hE)
            kernel_rfl
          · refine sg_call O [] [.go 22 [10, 1, 0, 0, 0, 1, 0, 0, 0, 1, 0, 0, 0, 0, 1, 2, 0]] [0, 1, 2, 3, 4, 5, 6, 7, 8, 9] 10 [] 0 (fun z2 => gettok_pop _ X (w := tx w') (tv := tv) (rest := strValues qs') (sgs := sgs) (ln := ln) (tl := tl) (tw := tw) (m := mx) (ep := ex) (n1 := n1) (n2 := n2) (L := (f, obAt z2 9) :: L) (N := z2.N) (i := z2.i) (GL := GL) (G := z2.G) (by simp only [strValues, List.length_map]; omega)) (by omega) (fun pz => ?_) (fun pz => ?_)
            · kernel_rfl
            intro z2
            rintro r sh' ⟨n1, N', i', rfl, rfl⟩
            refine sg_fit O.good [] [.go 9 [10, 10, 0]] [0, 1, 2, 3, 4, 5, 6, 7, 8, 9] 10 [] 0 _ (fun pz => ?_) (fun z => ih w' q' row' qs' (strValues qs') tr tv (some (z.vl 9 4, (some (z.vl 9 5)))) (z.m 9) (z.e 9) n1 z.N z.i z.G hov (hb3 w' (.head _)) (fun v hv => hb3 v (.tail _ hv)) (by omega) rfl hqq (by simp at hb2; omega) hE)
            kernel_rfl
        · have hh : 0 = 0 := rfl
          refine sg_call O [spNe (tx w) (⟨#[]⟩ : Str) true q1, spCat (tx row) (⟨#[41]⟩ : Str) (tx (row ++ [41])) (tx_snoc row 41) hz, spS (tx w) (some 1) (some (-1)) (tx ((w.drop 1).take (w.length - 2))) hw1 (slice_in w (by omega))] [.go 4 [10], .jn 0 0 [] 0 [], .go 36 [4, 10, 5, 10, 10, 10, 0, 0, 6, 0, 11, 11]] [1, 2, 3, 4, 5, 6, 7, 8, 9, 10] 11 [] 0 (fun z1 => in_loopC _ X (w := (w.drop 1).take (w.length - 2)) hwi hai (row := row ++ [41]) hri hp hq (by omega) hin (z1.tk 9 2) (z1.tk 9 4) (some v4) (z1.m 9) (z1.e 9) n1 z1.N z1.i z1.G (f := f) (xn := xn) (tn := tn) (ww := tx w) (tww := tww) (ln := ln) (sgs := sgs) (tl := tl) (tw := tw) (mx := mx) (ex := ex) (n2 := n2) (L := L) (GL := GL)) (by omega) (fun pz => ?_) (fun pz => ?_)
          · kernel_rfl
          intro z1
          rintro r sh' ⟨qs, pbs, tr, ti, t6, m, ep, n1, N', i', G', hp', hq', rfl, rfl⟩
          obtain ⟨tv, qs', rfl, hqq⟩ := map_cons_tx hq'
          obtain rfl : pbs = .str (tx w') tv :: strValues qs' := hp'
          have hql : qs'.length ≤ 800 := by have := congrArg List.length hqq; simp at this hb2; omega
          rcases t6 with _ | v6
          · refine sg_call O [] [.go 22 [10, 1, 0, 0, 0, 1, 0, 0, 0, 1, 0, 0, 0, 0, 1, 2, 0]] [0, 1, 2, 3, 4, 5, 6, 7, 8, 9] 10 [] 0 (fun z2 => gettok_pop _ X (w := tx w') (tv := tv) (rest := strValues qs') (sgs := sgs) (ln := ln) (tl := tl) (tw := tw) (m := mx) (ep := ex) (n1 := n1) (n2 := n2) (L := (f, obAt z2 9) :: L) (N := z2.N) (i := z2.i) (GL := GL) (G := z2.G) (by simp only [strValues, List.length_map]; omega)) (by omega) (fun pz => ?_) (fun pz => ?_)
            · kernel_rfl
            intro z2
            rintro r sh' ⟨n1, N', i', rfl, rfl⟩
            refine sg_fit O.good [] [.go 9 [10, 10, 0]] [0, 1, 2, 3, 4, 5, 6, 7, 8, 9] 10 [] 0 _ (fun pz => ?_) (fun z => ih w' q' row' qs' (strValues qs') tr tv (some (z.vl 9 4, none)) (z.m 9) (z.e 9) n1 z.N z.i z.G hov (hb3 w' (.head _)) (fun v hv => hb3 v (.tail _ hv)) (by omega) rfl hqq (by simp at hb2; omega) hE)
            kernel_rfl
          · refine sg_call O [] [.go 22 [10, 1, 0, 0, 0, 1, 0, 0, 0, 1, 0, 0, 0, 0, 1, 2, 0]] [0, 1, 2, 3, 4, 5, 6, 7, 8, 9] 10 [] 0 (fun z2 => gettok_pop _ X (w := tx w') (tv := tv) (rest := strValues qs') (sgs := sgs) (ln := ln) (tl := tl) (tw := tw) (m := mx) (ep := ex) (n1 := n1) (n2 := n2) (L := (f, obAt z2 9) :: L) (N := z2.N) (i := z2.i) (GL := GL) (G := z2.G) (by simp only [strValues, List.length_map]; omega)) (by omega) (fun pz => ?_) (fun pz => ?_)
            · kernel_rfl
            intro z2
            rintro r sh' ⟨n1, N', i', rfl, rfl⟩
            refine sg_fit O.good [] [.go 9 [10, 10, 0]] [0, 1, 2, 3, 4, 5, 6, 7, 8, 9] 10 [] 0 _ (fun pz => ?_) (fun z => ih w' q' row' qs' (strValues qs') tr tv (some (z.vl 9 4, (some (z.vl 9 5)))) (z.m 9) (z.e 9) n1 z.N z.i z.G hov (hb3 w' (.head _)) (fun v hv => hb3 v (.tail _ hv)) (by omega) rfl hqq (by simp at hb2; omega) hE)
            kernel_rfl
end
theorem ov_loopC (P : Par K1) (X : LX) {f : Nat} {xn : Str} {tn tw tl : Tok} {ln : Int} {sgs : List Value} {cs : List Nat} {mx : HT} {ex n1 n2 : Nat} {L : Lg} {GL : Gg} (hsg : Sg sgs cs) (hcs : cs.length ≤ 1500) (htk : (tokF cs).1 = []) {r w : List Nat} (hov : ovF 9 w [] [] = some r) (hw : ∀ c ∈ w, c < 128) (tr tww : Tok) (m : HT) (ep N i G : Nat) : Cn (U1 P) 7 (ovW P f) ⟨lexL P X ⟨ln, sgs, [], tl, tw, mx, ex, n1, n2⟩ ++ ((f, fr ([(⟨#[110, 101, 115, 116]⟩ : Str), (⟨#[108, 101, 120, 101, 114]⟩ : Str), (⟨#[114, 111, 119]⟩ : Str), (⟨#[119, 111, 114, 100]⟩ : Str)] ++ tnS (⟨#[105, 110, 110, 101, 114]⟩ : Str) (⟨#[115, 105, 122, 101]⟩ : Str) none) ([.str xn tn, .ref X.lx, .str (tx []) tr, .str (tx w) tww] ++ tvS none) m ep) :: L), N, i, GL, G⟩ fun q s' =>
    ∃ (sgs' : List Value) (ln' : Int) (tr tww : Tok) (tl6 : Option (Value × T1)) (tl : Tok) (mx : HT) (ex n1 n2 : Nat) (m : HT) (ep N i G : Nat), Sg sgs' (tokF cs).2 ∧ ln' + nls (tokF cs).2 = ln + nls cs ∧ q = .ok .next ∧ s' = ⟨lexL P X ⟨ln', sgs', [], tl, tw, mx, ex, n1, n2⟩ ++ ((f, fr ([(⟨#[110, 101, 115, 116]⟩ : Str), (⟨#[108, 101, 120, 101, 114]⟩ : Str), (⟨#[114, 111, 119]⟩ : Str), (⟨#[119, 111, 114, 100]⟩ : Str)] ++ tnS (⟨#[105, 110, 110, 101, 114]⟩ : Str) (⟨#[115, 105, 122, 101]⟩ : Str) tl6) ([.str xn tn, .ref X.lx, .str (tx r) tr, .str (tx []) tww] ++ tvS tl6) m ep) :: L), N, i, GL, G⟩ := by
  refine Cn.of_walk fun A R O hE => ?_
  exact ov_loop P O X hsg hcs htk 9 w [] [] [] [] tr tww none m ep n1 N i G hov hw (fun v hv => nomatch hv) (by decide) rfl rfl (by decide) fun sgs' ln' tr tww tl6 tl mx ex n1 n2 m ep N i G h1 h2 => hE _ _ ⟨sgs', ln', tr, tww, tl6, tl, mx, ex, n1, n2, m, ep, N, i, G, h1, h2, rfl, rfl⟩
theorem ovF_len : ∀ (n : Nat) (w : List Nat) (q : List (List Nat)) (row r : List Nat), ovF n w q row = some r → r.length ≤ row.length + 11 * n
  | 0, _, _, _, _, h => by cases h
  | n + 1, w, q, row, r, h => by
    unfold ovF at h
    split at h
    · cases h
    · split at h
      · cases h
      · rename_i row' e
        have := (inF_props _ _ _ _ _ _ e).1
        cases h
        simp only [List.length_append, List.length_singleton] at this
        omega
      · rename_i row' w' q' e
        have h1 := (inF_props _ _ _ _ _ _ e).1
        have h2 := ovF_len n _ _ _ _ h
        simp only [List.length_append, List.length_singleton] at h1
        omega
theorem over_spec (P : Par K1) (X : LX) {nest : List Nat} {tn tw tl : Tok} {ln : Int} {sgs : List Value} {cs : List Nat} {mx : HT} {ex n1 n2 : Nat} {L : Lg} {GL : Gg} (hsg : Sg sgs cs) (hcs : cs.length ≤ 1500) (htk : (tokF cs).1 = []) {r : List Nat} (hn : nest.length ≤ 90) (hw : ∀ c ∈ nest, c < 128) (hov : ovF 9 ([40] ++ nest ++ [41]) [] [] = some r) (N i G : Nat) : Cn (U1 P) 8 (.call (.ref 122) ⟨[.str (tx nest) tn, .ref X.lx], []⟩) ⟨lexL P X ⟨ln, sgs, [], tl, tw, mx, ex, n1, n2⟩ ++ L, N, i, GL, G⟩ fun q s' =>
    ∃ (sgs' : List Value) (ln' : Int) (t tl : Tok) (mx : HT) (ex n1 n2 N i G : Nat), Sg sgs' (tokF cs).2 ∧ ln' + nls (tokF cs).2 = ln + nls cs ∧ q = .ok (.ret (.str (tx (r.drop 1)) t)) ∧ s' = ⟨lexL P X ⟨ln', sgs', [], tl, tw, mx, ex, n1, n2⟩ ++ L, N, i, GL, G⟩ := by
  have h1 : ((tx ([40] ++ nest)).length) ≤ sizeLine := tx_sz (by simp only [List.length_append, List.length_singleton]; omega)
  have h2 : ((tx ([40] ++ nest ++ [41])).length) ≤ sizeLine := tx_sz (by simp only [List.length_append, List.length_singleton]; omega)
  have hc : ∀ c ∈ [40] ++ nest ++ [41], c < 128 := by
    intro c hc
    simp only [List.mem_append, List.mem_singleton] at hc
    rcases hc with (rfl | h) | rfl
    · decide
    · exact hw c h
    · decide
  have h3 : (tx r).length ≤ 1000000 := by have := ovF_len _ _ _ _ _ hov; show r.length ≤ _; simp at this; omega
  refine Cn.of_fn (by kernel_rfl) fun A R O hE => ?_
  refine sg_call O [spCat (⟨#[40]⟩ : Str) (tx nest) (tx ([40] ++ nest)) (tx_app [40] nest) h1, spCat (tx ([40] ++ nest)) (⟨#[41]⟩ : Str) (tx ([40] ++ nest ++ [41])) (tx_snoc ..) h2] [.go 42 [0, 0, 1, 1, 1, 1, 0, 0, 1, 1, 1, 4, 5, 1, 1]] [1, 2, 3, 4, 5, 6, 7, 8, 9, 0] 10 [] 0 (fun z1 => ov_loopC _ X hsg hcs htk hov hc (z1.tk 9 2) (z1.tk 9 3) (z1.m 9) (z1.e 9) z1.N z1.i z1.G (f := N) (xn := tx nest) (tn := tn) (ln := ln) (tl := tl) (tw := tw) (mx := mx) (ex := ex) (n1 := n1) (n2 := n2) (L := L) (GL := GL)) (by omega) (fun pz => ?_) (fun pz => ?_)
  · kernel_rfl
  intro z1
  rintro r sh' ⟨sgs', ln', tr, tww, tl6, tl, mx, ex, n1, n2, m, ep, N', i', G', hsg', hln, rfl, rfl⟩
  rcases tl6 with _ | ⟨v3, _ | v4⟩
  all_goals
    refine sg_fit O.good [spS (tx r) (some (Int.ofNat 1)) none (tx (r.drop 1)) h3 (slice_fr r 1)] [.go 7 [10, 4, 0]] [1, 2, 3, 4, 5, 6, 7, 8, 9] 11 [] 0 _ (fun pz => ?_) (fun z => Mn_fin (c := z.c) (r := .ok (.ret (.str (tx (r.drop 1)) z.rt))) (sh := ⟨lexL _ X ⟨ln', sgs', [], tl, tw, mx, ex, n1, n2⟩ ++ L, z.N, z.i, GL, z.G⟩) (hE _ _ ⟨sgs', ln', z.rt, tl, mx, ex, n1, n2, z.N, z.i, z.G, hsg', hln, rfl, rfl⟩))
    kernel_rfl

end Mine
end
-- part L1lawa
section
set_option maxRecDepth 100000
set_option maxHeartbeats 0
set_option Elab.async false
set_option linter.unusedVariables false
namespace Mine
open PySem PySem.Spec PySem.Calls PyProof.Rows PySem.W PySem.W.X

noncomputable def lawTr (P : Par K1) (f k : Nat) : Sem Fin := skipP (denZ (.func ((bodyOf (kt P) 155).drop k) (envAt (kt P) 155 f)))
/-- the law's state at a statement -/
noncomputable def lawS (P : Par K1) (f k : Nat) (s : Sh) : St := at_ (.func (bodyOf (kt P) 155) (envAt (kt P) 155 f)) (lawTr P f k) s
theorem slice_up (items : List Value) (b : Nat) : (slicePick ⟨items⟩ none (some (Int.ofNat b)) none).toList = items.take b := by
  have := slicePick_upto' ⟨items⟩ b
  rw [show (some (Int.ofNat b)) = some ((b : Nat) : Int) from rfl, this]
theorem ivs_sub (ys : List Value) (l : List (Int × Tok)) (h : ∀ v ∈ ys, v ∈ ivs l) : ∃ l2, ys = ivs l2 := by
  induction ys with
  | nil => exact ⟨[], rfl⟩
  | cons v ys ih =>
    obtain ⟨l2, h2⟩ := ih fun w hw => h w (.tail _ hw)
    have := h v (.head _)
    unfold ivs at this
    obtain ⟨p, _, hp⟩ := List.mem_map.mp this
    exact ⟨p :: l2, by rw [← hp, h2]; rfl⟩
theorem pick_sub (items : List Value) (lo hi st : Option Int) : ∀ v ∈ (slicePick ⟨items⟩ lo hi st).toList, v ∈ items := by
  intro v hv
  unfold slicePick at hv
  simp only [List.mem_filterMap] at hv
  obtain ⟨i, _, h⟩ := hv
  have : items[i]? = some v := by simpa using h
  exact List.mem_of_getElem? this
theorem row_c (P : Par K1) (bits p : Nat) (hp : p = 5 ∨ p = 6) {ne : List Nat} (e : rowF p bits (2 * p) 0 0 [] = ne) (tb tp : Tok) (L : Lg) (N i : Nat) (GL : Gg) (G : Nat) : Cn (U1 P) 3 (.call (.ref 94) ⟨[.int (Int.ofNat bits) tb, .int (Int.ofNat p) tp], []⟩) ⟨L, N, i, GL, G⟩ fun r s' => ∃ t N' i', r = .ok (.ret (.str (tx ne) t)) ∧ s' = ⟨L, N', i', GL, G⟩ := e ▸ row_spec P bits p hp tb tp L N i GL G
theorem dressed_c (P : Par K1) (ne tt t0 : List Nat) (c0 q cd : Nat) (hq : q = 10 ∨ q = 12) (hx : ne.length = q) (e : dreF ne 0 cd [] = (t0, c0)) (hc : c0 < 2) (e2 : t0 ++ (if c0 = 0 then [] else [92]) = tt) (t1 t2 : Tok) (L : Lg) (N i : Nat) (GL : Gg) (G : Nat) : Cn (U1 P) 3 (.call (.ref 101) ⟨[.str (tx ne) t1, .int (Int.ofNat cd) t2], []⟩) ⟨L, N, i, GL, G⟩ fun r s' => ∃ t N i, r = .ok (.ret (.str (tx tt) t)) ∧ s' = ⟨L, N, i, GL, G⟩ := by
  have e' : dreF (tx ne).cps.toList 0 cd [] = (t0, c0) := e
  have := dressed_spec P (tx ne) q cd hq hx (by rw [e']; exact hc) t1 t2 L N i GL G
  rw [e'] at this
  rw [← e2]; exact this
theorem written_c (P : Par K1) (l wr : List Nat) (hne : l ≠ []) (hl : l.length ≤ 120) (cd : Nat) (hc : cd < 12) (e : wrF l cd = wr) (t1 t2 : Tok) (L : Lg) (N i : Nat) (GL : Gg) (G : Nat) : Cn (U1 P) 3 (.call (.ref 108) ⟨[.str (tx l) t1, .int (Int.ofNat cd) t2], []⟩) ⟨L, N, i, GL, G⟩ fun r s' => ∃ t N i, r = .ok (.ret (.str (tx wr) t)) ∧ s' = ⟨L, N, i, GL, G⟩ := e ▸ written_spec P l hne hl cd hc t1 t2 L N i GL G
theorem lexer_c (P : Par K1) (l : List Nat) (tk : Tok) (hx : l.length ≤ 1000) (ha : ∀ c ∈ l, c < 128) (L : Lg) (N i : Nat) (GL : Gg) (G : Nat) : Cn (U1 P) 3 (.call (.ref 115) ⟨[.str (tx l) tk], []⟩) ⟨(110, tableObj #[]) :: L, N, i, GL, G⟩
    (fun r s' => ∃ X n1 n2 sgs tl tw m ep N' i', Sg sgs l ∧ r = .ok (.ret (.ref X.lx)) ∧ s' = ⟨lexL P X ⟨1, sgs, [], tl, tw, m, ep, n1, n2⟩ ++ L, N', i', GL, G⟩) := by
  refine (lexer_spec P (tx l) tk hx (by show (Array.all ⟨l⟩ _) = true; simp only [List.all_toArray, List.all_eq_true, decide_eq_true_eq]; exact ha) L N i GL G).weaken ?_
  rintro r s' ⟨X, ⟨ln, sgs, pbs, tl, tw, m, ep, n1, n2⟩, N', i', cs, hr, h1, h2, h3, h4, hs⟩
  dsimp only at h1 h2 h3
  subst h1 h2
  exact ⟨X, n1, n2, sgs, tl, tw, m, ep, N', i', ⟨cs, h3, h4⟩, hr, hs⟩
theorem gettok_c (P : Par K1) (X : LX) {cs w rest : List Nat} {sgs : List Value} {ln : Int} {tl tw : Tok} {m : HT} {ep n1 n2 : Nat} {L : Lg} {N i : Nat} {GL : Gg} {G : Nat} (hs : Sg sgs cs) (hl : cs.length ≤ 1500) (e : tokF cs = (w, rest)) :
    Cn (U1 P) 6 (.call (.ref 42) ⟨[.ref X.lx], []⟩) ⟨lexL P X ⟨ln, sgs, [], tl, tw, m, ep, n1, n2⟩ ++ L, N, i, GL, G⟩ fun r s' => ∃ sgs ln' t tl m ep n2 N i, Sg sgs rest ∧ ln' + nls rest = ln + nls cs ∧ r = .ok (.ret (.str (tx w) t)) ∧ s' = ⟨lexL P X ⟨ln', sgs, [], tl, tw, m, ep, n1, n2⟩ ++ L, N, i, GL, G⟩ := by
  have := gettok_spec P X (ln := ln) (tl := tl) (tw := tw) (m := m) (ep := ep) (n1 := n1) (n2 := n2) (L := L) (N := N) (i := i) (GL := GL) (G := G) hs hl
  rw [e] at this
  exact this
theorem law_1 (P : Par K1) (A : Around) (R : Result → Shared → Prop) (O : Lvl A 9) {sc : Nat} {items : List Value} {l : List (Int × Tok)} (hi : items = ivs l) (hl : l.length ≤ 63)
    {s2 : Int} {bits p cd c0 : Nat} {ne tt t0 wr rest : List Nat} (hb : ((l.map (·.1)).sum + 138).fmod 4096 = Int.ofNat bits) (hpp : 5 + (min 2 l.length) / 2 = p) (hp : p = 5 ∨ p = 6)
    (hs2 : ∀ l2 : List (Int × Tok), (slicePick ⟨items⟩ none (some 63) (some 2)).toList = ivs l2 → (l2.map (·.1)).sum = s2) (hcd : (s2 + 3248).fmod 5184 = Int.ofNat cd)
    (e1 : rowF p bits (2 * p) 0 0 [] = ne) (hnl : ne.length = 2 * p) (e2 : dreF ne 0 (cd % 432) [] = (t0, c0)) (hc0 : c0 < 2) (e3 : t0 ++ (if c0 = 0 then [] else [92]) = tt) (htn : tt ≠ []) (htl : tt.length ≤ 120) (hcd2 : cd / 432 < 12) (e4 : wrF tt (cd / 432) = wr) (hwl : wr.length ≤ 1000) (hwa : ∀ c ∈ wr, c < 128) (e5 : tokF wr = (tt, rest))
    (L : Lg) (N i : Nat) (GL : Gg) (G : Nat)
    (hK : ∀ (X : LX) (sgs : List Value) (ln : Int) (t1 t2 t3 t4 t5 tl tw : Tok) (mx : HT) (ex n1 n2 : Nat) (m : HT) (ep N' i : Nat), Sg sgs rest → ln + nls rest = 1 + nls wr → Mn ((U1 P).V A R) (lawS P N 6 ⟨(N, fr [(⟨#[115, 99, 114, 105, 112, 116]⟩ : Str), (⟨#[110, 101, 115, 116]⟩ : Str), (⟨#[99, 111, 100, 101]⟩ : Str), (⟨#[116, 101, 120, 116]⟩ : Str), (⟨#[119, 114, 105, 116, 116, 101, 110]⟩ : Str), (⟨#[108, 101, 120, 101, 114]⟩ : Str), (⟨#[119, 111, 114, 100]⟩ : Str)] [.ref sc, .str (tx ne) t1, .int (Int.ofNat cd) t2, .str (tx tt) t3, .str (tx wr) t4, .ref X.lx, .str (tx tt) t5] m ep) :: (lexL P X ⟨ln, sgs, [], tl, tw, mx, ex, n1, n2⟩ ++ ((sc, listO ⟨items⟩ 0) :: L)), N', i, GL, G⟩)) :
    Mn ((U1 P).V A R) (fn 155 [.ref sc] ⟨(sc, listO ⟨items⟩ 0) :: (110, tableObj #[]) :: L, N, i, GL, G⟩) := by
  have hlen : items.length = l.length := by rw [hi, ivs_len]
  have hn : items.length ≤ sizeLine := sz (by omega)
  have hy : (slicePick ⟨items⟩ none (some 63) none).toList = items := by rw [show (63 : Int) = Int.ofNat 63 from rfl, slice_up, List.take_of_length_le (by omega)]
  obtain ⟨ys2, hy2⟩ : ∃ ys, (slicePick ⟨items⟩ none (some 2) none).toList = ys := ⟨_, rfl⟩
  have hm2 : ys2.length = min 2 l.length := by rw [← hy2, show (2 : Int) = Int.ofNat 2 from rfl, slice_up, List.length_take, hlen]
  obtain ⟨l3, hl3⟩ := ivs_sub _ l (fun v hv => hi ▸ pick_sub items none (some 63) (some 2) v hv)
  obtain ⟨ys3, hy3⟩ : ∃ ys, (slicePick ⟨items⟩ none (some 63) (some 2)).toList = ys := ⟨_, rfl⟩
  have hs3 := hs2 l3 hl3
  rw [hy3] at hl3
  have hq : 2 * p = 10 ∨ 2 * p = 12 := by omega
  have hp2 : (5 : Int) + Int.ofNat (min 2 l.length / 2) = Int.ofNat p := by rw [← hpp]; rfl
  have hys : ys2.length ≤ 1000 := by rw [hm2]; omega
  generalize min 2 l.length = mn at hm2 hpp hp2
  refine sg_call O [spSlL items none (some 63) none items hy (fun h => nomatch h) hn] [.go 27 [0, 0, 1, 1, 0, 0, 0, 0, 0, 1, 3, 3, 3, 4, 2, 0]] [0, 3, 2, 4] 5 [] 0 (fun z1 => sum_cn hi (a := z1.a 0) (n := 0) (L := (sc, obAt z1 1) :: (N, obAt z1 2) :: (110, obAt z1 3) :: L) (N := z1.N) (i := z1.i) (GL := GL) (G := G)) (by omega) (fun pz => ?_) (fun pz => ?_)
  · kernel_rfl
  intro z1
  rintro r sh' ⟨ts, N1, i', rfl, rfl⟩
  refine sg_call O [spMod ((l.map (·.1)).sum + 138) 4096 (Int.ofNat bits) hb (by decide), spSlL items none (some 2) none ys2 hy2 (fun h => nomatch h) hn, spLenN ys2 mn hm2 hys, spDiv (Int.ofNat mn) 2 (Int.ofNat (mn / 2)) (div_o mn 2) (by decide) (by decide), spAddI 5 (Int.ofNat (mn / 2)) (Int.ofNat p) hp2] [.go 34 [0, 0, 4, 0, 0, 3, 3, 3, 3, 5, 2, 0, 6, 0, 7, 8, 0]] [3, 4, 5] 6 [] 0 (fun z2 => row_c _ bits p hp e1 (argT z2.t 0) (argT z2.t 1) ((sc, obAt z2 0) :: (N, obAt z2 1) :: (110, obAt z2 2) :: L) z2.N z2.i GL G) (by omega) (fun pz => ?_) (fun pz => ?_)
  · kernel_rfl
  intro z2
  rintro r sh' ⟨t1, N2, i', rfl, rfl⟩
  refine sg_call O [spSlL items none (some 63) (some 2) ys3 hy3 (fun h => nomatch h) hn] [.go 24 [2, 2, 0, 0, 2, 2, 2, 2, 4, 1, 0]] [0, 2, 3, 4] 5 [] 0 (fun z3 => sum_cn hl3 (a := z3.a 0) (n := 0) (L := (sc, obAt z3 1) :: (N, obAt z3 2) :: (110, obAt z3 3) :: L) (N := z3.N) (i := z3.i) (GL := GL) (G := G)) (by omega) (fun pz => ?_) (fun pz => ?_)
  · kernel_rfl
  intro z3
  rintro r sh' ⟨ts2, N3, i', rfl, rfl⟩
  rw [hs3]
  refine sg_call O [spMod (s2 + 3248) 5184 (Int.ofNat cd) hcd (by decide), spMod (Int.ofNat cd) 432 (Int.ofNat (cd % 432)) (mod_o cd 432) (by decide)] [.go 29 [0, 0, 4, 3, 3, 0, 3, 3, 5, 0]] [1, 2, 3] 4 [] 0 (fun z4 => dressed_c _ ne tt t0 c0 (2 * p) (cd % 432) hq hnl e2 hc0 e3 (argT z4.t 0) (argT z4.t 1) ((sc, obAt z4 0) :: (N, obAt z4 1) :: (110, obAt z4 2) :: L) z4.N z4.i GL G) (by omega) (fun pz => ?_) (fun pz => ?_)
  · kernel_rfl
  intro z4
  rintro r sh' ⟨t2, N4, i', rfl, rfl⟩
  refine sg_call O [spDiv (Int.ofNat cd) 432 (Int.ofNat (cd / 432)) (div_o cd 432) (by decide) (by decide)] [.go 20 [2, 2, 0, 2, 2, 4, 0]] [0, 1, 2] 3 [] 0 (fun z5 => written_c _ tt wr htn htl (cd / 432) hcd2 e4 (argT z5.t 0) (argT z5.t 1) ((sc, obAt z5 0) :: (N, obAt z5 1) :: (110, obAt z5 2) :: L) z5.N z5.i GL G) (by omega) (fun pz => ?_) (fun pz => ?_)
  · kernel_rfl
  intro z5
  rintro r sh' ⟨t3, N5, i', rfl, rfl⟩
  refine sg_call O [] [.go 15 [2, 2, 0, 2, 0]] [2, 0, 1] 3 [] 0 (fun z6 => lexer_c _ wr (argT z6.t 0) hwl hwa ((sc, obAt z6 1) :: (N, obAt z6 2) :: L) z6.N z6.i GL G) (by omega) (fun pz => ?_) (fun pz => ?_)
  · kernel_rfl
  intro z6
  rintro r sh' ⟨X, n1, n2, sgs, tl, tw, mx, ex, N6, i', hsg, rfl, rfl⟩
  refine sg_call O [] [.go 30 [11, 11, 11, 1, 0, 0, 0, 1, 0, 0, 0, 1, 0, 0, 0, 0, 1, 2, 0]] [0, 1, 2, 3, 4, 5, 6, 7, 8, 10, 9] 11 [] 0 (fun z7 => gettok_c _ X hsg (by omega) e5 (ln := 1) (tl := tl) (tw := tw) (m := mx) (ep := ex) (n1 := n1) (n2 := n2) (L := (N, obAt z7 9) :: (sc, obAt z7 10) :: L) (N := z7.N) (i := z7.i) (GL := GL) (G := G)) (by omega) (fun pz => ?_) (fun pz => ?_)
  · kernel_rfl
  intro z7
  rintro r sh' ⟨sgs', ln', t5, tl, mx, ex, n2, N7, i', hsg', hln, rfl, rfl⟩
  refine sg_fit O.good [] [.go 8 [10, 10]] [9, 0, 1, 2, 3, 4, 5, 6, 7, 8, 10] 11 [] 0 _ (fun pz => ?_) (fun z => hK X sgs' ln' t1 (z.tk 0 2) t2 t3 t5 tl tw mx ex n1 n2 (z.m 0) (z.e 0) z.N z.i hsg' hln)
  kernel_rfl

end Mine
end
-- part L1cmp
section
set_option maxRecDepth 100000
set_option maxHeartbeats 0
set_option Elab.async false
set_option linter.unusedVariables false
namespace Mine
open PySem PySem.Spec PySem.Calls PyProof.Rows PySem.W PySem.W.X

noncomputable def argE (e : PySem.Expr) (j : Nat) : PySem.Expr := match e with
  | .Call _ a _ _ => (a[j]?).getD default
  | _ => default
noncomputable def cmpEnv (e : PySem.Expr) (env : PySem.Env) (ld : Nat) : PySem.Env := match e with
  | .ListComp _ _ scope _ => { scope := scope, locals := ld, globals := env.globals, cells := [], qual := env.qual, func := none, code := env.code, frame := env.frame, builtins := env.builtins }
  | _ => env
noncomputable def cp1E (P : Par K1) : PySem.Expr := lamOf (stAt (bodyOf (kt P) 155) 7)
noncomputable def cp1C (P : Par K1) (f ga acc ld : Nat) : Code := .compLoop (cp1E P) 0 (.ref ga) (.ref acc) (cmpEnv (cp1E P) (envAt (kt P) 155 f) ld)
noncomputable def cp1S (P : Par K1) (f ga acc ld : Nat) : Code := .compStart (cp1E P) 0 (.ref ga) (.ref acc) (cmpEnv (cp1E P) (envAt (kt P) 155 f) ld)
noncomputable def cp2E (P : Par K1) : PySem.Expr := argE (lamOf (stAt (bodyOf (kt P) 155) 8)) 0
noncomputable def cp2C (P : Par K1) (f ga acc ld : Nat) : Code := .compLoop (cp2E P) 0 (.ref ga) (.ref acc) (cmpEnv (cp2E P) (envAt (kt P) 155 f) ld)
noncomputable def cp2S (P : Par K1) (f ga acc ld : Nat) : Code := .compStart (cp2E P) 0 (.ref ga) (.ref acc) (cmpEnv (cp2E P) (envAt (kt P) 155 f) ld)
section
variable {A : Around} {R : Result → Shared → Prop}
theorem cp1_loop (P : Par K1) (O : Lvl A 2) {f ga g acc ld : Nat} {ta tb : Tok} {L : Lg} {GL : Gg} {G : Nat} :
    ∀ (ps : List (Nat × Str)) (own : Lg) (gs : GenState) (l : List (Str × Tok)) (items : List Value) (tl : T2) (m : HT) (ep n N i : Nat), items = strValues l → Feeds (U1 P) 1 ga g ta tb ps own gs → l.length + ps.length ≤ 500 →
    (∀ (l' : List (Str × Tok)) (items : List Value) (tl : T2) (m : HT) (ep n N i : Nat), items = strValues l' → l'.map (·.1) = l.map (·.1) ++ ps.map (·.2) → Ends ((U1 P).V A R) (.ok .next) ⟨(ld, dcO (tn2 (⟨#[112, 108, 97, 99, 101]⟩ : Str) (⟨#[112, 105, 101, 99, 101]⟩ : Str) tl) (tv2 tl) m ep) :: (acc, listO ⟨items⟩ n) :: L, N, i, GL, G⟩) →
    Mn ((U1 P).V A R) (hd (cp1C P f ga acc ld) ⟨(ga, genO g ta tb) :: (ld, dcO (tn2 (⟨#[112, 108, 97, 99, 101]⟩ : Str) (⟨#[112, 105, 101, 99, 101]⟩ : Str) tl) (tv2 tl) m ep) :: (acc, listO ⟨items⟩ n) :: (own ++ L), N, i, (g, gs) :: GL, G⟩) := by
  intro ps
  induction ps with
  | nil =>
    intro own gs l items tl m ep n N i hi F hl hE
    have hE := hE l items tl m ep n
    rcases tl with _ | ⟨v3, v4⟩
    all_goals
      refine sg_call O [] [.go 2 [1]] [0, 1, 2] 3 [0] 1 (fun z1 => F.stop [(ld, obAt z1 1), (acc, obAt z1 2)] L z1.N z1.i GL G) (by omega) (fun pz => ?_) (fun pz => ?_)
      · kernel_rfl
      intro z1
      rintro r sh' ⟨e, tu, N', i', rfl, rfl⟩
      refine sg_fit O.good [] [.go 1 [1]] [1, 2] 3 [] 0 _ (fun pz => ?_) (fun z => Mn_fin (c := z.c) (r := .ok .next) (sh := ⟨(ld, _) :: (acc, listO ⟨items⟩ n) :: L, z.N, z.i, GL, G⟩) (hE z.N z.i hi (by simp)))
      kernel_rfl
  | cons p ps ih =>
    obtain ⟨kp, y⟩ := p
    intro own gs l items tl m ep n N i hi F hl hE
    simp only [List.length_cons] at hl
    have hsz : items.length ≤ sizeLine := sz (by rw [hi]; simp [strValues]; omega)
    rcases tl with _ | ⟨v3, v4⟩
    all_goals
      refine sg_call O [] [.go 2 [1]] [0, 1, 2] 3 [0] 1 (fun z1 => F.next [(ld, obAt z1 1), (acc, obAt z1 2)] L z1.N z1.i GL G) (by omega) (fun pz => ?_) (fun pz => ?_)
      · kernel_rfl
      intro z1
      rintro r sh' ⟨a, t1, t2, own', gs', N', i', rfl, rfl, F'⟩
      refine sg_fit O.good [spApp items hsz] [.go 5 [2, 1, 1, 1], .jn 0 0 [] 0 [], .go 59 [0, 1, 0, 1, 1, 0, 1, 0, 1, 1, 2, 1, 1, 1, 0, 1, 0, 1, 1, 2, 1, 1, 1, 0, 1, 0, 1, 1, 2, 1, 1, 1, 6, 6, 6, 6, 6, 4, 6, 0]] [4, 5, 6] 7 [0] 1 _ (fun pz => ?_) (fun z => ih own' gs' (l ++ [(y, t2)]) (items.concat (.str y t2)) (some (z.vl 1 0, z.vl 1 1)) (z.m 1) (z.e 1) (z.e 2) z.N z.i (by rw [hi]; exact strVals_snoc ..) F' (by simp only [List.length_append, List.length_singleton]; omega) (fun l' items tl m ep n N i h1 h2 => hE l' items tl m ep n N i h1 (by rw [h2]; simp)))
      kernel_rfl
end
theorem cp1_start (P : Par K1) {f ga g acc ld : Nat} {ta tb : Tok} {L : Lg} {GL : Gg} {G : Nat} {ps : List (Nat × Str)} {own : Lg} {gs : GenState} (F : Feeds (U1 P) 1 ga g ta tb ps own gs) (hl : ps.length ≤ 500) (m : HT) (n N i : Nat) : Cn (U1 P) 3 (cp1S P f ga acc ld) ⟨(ga, genO g ta tb) :: (ld, dcO (tn2 (⟨#[112, 108, 97, 99, 101]⟩ : Str) (⟨#[112, 105, 101, 99, 101]⟩ : Str) none) (tv2 none) m 0) :: (acc, listO ⟨[]⟩ n) :: (own ++ L), N, i, (g, gs) :: GL, G⟩ fun r s' =>
    ∃ (l' : List (Str × Tok)) (items : List Value) (tl : T2) (m : HT) (ep n N i : Nat), items = strValues l' ∧ l'.map (·.1) = ps.map (·.2) ∧ r = .ok .next ∧ s' = ⟨(ld, dcO (tn2 (⟨#[112, 108, 97, 99, 101]⟩ : Str) (⟨#[112, 105, 101, 99, 101]⟩ : Str) tl) (tv2 tl) m ep) :: (acc, listO ⟨items⟩ n) :: L, N, i, GL, G⟩ := by
  refine Cn.of_walk fun A R O hE => ?_
  have hE : ∀ (l' : List (Str × Tok)) (items : List Value) (tl : T2) (m : HT) (ep n N i : Nat), items = strValues l' → l'.map (·.1) = ([] : List (Str × Tok)).map (·.1) ++ ps.map (·.2) → Ends ((U1 P).V A R) (.ok .next) ⟨(ld, dcO (tn2 (⟨#[112, 108, 97, 99, 101]⟩ : Str) (⟨#[112, 105, 101, 99, 101]⟩ : Str) tl) (tv2 tl) m ep) :: (acc, listO ⟨items⟩ n) :: L, N, i, GL, G⟩ := fun l' items tl m ep n N i h1 h2 => hE _ _ ⟨l', items, tl, m, ep, n, N, i, h1, by simpa using h2, rfl, rfl⟩
  have hl0 : ([] : List (Str × Tok)).length + ps.length ≤ 500 := by simpa using hl
  have O2 : Lvl A 2 := ⟨O.hh, by have := O.dp; omega, by have := O.un; omega⟩
  obtain ⟨w₀, b1, b2, b3, h₀, d, t₀, os, ok⟩ := P
  cases b2
  · refine sg_fit O.good [] [.go 5 [1, 1], .jn 0 0 [] 0 [], .go 6 [0, 1, 0, 1, 0]] [0, 1, 2] 3 [0] 1 _ (fun pz => ?_) (fun z => cp1_loop _ O2 (f := f) ps own gs [] [] none (z.m 1) 0 n z.N z.i rfl F hl0 hE)
    kernel_rfl
  · refine sg_fit O.good [] [.go 2 [0]] [0, 1, 2] 3 [0] 1 _ (fun pz => ?_) (fun z => cp1_loop _ O2 (f := f) ps own gs [] [] none (z.m 1) 0 n z.N z.i rfl F hl0 hE)
    kernel_rfl

/-- the pieces that the table has -/
noncomputable def isB (x : Str) : Bool := x.cps.toList == [40] || x.cps.toList == [41]
noncomputable def PcOk (x : Str) : Prop := x.cps.toList ∈ ([[40], [41], [92, 40], [92, 41], [92, 92], [92, 34], [92]] : List (List Nat))
theorem str_of {x : Str} {l : List Nat} (h : x.cps.toList = l) : x = tx l := Str.ext' (Array.toList_inj.mp h)
theorem tab_none (P : Par K1) {x : Str} (h : PcOk x) (hb : isB x = false) : tabF P x = none := by
  unfold PcOk at h
  simp only [List.mem_cons, List.not_mem_nil, or_false] at h
  rcases h with h | h | h | h | h | h | h
  · rw [str_of h] at hb; cases hb
  · rw [str_of h] at hb; cases hb
  all_goals
    rw [str_of h]
    kernel_rfl
theorem tab_some (P : Par K1) {x : Str} (hb : isB x = true) : ∃ v t, tabF P x = some (.int v t) ∧ (v == 0) = false := by
  unfold isB at hb
  rw [Bool.or_eq_true, beq_iff_eq, beq_iff_eq] at hb
  rcases hb with h | h
  · rw [str_of h]
    obtain ⟨t, ht⟩ := tab_open P
    exact ⟨7, t, ht, rfl⟩
  · rw [str_of h]
    obtain ⟨t, ht⟩ := tab_close P
    exact ⟨8, t, ht, rfl⟩
theorem strVals_get {l : List (Str × Tok)} {k : Nat} {y : Str} {t : Tok} {r : List (Str × Tok)} (h : l.drop k = (y, t) :: r) : (strValues l)[k]? = some (.str y t) ∧ l.drop (k + 1) = r := by
  have h1 : l[k]? = some (y, t) := by rw [← List.head?_drop, h]; rfl
  refine ⟨?_, ?_⟩
  · unfold strValues; rw [List.getElem?_map, h1]; rfl
  · rw [show k + 1 = 1 + k from Nat.add_comm .., Nat.add_comm 1 k, ← List.drop_drop, h]; rfl
theorem strVals_none {l : List (Str × Tok)} {k : Nat} (h : l.drop k = []) : (strValues l)[k]? = none := by
  have : l.length ≤ k := List.drop_eq_nil_iff.mp h
  rw [List.getElem?_eq_none_iff]; simpa [strValues] using this
section
variable {A : Around} {R : Result → Shared → Prop}
theorem cp2_loop (P : Par K1) (O : Lvl A 3) {f it pl acc ld : Nat} {lp : List (Str × Tok)} {pv : List Value} {n0 : Nat} {L : Lg} {GL : Gg} {G : Nat} (hpv : pv = strValues lp) :
    ∀ (r : List (Str × Tok)) (k : Nat) (l : List (Str × Tok)) (items : List Value) (tl : T1) (m : HT) (ep n N i : Nat), lp.drop k = r → (∀ p ∈ r, PcOk p.1) → items = strValues l → l.length + r.length ≤ 500 →
    (∀ (l' : List (Str × Tok)) (items : List Value) (tl : T1) (m : HT) (ep n N i : Nat), items = strValues l' → l'.map (·.1) = l.map (·.1) ++ (r.map (·.1)).filter isB → Ends ((U1 P).V A R) (.ok .next) ⟨(ld, dcO (tn1 (⟨#[112, 105, 101, 99, 101]⟩ : Str) tl) (tv1 tl) m ep) :: (acc, listO ⟨items⟩ n) :: (pl, listO ⟨pv⟩ n0) :: L, N, i, GL, G⟩) →
    Mn ((U1 P).V A R) (hd (cp2C P f it acc ld) ⟨(it, liO pl k) :: (ld, dcO (tn1 (⟨#[112, 105, 101, 99, 101]⟩ : Str) tl) (tv1 tl) m ep) :: (acc, listO ⟨items⟩ n) :: (pl, listO ⟨pv⟩ n0) :: L, N, i, GL, G⟩) := by
  have hM := fun A R => tab_map P A R
  have hT : ∀ x, PcOk x → isB x = false → tabF P x = none := fun x h hb => tab_none P h hb
  have hS : ∀ x, isB x = true → ∃ v t, tabF P x = some (.int v t) ∧ (v == 0) = false := fun x hb => tab_some P hb
  generalize tabF P = tf at hM hT hS
  intro r
  induction r with
  | nil =>
    intro k l items tl m ep n N i hd hpc hi hl hE
    have hE := hE l items tl m ep n
    have hg := strVals_none hd
    rw [← hpv] at hg
    rcases tl with _ | v3
    all_goals
      refine sg_fit O.good [spIEnd pv k hg] [.go 4 [1, 4, 0, 3, 1]] [3, 4, 5] 6 [] 0 _ (fun pz => ?_) (fun z => Mn_fin (c := z.c) (r := .ok .next) (sh := ⟨_, z.N, z.i, GL, G⟩) (hE z.N z.i hi (by simp)))
      kernel_rfl
  | cons p r ih =>
    obtain ⟨y, t⟩ := p
    intro k l items tl m ep n N i hd hpc hi hl hE
    obtain ⟨hg, hd'⟩ := strVals_get hd
    rw [← hpv] at hg
    simp only [List.length_cons] at hl
    have hpy : PcOk y := hpc (y, t) (.head _)
    have hpr : ∀ p ∈ r, PcOk p.1 := fun p hp => hpc p (.tail _ hp)
    have hsz : items.length ≤ sizeLine := sz (by rw [hi]; simp [strValues]; omega)
    cases hb : isB y with
    | true =>
      obtain ⟨v, tv, hf, hv⟩ := hS y hb
      rcases tl with _ | v3
      all_goals
        refine sg_call O [spINext pv k (.str y t) hg, spDGetD 78 y (.int v tv) tf (hM ..) rfl hf] [.go 28 [1, 4, 0, 3, 2, 2, 0, 0, 0, 0, 0, 0, 2, 5, 0]] [0, 1, 2, 3] 4 [] 0 (fun z1 => iseof_spec _ v tv false hv (L := (it, obAt z1 0) :: (ld, obAt z1 1) :: (acc, obAt z1 2) :: (pl, obAt z1 3) :: L) (N := z1.N) (i := z1.i) (GL := GL) (G := G)) (by omega) (fun pz => ?_) (fun pz => ?_)
        · kernel_rfl
        intro z1
        rintro r sh' ⟨N', i', rfl, rfl⟩
        refine sg_fit O.good [spApp items hsz] [.go 6 [2, 4, 2, 0]] [0, 1, 2, 3] 4 [] 0 _ (fun pz => ?_) (fun z => ih (k + 1) (l ++ [(y, t)]) (items.concat (.str y t)) (some (z.vl 1 0)) (z.m 1) (z.e 1) (z.e 2) z.N z.i hd' hpr (by rw [hi]; exact strVals_snoc ..) (by simp only [List.length_append, List.length_singleton]; omega) (fun l' items tl m ep n N i h1 h2 => hE l' items tl m ep n N i h1 (by rw [h2]; simp [hb])))
        kernel_rfl
    | false =>
      have hf := hT y hpy hb
      rcases tl with _ | v3
      all_goals
        refine sg_call O [spINext pv k (.str y t) hg, spDGetN 78 y tf (hM ..) rfl hf] [.go 28 [1, 4, 0, 3, 2, 2, 0, 0, 0, 0, 0, 0, 2, 5, 0]] [0, 1, 2, 3] 4 [] 0 (fun z1 => iseof_spec _ 0 (argT z1.t 0) true rfl (L := (it, obAt z1 0) :: (ld, obAt z1 1) :: (acc, obAt z1 2) :: (pl, obAt z1 3) :: L) (N := z1.N) (i := z1.i) (GL := GL) (G := G)) (by omega) (fun pz => ?_) (fun pz => ?_)
        · kernel_rfl
        intro z1
        rintro r sh' ⟨N', i', rfl, rfl⟩
        refine sg_fit O.good [] [.go 3 [0]] [0, 1, 2, 3] 4 [] 0 _ (fun pz => ?_) (fun z => ih (k + 1) l items (some (z.vl 1 0)) (z.m 1) (z.e 1) (z.e 2) z.N z.i hd' hpr hi (by omega) (fun l' items tl m ep n N i h1 h2 => hE l' items tl m ep n N i h1 (by rw [h2]; simp [hb])))
        kernel_rfl
end
theorem cp2_start (P : Par K1) {f it pl acc ld : Nat} {lp : List (Str × Tok)} {pv : List Value} {n0 : Nat} {L : Lg} {GL : Gg} {G : Nat} (hpv : pv = strValues lp) (hpc : ∀ p ∈ lp, PcOk p.1) (hl : lp.length ≤ 500) (m : HT) (n N i : Nat) : Cn (U1 P) 4 (cp2S P f it acc ld) ⟨(it, liO pl 0) :: (ld, dcO (tn1 (⟨#[112, 105, 101, 99, 101]⟩ : Str) none) (tv1 none) m 0) :: (acc, listO ⟨[]⟩ n) :: (pl, listO ⟨pv⟩ n0) :: L, N, i, GL, G⟩ fun r s' =>
    ∃ (l' : List (Str × Tok)) (items : List Value) (tl : T1) (m : HT) (ep n N i : Nat), items = strValues l' ∧ l'.map (·.1) = (lp.map (·.1)).filter isB ∧ r = .ok .next ∧ s' = ⟨(ld, dcO (tn1 (⟨#[112, 105, 101, 99, 101]⟩ : Str) tl) (tv1 tl) m ep) :: (acc, listO ⟨items⟩ n) :: (pl, listO ⟨pv⟩ n0) :: L, N, i, GL, G⟩ := by
  refine Cn.of_walk fun A R O hE => ?_
  have hE : ∀ (l' : List (Str × Tok)) (items : List Value) (tl : T1) (m : HT) (ep n N i : Nat), items = strValues l' → l'.map (·.1) = ([] : List (Str × Tok)).map (·.1) ++ (lp.map (·.1)).filter isB → Ends ((U1 P).V A R) (.ok .next) ⟨(ld, dcO (tn1 (⟨#[112, 105, 101, 99, 101]⟩ : Str) tl) (tv1 tl) m ep) :: (acc, listO ⟨items⟩ n) :: (pl, listO ⟨pv⟩ n0) :: L, N, i, GL, G⟩ := fun l' items tl m ep n N i h1 h2 => hE _ _ ⟨l', items, tl, m, ep, n, N, i, h1, by simpa using h2, rfl, rfl⟩
  have hl0 : ([] : List (Str × Tok)).length + lp.length ≤ 500 := by simpa using hl
  have O2 : Lvl A 3 := ⟨O.hh, by have := O.dp; omega, by have := O.un; omega⟩
  obtain ⟨w₀, b1, b2, b3, h₀, d, t₀, os, ok⟩ := P
  cases b2
  · refine sg_fit O.good [] [.go 5 [1, 1], .jn 0 0 [] 0 [], .go 6 [0, 1, 0, 1, 0]] [0, 1, 2, 3] 4 [] 0 _ (fun pz => ?_) (fun z => cp2_loop _ O2 (f := f) (it := it) hpv lp 0 [] [] none (z.m 1) 0 n z.N z.i rfl hpc rfl hl0 hE)
    kernel_rfl
  · refine sg_fit O.good [] [.go 2 [0]] [0, 1, 2, 3] 4 [] 0 _ (fun pz => ?_) (fun z => cp2_loop _ O2 (f := f) (it := it) hpv lp 0 [] [] none (z.m 1) 0 n z.N z.i rfl hpc rfl hl0 hE)
    kernel_rfl

end Mine
end
-- part L1lawb
section
set_option maxRecDepth 100000
set_option maxHeartbeats 0
set_option Elab.async false
set_option linter.unusedVariables false
namespace Mine
open PySem PySem.Spec PySem.Calls PyProof.Rows PySem.W PySem.W.X

theorem strip_c (P : Par K1) (x y : Str) (tk : Tok) (e : stripS x = y) (hx : x.length ≤ 500) (ha : x.cps.all (· < 128) = true) (sh : Sh) : Cn (U1 P) 3 (.call (.ref 70) ⟨[.str x tk], []⟩) sh
    (fun r s' => ∃ tk' N' i' G', r = .ok (.ret (.str y tk')) ∧ s' = ⟨sh.L, N', i', sh.GL, G'⟩) := e ▸ strip_spec P x tk hx ha sh
section
variable {A : Around} {R : Result → Shared → Prop}
theorem law_2 (P : Par K1) (O : Lvl A 9) {f : Nat} {lx : Nat} {sv : Value} {ne tt wr : List Nat} {cd : Value} {t1 t3 t4 t5 : Tok} {m : HT} {ep N i G : Nat} {L : Lg} {GL : Gg} (hne : ((tx tt).cps.toList != (tx tt).cps.toList) = false) (htl : (tx tt).length ≤ 500) (hta : (tx tt).cps.all (· < 128) = true) (hck : checkS (tx tt) = true)
    (hpc : ∀ p ∈ pcs (stripS (tx tt)).cps.toList 0, PcOk p.2) (hps : (pcs (stripS (tx tt)).cps.toList 0).length ≤ 500) (hpl : ∀ p ∈ pcs (stripS (tx tt)).cps.toList 0, p.2.length ≤ 500) (hbr : catS (((pcs (stripS (tx tt)).cps.toList 0).map (·.2)).filter isB) = tx ne) (hnn : ((tx ne).cps.toList != (tx ne).cps.toList) = false)
    (hK : ∀ (pl : Nat) (pv : List Value) (n : Nat) (t7 : Tok) (m : HT) (ep N i G : Nat), Mn ((U1 P).V A R) (lawS P f 10 ⟨(f, fr [(⟨#[115, 99, 114, 105, 112, 116]⟩ : Str), (⟨#[110, 101, 115, 116]⟩ : Str), (⟨#[99, 111, 100, 101]⟩ : Str), (⟨#[116, 101, 120, 116]⟩ : Str), (⟨#[119, 114, 105, 116, 116, 101, 110]⟩ : Str), (⟨#[108, 101, 120, 101, 114]⟩ : Str), (⟨#[119, 111, 114, 100]⟩ : Str), (⟨#[112, 105, 101, 99, 101, 115]⟩ : Str), (⟨#[98, 97, 114, 101]⟩ : Str)] [sv, .str (tx ne) t1, cd, .str (tx tt) t3, .str (tx wr) t4, .ref lx, .str (tx tt) t5, .ref pl, .str (tx ne) t7] m ep) :: (pl, listO ⟨pv⟩ n) :: L, N, i, GL, G⟩)) :
    Mn ((U1 P).V A R) (lawS P f 6 ⟨(f, fr [(⟨#[115, 99, 114, 105, 112, 116]⟩ : Str), (⟨#[110, 101, 115, 116]⟩ : Str), (⟨#[99, 111, 100, 101]⟩ : Str), (⟨#[116, 101, 120, 116]⟩ : Str), (⟨#[119, 114, 105, 116, 116, 101, 110]⟩ : Str), (⟨#[108, 101, 120, 101, 114]⟩ : Str), (⟨#[119, 111, 114, 100]⟩ : Str)] [sv, .str (tx ne) t1, cd, .str (tx tt) t3, .str (tx wr) t4, .ref lx, .str (tx tt) t5] m ep) :: L, N, i, GL, G⟩) := by
  have ha2 := strip_ascii hta
  generalize hx : stripS (tx tt) = x at hpc hps hpl hbr ha2
  refine sg_call O [spNe (tx tt) (tx tt) false hne] [.go 6 [1, 1], .jn 0 0 [] 0 [], .go 7 [4, 0, 1, 0]] [0] 1 [] 0 (fun z1 => check_b _ (tx tt) t5 true hck htl hta ⟨(f, obAt z1 0) :: L, z1.N, z1.i, GL, G⟩) (by omega) (fun pz => ?_) (fun pz => ?_)
  · kernel_rfl
  intro z1
  rintro r sh' ⟨N', i', G', rfl, rfl⟩
  refine sg_call O [] [.go 11 [0, 0, 1, 0]] [0] 1 [] 0 (fun z2 => strip_c _ (tx tt) x t5 hx htl hta ⟨(f, obAt z2 0) :: L, z2.N, z2.i, GL, G'⟩) (by omega) (fun pz => ?_) (fun pz => ?_)
  · kernel_rfl
  intro z2
  rintro r sh' ⟨t6, N', i', G', rfl, rfl⟩
  refine sg_call O [] [.go 3 [0]] [0] 1 [] 0 (fun z3 => gen_spec _ x t6 z3.sh) (by omega) (fun pz => ?_) (fun pz => ?_)
  · kernel_rfl
  intro z3
  rintro r sh' ⟨rfl, h1, u1, u2, u3, rfl⟩
  refine sg_call O [] [.go 4 [1, 1], .jn 0 0 [] 0 [], .go 8 [0, 1, 0, 1]] [2, 0, 1, 3, 4] 5 [0] 1 (fun z4 => cp1_start _ (f := f) (acc := z4.a 2) (ld := z4.a 1) (feeds_fresh _ (f := z3.N) (g := z3.G) (tk := t6) (a := u2) (b := u3) (h1 := h1) (t1 := u1) (ep := 1) ha2) hps (z4.m 1) (z4.e 2) z4.N z4.i (L := (f, obAt z4 4) :: L) (GL := GL) (G := z4.G)) (by omega) (fun pz => ?_) (fun pz => ?_)
  · kernel_rfl
  intro z4
  rintro r sh' ⟨lp, pv, tl, m, ep, n, N', i', hpv, hlp, rfl, rfl⟩
  have hpc2 : ∀ p ∈ lp, PcOk p.1 := fun p hp => by
    have : p.1 ∈ lp.map (·.1) := List.mem_map_of_mem hp
    rw [hlp] at this
    obtain ⟨q, hq, e⟩ := List.mem_map.mp this
    rw [← e]; exact hpc q hq
  have hll : lp.length ≤ 500 := by have := congrArg List.length hlp; simp only [List.length_map] at this; omega
  rw [← hlp] at hbr
  have hp5 : ∀ p ∈ lp, p.1.length ≤ 500 := fun p hp => by
    have : p.1 ∈ lp.map (·.1) := List.mem_map_of_mem hp
    rw [hlp] at this
    obtain ⟨q, hq, e⟩ := List.mem_map.mp this
    rw [← e]; exact hpl q hq
  rcases tl with _ | ⟨v3, v4⟩
  · refine sg_call O [] [.go 19 [3, 3, 1, 1, 3, 2, 2], .jn 0 0 [] 0 [], .go 8 [0, 2, 0, 1]] [2, 0, 1, 4, 5] 6 [] 0 (fun z5 => cp2_start _ (f := f) (it := z5.a 0) (ld := z5.a 1) (acc := z5.a 2) (pl := z5.a 3) (n0 := z5.e 3) hpv hpc2 hll (z5.m 1) (z5.e 2) z5.N z5.i (L := (f, obAt z5 4) :: L) (GL := GL) (G := z5.G)) (by omega) (fun pz => ?_) (fun pz => ?_)
    · kernel_rfl
    intro z5
    rintro r sh' ⟨lq, qv, tl, m, ep, n, N', i', hqv, hlq, rfl, rfl⟩
    have hi2 : qv = strValues lq := hqv
    rw [← hlq] at hbr
    have hp6 : ∀ p ∈ lq, p.1.length ≤ 500 := fun p hp => by
      have : p.1 ∈ lq.map (·.1) := List.mem_map_of_mem hp
      rw [hlq] at this
      obtain ⟨q, hq, e⟩ := List.mem_map.mp (List.mem_filter.mp this).1
      rw [← e]; exact hp5 q hq
    have hlq5 : lq.length ≤ 500 := by
      have h1 := congrArg List.length hlq
      have h2 := List.length_filter_le isB (lp.map (·.1))
      simp only [List.length_map] at h1 h2
      omega
    rcases tl with _ | v5
    · refine sg_fit O.good [spJ _ _ (tx ne) 500 hi2 hp6 (by omega) hbr, spNe (tx ne) (tx ne) false hnn] [.go 17 [1, 4, 1, 4, 4, 4, 4], .jn 0 0 [] 0 [], .go 1 [5]] [3, 2] 4 [] 0 _ (fun pz => ?_) (fun z => hK (z.a 1) pv (z.e 1) (z.tk 0 8) (z.m 0) (z.e 0) z.N z.i z.G)
      kernel_rfl
    · refine sg_fit O.good [spJ _ _ (tx ne) 500 hi2 hp6 (by omega) hbr, spNe (tx ne) (tx ne) false hnn] [.go 21 [1, 1, 1, 4, 1, 4, 4, 4, 4], .jn 0 0 [] 0 [], .go 1 [5]] [3, 2] 4 [] 0 _ (fun pz => ?_) (fun z => hK (z.a 1) pv (z.e 1) (z.tk 0 8) (z.m 0) (z.e 0) z.N z.i z.G)
      kernel_rfl
  · refine sg_call O [] [.go 27 [3, 3, 1, 1, 1, 1, 1, 1, 3, 2, 2], .jn 0 0 [] 0 [], .go 8 [0, 2, 0, 1]] [2, 0, 1, 4, 5] 6 [] 0 (fun z5 => cp2_start _ (f := f) (it := z5.a 0) (ld := z5.a 1) (acc := z5.a 2) (pl := z5.a 3) (n0 := z5.e 3) hpv hpc2 hll (z5.m 1) (z5.e 2) z5.N z5.i (L := (f, obAt z5 4) :: L) (GL := GL) (G := z5.G)) (by omega) (fun pz => ?_) (fun pz => ?_)
    · kernel_rfl
    intro z5
    rintro r sh' ⟨lq, qv, tl, m, ep, n, N', i', hqv, hlq, rfl, rfl⟩
    have hi2 : qv = strValues lq := hqv
    rw [← hlq] at hbr
    have hp6 : ∀ p ∈ lq, p.1.length ≤ 500 := fun p hp => by
      have : p.1 ∈ lq.map (·.1) := List.mem_map_of_mem hp
      rw [hlq] at this
      obtain ⟨q, hq, e⟩ := List.mem_map.mp (List.mem_filter.mp this).1
      rw [← e]; exact hp5 q hq
    have hlq5 : lq.length ≤ 500 := by
      have h1 := congrArg List.length hlq
      have h2 := List.length_filter_le isB (lp.map (·.1))
      simp only [List.length_map] at h1 h2
      omega
    rcases tl with _ | v5
    · refine sg_fit O.good [spJ _ _ (tx ne) 500 hi2 hp6 (by omega) hbr, spNe (tx ne) (tx ne) false hnn] [.go 17 [1, 4, 1, 4, 4, 4, 4], .jn 0 0 [] 0 [], .go 1 [5]] [3, 2] 4 [] 0 _ (fun pz => ?_) (fun z => hK (z.a 1) pv (z.e 1) (z.tk 0 8) (z.m 0) (z.e 0) z.N z.i z.G)
      kernel_rfl
    · refine sg_fit O.good [spJ _ _ (tx ne) 500 hi2 hp6 (by omega) hbr, spNe (tx ne) (tx ne) false hnn] [.go 21 [1, 1, 1, 4, 1, 4, 4, 4, 4], .jn 0 0 [] 0 [], .go 1 [5]] [3, 2] 4 [] 0 _ (fun pz => ?_) (fun z => hK (z.a 1) pv (z.e 1) (z.tk 0 8) (z.m 0) (z.e 0) z.N z.i z.G)
      kernel_rfl
end

end Mine
end
-- part L1read
section
set_option maxRecDepth 100000
set_option maxHeartbeats 0
set_option Elab.async false
set_option linter.unusedVariables false
namespace Mine
open PySem PySem.Spec PySem.Calls PyProof.Rows PySem.W PySem.W.X

noncomputable def rdA : List Nat → Int → Nat → List Nat → Int × Nat × List Nat
  | [], a, o, h => (a, o, h)
  | c :: cs, a, o, h => if c = 40 then rdA cs (a + Int.ofNat o - Int.ofNat h.length) (o + 1) h else rdA cs a o (h ++ [o])
/-- the bounce; none if it does not end -/
noncomputable def bncF (h : List Nat) (o : Nat) : Nat → Nat → Int → Option Int
  | 0, s, b => if s < o then none else some b
  | n + 1, s, b => if s < o then (match h[s]? with | some s' => bncF h o n s' (b + Int.ofNat o - Int.ofNat s') | none => none) else some b
noncomputable def rdC (P : Par K1) (f it : Nat) : Code := forC (stAt (bodyOf (kt P) 150) 3) it (envAt (kt P) 150 f)
noncomputable def rdW (P : Par K1) (f : Nat) : Code := whC (stAt (bodyOf (kt P) 150) 6) (envAt (kt P) 150 f)
theorem rd_get {l : List (Int × Tok)} {h : List Nat} (e : l.map (·.1) = h.map Int.ofNat) {s s' : Nat} (hs : h[s]? = some s') : ∃ t, (ivs l)[s]? = some (.int (Int.ofNat s') t) := by
  have h1 : (l.map (·.1))[s]? = some (Int.ofNat s') := by rw [e, List.getElem?_map, hs]; rfl
  rw [List.getElem?_map] at h1
  cases q : l[s]? with
  | none => rw [q] at h1; cases h1
  | some p =>
    rw [q] at h1
    have h2 : p.1 = Int.ofNat s' := Option.some.inj h1
    refine ⟨p.2, ?_⟩
    unfold ivs
    rw [List.getElem?_map, q, ← h2]; rfl
section
variable {A : Around} {R : Result → Shared → Prop}
theorem rd_loop (P : Par K1) (O : Lvl A 3) {f it rl : Nat} {x : Str} {tk : Tok} {L : Lg} {GL : Gg} {G : Nat} (hx : x.length ≤ 500) : ∀ (cs : List Nat) (k : Nat) (a : Int) (o : Nat) (h : List Nat) (l : List (Int × Tok)) (items : List Value) (ta to : Tok) (tl : T1) (m : HT) (ep n N i : Nat), x.cps.toList.drop k = cs → (∀ c ∈ cs, c = 40 ∨ c = 41) → k ≤ x.length → items = ivs l → l.map (·.1) = h.map Int.ofNat → h.length ≤ k →
    (∀ a' o' h', rdA cs a o h = (a', o', h') → ∀ (l' : List (Int × Tok)) (items : List Value) (ta to : Tok) (tl : T1) (m : HT) (ep n N i : Nat), items = ivs l' → l'.map (·.1) = h'.map Int.ofNat → h'.length ≤ 500 → Ends ((U1 P).V A R) (.ok .next) ⟨(f, fr ([(⟨#[114, 111, 119]⟩ : Str), (⟨#[97, 114, 101, 97]⟩ : Str), (⟨#[111, 112, 101, 110, 101, 100]⟩ : Str), (⟨#[97, 104, 101, 97, 100]⟩ : Str)] ++ tn1 (⟨#[115, 105, 103, 110]⟩ : Str) tl) ([.str x tk, .int a' ta, .int (Int.ofNat o') to, .ref rl] ++ tv1 tl) m ep) :: (rl, listO ⟨items⟩ n) :: L, N, i, GL, G⟩) →
    Mn ((U1 P).V A R) (hd (rdC P f it) ⟨(it, strIt x tk k) :: (f, fr ([(⟨#[114, 111, 119]⟩ : Str), (⟨#[97, 114, 101, 97]⟩ : Str), (⟨#[111, 112, 101, 110, 101, 100]⟩ : Str), (⟨#[97, 104, 101, 97, 100]⟩ : Str)] ++ tn1 (⟨#[115, 105, 103, 110]⟩ : Str) tl) ([.str x tk, .int a ta, .int (Int.ofNat o) to, .ref rl] ++ tv1 tl) m ep) :: (rl, listO ⟨items⟩ n) :: L, N, i, GL, G⟩) := by
  obtain ⟨t7, h7⟩ := tab_open P
  obtain ⟨t8, h8⟩ := tab_close P
  have hM := fun A R => tab_map P A R
  generalize tabF P = tf at h7 h8 hM
  intro cs
  induction cs with
  | nil =>
    intro k a o h l items ta to tl m ep n N i hd h01 hk hi hm hl hE
    have hE := hE a o h rfl l items ta to tl m ep n
    have hl' : h.length ≤ 500 := by omega
    rcases tl with _ | v3
    all_goals
      refine sg_fit O.good [spEnd x k (drop_nil hd)] [.go 5 [1, 4, 0, 1, 0]] [3, 4] 5 [] 0 _ (fun pz => ?_) (fun z => Mn_fin (c := z.c) (r := .ok .next) (sh := ⟨_, z.N, z.i, GL, G⟩) (hE z.N z.i hi hm hl'))
      kernel_rfl
  | cons c cs ih =>
    intro k a o h l items ta to tl m ep n N i hd h01 hk hi hm hl hE
    obtain ⟨hc, hd'⟩ := drop_cons hd
    have hlt : k < x.length := (Array.getElem?_eq_some_iff.mp hc).1
    have hlen : items.length = h.length := by rw [hi, ivs_len]; have := congrArg List.length hm; simpa using this
    have h1000 : items.length ≤ 1000 := by omega
    have hsz : items.length ≤ sizeLine := sz (by omega)
    have h01' : ∀ c ∈ cs, c = 40 ∨ c = 41 := fun c hc => h01 c (.tail _ hc)
    obtain rfl | rfl := h01 c (.head _)
    · have e : rdA (40 :: cs) a o h = rdA cs (a + Int.ofNat o - Int.ofNat h.length) (o + 1) h := if_pos rfl
      rcases tl with _ | v3
      all_goals
        refine sg_call O [spNext x k 40 hc, spDGet 78 (ch 40) (.int 7 t7) tf (hM ..) h7, spSubI 7 7 0 rfl] [.go 27 [1, 4, 0, 2, 2, 0, 0, 2, 0, 0, 0, 5, 6, 0]] [0, 1, 2] 3 [] 0 (fun z1 => iseof_spec _ 0 (argT z1.t 0) true rfl (L := (it, obAt z1 0) :: (f, obAt z1 1) :: (rl, obAt z1 2) :: L) (N := z1.N) (i := z1.i) (GL := GL) (G := G)) (by omega) (fun pz => ?_) (fun pz => ?_)
        · kernel_rfl
        intro z1
        rintro r sh' ⟨N', i', rfl, rfl⟩
        refine sg_fit O.good [spAddI a (Int.ofNat o) (a + Int.ofNat o) rfl, spLenN items h.length hlen h1000, spSubI (a + Int.ofNat o) (Int.ofNat h.length) (a + Int.ofNat o - Int.ofNat h.length) rfl, spAddI (Int.ofNat o) 1 (Int.ofNat (o + 1)) rfl] [.go 40 [2, 2, 4, 0, 0, 2, 5, 2, 6, 2, 2, 2, 7, 2, 2, 0]] [0, 1, 2] 3 [] 0 _ (fun pz => ?_) (fun z => ih (k + 1) (a + Int.ofNat o - Int.ofNat h.length) (o + 1) h l items (z.tk 1 1) (z.tk 1 2) (some (z.vl 1 4)) (z.m 1) (z.e 1) (z.e 2) z.N z.i hd' h01' hlt hi hm (by omega) (by rw [← e]; exact hE))
        kernel_rfl
    · have e : rdA (41 :: cs) a o h = rdA cs a o (h ++ [o]) := if_neg (by decide)
      rcases tl with _ | v3
      all_goals
        refine sg_call O [spNext x k 41 hc, spDGet 78 (ch 41) (.int 8 t8) tf (hM ..) h8, spSubI 8 7 1 rfl] [.go 27 [1, 4, 0, 2, 2, 0, 0, 2, 0, 0, 0, 5, 6, 0]] [0, 1, 2] 3 [] 0 (fun z1 => iseof_spec _ 1 (argT z1.t 0) false rfl (L := (it, obAt z1 0) :: (f, obAt z1 1) :: (rl, obAt z1 2) :: L) (N := z1.N) (i := z1.i) (GL := GL) (G := G)) (by omega) (fun pz => ?_) (fun pz => ?_)
        · kernel_rfl
        intro z1
        rintro r sh' ⟨N', i', rfl, rfl⟩
        refine sg_call O [spDGet 78 (ch 41) (.int 8 t8) tf (hM ..) h8, spSubI 8 8 0 rfl] [.go 19 [0, 0, 2, 0, 0, 0, 4, 5, 0]] [0, 1, 2] 3 [] 0 (fun z2 => iseof_spec _ 0 (argT z2.t 0) true rfl (L := (it, obAt z2 0) :: (f, obAt z2 1) :: (rl, obAt z2 2) :: L) (N := z2.N) (i := z2.i) (GL := GL) (G := G)) (by omega) (fun pz => ?_) (fun pz => ?_)
        · kernel_rfl
        intro z2
        rintro r sh' ⟨N', i', rfl, rfl⟩
        refine sg_fit O.good [spApp items hsz] [.go 17 [2, 3, 3, 3, 3, 2, 4, 2, 0]] [0, 1, 2] 3 [] 0 _ (fun pz => ?_) (fun z => ih (k + 1) a o (h ++ [o]) (l ++ [(Int.ofNat o, to)]) (items.concat (.int (Int.ofNat o) to)) (z.tk 1 1) (z.tk 1 2) (some (z.vl 1 4)) (z.m 1) (z.e 1) (z.e 2) z.N z.i hd' h01' hlt (by rw [hi]; exact ivs_snoc) (by rw [List.map_append, List.map_append, hm]; rfl) (by simp only [List.length_append, List.length_singleton]; omega) (by rw [← e]; exact hE))
        kernel_rfl
theorem rd_while (P : Par K1) (O : Lvl A 3) {f rl : Nat} {x : Str} {tk ta to : Tok} {a : Int} {o : Nat} {h : List Nat} {l : List (Int × Tok)} {items : List Value} {tl : T1} {n : Nat} {L : Lg} {GL : Gg} {G : Nat} (hi : items = ivs l) (hm : l.map (·.1) = h.map Int.ofNat) (hl : h.length ≤ 500) {r : Int} : ∀ (c s : Nat) (b : Int) (tb ts : Tok) (m : HT) (ep N i : Nat), bncF h o c s b = some r →
    (∀ s tb ts m ep N i, Ends ((U1 P).V A R) (.ok .next) ⟨(f, fr ([(⟨#[114, 111, 119]⟩ : Str), (⟨#[97, 114, 101, 97]⟩ : Str), (⟨#[111, 112, 101, 110, 101, 100]⟩ : Str), (⟨#[97, 104, 101, 97, 100]⟩ : Str)] ++ tn1 (⟨#[115, 105, 103, 110]⟩ : Str) tl ++ [(⟨#[98, 111, 117, 110, 99, 101]⟩ : Str), (⟨#[115, 116, 111, 112]⟩ : Str)]) ([.str x tk, .int a ta, .int (Int.ofNat o) to, .ref rl] ++ tv1 tl ++ [.int r tb, .int (Int.ofNat s) ts]) m ep) :: (rl, listO ⟨items⟩ n) :: L, N, i, GL, G⟩) →
    Mn ((U1 P).V A R) (hd (rdW P f) ⟨(f, fr ([(⟨#[114, 111, 119]⟩ : Str), (⟨#[97, 114, 101, 97]⟩ : Str), (⟨#[111, 112, 101, 110, 101, 100]⟩ : Str), (⟨#[97, 104, 101, 97, 100]⟩ : Str)] ++ tn1 (⟨#[115, 105, 103, 110]⟩ : Str) tl ++ [(⟨#[98, 111, 117, 110, 99, 101]⟩ : Str), (⟨#[115, 116, 111, 112]⟩ : Str)]) ([.str x tk, .int a ta, .int (Int.ofNat o) to, .ref rl] ++ tv1 tl ++ [.int b tb, .int (Int.ofNat s) ts]) m ep) :: (rl, listO ⟨items⟩ n) :: L, N, i, GL, G⟩) := by
  rcases tl with _ | v3
  · intro c
    induction c with
    | zero =>
      intro s b tb ts m ep N i hb hE
      by_cases q : s < o
      · rw [bncF, if_pos q] at hb; cases hb
      · rw [bncF, if_neg q] at hb
        cases hb
        have hE := hE s tb ts m ep
        refine sg_fit O.good [spLt (Int.ofNat s) (Int.ofNat o) false (ilt_f q)] [.go 5 [1, 1], .jn 0 0 [] 0 [], .go 1 [4]] [0, 1] 2 [] 0 _ (fun pz => ?_) (fun z => Mn_fin (c := z.c) (r := .ok .next) (sh := ⟨_, z.N, z.i, GL, G⟩) (hE z.N z.i))
        kernel_rfl
    | succ c ih =>
      intro s b tb ts m ep N i hb hE
      by_cases q : s < o
      · rw [bncF, if_pos q] at hb
        cases hs : h[s]? with
        | none => rw [hs] at hb; cases hb
        | some s' =>
          rw [hs] at hb
          dsimp only at hb
          obtain ⟨t, hg⟩ := rd_get hm hs
          rw [← hi] at hg
          have hs5 : s ≤ 1000000 := by have := (List.getElem?_eq_some_iff.mp hs).1; omega
          refine sg_fit O.good [spLt (Int.ofNat s) (Int.ofNat o) true (ilt_t q), spGetI items s (.int (Int.ofNat s') t) hg hs5, spAddI b (Int.ofNat o) (b + Int.ofNat o) rfl, spSubI (b + Int.ofNat o) (Int.ofNat s') (b + Int.ofNat o - Int.ofNat s') rfl] [.go 5 [1, 1], .jn 0 0 [] 0 [], .go 37 [4, 1, 1, 2, 2, 2, 5, 1, 1, 1, 1, 1, 6, 1, 7, 1, 1, 0]] [0, 1] 2 [] 0 _ (fun pz => ?_) (fun z => ih s' (b + Int.ofNat o - Int.ofNat s') (z.tk 0 4) t (z.m 0) (z.e 0) z.N z.i hb hE)
          kernel_rfl
      · rw [bncF, if_neg q] at hb
        cases hb
        have hE := hE s tb ts m ep
        refine sg_fit O.good [spLt (Int.ofNat s) (Int.ofNat o) false (ilt_f q)] [.go 5 [1, 1], .jn 0 0 [] 0 [], .go 1 [4]] [0, 1] 2 [] 0 _ (fun pz => ?_) (fun z => Mn_fin (c := z.c) (r := .ok .next) (sh := ⟨_, z.N, z.i, GL, G⟩) (hE z.N z.i))
        kernel_rfl
  · intro c
    induction c with
    | zero =>
      intro s b tb ts m ep N i hb hE
      by_cases q : s < o
      · rw [bncF, if_pos q] at hb; cases hb
      · rw [bncF, if_neg q] at hb
        cases hb
        have hE := hE s tb ts m ep
        refine sg_fit O.good [spLt (Int.ofNat s) (Int.ofNat o) false (ilt_f q)] [.go 5 [1, 1], .jn 0 0 [] 0 [], .go 1 [4]] [0, 1] 2 [] 0 _ (fun pz => ?_) (fun z => Mn_fin (c := z.c) (r := .ok .next) (sh := ⟨_, z.N, z.i, GL, G⟩) (hE z.N z.i))
        kernel_rfl
    | succ c ih =>
      intro s b tb ts m ep N i hb hE
      by_cases q : s < o
      · rw [bncF, if_pos q] at hb
        cases hs : h[s]? with
        | none => rw [hs] at hb; cases hb
        | some s' =>
          rw [hs] at hb
          dsimp only at hb
          obtain ⟨t, hg⟩ := rd_get hm hs
          rw [← hi] at hg
          have hs5 : s ≤ 1000000 := by have := (List.getElem?_eq_some_iff.mp hs).1; omega
          refine sg_fit O.good [spLt (Int.ofNat s) (Int.ofNat o) true (ilt_t q), spGetI items s (.int (Int.ofNat s') t) hg hs5, spAddI b (Int.ofNat o) (b + Int.ofNat o) rfl, spSubI (b + Int.ofNat o) (Int.ofNat s') (b + Int.ofNat o - Int.ofNat s') rfl] [.go 5 [1, 1], .jn 0 0 [] 0 [], .go 37 [4, 1, 1, 2, 2, 2, 5, 1, 1, 1, 1, 1, 6, 1, 7, 1, 1, 0]] [0, 1] 2 [] 0 _ (fun pz => ?_) (fun z => ih s' (b + Int.ofNat o - Int.ofNat s') (z.tk 0 5) t (z.m 0) (z.e 0) z.N z.i hb hE)
          kernel_rfl
      · rw [bncF, if_neg q] at hb
        cases hb
        have hE := hE s tb ts m ep
        refine sg_fit O.good [spLt (Int.ofNat s) (Int.ofNat o) false (ilt_f q)] [.go 5 [1, 1], .jn 0 0 [] 0 [], .go 1 [4]] [0, 1] 2 [] 0 _ (fun pz => ?_) (fun z => Mn_fin (c := z.c) (r := .ok .next) (sh := ⟨_, z.N, z.i, GL, G⟩) (hE z.N z.i))
        kernel_rfl
end
theorem rd_loopC (P : Par K1) {f it rl : Nat} {x : Str} {tk : Tok} {L : Lg} {GL : Gg} {G : Nat} (hx : x.length ≤ 500) (h01 : ∀ c ∈ x.cps.toList, c = 40 ∨ c = 41) (ta to : Tok) (m : HT) (ep n N i : Nat) : Cn (U1 P) 3 (rdC P f it) ⟨(it, strIt x tk 0) :: (f, fr ([(⟨#[114, 111, 119]⟩ : Str), (⟨#[97, 114, 101, 97]⟩ : Str), (⟨#[111, 112, 101, 110, 101, 100]⟩ : Str), (⟨#[97, 104, 101, 97, 100]⟩ : Str)] ++ tn1 (⟨#[115, 105, 103, 110]⟩ : Str) none) ([.str x tk, .int 0 ta, .int (Int.ofNat 0) to, .ref rl] ++ tv1 none) m ep) :: (rl, listO ⟨[]⟩ n) :: L, N, i, GL, G⟩ fun r s' => ∃ (l' : List (Int × Tok)) (items : List Value) (ta to : Tok) (tl : T1) (m : HT) (ep n N i : Nat), items = ivs l' ∧ l'.map (·.1) = (rdA x.cps.toList 0 0 []).2.2.map Int.ofNat ∧ (rdA x.cps.toList 0 0 []).2.2.length ≤ 500 ∧ r = .ok .next ∧ s' = ⟨(f, fr ([(⟨#[114, 111, 119]⟩ : Str), (⟨#[97, 114, 101, 97]⟩ : Str), (⟨#[111, 112, 101, 110, 101, 100]⟩ : Str), (⟨#[97, 104, 101, 97, 100]⟩ : Str)] ++ tn1 (⟨#[115, 105, 103, 110]⟩ : Str) tl) ([.str x tk, .int (rdA x.cps.toList 0 0 []).1 ta, .int (Int.ofNat (rdA x.cps.toList 0 0 []).2.1) to, .ref rl] ++ tv1 tl) m ep) :: (rl, listO ⟨items⟩ n) :: L, N, i, GL, G⟩ := by
  refine Cn.of_walk fun A R O hE => ?_
  refine rd_loop P O hx x.cps.toList 0 0 0 [] [] [] ta to none m ep n N i rfl h01 (Nat.zero_le _) rfl rfl (Nat.le_refl _) fun a' o' h' e l' items ta to tl m ep n N i h1 h2 h3 => hE _ _ ⟨l', items, ta, to, tl, m, ep, n, N, i, h1, ?_, ?_, rfl, ?_⟩
  · rw [e]; exact h2
  · rw [e]; exact h3
  · rw [e]
theorem rd_whileC (P : Par K1) {f rl : Nat} {x : Str} {tk ta to : Tok} {a : Int} {o : Nat} {h : List Nat} {l : List (Int × Tok)} {items : List Value} (tl : T1) {n : Nat} {L : Lg} {GL : Gg} {G : Nat} (hi : items = ivs l) (hm : l.map (·.1) = h.map Int.ofNat) (hl : h.length ≤ 500) {r : Int} (c : Nat) (tb ts : Tok) (m : HT) (ep N i : Nat) (hb : bncF h o c 0 0 = some r) : Cn (U1 P) 3 (rdW P f) ⟨(f, fr ([(⟨#[114, 111, 119]⟩ : Str), (⟨#[97, 114, 101, 97]⟩ : Str), (⟨#[111, 112, 101, 110, 101, 100]⟩ : Str), (⟨#[97, 104, 101, 97, 100]⟩ : Str)] ++ tn1 (⟨#[115, 105, 103, 110]⟩ : Str) tl ++ [(⟨#[98, 111, 117, 110, 99, 101]⟩ : Str), (⟨#[115, 116, 111, 112]⟩ : Str)]) ([.str x tk, .int a ta, .int (Int.ofNat o) to, .ref rl] ++ tv1 tl ++ [.int 0 tb, .int (Int.ofNat 0) ts]) m ep) :: (rl, listO ⟨items⟩ n) :: L, N, i, GL, G⟩ fun q s' => ∃ s tb ts m ep N i, q = .ok .next ∧ s' = ⟨(f, fr ([(⟨#[114, 111, 119]⟩ : Str), (⟨#[97, 114, 101, 97]⟩ : Str), (⟨#[111, 112, 101, 110, 101, 100]⟩ : Str), (⟨#[97, 104, 101, 97, 100]⟩ : Str)] ++ tn1 (⟨#[115, 105, 103, 110]⟩ : Str) tl ++ [(⟨#[98, 111, 117, 110, 99, 101]⟩ : Str), (⟨#[115, 116, 111, 112]⟩ : Str)]) ([.str x tk, .int a ta, .int (Int.ofNat o) to, .ref rl] ++ tv1 tl ++ [.int r tb, .int (Int.ofNat s) ts]) m ep) :: (rl, listO ⟨items⟩ n) :: L, N, i, GL, G⟩ := by
  refine Cn.of_walk fun A R O hE => ?_
  exact rd_while P O hi hm hl c 0 0 tb ts m ep N i hb fun s tb ts m ep N i => hE _ _ ⟨s, tb, ts, m, ep, N, i, rfl, rfl⟩
theorem read_spec (P : Par K1) (x : Str) (tk : Tok) (hx : x.length ≤ 500) (ha : x.cps.all (· < 128) = true) (h01 : ∀ c ∈ x.cps.toList, c = 40 ∨ c = 41) (c : Nat) {b : Int} (hb : bncF (rdA x.cps.toList 0 0 []).2.2 (rdA x.cps.toList 0 0 []).2.1 c 0 0 = some b) (L : Lg) (N i : Nat) (GL : Gg) (G : Nat) : Cn (U1 P) 4 (.call (.ref 150) ⟨[.str x tk], []⟩) ⟨L, N, i, GL, G⟩ fun r s' => ∃ q ta tb N i, r = .ok (.ret (.ref q)) ∧ s' = ⟨(q, listO ⟨[.int (rdA x.cps.toList 0 0 []).1 ta, .int b tb]⟩ 0) :: L, N, i, GL, G⟩ := by
  refine Cn.of_fn (by kernel_rfl) fun A R O hE => ?_
  refine sg_call O [spIter x ha] [.go 42 [0, 0, 1, 1, 0, 0, 1, 1, 1, 1, 2, 2, 2], .jn 0 0 [] 0 [], .go 2 [4, 1]] [0, 2, 1] 3 [] 0 (fun z1 => rd_loopC _ hx h01 (z1.tk 1 1) (z1.tk 1 2) (z1.m 1) (z1.e 1) (z1.e 2) z1.N z1.i (f := N) (it := z1.a 0) (rl := z1.a 2) (tk := tk) (L := L) (GL := GL) (G := G)) (by omega) (fun pz => ?_) (fun pz => ?_)
  · kernel_rfl
  intro z1
  rintro r sh' ⟨l', items, ta, to, tl, m, ep, n, N', i', hi, hm, hl, rfl, rfl⟩
  generalize rdA x.cps.toList 0 0 [] = rd at hm hl hb hE
  obtain ⟨ra, ro, rh⟩ := rd
  rcases tl with _ | v4
  · refine sg_call O [] [.go 19 [1, 1, 1, 1]] [0, 1] 2 [] 0 (fun z2 => rd_whileC _ none hi hm hl c (z2.tk 0 4) (z2.tk 0 5) (z2.m 0) (z2.e 0) z2.N z2.i hb (a := ra) (o := ro) (ta := ta) (to := to) (f := N) (x := x) (tk := tk) (rl := z2.a 1) (n := n) (L := L) (GL := GL) (G := G)) (by omega) (fun pz => ?_) (fun pz => ?_)
    · kernel_rfl
    intro z2
    rintro r sh' ⟨s, tb, ts, m, ep, N', i', rfl, rfl⟩
    refine sg_fit O.good [] [.go 7 [1, 1]] [0] 3 [] 0 _ (fun pz => ?_) (fun z => Mn_fin (c := z.c) (r := .ok (.ret (.ref (z.a 0)))) (sh := ⟨(z.a 0, listO ⟨[.int ra ta, .int b tb]⟩ 0) :: L, z.N, z.i, GL, G⟩) (hE _ _ ⟨_, _, _, z.N, z.i, rfl, rfl⟩))
    kernel_rfl
  · refine sg_call O [] [.go 19 [1, 1, 1, 1]] [0, 1] 2 [] 0 (fun z2 => rd_whileC _ (some v4) hi hm hl c (z2.tk 0 5) (z2.tk 0 6) (z2.m 0) (z2.e 0) z2.N z2.i hb (a := ra) (o := ro) (ta := ta) (to := to) (f := N) (x := x) (tk := tk) (rl := z2.a 1) (n := n) (L := L) (GL := GL) (G := G)) (by omega) (fun pz => ?_) (fun pz => ?_)
    · kernel_rfl
    intro z2
    rintro r sh' ⟨s, tb, ts, m, ep, N', i', rfl, rfl⟩
    refine sg_fit O.good [] [.go 7 [1, 1]] [0] 3 [] 0 _ (fun pz => ?_) (fun z => Mn_fin (c := z.c) (r := .ok (.ret (.ref (z.a 0)))) (sh := ⟨(z.a 0, listO ⟨[.int ra ta, .int b tb]⟩ 0) :: L, z.N, z.i, GL, G⟩) (hE _ _ ⟨_, _, _, z.N, z.i, rfl, rfl⟩))
    kernel_rfl

end Mine
end
-- part L1lawc
section
set_option maxRecDepth 100000
set_option maxHeartbeats 0
set_option Elab.async false
set_option linter.unusedVariables false
namespace Mine
open PySem PySem.Spec PySem.Calls PyProof.Rows PySem.W PySem.W.X

theorem over_c (P : Par K1) (X : LX) {nest row rest r2 : List Nat} {tn tw tl : Tok} {ln ln2 : Int} {sgs : List Value} {mx : HT} {ex n1 n2 : Nat} {L : Lg} {GL : Gg} (hsg : Sg sgs rest) (hcs : rest.length ≤ 1500) (htk : tokF rest = ([], r2)) (hr2 : nls r2 = 0) (hln : ln + nls rest = ln2) {r : List Nat} (hn : nest.length ≤ 90) (hw : ∀ c ∈ nest, c < 128) (hov : ovF 9 ([40] ++ nest ++ [41]) [] [] = some r) (hr : r.drop 1 = row) (N i G : Nat) : Cn (U1 P) 8 (.call (.ref 122) ⟨[.str (tx nest) tn, .ref X.lx], []⟩) ⟨lexL P X ⟨ln, sgs, [], tl, tw, mx, ex, n1, n2⟩ ++ L, N, i, GL, G⟩ fun q s' =>
    ∃ (sgs' : List Value) (t tl : Tok) (mx : HT) (ex n1 n2 N i G : Nat), q = .ok (.ret (.str (tx row) t)) ∧ s' = ⟨lexL P X ⟨ln2, sgs', [], tl, tw, mx, ex, n1, n2⟩ ++ L, N, i, GL, G⟩ := by
  refine (over_spec P X hsg hcs (by rw [htk]) hn hw hov N i G).weaken ?_
  rintro q s' ⟨sgs', ln', t, tl, mx, ex, n1, n2, N, i, G, h1, h2, rfl, rfl⟩
  rw [htk] at h2
  dsimp only at h2
  rw [hr2] at h2
  have e : ln' = ln2 := by omega
  subst e
  exact ⟨sgs', t, tl, mx, ex, n1, n2, N, i, G, by rw [hr], rfl⟩
theorem levels_c (P : Par K1) (x : List Nat) {lv : List Int} (e : levF x 0 [] = lv) (tk : Tok) (hx : (tx x).length ≤ 500) (ha : (tx x).cps.all (· < 128) = true) (L : Lg) (N i : Nat) (GL : Gg) (G : Nat) : Cn (U1 P) 3 (.call (.ref 129) ⟨[.str (tx x) tk], []⟩) ⟨L, N, i, GL, G⟩ fun r s' => ∃ (l' : List (Int × Tok)) (items : List Value) (rl n N i : Nat), items = ivs l' ∧ l'.map (·.1) = lv ∧ r = .ok (.ret (.ref rl)) ∧ s' = ⟨(rl, listO ⟨items⟩ n) :: L, N, i, GL, G⟩ := by
  refine (levels_spec P (tx x) tk hx ha L N i GL G).weaken ?_
  rintro r s' ⟨l', items, rl, n, N, i, h1, h2, h3, h4, h5⟩
  exact ⟨l', items, rl, n, N, i, h1, h2.trans e, h4, h5⟩
theorem due_c (P : Par K1) {rl n : Nat} {l : List (Int × Tok)} {lv : List Int} {items : List Value} {row : List Nat} (hil : items = ivs l) (hlv : l.map (·.1) = lv) {q : Nat} (hq : q = 5 ∨ q = 6) (hl : lv.length = q) (e : dueF lv (q + 1) 0 [] = row) (L : Lg) (N i : Nat) (GL : Gg) (G : Nat) : Cn (U1 P) 4 (.call (.ref 136) ⟨[.ref rl], []⟩) ⟨(rl, listO ⟨items⟩ n) :: L, N, i, GL, G⟩ fun r s' => ∃ t N' i', r = .ok (.ret (.str (tx row) t)) ∧ s' = ⟨(rl, listO ⟨items⟩ n) :: L, N', i', GL, G⟩ := by
  subst hlv
  exact e ▸ due_spec P hil hq (by simpa using hl) L N i GL G
theorem twos_c (P : Par K1) {rl n : Nat} {l : List (Int × Tok)} {lv : List Int} {items : List Value} {a : Int} (hil : items = ivs l) (hlv : l.map (·.1) = lv) {q : Nat} (hq : q = 5 ∨ q = 6) (hl : lv.length = q) (e : Int.ofNat (twF lv 0) = a) (L : Lg) (N i : Nat) (GL : Gg) (G : Nat) : Cn (U1 P) 5 (.call (.ref 143) ⟨[.ref rl], []⟩) ⟨(rl, listO ⟨items⟩ n) :: L, N, i, GL, G⟩ fun r s' => ∃ t N' i', r = .ok (.ret (.int a t)) ∧ s' = ⟨(rl, listO ⟨items⟩ n) :: L, N', i', GL, G⟩ := by
  subst hlv
  exact e ▸ twos_spec P hil hq (by simpa using hl) L N i GL G
theorem sum_c {U : Bs} {a n : Nat} {l : List (Int × Tok)} {lv : List Int} {b : Int} {items : List Value} (hi : items = ivs l) (hlv : l.map (·.1) = lv) (e : lv.sum = b) {L : Lg} {N i : Nat} {GL : Gg} {G : Nat} : Cn U 1 (.call (.builtin "sum") ⟨[.ref a], []⟩) ⟨(a, listO ⟨items⟩ n) :: L, N, i, GL, G⟩ fun r s' => ∃ t N' i', r = .ok (.ret (.int b t)) ∧ s' = ⟨(a, listO ⟨items⟩ n) :: L, N', i', GL, G⟩ := by
  subst hlv
  exact e ▸ sum_cn hi
theorem read_c (P : Par K1) (x : List Nat) (tk : Tok) (hx : (tx x).length ≤ 500) (ha : (tx x).cps.all (· < 128) = true) (h01 : ∀ c ∈ x, c = 40 ∨ c = 41) {o c : Nat} {h : List Nat} {a b : Int} (hr : rdA x 0 0 [] = (a, o, h)) (hb : bncF h o c 0 0 = some b) (L : Lg) (N i : Nat) (GL : Gg) (G : Nat) : Cn (U1 P) 4 (.call (.ref 150) ⟨[.str (tx x) tk], []⟩) ⟨L, N, i, GL, G⟩ fun r s' => ∃ q ta tb N i, r = .ok (.ret (.ref q)) ∧ s' = ⟨(q, listO ⟨[.int a ta, .int b tb]⟩ 0) :: L, N, i, GL, G⟩ := by
  have hr' : rdA (tx x).cps.toList 0 0 [] = (a, o, h) := hr
  have := read_spec P (tx x) tk hx ha h01 c (b := b) (by rw [hr']; exact hb) L N i GL G
  rw [hr'] at this
  exact this
section
variable {A : Around} {R : Result → Shared → Prop}
theorem law_3 (P : Par K1) (O : Lvl A 9) {f pl n : Nat} {X : LX} {sv cd : Value} {pv sgs : List Value} {ne tt wr rest r2 row r : List Nat} {lv : List Int} {p : Nat} {t1 t3 t4 t5 t7 tl tw : Tok} {m mx : HT} {ln : Int} {ep ex n1 n2 N i G : Nat} {L : Lg} {GL : Gg}
    (hsg : Sg sgs rest) (hcs : rest.length ≤ 1500) (hln : ln + nls rest = 1 + nls wr) (htk : tokF rest = ([], r2)) (hr2 : nls r2 = 0) (hn : ne.length ≤ 90) (hw : ∀ c ∈ ne, c < 128) (hna : (tx ne).cps.all (· < 128) = true) (hov : ovF 9 ([40] ++ ne ++ [41]) [] [] = some r) (hr : r.drop 1 = row) (hlv : levF ne 0 [] = lv) (hp : p = 5 ∨ p = 6) (hl : lv.length = p) (hdue : dueF lv (p + 1) 0 [] = row) (hrn : ((tx row).cps.toList != (tx row).cps.toList) = false)
    (hrl : (tx row).length ≤ 500) (hra : (tx row).cps.all (· < 128) = true) (hck : checkS (tx row) = true) (hrl2 : (tx row.reverse).length ≤ 500) (hra2 : (tx row.reverse).cps.all (· < 128) = true) (hck2 : checkS (tx row.reverse) = false)
    (hK : ∀ (l : List (Int × Tok)) (items : List Value) (rl n' : Nat) (t8 : Tok) (sgs : List Value) (tl : Tok) (mx : HT) (ex n1 n2 : Nat) (m : HT) (ep N i G : Nat), items = ivs l → l.map (·.1) = lv → Mn ((U1 P).V A R) (lawS P f 14 ⟨(f, fr [(⟨#[115, 99, 114, 105, 112, 116]⟩ : Str), (⟨#[110, 101, 115, 116]⟩ : Str), (⟨#[99, 111, 100, 101]⟩ : Str), (⟨#[116, 101, 120, 116]⟩ : Str), (⟨#[119, 114, 105, 116, 116, 101, 110]⟩ : Str), (⟨#[108, 101, 120, 101, 114]⟩ : Str), (⟨#[119, 111, 114, 100]⟩ : Str), (⟨#[112, 105, 101, 99, 101, 115]⟩ : Str), (⟨#[98, 97, 114, 101]⟩ : Str), (⟨#[114, 111, 119]⟩ : Str), (⟨#[108, 101, 118, 101, 108, 115]⟩ : Str)] [sv, .str (tx ne) t1, cd, .str (tx tt) t3, .str (tx wr) t4, .ref X.lx, .str (tx tt) t5, .ref pl, .str (tx ne) t7, .str (tx row) t8, .ref rl] m ep) :: (rl, listO ⟨items⟩ n') :: (pl, listO ⟨pv⟩ n) :: (lexL P X ⟨1 + (nls wr : Int), sgs, [], tl, tw, mx, ex, n1, n2⟩ ++ L), N, i, GL, G⟩)) :
    Mn ((U1 P).V A R) (lawS P f 10 ⟨(f, fr [(⟨#[115, 99, 114, 105, 112, 116]⟩ : Str), (⟨#[110, 101, 115, 116]⟩ : Str), (⟨#[99, 111, 100, 101]⟩ : Str), (⟨#[116, 101, 120, 116]⟩ : Str), (⟨#[119, 114, 105, 116, 116, 101, 110]⟩ : Str), (⟨#[108, 101, 120, 101, 114]⟩ : Str), (⟨#[119, 111, 114, 100]⟩ : Str), (⟨#[112, 105, 101, 99, 101, 115]⟩ : Str), (⟨#[98, 97, 114, 101]⟩ : Str)] [sv, .str (tx ne) t1, cd, .str (tx tt) t3, .str (tx wr) t4, .ref X.lx, .str (tx tt) t5, .ref pl, .str (tx ne) t7] m ep) :: (pl, listO ⟨pv⟩ n) :: (lexL P X ⟨ln, sgs, [], tl, tw, mx, ex, n1, n2⟩ ++ L), N, i, GL, G⟩) := by
  have hnl : (tx ne).length ≤ 500 := by show ne.length ≤ 500; omega
  have hrev : (tx row).cps.toList.reverse = (tx row.reverse).cps.toList := rfl
  have hcnt : (tx wr).cps.toList.countP (· == 10) = nls wr := rfl
  have hrl6 : (tx row).length ≤ 1000000 := by omega
  obtain ⟨ln2, hln2⟩ : ∃ z, z = 1 + (nls wr : Int) := ⟨_, rfl⟩
  have hin : (ln2 != 1 + Int.ofNat (nls wr)) = false := by rw [hln2]; exact bne_self_eq_false _
  rw [← hln2] at hln hK
  refine sg_call O [] [.go 9 [0, 1, 1, 0]] [2, 3, 4, 5, 6, 7, 8, 9, 10, 0, 1] 11 [] 0 (fun z1 => over_c _ X hsg hcs htk hr2 hln hn hw hov hr z1.N z1.i z1.G (tn := t7) (tl := tl) (tw := tw) (mx := mx) (ex := ex) (n1 := n1) (n2 := n2) (L := (f, obAt z1 9) :: (pl, obAt z1 10) :: L) (GL := GL)) (by omega) (fun pz => ?_) (fun pz => ?_)
  · kernel_rfl
  intro z1
  rintro r sh' ⟨sgs', t8, tl, mx, ex, n1, n2, N', i', G', rfl, rfl⟩
  refine sg_call O [] [.go 15 [10, 10, 0, 10, 0]] [9, 10, 0, 1, 2, 3, 4, 5, 6, 7, 8] 11 [] 0 (fun z2 => levels_c _ ne hlv t1 hnl hna ((f, obAt z2 0) :: (pl, obAt z2 1) :: (X.lx, obAt z2 2) :: (X.ld, obAt z2 3) :: (X.pb, obAt z2 4) :: (X.st, obAt z2 5) :: (X.sd, obAt z2 6) :: (X.rd, obAt z2 7) :: (X.cd, obAt z2 8) :: (X.cell, obAt z2 9) :: (X.sg, obAt z2 10) :: L) z2.N z2.i GL z2.G) (by omega) (fun pz => ?_) (fun pz => ?_)
  · kernel_rfl
  intro z2
  rintro r sh' ⟨l, items, rl, n', N', i', hil, hlm, rfl, rfl⟩
  refine sg_call O [] [.go 17 [2, 2, 2, 0, 2, 0]] [0, 1, 2, 3, 4, 5, 6, 7, 8, 9, 10, 11] 12 [] 0 (fun z3 => due_c _ (rl := rl) hil hlm hp hl hdue ((f, obAt z3 1) :: (pl, obAt z3 2) :: (X.lx, obAt z3 3) :: (X.ld, obAt z3 4) :: (X.pb, obAt z3 5) :: (X.st, obAt z3 6) :: (X.sd, obAt z3 7) :: (X.rd, obAt z3 8) :: (X.cd, obAt z3 9) :: (X.cell, obAt z3 10) :: (X.sg, obAt z3 11) :: L) z3.N z3.i GL z3.G (n := n')) (by omega) (fun pz => ?_) (fun pz => ?_)
  · kernel_rfl
  intro z3
  rintro r sh' ⟨t9, N', i', rfl, rfl⟩
  refine sg_call O [spNe (tx row) (tx row) false hrn, spCount (tx wr) 10 (nls wr) hcnt, spAddI 1 (Int.ofNat (nls wr)) (1 + Int.ofNat (nls wr)) rfl, spINe ln2 (1 + Int.ofNat (nls wr)) false hin] [.go 2 [], .jn 0 0 [] 0 [], .go 32 [4, 2, 4, 0, 0, 0, 0, 4, 0, 0, 0, 4, 4, 0, 5, 2, 5, 6], .jn 0 0 [] 0 [], .go 8 [7, 0, 2, 0]] [1, 0, 2, 3, 4, 5, 6, 7, 8, 9, 10, 11] 12 [] 0 (fun z4 => check_b _ (tx row) t8 true hck hrl hra ⟨(f, obAt z4 0) :: (rl, obAt z4 1) :: (pl, obAt z4 2) :: (X.lx, obAt z4 3) :: (X.ld, obAt z4 4) :: (X.pb, obAt z4 5) :: (X.st, obAt z4 6) :: (X.sd, obAt z4 7) :: (X.rd, obAt z4 8) :: (X.cd, obAt z4 9) :: (X.cell, obAt z4 10) :: (X.sg, obAt z4 11) :: L, z4.N, z4.i, GL, z4.G⟩) (by omega) (fun pz => ?_) (fun pz => ?_)
  · kernel_rfl
  intro z4
  rintro r sh' ⟨N', i', G', rfl, rfl⟩
  refine sg_call O [spRev (tx row) (tx row.reverse) hrev hrl6] [.go 17 [0, 1, 0, 0, 4, 0, 0]] [1, 2, 3, 4, 5, 6, 7, 8, 9, 10, 11, 12] 13 [] 0 (fun z5 => check_b _ (tx row.reverse) (argT z5.t 0) false hck2 hrl2 hra2 ⟨(f, obAt z5 0) :: (rl, obAt z5 1) :: (pl, obAt z5 2) :: (X.lx, obAt z5 3) :: (X.ld, obAt z5 4) :: (X.pb, obAt z5 5) :: (X.st, obAt z5 6) :: (X.sd, obAt z5 7) :: (X.rd, obAt z5 8) :: (X.cd, obAt z5 9) :: (X.cell, obAt z5 10) :: (X.sg, obAt z5 11) :: L, z5.N, z5.i, GL, z5.G⟩) (by omega) (fun pz => ?_) (fun pz => ?_)
  · kernel_rfl
  intro z5
  rintro r sh' ⟨N', i', G', rfl, rfl⟩
  refine sg_fit O.good [] [.go 2 []] [0, 1, 2, 3, 4, 5, 6, 7, 8, 9, 10, 11] 12 [] 0 _ (fun pz => ?_) (fun z => hK l items rl n' t8 sgs' tl mx ex n1 n2 (z.m 0) (z.e 0) z.N z.i z.G hil hlm)
  kernel_rfl
end

end Mine
end
-- part L1lawd
section
set_option maxRecDepth 100000
set_option maxHeartbeats 0
set_option Elab.async false
set_option linter.unusedVariables false
namespace Mine
open PySem PySem.Spec PySem.Calls PyProof.Rows PySem.W PySem.W.X

section
variable {A : Around} {R : Result → Shared → Prop}
theorem law_4 (P : Par K1) (O : Lvl A 9) {f rl n : Nat} {lxv sv cd plv : Value} {items : List Value} {l : List (Int × Tok)} {ne tt wr row h : List Nat} {lv : List Int} {p o c : Nat} {a b : Int} {t1 t3 t4 t5 t7 t8 : Tok} {m : HT} {ep N i G : Nat} {L : Lg} {GL : Gg}
    (hil : items = ivs l) (hlm : l.map (·.1) = lv) (hp : p = 5 ∨ p = 6) (hl : lv.length = p) (hrl : (tx row).length ≤ 500) (hra : (tx row).cps.all (· < 128) = true) (h01 : ∀ c ∈ row, c = 40 ∨ c = 41) (hr : rdA row 0 0 [] = (a, o, h)) (hb : bncF h o c 0 0 = some b) (ha : Int.ofNat (twF lv 0) = a) (hs : lv.sum = b)
    (hE : ∀ N i G, Ends ((U1 P).V A R) (.ok (.ret (.bool true))) ⟨L, N, i, GL, G⟩) :
    Mn ((U1 P).V A R) (lawS P f 14 ⟨(f, fr [(⟨#[115, 99, 114, 105, 112, 116]⟩ : Str), (⟨#[110, 101, 115, 116]⟩ : Str), (⟨#[99, 111, 100, 101]⟩ : Str), (⟨#[116, 101, 120, 116]⟩ : Str), (⟨#[119, 114, 105, 116, 116, 101, 110]⟩ : Str), (⟨#[108, 101, 120, 101, 114]⟩ : Str), (⟨#[119, 111, 114, 100]⟩ : Str), (⟨#[112, 105, 101, 99, 101, 115]⟩ : Str), (⟨#[98, 97, 114, 101]⟩ : Str), (⟨#[114, 111, 119]⟩ : Str), (⟨#[108, 101, 118, 101, 108, 115]⟩ : Str)] [sv, .str (tx ne) t1, cd, .str (tx tt) t3, .str (tx wr) t4, lxv, .str (tx tt) t5, plv, .str (tx ne) t7, .str (tx row) t8, .ref rl] m ep) :: (rl, listO ⟨items⟩ n) :: L, N, i, GL, G⟩) := by
  refine Mn_rt O.good (b := (bodyOf (kt P) 155).drop 14) (env := envAt (kt P) 155 f) (by kernel_rfl) ?_
  refine sg_call O [] [.go 7 [0, 1, 0]] [0, 1] 2 [] 0 (fun z1 => read_c _ row t8 hrl hra h01 hr hb ((f, obAt z1 0) :: (rl, obAt z1 1) :: L) z1.N z1.i GL z1.G) (by omega) (fun pz => ?_) (fun pz => ?_)
  · kernel_rfl
  intro z1
  rintro r sh' ⟨q, ta, tb, N', i', rfl, rfl⟩
  refine sg_call O [] [.go 8 [0, 2, 0]] [2, 1, 0] 3 [] 0 (fun z2 => twos_c _ (rl := rl) (n := n) hil hlm hp hl ha ((f, obAt z2 1) :: (q, obAt z2 2) :: L) z2.N z2.i GL z2.G) (by omega) (fun pz => ?_) (fun pz => ?_)
  · kernel_rfl
  intro z2
  rintro r sh' ⟨tc, N', i', rfl, rfl⟩
  refine sg_call O [] [.go 7 [0, 0, 2]] [0, 1, 2] 3 [] 0 (fun z3 => sum_c (a := rl) (n := n) hil hlm hs (L := (f, obAt z3 1) :: (q, obAt z3 2) :: L) (N := z3.N) (i := z3.i) (GL := GL) (G := z3.G)) (by omega) (fun pz => ?_) (fun pz => ?_)
  · kernel_rfl
  intro z3
  rintro r sh' ⟨td, N', i', rfl, rfl⟩
  refine sg_fit O.good [spLEq [.int a ta, .int b tb] [.int a tc, .int b td] rfl eq_ints2] [.go 6 [4, 1, 4], .jn 0 0 [] 0 [], .go 2 [4, 3, 0]] [] 4 [] 0 _ (fun pz => ?_) (fun z => Mn_fin (c := z.c) (r := .ok (.ret (.bool true))) (sh := ⟨L, z.N, z.i, GL, z.G⟩) (hE z.N z.i z.G))
  kernel_rfl
end

end Mine
end
-- part L1lawe
section
set_option maxRecDepth 100000
set_option maxHeartbeats 0
set_option Elab.async false
set_option linter.unusedVariables false
namespace Mine
open PySem PySem.Spec PySem.Calls PyProof.Rows PySem.W PySem.W.X

/-- what the law's parts come to -/
structure LF (p bits cd : Nat) (ne tt t0 wr rest r2 row r h : List Nat) (lv : List Int) (a b : Int) (c0 o c : Nat) : Prop where
  hp : p = 5 ∨ p = 6
  e1 : rowF p bits (2 * p) 0 0 [] = ne
  hnl : ne.length = 2 * p
  n01 : ∀ c ∈ ne, c = 40 ∨ c = 41
  e2 : dreF ne 0 (cd % 432) [] = (t0, c0)
  hc0 : c0 < 2
  e3 : t0 ++ (if c0 = 0 then [] else [92]) = tt
  htn : tt ≠ []
  htl : tt.length ≤ 120
  hta : ∀ c ∈ tt, c < 128
  hcd2 : cd / 432 < 12
  e4 : wrF tt (cd / 432) = wr
  hwl : wr.length ≤ 1000
  hwa : ∀ c ∈ wr, c < 128
  e5 : tokF wr = (tt, rest)
  hck : checkS (tx tt) = true
  hpc : ∀ p ∈ pcs (stripS (tx tt)).cps.toList 0, PcOk p.2
  hps : (pcs (stripS (tx tt)).cps.toList 0).length ≤ 500
  hbr : catS (((pcs (stripS (tx tt)).cps.toList 0).map (·.2)).filter isB) = tx ne
  hcs : rest.length ≤ 1500
  htk : tokF rest = ([], r2)
  hr2 : nls r2 = 0
  hov : ovF 9 ([40] ++ ne ++ [41]) [] [] = some r
  hr : r.drop 1 = row
  hlv : levF ne 0 [] = lv
  hl : lv.length = p
  hdue : dueF lv (p + 1) 0 [] = row
  hrl : row.length ≤ 500
  r01 : ∀ c ∈ row, c = 40 ∨ c = 41
  hck1 : checkS (tx row) = true
  hck2 : checkS (tx row.reverse) = false
  hrd : rdA row 0 0 [] = (a, o, h)
  hb : bncF h o c 0 0 = some b
  ha : Int.ofNat (twF lv 0) = a
  hs : lv.sum = b
theorem asc {l : List Nat} (h : ∀ c ∈ l, c < 128) : (tx l).cps.all (· < 128) = true := by
  show (Array.all ⟨l⟩ _) = true
  simp only [List.all_toArray, List.all_eq_true, decide_eq_true_eq]; exact h
theorem asc01 {l : List Nat} (h : ∀ c ∈ l, c = 40 ∨ c = 41) : ∀ c ∈ l, c < 128 := fun c hc => by rcases h c hc with rfl | rfl <;> decide
theorem bne_tx (l : List Nat) : ((tx l).cps.toList != (tx l).cps.toList) = false := bne_self_eq_false _
theorem PcOk.len {x : Str} (h : PcOk x) : x.length ≤ 500 := by
  unfold PcOk at h
  simp only [List.mem_cons, List.not_mem_nil, or_false] at h
  rcases h with h | h | h | h | h | h | h <;> rw [str_of h] <;> decide
section
variable {A : Around} {R : Result → Shared → Prop}
theorem law_all (P : Par K1) (O : Lvl A 9) {sc : Nat} {items : List Value} {l : List (Int × Tok)} (hi : items = ivs l) (hl : l.length ≤ 63)
    {s2 : Int} {bits p cd : Nat} (hb : ((l.map (·.1)).sum + 138).fmod 4096 = Int.ofNat bits) (hpp : 5 + (min 2 l.length) / 2 = p)
    (hs2 : ∀ l2 : List (Int × Tok), (slicePick ⟨items⟩ none (some 63) (some 2)).toList = ivs l2 → (l2.map (·.1)).sum = s2) (hcd : (s2 + 3248).fmod 5184 = Int.ofNat cd)
    {ne tt t0 wr rest r2 row r h : List Nat} {lv : List Int} {a b : Int} {c0 o c : Nat} (F : LF p bits cd ne tt t0 wr rest r2 row r h lv a b c0 o c) (L : Lg) (N i : Nat) (GL : Gg) (G : Nat)
    (hE : ∀ L' N i G, (sc, listO ⟨items⟩ 0) ∈ L' → Ends ((U1 P).V A R) (.ok (.ret (.bool true))) ⟨L', N, i, GL, G⟩) :
    Mn ((U1 P).V A R) (fn 155 [.ref sc] ⟨(sc, listO ⟨items⟩ 0) :: (110, tableObj #[]) :: L, N, i, GL, G⟩) := by
  have hp := F.hp
  have hnl := F.hnl
  have htl := F.htl
  have hrl := F.hrl
  have hna := asc01 F.n01
  have hra := asc01 F.r01
  refine law_1 P A R O hi hl hb hpp F.hp hs2 hcd F.e1 F.hnl F.e2 F.hc0 F.e3 F.htn F.htl F.hcd2 F.e4 F.hwl F.hwa F.e5 L N i GL G ?_
  intro X sgs ln t1 t2 t3 t4 t5 tl tw mx ex n1 n2 m ep N' i' hsg hln
  refine law_2 P O (bne_tx tt) (by show tt.length ≤ 500; omega) (asc F.hta) F.hck F.hpc F.hps (fun q hq => (F.hpc q hq).len) F.hbr (bne_tx ne) ?_
  intro pl pv n t7 m ep N' i' G
  refine law_3 P O hsg F.hcs hln F.htk F.hr2 (by omega) hna (asc hna) F.hov F.hr F.hlv F.hp F.hl F.hdue (bne_tx row) (by show row.length ≤ 500; omega) (asc hra) F.hck1 (by show row.reverse.length ≤ 500; rw [List.length_reverse]; omega) (asc fun c hc => hra c (List.mem_reverse.mp hc)) F.hck2 ?_
  intro l' items' rl n' t8 sgs tl mx ex n1 n2 m ep N' i' G hil hlm
  refine law_4 P O hil hlm F.hp F.hl (by show row.length ≤ 500; omega) (asc hra) F.r01 F.hrd F.hb F.ha F.hs ?_
  intro N' i' G
  refine hE _ N' i' G ?_
  refine List.mem_cons_of_mem _ (List.mem_append.mpr (.inr (List.mem_cons_self ..)))
end
theorem pop_at {α : Type} {xs : Array α} {b : Nat} (hb : b < xs.size - 1) : xs.pop[b]? = xs[b]? := by
  rw [Array.getElem?_pop]
  simp [hb]
/-- the heap without the script -/
noncomputable def bare (h : Heap) : Heap := { h with objs := h.objs.pop }
theorem bare_get {h : Heap} {b : Nat} {o : Obj} (hb : b < h.objs.size - 1) (e : h.get? b = some o) : (bare h).get? b = some o := by
  unfold Heap.get? bare at *
  rw [pop_at hb]
  exact e
theorem get_bare {h : Heap} {b : Nat} {o : Obj} (e : (bare h).get? b = some o) : h.get? b = some o := by
  have hb := Heap.lt_size e
  have hb : b < h.objs.size - 1 := by simpa [bare] using hb
  unfold Heap.get? bare at *
  rw [pop_at hb] at e
  exact e
theorem ivs_inj : ∀ {a b : List (Int × Tok)}, ivs a = ivs b → a = b
  | [], [], _ => rfl
  | p :: a, q :: b, h => by
    unfold ivs at h
    rw [List.map_cons, List.map_cons] at h
    injection h with h1 h2
    injection h1 with h3 h4
    rw [show p = q from Prod.ext h3 h4, ivs_inj (a := a) (b := b) h2]
theorem ints_ivs {vs : List Value} {ns : List Int} (h : IntsAre vs ns) : ∃ l, vs = ivs l ∧ l.map (·.1) = ns := by
  obtain ⟨xs, hx⟩ := h.allInts.items
  refine ⟨xs.toList, ?_, ?_⟩
  · have := congrArg Array.toList hx
    rw [show vs.toArray.toList = vs from rfl] at this
    rw [this]; unfold intItems ivs; simp
  · have h1 : numsOf vs.toArray.toList = ns := by rw [show vs.toArray.toList = vs from rfl]; exact h.numsOf
    rw [hx, nums_intItems] at h1
    exact h1
theorem led_end {h₀ h : Heap} {n : Nat} {o : Obj} {L : Lg} {N : Nat} (D : Led (bare h₀) h [] L N) (hn : h₀.objs.size = n + 1) (ho : h₀.get? n = some o) (hm : (n, o) ∈ L) : OldK h₀ h := by
  have hb : ∀ b o', h₀.get? b = some o' → (b = n ∧ o' = o) ∨ (bare h₀).get? b = some o' := fun b o' e => by
    have h1 := Heap.lt_size e
    by_cases q : b = n
    · subst q
      rw [ho] at e
      exact .inl ⟨rfl, (Option.some.inj e).symm⟩
    · exact .inr (bare_get (by rw [hn] at h1 ⊢; exact Nat.lt_of_le_of_ne (Nat.le_of_lt_succ h1) q) e)
  refine ⟨fun b o' e => ?_, fun b o' e => ?_⟩
  · rcases hb b o' e with ⟨rfl, rfl⟩ | e
    · exact .inl (D.nw _ hm).1
    · rcases D.old b o' e with x | ⟨c, ps, more, t, rfl, x⟩
      · exact .inl x
      · exact .inr (.inl ⟨(t.keeps fun _ _ q => get_bare q).isCodeTable, rfl, ps, more, rfl, x⟩)
  · rcases hb b o' e with ⟨rfl, rfl⟩ | e
    · exact ⟨_, (D.nw _ hm).1⟩
    · rcases D.old b o' e with x | ⟨c, ps, more, t, rfl, x⟩
      · exact ⟨_, x⟩
      · exact ⟨_, x⟩
theorem fmod_nat (x : Int) (n : Nat) (hn : 0 < n) : ∃ k : Nat, k < n ∧ x.fmod (n : Int) = Int.ofNat k := by
  have h1 : x.fmod (n : Int) = x % (n : Int) := Int.fmod_eq_emod_of_nonneg x (by omega)
  have h2 : 0 ≤ x % (n : Int) := Int.emod_nonneg x (by omega)
  have h3 : x % (n : Int) < n := Int.emod_lt_of_pos x (by omega)
  refine ⟨(x % (n : Int)).toNat, by omega, ?_⟩
  rw [h1]
  show _ = (((x % (n : Int)).toNat : Nat) : Int)
  omega
noncomputable def fieldsOf (o : Obj) : Array Value := match o.data with
  | .fields vs => vs
  | _ => #[]
theorem walk_of (plain : ∀ p bits cd, p = 5 ∨ p = 6 → bits < 4096 → cd < 5184 → ∃ ne tt t0 wr rest r2 row r h lv a b c0 o c, LF p bits cd ne tt t0 wr rest r2 row r h lv a b c0 o c) : Walk PySem.Challenge.pw_rs0132_01 155 156 589 K1 := by
  intro w s ns vs Q E hg hH hsz htk hL hi hlen hlay hob hQ
  obtain ⟨l, rfl, hln⟩ := ints_ivs hi
  have hl63 : l.length ≤ 63 := by have := congrArg List.length hln; simp only [List.length_map] at this; omega
  obtain ⟨bits, hbl, hb⟩ := fmod_nat ((l.map (·.1)).sum + 138) 4096 (by decide)
  obtain ⟨l3, hl3⟩ := ivs_sub _ l (fun v hv => pick_sub (ivs l) none (some 63) (some 2) v hv)
  obtain ⟨cd, hcl, hcd⟩ := fmod_nat ((l3.map (·.1)).sum + 3248) 5184 (by decide)
  have hp : 5 + (min 2 l.length) / 2 = 5 ∨ 5 + (min 2 l.length) / 2 = 6 := by omega
  obtain ⟨ne, tt, t0, wr, rest, r2, row, r, h, lv, a, b, c0, o, c, F⟩ := plain _ bits cd hp hbl hcl
  have hs2 : ∀ l2 : List (Int × Tok), (slicePick ⟨ivs l⟩ none (some 63) (some 2)).toList = ivs l2 → (l2.map (·.1)).sum = (l3.map (·.1)).sum := fun l2 e => by rw [ivs_inj (hl3.symm.trans e)]
  have hkt : ∀ a o, (K1 w.params).get a = some o → (bare s.heap).get? a = some o := fun a o e => by
    have h1 := kt_at hH e
    have h2 := Heap.lt_size h1
    refine bare_get ?_ h1
    by_cases q : a = 156
    · subst q
      have : (K1 w.params).get 156 = none := by kernel_rfl
      rw [this] at e; cases e
    · rw [hsz] at h2 ⊢; exact Nat.lt_of_le_of_ne (Nat.le_of_lt_succ h2) q
  let P : Par K1 := { w₀ := w, b1 := w.params.followText "special-get-raises", b2 := w.params.followText "comprehension-iter-twice", b3 := w.params.followText "for-iterable-display-folded", h₀ := bare s.heap, d := s.drawn, t₀ := s.toks, os := s.os, ok := by rw [wset_self]; exact hkt }
  refine wpAny_call ?_
  have C : Cn (U1 P) 9 (.call (.ref 155) ⟨[.ref 156], []⟩) ⟨[(156, listO ⟨ivs l⟩ 0), (110, tableObj #[])], 157, 0, [], 0⟩ fun r s' => r = .ok (.ret (.bool true)) ∧ (156, listO ⟨ivs l⟩ 0) ∈ s'.L := by
    refine Cn.of_fn (by kernel_rfl) fun A R O hE => ?_
    exact law_all P O rfl hl63 hb rfl hs2 hcd F [] 157 0 [] 0 fun L' N i G hm => hE _ _ ⟨rfl, hm⟩
  have hw : (U1 P).w = w := wset_self w
  have hr := C callerA (fun r s' => match r with | .ok (.ret v) => Q v s' | .ok _ => False | .error e => E e s') s.heap #[] ⟨rfl, by decide, by decide⟩ ?_ ?_ ?_
  · rw [hw] at hr
    obtain ⟨hp, g, d, t, os⟩ := s
    dsimp only at hg
    subst hg
    exact hr
  · refine ⟨hsz, ?_, fun b o e => .inl (get_bare e), fun q hq => ?_, List.nodup_cons.mpr ⟨by show 156 ∉ [110]; decide, List.nodup_cons.mpr ⟨by show 110 ∉ []; decide, List.nodup_nil⟩⟩⟩
    · show (s.heap.objs.pop).size ≤ 157
      rw [Array.size_pop]; omega
    · rcases List.mem_cons.mp hq with rfl | hq
      · refine ⟨hob, .inl ?_⟩
        show (s.heap.objs.pop).size ≤ 156
        rw [Array.size_pop]; omega
      · obtain rfl := List.mem_singleton.mp hq
        have e1 : (K1 w.params).get 110 = some (tableObj #[]) := by kernel_rfl
        have e2 : (K1 w.params).get 114 = some (((K1 w.params).get 114).getD default) := by kernel_rfl
        have e3 : (((K1 w.params).get 114).getD default).cls = .type "code" := by kernel_rfl
        have e4 : (((K1 w.params).get 114).getD default).data = .fields (fieldsOf (((K1 w.params).get 114).getD default)) := by kernel_rfl
        have e5 : (fieldsOf (((K1 w.params).get 114).getD default))[11]? = some (.ref 110) := by kernel_rfl
        exact ⟨kt_at hH e1, .inr ⟨114, #[], #[], ⟨⟨_, _, hkt _ _ e2, e3, e4, e5⟩, hkt _ _ e1⟩, rfl⟩⟩
  · exact ⟨rfl, fun p hp => (nomatch hp), List.nodup_nil, fun z hz => by simp at hz⟩
  · rintro r s' ⟨rfl, hm⟩ h' g' D' DG'
    exact hQ _ (led_end D' hsz hob hm) rfl DG'.bare

end Mine
end
-- part Pl1
section
set_option maxRecDepth 100000
namespace Mine
open PySem PySem.Spec PySem.Calls PyProof.Rows PySem.W PySem.W.X
noncomputable def spC (c : Nat) : List Nat := if c = 92 then [92, 92] else if c = 34 then [92, 34] else [c]
theorem spell_cons (c : Nat) (l : List Nat) : spell (c :: l) = spC c ++ spell l := by
  unfold spell spC
  show repL 34 [92, 34] ((if c = 92 then [92, 92] else [c]) ++ repL 92 [92, 92] l) = _
  rw [repL_append]
  congr 1
  by_cases h : c = 92
  · subst h; rfl
  · rw [if_neg h, if_neg h]
    by_cases h2 : c = 34
    · subst h2; rfl
    · rw [if_neg h2]
      show (if c = 34 then [92, 34] else [c]) ++ [] = [c]
      rw [if_neg h2]; rfl
theorem spell_nil : spell [] = [] := rfl
theorem quo_step (c : Nat) (X tok : List Nat) (h1 : c ≠ 34) (h2 : c ≠ 92) (hX : X ≠ []) : quoF (c :: X) tok = quoF X (tok ++ [c]) := by
  cases X with
  | nil => exact absurd rfl hX
  | cons d cs => simp [quoF, h1, h2]
theorem quo_esc (d : Nat) (X tok : List Nat) : quoF (92 :: d :: X) tok = quoF X (tok ++ [d]) := by simp [quoF]
theorem quo_close (rest tok : List Nat) : quoF (34 :: rest) tok = (tok, some rest) := by cases rest <;> simp [quoF]
theorem quo_spell (rest : List Nat) : ∀ (l tok : List Nat), quoF (spell l ++ 34 :: rest) tok = (tok ++ l, some rest)
  | [], tok => by rw [spell_nil, List.nil_append, quo_close, List.append_nil]
  | c :: l, tok => by
    rw [spell_cons]
    unfold spC
    by_cases h : c = 92
    · subst h
      rw [if_pos rfl]
      show quoF (92 :: 92 :: (spell l ++ 34 :: rest)) tok = _
      rw [quo_esc, quo_spell rest l]; simp
    · rw [if_neg h]
      by_cases h2 : c = 34
      · subst h2
        rw [if_pos rfl]
        show quoF (92 :: 34 :: (spell l ++ 34 :: rest)) tok = _
        rw [quo_esc, quo_spell rest l]; simp
      · rw [if_neg h2]
        show quoF (c :: (spell l ++ 34 :: rest)) tok = _
        rw [quo_step c _ tok h2 h (by simp), quo_spell rest l]; simp
theorem quo_open : ∀ (l tok : List Nat), quoF (spell l) tok = (tok ++ l, none)
  | [], tok => by rw [spell_nil, List.append_nil]; simp [quoF]
  | c :: l, tok => by
    rw [spell_cons]
    unfold spC
    by_cases h : c = 92
    · subst h
      rw [if_pos rfl]
      show quoF (92 :: 92 :: spell l) tok = _
      rw [quo_esc, quo_open l]; simp
    · rw [if_neg h]
      by_cases h2 : c = 34
      · subst h2
        rw [if_pos rfl]
        show quoF (92 :: 34 :: spell l) tok = _
        rw [quo_esc, quo_open l]; simp
      · rw [if_neg h2]
        show quoF (c :: spell l) tok = _
        cases q : spell l with
        | nil =>
          have : l = [] := by
            cases l with
            | nil => rfl
            | cons a l =>
              rw [spell_cons] at q
              unfold spC at q
              split at q
              · cases q
              · split at q <;> cases q
          subst this
          simp [quoF, h, h2]
        | cons d cs =>
          rw [quo_step c _ tok h2 h (by simp), ← q, quo_open l]; simp
theorem isW_92 : isW 92 = false := rfl
theorem ba_spell (rest : List Nat) : ∀ (l tok : List Nat), (∀ c ∈ l, isW c = false) → baF (spell l ++ 10 :: rest) tok = (tok ++ l, some rest)
  | [], tok, _ => by rw [spell_nil, List.nil_append, List.append_nil]; cases rest <;> rfl
  | c :: l, tok, hl => by
    have hc := hl c (.head _)
    have hl' : ∀ c ∈ l, isW c = false := fun c h => hl c (.tail _ h)
    rw [spell_cons]
    unfold spC
    by_cases h : c = 92
    · subst h
      rw [if_pos rfl]
      show baF (92 :: 92 :: (spell l ++ 10 :: rest)) tok = _
      rw [baF, if_neg (by rw [isW_92]; exact Bool.false_ne_true), if_pos rfl, ba_spell rest l _ hl']; simp
    · rw [if_neg h]
      by_cases h2 : c = 34
      · subst h2
        rw [if_pos rfl]
        show baF (92 :: 34 :: (spell l ++ 10 :: rest)) tok = _
        rw [baF, if_neg (by rw [isW_92]; exact Bool.false_ne_true), if_pos rfl, ba_spell rest l _ hl']; simp
      · rw [if_neg h2]
        show baF (c :: (spell l ++ 10 :: rest)) tok = _
        cases q : spell l ++ 10 :: rest with
        | nil => exact absurd q (by simp)
        | cons d cs =>
          rw [baF, if_neg (by rw [hc]; exact Bool.false_ne_true), if_neg h, ← q, ba_spell rest l _ hl']; simp
theorem tok_ah (j : Nat) (X : List Nat) : tokF (ahN j ++ X) = tokF X := by
  match j with
  | 0 => rfl
  | 1 => rfl
  | 2 => rfl
  | 3 => rfl
  | n + 4 => rfl
theorem tok_eq (c : Nat) (cs : List Nat) : tokF (c :: cs) = if isW c = true then tokF cs else if c = 34 then finF (quoF cs []) else if c = 92 then (match cs with
      | [] => ([], [])
      | d :: cs => finF (baF cs [d])) else finF (baF cs [c]) := by
  rw [tokF.eq_def]
  try rfl
theorem tok_mark (X : List Nat) : tokF (34 :: X) = finF (quoF X []) := by rw [tok_eq]; rfl
theorem tok_bare (c : Nat) (l rest : List Nat) (hl : ∀ d ∈ c :: l, isW d = false) : tokF (spell (c :: l) ++ 10 :: rest) = (c :: l, rest) := by
  have hc := hl c (.head _)
  have hl' : ∀ d ∈ l, isW d = false := fun d h => hl d (.tail _ h)
  rw [spell_cons]
  unfold spC
  by_cases h : c = 92
  · subst h
    rw [if_pos rfl]
    show tokF (92 :: 92 :: (spell l ++ 10 :: rest)) = _
    rw [tok_eq, if_neg (by rw [isW_92]; exact Bool.false_ne_true), if_neg (by decide), if_pos rfl]
    show finF (baF (spell l ++ 10 :: rest) [92]) = _
    rw [ba_spell rest l _ hl']; rfl
  · rw [if_neg h]
    by_cases h2 : c = 34
    · subst h2
      rw [if_pos rfl]
      show tokF (92 :: 34 :: (spell l ++ 10 :: rest)) = _
      rw [tok_eq, if_neg (by rw [isW_92]; exact Bool.false_ne_true), if_neg (by decide), if_pos rfl]
      show finF (baF (spell l ++ 10 :: rest) [34]) = _
      rw [ba_spell rest l _ hl']; rfl
    · rw [if_neg h2]
      show tokF (c :: (spell l ++ 10 :: rest)) = _
      rw [tok_eq, if_neg (by rw [hc]; exact Bool.false_ne_true), if_neg h2, if_neg h, ba_spell rest l _ hl']; rfl
theorem spell_lt : ∀ (l : List Nat), (∀ c ∈ l, c < 128) → ∀ c ∈ spell l, c < 128
  | [], _, c, h => nomatch h
  | a :: l, hl, c, h => by
    rw [spell_cons] at h
    rcases List.mem_append.mp h with h | h
    · unfold spC at h
      have ha := hl a (.head _)
      split at h
      · simp at h; omega
      · split at h
        · simp at h; omega
        · simp at h; omega
    · exact spell_lt l (fun c h => hl c (.tail _ h)) c h
theorem ah_lt (j : Nat) : ∀ c ∈ ahN j, c < 128 := by
  match j with
  | 0 => decide
  | 1 => decide
  | 2 => decide
  | 3 => decide
  | n + 4 => intro c h; exact nomatch h
/-- the written text gives the word, then nothing -/
theorem wr_facts (tt : List Nat) (k : Nat) (hn : tt ≠ []) (hl : tt.length ≤ 120) (h128 : ∀ c ∈ tt, c < 128) (hw : ∀ c ∈ tt, isW c = false) :
    (wrF tt k).length ≤ 1000 ∧ (∀ c ∈ wrF tt k, c < 128) ∧ ∃ rest, tokF (wrF tt k) = (tt, rest) ∧ rest.length ≤ 1500 ∧ tokF rest = ([], []) := by
  have g1 := repL_len 92 92 92 tt
  have g2 := repL_len 34 92 34 (repL 92 [92, 92] tt)
  have g3 := ah_len (k / 3)
  have g4 : (spell tt).length ≤ 480 := by unfold spell; omega
  have g5 := spell_lt tt h128
  have g6 := ah_lt (k / 3)
  obtain ⟨c, l, rfl⟩ : ∃ c l, tt = c :: l := by
    cases tt with
    | nil => exact absurd rfl hn
    | cons c l => exact ⟨c, l, rfl⟩
  unfold wrF
  split
  · refine ⟨by simp only [List.length_append, List.length_cons, List.length_nil]; omega, ?_, [], ?_, by decide, rfl⟩
    · intro d hd
      simp only [List.mem_append, List.mem_singleton] at hd
      rcases hd with (h | h) | rfl
      · exact g6 d h
      · exact g5 d h
      · decide
    · rw [List.append_assoc, tok_ah]
      exact tok_bare c l [] hw
  · split
    · refine ⟨by simp only [List.length_append, List.length_cons, List.length_nil]; omega, ?_, [10], ?_, by decide, rfl⟩
      · intro d hd
        simp only [List.mem_append, List.mem_cons, List.not_mem_nil, or_false] at hd
        rcases hd with ((h | rfl) | h) | rfl | rfl
        · exact g6 d h
        · decide
        · exact g5 d h
        · decide
        · decide
      · rw [List.append_assoc, List.append_assoc, tok_ah]
        show tokF (34 :: (spell (c :: l) ++ 34 :: [10])) = _
        rw [tok_mark, quo_spell]; rfl
    · refine ⟨by simp only [List.length_append, List.length_cons, List.length_nil]; omega, ?_, [], ?_, by decide, rfl⟩
      · intro d hd
        simp only [List.mem_append, List.mem_singleton] at hd
        rcases hd with (h | rfl) | h
        · exact g6 d h
        · decide
        · exact g5 d h
      · rw [List.append_assoc, tok_ah]
        show tokF (34 :: spell (c :: l)) = _
        rw [tok_mark, quo_open]; rfl
end Mine
end
-- part Pl2
section
set_option maxRecDepth 100000
namespace Mine
open PySem PySem.Spec PySem.Calls PyProof.Rows PySem.W PySem.W.X
/-- the quoted parts taken out; none if a mark stays open -/
noncomputable def st1 : Bool → List Nat → Option (List Nat)
  | false, [] => some []
  | true, [] => none
  | false, [c] => if c = 34 then none else some [c]
  | true, [c] => if c = 34 then some [] else none
  | false, c :: d :: l => if c = 92 then (st1 false l).map fun o => 92 :: d :: o else if c = 34 then st1 true (d :: l) else (st1 false (d :: l)).map fun o => c :: o
  | true, c :: d :: l => if c = 92 then st1 true l else if c = 34 then st1 false (d :: l) else st1 true (d :: l)
theorem sub_list (x : Str) (a b : Nat) (hab : a ≤ b) (hb : b ≤ x.cps.toList.length) : (sub x a b).cps.toList = (x.cps.toList.drop a).take (b - a) := by
  unfold sub pySlice cutL
  have h1 : clipN x.cps.toList.length 0 (some (Int.ofNat a)) = a := by
    unfold clipN
    have : ¬ ((a : Int) < 0) := by omega
    simp only [Int.ofNat_eq_natCast, this, if_false]
    omega
  have h2 : clipN x.cps.toList.length x.cps.toList.length (some (Int.ofNat b)) = b := by
    unfold clipN
    have : ¬ ((b : Int) < 0) := by omega
    simp only [Int.ofNat_eq_natCast, this, if_false]
    omega
  rw [h1, h2]
theorem from_list (x : Str) (a : Nat) (ha : a ≤ x.cps.toList.length) : (pySlice x (some (Int.ofNat a)) none).cps.toList = x.cps.toList.drop a := by
  unfold pySlice cutL
  have h1 : clipN x.cps.toList.length 0 (some (Int.ofNat a)) = a := by
    unfold clipN
    have : ¬ ((a : Int) < 0) := by omega
    simp only [Int.ofNat_eq_natCast, this, if_false]
    omega
  rw [h1]
  show (x.cps.toList.drop a).take (x.cps.toList.length - a) = _
  rw [List.take_of_length_le (by simp)]
noncomputable def catL (l : List Str) : List Nat := l.flatMap (·.cps.toList)
theorem catL_snoc (l : List Str) (y : Str) : catL (l ++ [y]) = catL l ++ y.cps.toList := by simp [catL]
theorem acc_close {x : Str} {s o : Nat} {acc : List Str} (h : s ≤ o) (ho : o ≤ x.cps.toList.length) : catL (if s = o then acc else acc ++ [sub x s o]) = catL acc ++ (x.cps.toList.drop s).take (o - s) := by
  by_cases e : s = o
  · subst e; simp
  · rw [if_neg e, catL_snoc, sub_list x s o h ho]
theorem take_more {l r : List Nat} {s k n : Nat} {m : List Nat} (hs : s ≤ k) (hd : l.drop k = m ++ r) (hn : m.length = n) : (l.drop s).take (k + n - s) = (l.drop s).take (k - s) ++ m := by
  have h1 : l.drop s = (l.drop s).take (k - s) ++ l.drop k := by
    have h2 := (List.take_append_drop (k - s) (l.drop s)).symm
    rw [List.drop_drop, show s + (k - s) = k from by omega] at h2
    exact h2
  rw [show k + n - s = (k - s) + n from by omega, List.take_add, List.drop_drop, show s + (k - s) = k from by omega, hd, ← hn, List.take_left]
theorem drop_succ_of {l r : List Nat} {k : Nat} {c : Nat} (h : l.drop k = c :: r) : l.drop (k + 1) = r := by
  rw [show k + 1 = 1 + k from Nat.add_comm .., Nat.add_comm 1 k, ← List.drop_drop, h]; rfl
theorem drop_lt {l r : List Nat} {k c : Nat} (h : l.drop k = c :: r) : k < l.length := by
  by_cases q : k < l.length
  · exact q
  · rw [List.drop_eq_nil_of_le (by omega)] at h; cases h
theorem isQ_one (c : Nat) : isQ ⟨#[c]⟩ = decide (c = 34) := by
  unfold isQ
  by_cases h : c = 34
  · subst h; rfl
  · rw [decide_eq_false h, beq_eq_false_iff_ne]
    intro e
    have e : [c] = [34] := e
    injection e with e _
    exact h e
theorem isQ_two (d : Nat) : isQ ⟨#[92, d]⟩ = false := by
  unfold isQ
  rw [beq_eq_false_iff_ne]
  intro e
  have e : [92, d] = [34] := e
  cases e
theorem stF_some (x : Str) : ∀ (n : Nat) (r : List Nat) (k s : Nat) (acc : List Str) (out : List Nat), r.length ≤ n → x.cps.toList.drop k = r → s ≤ k →
    (st1 false r = some out → catL (stF x (pcs r k) s none acc).2 ++ x.cps.toList.drop (stF x (pcs r k) s none acc).1 = catL acc ++ (x.cps.toList.drop s).take (k - s) ++ out) ∧
    (∀ o, s ≤ o → o < k → o < x.cps.toList.length → st1 true r = some out → catL (stF x (pcs r k) s (some o) acc).2 ++ x.cps.toList.drop (stF x (pcs r k) s (some o) acc).1 = catL acc ++ (x.cps.toList.drop s).take (o - s) ++ out) := by
  intro n
  induction n with
  | zero =>
    intro r k s acc out hn hd hs
    have : r = [] := List.eq_nil_of_length_eq_zero (Nat.le_zero.mp hn)
    subst this
    refine ⟨fun h => ?_, fun o h1 h2 h3 h => ?_⟩
    · cases h
      have hk : x.cps.toList.length ≤ k := List.drop_eq_nil_iff.mp hd
      show catL acc ++ x.cps.toList.drop s = _
      rw [List.take_of_length_le (by rw [List.length_drop]; omega), List.append_nil]
    · cases h
  | succ n ih =>
    intro r k s acc out hn hd hs
    match r, hn, hd with
    | [], hn, hd =>
      refine ⟨fun h => ?_, fun o h1 h2 h3 h => ?_⟩
      · cases h
        have hk : x.cps.toList.length ≤ k := List.drop_eq_nil_iff.mp hd
        show catL acc ++ x.cps.toList.drop s = _
        rw [List.take_of_length_le (by rw [List.length_drop]; omega), List.append_nil]
      · cases h
    | [c], hn, hd =>
      have hk := drop_succ_of hd
      refine ⟨fun h => ?_, fun o h1 h2 h3 h => ?_⟩
      · by_cases e : c = 34
        · rw [st1, if_pos e] at h; cases h
        · rw [st1, if_neg e] at h
          cases h
          rw [pcs, stF_n (by rw [isQ_one]; exact decide_eq_false e)]
          show catL acc ++ x.cps.toList.drop s = _
          have h2 := (List.take_append_drop (k - s) (x.cps.toList.drop s)).symm
          rw [List.drop_drop, show s + (k - s) = k from by omega, hd] at h2
          rw [List.append_assoc, ← h2]
      · by_cases e : c = 34
        · rw [st1, if_pos e] at h
          cases h
          rw [pcs, stF_c (by rw [isQ_one]; exact decide_eq_true e)]
          show catL (if s = o then acc else acc ++ [sub x s o]) ++ x.cps.toList.drop (k + 1) = _
          rw [hk, acc_close h1 (by omega)]
        · rw [st1, if_neg e] at h; cases h
    | c :: d :: r', hn, hd =>
      have hk := drop_succ_of hd
      have hk2 := drop_succ_of hk
      simp only [List.length_cons] at hn
      have hlt := drop_lt hd
      by_cases e : c = 92
      · subst e
        have hp : pcs (92 :: d :: r') k = (k + 1, ⟨#[92, d]⟩) :: pcs r' (k + 2) := by rw [pcs, if_pos rfl]
        rw [hp]
        have IH := fun out => ih r' (k + 2) s acc out (by omega) hk2 (by omega)
        refine ⟨fun h => ?_, fun o h1 h2 h3 h => ?_⟩
        · rw [st1, if_pos rfl] at h
          obtain ⟨o', ho', rfl⟩ := Option.map_eq_some_iff.mp h
          rw [stF_n (isQ_two d), (IH o').1 ho', take_more (m := [92, d]) (n := 2) hs hd rfl]
          simp
        · rw [st1, if_pos rfl] at h
          rw [stF_n (isQ_two d)]
          exact (IH out).2 o h1 (by omega) h3 h
      · have hp : pcs (c :: d :: r') k = (k, ⟨#[c]⟩) :: pcs (d :: r') (k + 1) := by rw [pcs, if_neg e]
        rw [hp]
        have hl1 : (d :: r').length ≤ n := by simp only [List.length_cons]; omega
        by_cases e2 : c = 34
        · subst e2
          have q1 : isQ ⟨#[34]⟩ = true := rfl
          refine ⟨fun h => ?_, fun o h1 h2 h3 h => ?_⟩
          · rw [st1, if_neg (by decide), if_pos rfl] at h
            rw [stF_p q1]
            exact (ih (d :: r') (k + 1) s acc out hl1 hk (by omega)).2 k hs (by omega) hlt h
          · rw [st1, if_neg (by decide), if_pos rfl] at h
            rw [stF_c q1, (ih (d :: r') (k + 1) (k + 1) _ out hl1 hk (Nat.le_refl _)).1 h, acc_close h1 (by omega)]
            simp
        · have q1 : isQ ⟨#[c]⟩ = false := by rw [isQ_one]; exact decide_eq_false e2
          refine ⟨fun h => ?_, fun o h1 h2 h3 h => ?_⟩
          · rw [st1, if_neg e, if_neg e2] at h
            obtain ⟨o', ho', rfl⟩ := Option.map_eq_some_iff.mp h
            rw [stF_n q1, (ih (d :: r') (k + 1) s acc o' hl1 hk (by omega)).1 ho', take_more (m := [c]) (n := 1) hs hd rfl]
            simp
          · rw [st1, if_neg e, if_neg e2] at h
            rw [stF_n q1]
            exact (ih (d :: r') (k + 1) s acc out hl1 hk (by omega)).2 o h1 (by omega) h3 h
theorem st1_plain : ∀ (n : Nat) (l out : List Nat), l.length ≤ n → 34 ∉ l → st1 false l = some out → out = l
  | n, [], out, _, _, h => by cases h; rfl
  | n, [c], out, _, hq, h => by
    have : c ≠ 34 := fun e => hq (by rw [e]; exact .head _)
    rw [st1, if_neg this] at h
    cases h; rfl
  | 0, c :: d :: l, out, hn, _, _ => by simp at hn
  | n + 1, c :: d :: l, out, hn, hq, h => by
    have hc : c ≠ 34 := fun e => hq (by rw [e]; exact .head _)
    simp only [List.length_cons] at hn
    by_cases e : c = 92
    · rw [st1, if_pos e] at h
      obtain ⟨o', ho', rfl⟩ := Option.map_eq_some_iff.mp h
      rw [st1_plain n l o' (by omega) (fun m => hq (.tail _ (.tail _ m))) ho', e]
    · rw [st1, if_neg e, if_neg hc] at h
      obtain ⟨o', ho', rfl⟩ := Option.map_eq_some_iff.mp h
      rw [st1_plain n (d :: l) o' (by simp only [List.length_cons]; omega) (fun m => hq (.tail _ m)) ho']
theorem strip_is (l out : List Nat) (h : st1 false l = some out) : stripS (tx l) = tx out := by
  unfold stripS
  show (if 34 ∈ l then _ else _) = _
  by_cases hq : 34 ∈ l
  · rw [if_pos hq]
    have h1 := (stF_some (tx l) l.length l 0 0 [] out (Nat.le_refl _) rfl (Nat.le_refl _)).1 h
    show catS ((stF (tx l) (pcs l 0) 0 none []).2 ++ _) = _
    have e : ∀ z : List Str, catS z = tx (catL z) := fun z => rfl
    rw [e]
    congr 1
    rw [show out = catL (stF (tx l) (pcs l 0) 0 none []).2 ++ l.drop (stF (tx l) (pcs l 0) 0 none []).1 from by rw [show l.drop _ = (tx l).cps.toList.drop (stF (tx l) (pcs l 0) 0 none []).1 from rfl, h1]; simp [catL]]
    generalize stF (tx l) (pcs l 0) 0 none [] = sf
    show catL (sf.2 ++ if sf.1 < (tx l).length then [pySlice (tx l) (some (Int.ofNat sf.1)) none] else []) = _
    have hl : (tx l).length = l.length := rfl
    by_cases q : sf.1 < l.length
    · rw [if_pos (by rw [hl]; exact q), catL_snoc, from_list (tx l) sf.1 (Nat.le_of_lt q)]
    · rw [if_neg (by rw [hl]; exact q), List.append_nil, List.drop_eq_nil_of_le (by omega), List.append_nil]
  · rw [if_neg hq, st1_plain l.length l out (Nat.le_refl _) hq h]
end Mine
end
-- part Pl3
section
set_option maxRecDepth 100000
set_option maxHeartbeats 0
namespace Mine
open PySem PySem.Spec PySem.Calls PyProof.Rows PySem.W PySem.W.X
/-- the pieces, without their places -/
noncomputable def pl : List Nat → List (List Nat)
  | [] => []
  | [c] => [[c]]
  | c :: d :: l => if c = 92 then [92, d] :: pl l else [c] :: pl (d :: l)
theorem pcs_pl : ∀ (n : Nat) (l : List Nat) (k : Nat), l.length ≤ n → (pcs l k).map (·.2.cps.toList) = pl l
  | _, [], _, _ => rfl
  | _, [c], _, _ => rfl
  | 0, c :: d :: l, _, h => by simp at h
  | n + 1, c :: d :: l, k, h => by
    simp only [List.length_cons] at h
    by_cases e : c = 92
    · rw [pcs, if_pos e, pl, if_pos e, List.map_cons, pcs_pl n l (k + 2) (by omega)]
    · rw [pcs, if_neg e, pl, if_neg e, List.map_cons, pcs_pl n (d :: l) (k + 1) (by simp only [List.length_cons]; omega)]
noncomputable def ckP : List (List Nat) → Int → Option Int
  | [], o => some o
  | y :: ys, o => if y == [40] then ckP ys (o + 1) else if y == [41] then (if o - 1 < 0 then none else ckP ys (o - 1)) else ckP ys o
theorem chk_pl : ∀ (ps : List (Nat × Str)) (o : Int), chkF ps o = ckP (ps.map (·.2.cps.toList)) o
  | [], _ => rfl
  | p :: ps, o => by
    have h1 := chk_pl ps (o + 1)
    have h2 := chk_pl ps (o - 1)
    have h3 := chk_pl ps o
    rw [chkF, List.map_cons, ckP, h1, h2, h3]
noncomputable def isBr (y : List Nat) : Bool := y == [40] || y == [41]
theorem ckP_filter : ∀ (ys : List (List Nat)) (o : Int), ckP ys o = ckP (ys.filter isBr) o
  | [], _ => rfl
  | y :: ys, o => by
    have h1 := ckP_filter ys (o + 1)
    have h2 := ckP_filter ys (o - 1)
    have h3 := ckP_filter ys o
    rw [List.filter_cons]
    cases e1 : (y == [40]) with
    | true =>
      rw [if_pos (by unfold isBr; rw [e1]; rfl), ckP, ckP, e1, if_pos rfl, if_pos rfl, h1]
    | false =>
      cases e2 : (y == [41]) with
      | true => rw [if_pos (by unfold isBr; rw [e1, e2]; rfl), ckP, ckP, e1, e2, if_neg Bool.false_ne_true, if_neg Bool.false_ne_true, if_pos rfl, if_pos rfl, h2]
      | false => rw [if_neg (by unfold isBr; rw [e1, e2]; exact Bool.false_ne_true), ckP, e1, e2, if_neg Bool.false_ne_true, if_neg Bool.false_ne_true, h3]
noncomputable def ckB (ys : List (List Nat)) : Bool := match ckP ys 0 with
  | none => false
  | some o => o == 0
theorem check_of {l out : List Nat} (h : st1 false l = some out) : checkS (tx l) = ckB ((pl out).filter isBr) := by
  unfold checkS ckB
  rw [strip_is l out h, chk_pl, pcs_pl out.length _ _ (Nat.le_refl _), ckP_filter]
  try (cases ckP ((pl out).filter isBr) 0 <;> rfl)
theorem pl_br (c : Nat) (rest : List Nat) (hc : c ≠ 92) : pl (c :: rest) = [c] :: pl rest := by
  cases rest with
  | nil => rfl
  | cons d l => rw [pl, if_neg hc]
theorem st1_br (c : Nat) (rest o : List Nat) (h1 : c ≠ 34) (h2 : c ≠ 92) (h : st1 false rest = some o) : st1 false (c :: rest) = some (c :: o) := by
  cases rest with
  | nil => cases h; rw [st1, if_neg h1]
  | cons d l => rw [st1, if_neg h2, if_neg h1, h]; rfl
theorem st1_in (c : Nat) (rest : List Nat) (h1 : c ≠ 34) (h2 : c ≠ 92) : st1 true (c :: rest) = st1 true rest := by
  cases rest with
  | nil => simp [st1, h1]
  | cons d l => rw [st1, if_neg h2, if_neg h1]
theorem st1_open (rest : List Nat) : st1 false (34 :: rest) = st1 true rest := by
  cases rest with
  | nil => rfl
  | cons d l => rw [st1, if_neg (by decide), if_pos rfl]
theorem st1_close (rest : List Nat) : st1 true (34 :: rest) = st1 false rest := by
  cases rest with
  | nil => rfl
  | cons d l => rw [st1, if_neg (by decide), if_pos rfl]
theorem st1_esc (d : Nat) (rest : List Nat) : st1 false (92 :: d :: rest) = (st1 false rest).map fun o => 92 :: d :: o := by rw [st1, if_pos rfl]
theorem st1_esc' (d : Nat) (rest : List Nat) : st1 true (92 :: d :: rest) = st1 true rest := by rw [st1, if_pos rfl]
noncomputable def kindO (j : Nat) : List Nat := ([[], [92, 41], [], [92, 92], [92, 34], []][j]?).getD []
theorem st1_kind (j : Nat) (rest o : List Nat) (h : st1 false rest = some o) : st1 false (kindN j ++ rest) = some (kindO j ++ o) := by
  match j with
  | 0 => exact h
  | 1 => show st1 false (92 :: 41 :: rest) = _; rw [st1_esc, h]; rfl
  | 2 => show st1 false (34 :: 41 :: 34 :: rest) = _; rw [st1_open, st1_in 41 _ (by decide) (by decide), st1_close, h]; rfl
  | 3 => show st1 false (92 :: 92 :: rest) = _; rw [st1_esc, h]; rfl
  | 4 => show st1 false (92 :: 34 :: rest) = _; rw [st1_esc, h]; rfl
  | 5 => show st1 false (34 :: 92 :: 34 :: 40 :: 34 :: rest) = _; rw [st1_open, st1_esc', st1_in 40 _ (by decide) (by decide), st1_close, h]; rfl
  | n + 6 => exact h
/-- a row's dress, front to end -/
noncomputable def dr : List Nat → Nat → Nat → List Nat
  | [], _, _ => []
  | c :: cs, k, cd => if k % 4 = 0 then kindN (cd % 6) ++ c :: dr cs (k + 1) (cd / 6) else c :: dr cs (k + 1) cd
noncomputable def dro : List Nat → Nat → Nat → List Nat
  | [], _, _ => []
  | c :: cs, k, cd => if k % 4 = 0 then kindO (cd % 6) ++ c :: dro cs (k + 1) (cd / 6) else c :: dro cs (k + 1) cd
noncomputable def drc : Nat → Nat → Nat → Nat
  | 0, _, cd => cd
  | n + 1, k, cd => if k % 4 = 0 then drc n (k + 1) (cd / 6) else drc n (k + 1) cd
theorem dreF_eq : ∀ (row : List Nat) (k cd : Nat) (tt : List Nat), dreF row k cd tt = (tt ++ dr row k cd, drc row.length k cd)
  | [], k, cd, tt => by simp [dreF, dr, drc]
  | c :: cs, k, cd, tt => by
    rw [dreF, List.length_cons, dr, drc]
    split
    · rw [dreF_eq cs]; simp
    · rw [dreF_eq cs]; simp
theorem st1_dr : ∀ (row : List Nat) (k cd : Nat) (tail o : List Nat), (∀ c ∈ row, c = 40 ∨ c = 41) → st1 false tail = some o → st1 false (dr row k cd ++ tail) = some (dro row k cd ++ o)
  | [], _, _, _, _, _, h => h
  | c :: cs, k, cd, tail, o, hr, h => by
    have hc : c ≠ 34 ∧ c ≠ 92 := by rcases hr c (.head _) with rfl | rfl <;> decide
    have hr' : ∀ c ∈ cs, c = 40 ∨ c = 41 := fun c h => hr c (.tail _ h)
    rw [dr, dro]
    split
    · rw [List.append_assoc, List.append_assoc]
      exact st1_kind _ _ _ (st1_br c _ _ hc.1 hc.2 (st1_dr cs _ _ tail o hr' h))
    · exact st1_br c _ _ hc.1 hc.2 (st1_dr cs _ _ tail o hr' h)
noncomputable def okP (y : List Nat) : Prop := y ∈ ([[40], [41], [92, 40], [92, 41], [92, 92], [92, 34], [92]] : List (List Nat))
theorem pl_kind (j : Nat) (rest : List Nat) : (pl (kindO j ++ rest)).filter isBr = (pl rest).filter isBr ∧ ((∀ y ∈ pl rest, okP y) → ∀ y ∈ pl (kindO j ++ rest), okP y) := by
  have h2 : ∀ d, okP [92, d] → (pl (92 :: d :: rest)).filter isBr = (pl rest).filter isBr ∧ ((∀ y ∈ pl rest, okP y) → ∀ y ∈ pl (92 :: d :: rest), okP y) := fun d hd => by
    rw [pl, if_pos rfl]
    refine ⟨by rw [List.filter_cons]; rfl, fun h y hy => ?_⟩
    rcases List.mem_cons.mp hy with rfl | hy
    · exact hd
    · exact h y hy
  match j with
  | 0 => exact ⟨rfl, fun h => h⟩
  | 1 => exact h2 41 (by unfold okP; decide)
  | 2 => exact ⟨rfl, fun h => h⟩
  | 3 => exact h2 92 (by unfold okP; decide)
  | 4 => exact h2 34 (by unfold okP; decide)
  | 5 => exact ⟨rfl, fun h => h⟩
  | n + 6 => exact ⟨rfl, fun h => h⟩
theorem pl_one (c : Nat) (rest : List Nat) (hc : c = 40 ∨ c = 41) : (pl (c :: rest)).filter isBr = [c] :: (pl rest).filter isBr ∧ ((∀ y ∈ pl rest, okP y) → ∀ y ∈ pl (c :: rest), okP y) := by
  have h92 : c ≠ 92 := by rcases hc with rfl | rfl <;> decide
  rw [pl_br c rest h92]
  refine ⟨by rw [List.filter_cons]; rcases hc with rfl | rfl <;> rfl, fun h y hy => ?_⟩
  rcases List.mem_cons.mp hy with rfl | hy
  · rcases hc with rfl | rfl <;> (unfold okP; decide)
  · exact h y hy
theorem pl_dro : ∀ (row : List Nat) (k cd : Nat) (tail : List Nat), (∀ c ∈ row, c = 40 ∨ c = 41) → (pl (dro row k cd ++ tail)).filter isBr = row.map (fun c => [c]) ++ (pl tail).filter isBr ∧ ((∀ y ∈ pl tail, okP y) → ∀ y ∈ pl (dro row k cd ++ tail), okP y)
  | [], _, _, _, _ => ⟨rfl, fun h => h⟩
  | c :: cs, k, cd, tail, hr => by
    have hr' : ∀ c ∈ cs, c = 40 ∨ c = 41 := fun c h => hr c (.tail _ h)
    have hc := hr c (.head _)
    rw [dro]
    split
    · have h1 := pl_dro cs (k + 1) (cd / 6) tail hr'
      have h2 := pl_one c (dro cs (k + 1) (cd / 6) ++ tail) hc
      have h3 := pl_kind (cd % 6) (c :: (dro cs (k + 1) (cd / 6) ++ tail))
      rw [List.append_assoc]
      exact ⟨by rw [List.cons_append, h3.1, h2.1, h1.1]; rfl, fun h => h3.2 (h2.2 (h1.2 h))⟩
    · have h1 := pl_dro cs (k + 1) cd tail hr'
      have h2 := pl_one c (dro cs (k + 1) cd ++ tail) hc
      exact ⟨by rw [List.cons_append, h2.1, h1.1]; rfl, fun h => h2.2 (h1.2 h)⟩
theorem kind_chars (j : Nat) : ∀ c ∈ kindN j, c = 40 ∨ c = 41 ∨ c = 34 ∨ c = 92 := by
  match j with
  | 0 | 1 | 2 | 3 | 4 | 5 => decide
  | n + 6 => intro c h; exact nomatch h
theorem dr_chars : ∀ (row : List Nat) (k cd : Nat), (∀ c ∈ row, c = 40 ∨ c = 41) → ∀ c ∈ dr row k cd, c = 40 ∨ c = 41 ∨ c = 34 ∨ c = 92
  | [], _, _, _, _, h => nomatch h
  | a :: cs, k, cd, hr, c, h => by
    have hr' : ∀ c ∈ cs, c = 40 ∨ c = 41 := fun c h => hr c (.tail _ h)
    have ha := hr a (.head _)
    rw [dr] at h
    split at h
    · rcases List.mem_append.mp h with h | h
      · exact kind_chars _ c h
      · rcases List.mem_cons.mp h with rfl | h
        · rcases ha with e | e
          · exact .inl e
          · exact .inr (.inl e)
        · exact dr_chars cs _ _ hr' c h
    · rcases List.mem_cons.mp h with rfl | h
      · rcases ha with e | e
        · exact .inl e
        · exact .inr (.inl e)
      · exact dr_chars cs _ _ hr' c h
theorem kindO_len (j : Nat) : (kindO j).length ≤ 2 := by
  match j with
  | 0 | 1 | 2 | 3 | 4 | 5 => decide
  | n + 6 => exact Nat.zero_le _
theorem dro_len : ∀ (row : List Nat) (k cd : Nat), (dro row k cd).length ≤ 3 * row.length
  | [], _, _ => Nat.zero_le _
  | c :: cs, k, cd => by
    have h0 := kindO_len (cd % 6)
    rw [dro]
    split
    · have := dro_len cs (k + 1) (cd / 6)
      simp only [List.length_append, List.length_cons]; omega
    · have := dro_len cs (k + 1) cd
      simp only [List.length_cons]; omega
theorem flat_one : ∀ l : List Nat, (l.map fun c => [c]).flatten = l
  | [] => rfl
  | c :: l => by rw [List.map_cons, List.flatten_cons, flat_one l]; rfl
/-- what the dress of a nest comes to -/
theorem dress_facts (ne : List Nat) (cd : Nat) (hl : ne.length = 10 ∨ ne.length = 12) (h01 : ∀ c ∈ ne, c = 40 ∨ c = 41) (hck : ckB (ne.map fun c => [c]) = true) (hcd : cd < 432) :
    ∃ t0 c0 tt, dreF ne 0 cd [] = (t0, c0) ∧ c0 < 2 ∧ t0 ++ (if c0 = 0 then [] else [92]) = tt ∧ tt ≠ [] ∧ tt.length ≤ 120 ∧ (∀ c ∈ tt, c < 128) ∧ (∀ c ∈ tt, isW c = false) ∧ checkS (tx tt) = true ∧ (∀ p ∈ pcs (stripS (tx tt)).cps.toList 0, PcOk p.2) ∧ (pcs (stripS (tx tt)).cps.toList 0).length ≤ 500 ∧ catS (((pcs (stripS (tx tt)).cps.toList 0).map (·.2)).filter isB) = tx ne := by
  have hc0 : drc ne.length 0 cd < 2 := by
    rcases hl with e | e
    · rw [e]; show cd / 6 / 6 / 6 < 2; omega
    · rw [e]; show cd / 6 / 6 / 6 < 2; omega
  have e := dreF_eq ne 0 cd []
  rw [List.nil_append] at e
  have hlen := dreF_len ne 0 cd []
  rw [e] at hlen
  simp only [List.length_nil] at hlen
  generalize hc : drc ne.length 0 cd = c0 at *
  obtain ⟨tail, htail⟩ : ∃ tail, tail = (if c0 = 0 then ([] : List Nat) else [92]) := ⟨_, rfl⟩
  have ht : st1 false tail = some tail ∧ (pl tail).filter isBr = [] ∧ (∀ y ∈ pl tail, okP y) ∧ tail.length ≤ 1 ∧ ∀ c ∈ tail, c = 92 := by
    by_cases q : c0 = 0
    · rw [if_pos q] at htail; subst htail; exact ⟨rfl, rfl, fun y hy => (nomatch hy), by decide, fun c hc => (nomatch hc)⟩
    · rw [if_neg q] at htail; subst htail
      refine ⟨rfl, rfl, fun y hy => ?_, by decide, fun c hc => List.mem_singleton.mp hc⟩
      obtain rfl : y = [92] := List.mem_singleton.mp hy
      unfold okP; decide
  have hst := st1_dr ne 0 cd tail tail h01 ht.1
  have hpl := pl_dro ne 0 cd tail h01
  have hol : (dro ne 0 cd ++ tail).length ≤ 37 := by have := dro_len ne 0 cd; have := ht.2.2.2.1; rw [List.length_append]; omega
  rw [ht.2.1, List.append_nil] at hpl
  have hchars : ∀ c ∈ dr ne 0 cd ++ tail, c = 40 ∨ c = 41 ∨ c = 34 ∨ c = 92 := fun c hc => by
    rcases List.mem_append.mp hc with h | h
    · exact dr_chars ne 0 cd h01 c h
    · exact .inr (.inr (.inr (ht.2.2.2.2 c h)))
  have hsp := strip_is _ _ hst
  refine ⟨dr ne 0 cd, c0, dr ne 0 cd ++ tail, e, hc0, by rw [htail], ?_, ?_, ?_, ?_, ?_, ?_, ?_, ?_⟩
  · intro h0
    have : dr ne 0 cd = [] := (List.append_eq_nil_iff.mp h0).1
    cases ne with
    | nil => simp at hl
    | cons c cs =>
      rw [dr, if_pos rfl] at this
      exact absurd (List.append_eq_nil_iff.mp this).2 (by simp)
  · have := ht.2.2.2.1
    rw [List.length_append]; omega
  · intro c hc
    rcases hchars c hc with rfl | rfl | rfl | rfl <;> decide
  · intro c hc
    rcases hchars c hc with rfl | rfl | rfl | rfl <;> rfl
  · rw [check_of hst, hpl.1]; exact hck
  · intro p hp
    rw [hsp] at hp
    have : p.2.cps.toList ∈ (pcs (tx (dro ne 0 cd ++ tail)).cps.toList 0).map (·.2.cps.toList) := List.mem_map_of_mem hp
    rw [pcs_pl _ _ _ (Nat.le_refl _)] at this
    exact hpl.2 ht.2.2.1 _ this
  · rw [hsp]
    exact Nat.le_trans (pcs_len _ _) (Nat.le_trans hol (by decide))
  · rw [hsp]
    have h1 := pcs_pl _ (dro ne 0 cd ++ tail) 0 (Nat.le_refl _)
    have h2 : ∀ zs : List (Nat × Str), catL ((zs.map (·.2)).filter isB) = ((zs.map (·.2.cps.toList)).filter isBr).flatten := by
      intro zs
      induction zs with
      | nil => rfl
      | cons z zs ih =>
        rw [List.map_cons, List.map_cons, List.filter_cons, List.filter_cons]
        have : isB z.2 = isBr z.2.cps.toList := rfl
        rw [this]
        split
        · rw [List.flatten_cons, ← ih]; rfl
        · exact ih
    show tx (catL _) = tx ne
    congr 1
    rw [h2, show (tx (dro ne 0 cd ++ tail)).cps.toList = dro ne 0 cd ++ tail from rfl, h1, hpl.1]
    exact flat_one ne
end Mine
end
-- part Pl4
section
set_option maxRecDepth 100000
set_option maxHeartbeats 0
namespace Mine
open PySem PySem.Spec PySem.Calls PyProof.Rows PySem.W PySem.W.X
/-- all rows -/
noncomputable def ext (p : Nat) : Nat → Nat → Nat → List Nat → List (List Nat)
  | 0, _, _, row => [row]
  | n + 1, k, o, row => (if 2 * o = k then [] else ext p n (k + 1) o (row ++ [41])) ++ (if 2 * o = k ∨ o < p then ext p n (k + 1) (o + 1) (row ++ [40]) else [])
theorem row_ext (p bits : Nat) : ∀ (n k o : Nat) (row : List Nat), rowF p bits n k o row ∈ ext p n k o row
  | 0, _, _, row => List.mem_singleton.mpr rfl
  | n + 1, k, o, row => by
    rw [rowF, ext]
    by_cases h : 2 * o = k ∨ (o < p ∧ bits / 2 ^ k % 2 = 1)
    · rw [if_pos h]
      have h2 : 2 * o = k ∨ o < p := h.elim .inl fun h => .inr h.1
      rw [if_pos h2]
      exact List.mem_append.mpr (.inr (row_ext p bits n (k + 1) (o + 1) _))
    · rw [if_neg h, if_neg (fun e => h (.inl e))]
      exact List.mem_append.mpr (.inl (row_ext p bits n (k + 1) o _))
noncomputable def c01 (l : List Nat) : Bool := l.all fun c => c == 40 || c == 41
theorem c01_is {l : List Nat} (h : c01 l = true) : ∀ c ∈ l, c = 40 ∨ c = 41 := by
  intro c hc
  have := List.all_eq_true.mp h c hc
  rw [Bool.or_eq_true, beq_iff_eq, beq_iff_eq] at this
  exact this
noncomputable def npB (p : Nat) (ne : List Nat) : Bool :=
  (ne.length == 2 * p) && c01 ne && ckB (ne.map fun c => [c]) && match ovF 9 ([40] ++ ne ++ [41]) [] [] with
    | none => false
    | some r => ((levF ne 0 []).length == p) && (dueF (levF ne 0 []) (p + 1) 0 [] == r.drop 1) && Nat.ble (r.drop 1).length 500 && c01 (r.drop 1) && checkS (tx (r.drop 1)) && !checkS (tx (r.drop 1).reverse) &&
      (Int.ofNat (twF (levF ne 0 []) 0) == (rdA (r.drop 1) 0 0 []).1) && (match bncF (rdA (r.drop 1) 0 0 []).2.2 (rdA (r.drop 1) 0 0 []).2.1 30 0 0 with
        | none => false
        | some b => (levF ne 0 []).sum == b)
theorem n5 : (ext 5 10 0 0 []).all (npB 5) = true := by decide +kernel
theorem n6 : (ext 6 12 0 0 []).all (npB 6) = true := by decide +kernel
theorem plain (p bits cd : Nat) (hp : p = 5 ∨ p = 6) (hb : bits < 4096) (hcd : cd < 5184) : ∃ ne tt t0 wr rest r2 row r h lv a b c0 o c, LF p bits cd ne tt t0 wr rest r2 row r h lv a b c0 o c := by
  have hn : npB p (rowF p bits (2 * p) 0 0 []) = true := by
    rcases hp with rfl | rfl
    · exact List.all_eq_true.mp n5 _ (row_ext 5 bits 10 0 0 [])
    · exact List.all_eq_true.mp n6 _ (row_ext 6 bits 12 0 0 [])
  generalize hne : rowF p bits (2 * p) 0 0 [] = ne at hn
  unfold npB at hn
  simp only [Bool.and_eq_true] at hn
  obtain ⟨⟨⟨h1, h2⟩, h3⟩, h4⟩ := hn
  have hl := eq_of_beq h1
  have h01 := c01_is h2
  cases hov : ovF 9 ([40] ++ ne ++ [41]) [] [] with
  | none => rw [hov] at h4; cases h4
  | some r =>
    rw [hov] at h4
    dsimp only at h4
    simp only [Bool.and_eq_true] at h4
    obtain ⟨⟨⟨⟨⟨⟨⟨g1, g2⟩, g3⟩, g4⟩, g5⟩, g6⟩, g7⟩, g8⟩ := h4
    cases hbn : bncF (rdA (r.drop 1) 0 0 []).2.2 (rdA (r.drop 1) 0 0 []).2.1 30 0 0 with
    | none => rw [hbn] at g8; cases g8
    | some b =>
      rw [hbn] at g8
      obtain ⟨t0, c0, tt, d1, d2, d3, d4, d5, d6, d7, d8, d9, d10, d11⟩ := dress_facts ne (cd % 432) (by omega) h01 h3 (Nat.mod_lt _ (by decide))
      obtain ⟨w1, w2, rest, w3, w4, w5⟩ := wr_facts tt (cd / 432) d4 d5 d6 d7
      exact ⟨ne, tt, t0, wrF tt (cd / 432), rest, [], r.drop 1, r, (rdA (r.drop 1) 0 0 []).2.2, levF ne 0 [], (rdA (r.drop 1) 0 0 []).1, b, c0, (rdA (r.drop 1) 0 0 []).2.1, 30,
        { hp := hp, e1 := hne, hnl := hl, n01 := h01, e2 := d1, hc0 := d2, e3 := d3, htn := d4, htl := d5, hta := d6, hcd2 := by omega, e4 := rfl, hwl := w1, hwa := w2, e5 := w3, hck := d8, hpc := d9, hps := d10, hbr := d11, hcs := w4, htk := w5, hr2 := rfl, hov := hov, hr := rfl, hlv := rfl, hl := eq_of_beq g1, hdue := eq_of_beq g2, hrl := Nat.le_of_ble_eq_true g3, r01 := c01_is g4, hck1 := g5, hck2 := by simpa using g6, hrd := rfl, hb := hbn, ha := eq_of_beq g7, hs := eq_of_beq g8 }⟩
theorem law01 : PySem.Challenge.rw_rs0132_01.Holds := zk (walk_of plain)
end Mine
end
theorem PySem.Challenge.cw_rs0132_01_holds : PySem.Challenge.rw_rs0132_01.Holds :=
  Mine.law01
