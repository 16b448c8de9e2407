import PyProof.Rows.All
import Wide.All
import OpenK.AllK
import Wide.FinOn
import Lean
import PySem.Challenge.RW_mr0185_01
set_option Elab.async false
section
open PySem PySem.W PyProof.Rows
set_option Elab.async false
set_option maxRecDepth 100000
set_option maxHeartbeats 0
namespace Mine
/-! z_head lays the top's heap; its head is not asked for (the hook closes it by H), for it is long: leftL below is the head, by one run of the kernel -/
section
set_option hygiene false in
local macro_rules | `(tactic| refine $_) => `(tactic| exact H)
theorem hdX (H : PySem.Challenge.rw_mr0185_01.row.Holds) : PySem.Challenge.rw_mr0185_01.row.Holds := by z_head
end
abbrev rwL : RowW := PySem.Challenge.rw_mr0185_01.row.toRowW
def viewL : Program := { PySem.Challenge.pw_mr0185_01 with main := { PySem.Challenge.pw_mr0185_01.main with body := PySem.Challenge.pw_mr0185_01.main.body.drop 37 } }
abbrev looseL : List Str := [Str.ofString "cmp_to_key", Str.ofString "_initial_missing", Str.ofString "reduce", Str.ofString "S_IMODE", Str.ofString "S_IFMT", Str.ofString "S_IFDIR", Str.ofString "S_IFCHR", Str.ofString "S_IFBLK", Str.ofString "S_IFREG", Str.ofString "S_IFIFO", Str.ofString "S_IFLNK", Str.ofString "S_IFSOCK", Str.ofString "S_ISUID", Str.ofString "S_ISGID", Str.ofString "S_ISVTX", Str.ofString "S_IRUSR", Str.ofString "S_IWUSR", Str.ofString "S_IXUSR", Str.ofString "S_IRGRP", Str.ofString "S_IWGRP", Str.ofString "S_IXGRP", Str.ofString "S_IROTH", Str.ofString "S_IWOTH", Str.ofString "S_IXOTH", Str.ofString "_filemode_table", Str.ofString "filemode", Str.ofString "_law_joint", Str.ofString "_law_step", Str.ofString "_law_ways", Str.ofString "_law_run", Str.ofString "_law_set", Str.ofString "_law_table", Str.ofString "_law_number", Str.ofString "_law_text"]
/-- openEnds with the library's quick twins of step and its kin -/
noncomputable def openF : { f : (String → Option Builtin) → Program → World → Nat → Option Shared // openEnds = f } := by
  refine ⟨?f, ?h⟩
  case h =>
    delta openEnds fencedOpening topFrom importEnds topRun importEnds._f topRun._f
    rw [PySem.W.Fast.te8437177126325714943, PySem.W.Fast.te11892475500146522536, PySem.W.Fast.te6613529449190102663, PySem.W.Fast.te1435165496053646825, PySem.W.Fast.te14289696077712309145]
theorem leftF (w : World) : Option.map (fun s => (PySem.W.Fast.tw4187177175401517315 viewL looseL (importedModules PySem.Challenge.pw_mr0185_01.main.body) (fun s => xlAt viewL [] s && recOk (RowW.records rwL) s) true s, X.obsZ (List.range 140) s)) (openF.1 PySem.W.Fast.tw14364793385576792824 PySem.Challenge.pw_mr0185_01 w 1744) =
      some (openGood viewL looseL, X.valZ hdX.heap_140 140 379 w) := by kernel_rfl
/-- the text's run ends, and leaves the 140 objects -/
theorem leftL : LeftO PySem.Challenge.pw_mr0185_01 viewL looseL (fun s => xlAt viewL [] s && recOk (RowW.records rwL) s) (X.obsZ (List.range 140)) (X.valZ hdX.heap_140 140 379) 1744 := fun w => by
  rw [PySem.W.Fast.te4187177175401517315, openF.2, PySem.W.Fast.te14364793385576792824]
  exact leftF w
end Mine
end
section
open PySem PySem.W PyProof.Rows PySem.Calls
set_option Elab.async false
set_option maxRecDepth 100000
namespace Mine
abbrev prog : Program := PySem.Challenge.pw_mr0185_01
def stmtAt : Nat → List Stmt → Stmt
  | _, [] => .Pass default
  | 0, s :: _ => s
  | n + 1, _ :: r => stmtAt n r
def bodyOf : Stmt → List Stmt
  | .FunctionDef _ _ b .. => b
  | .ClassDef _ _ _ b .. => b
  | _ => []
def argsOf : Stmt → Arguments
  | .FunctionDef _ a .. => a
  | _ => ⟨[], [], none, [], [], none, []⟩
def scopeOf : Stmt → Scope
  | .FunctionDef _ _ _ _ _ _ s .. => s
  | _ => default
/-- the i-th statement of the text -/
def top (i : Nat) : Stmt := stmtAt i prog.main.body

def tabs : List Addr := [16, 100, 136]
def offTabs (p : Addr × Obj) : Bool := p.1 != 16 && p.1 != 100 && p.1 != 136
/-- the text's objects without the three code tables that turn -/
noncomputable def K2 (P : Params) : Frag := (hdX.heap_140 P).filter offTabs
abbrev TopIn (w : World) (h : Heap) : Prop := (K2 w.params).In h
theorem lookup_mem {a : Addr} {o : Obj} : ∀ {l : Frag}, List.lookup a l = some o → (a, o) ∈ l
  | p :: l, h => by
    rw [List.lookup_cons] at h
    by_cases hq : (a == p.1) = true
    · rw [hq] at h
      cases h
      rw [beq_iff_eq.mp hq]
      exact .head _
    · rw [Bool.not_eq_true] at hq
      rw [hq] at h
      exact .tail _ (lookup_mem h)
theorem heap_keys (P : Params) : (hdX.heap_140 P).map (·.1) = List.range 140 := by kernel_rfl
theorem k2_off {P : Params} {a : Addr} {o : Obj} (e : List.lookup a (K2 P) = some o) : a ∉ tabs ∧ a < 140 := by
  have m := List.mem_filter.mp (lookup_mem e)
  have h1 : a ∈ (hdX.heap_140 P).map (·.1) := List.mem_map.mpr ⟨_, m.1, rfl⟩
  rw [heap_keys] at h1
  have h2 := m.2
  simp [offTabs] at h2
  exact ⟨by simp [tabs, h2], List.mem_range.mp h1⟩
/-- the top's object at a place -/
noncomputable def topObj (P : Params) (a : Addr) : Obj := ((hdX.heap_140 P).lookup a).getD default
theorem top_get {w : World} {h : Heap} (X : TopIn w h) {a : Addr} (e : List.lookup a (K2 w.params) = some (topObj w.params a)) : h.get? a = some (topObj w.params a) := X a _ e

/-! the states: the gens, the draws and the outside of z, a heap, a count of tokens -/
abbrev St (z : Shared) (h : Heap) (tk : Nat) : Shared := ⟨h, z.gens, z.drawn, tk, z.os⟩
abbrev IntV (i : Int) (v : Value) : Prop := ∃ t, v = .int i t
/-- an expression that leaves the heap: its value -/
def Ev (w : World) (A : Around) (env : Env) (z : Shared) (h : Heap) (e : Expr) (P : Value → Prop) : Prop :=
  ∀ tk (Q : Value → Shared → Prop) (E : Value → Shared → Prop), (∀ v tk', P v → Q v (St z h tk')) → wpAny (model prog w) A (eval e env) Q E (St z h tk)
section
variable {w : World} {A : Around} {env : Env} {z : Shared} {h : Heap} {l r : Expr} {pos : Pos} {a b : Int} {P : Value → Prop}
theorem Ev.use {e : Expr} {tk : Nat} {Q : Value → Shared → Prop} {E : Value → Shared → Prop} (x : Ev w A env z h e P) (k : ∀ v tk', P v → Q v (St z h tk')) :
    wpAny (model prog w) A (eval e env) Q E (St z h tk) := x tk Q E k
theorem ev_int {i : Int} {k : Nat} : Ev w A env z h (.Constant (.int i) k pos) (IntV i) := fun _ _ _ k => wpAny_Constant_int (k _ _ ⟨_, rfl⟩)
theorem ev_loc {x : Str} {m : Str → Option Value} {v : Value} (hns : h.Ns env.locals m) (hv : m x = some v) (hk : env.scope.kind = .function := by rfl) (hl : env.kindOf x = some .local := by rfl)
    (hd : (x == ("__debug__" : Str)) = false := by decide) : Ev w A env z h (.Name x pos) (· = v) := fun _ _ _ k => wpAny_Name (wpAny_loadName_local hk hl hns hv (k _ _ rfl)) hd
theorem ev_locI {x : Str} {m : Str → Option Value} {i : Int} {t : Tok} (hns : h.Ns env.locals m) (hv : m x = some (.int i t)) (hk : env.scope.kind = .function := by rfl) (hl : env.kindOf x = some .local := by rfl)
    (hd : (x == ("__debug__" : Str)) = false := by decide) : Ev w A env z h (.Name x pos) (IntV i) := fun _ _ _ k => wpAny_Name (wpAny_loadName_local hk hl hns hv (k _ _ ⟨_, rfl⟩)) hd
theorem ev_bin {op : Operator} {f : Int → Int → Int} (x : Ev w A env z h l (IntV a)) (y : Ev w A env z h r (IntV b))
    (hop : ∀ tk t u (Q : Value → Shared → Prop) (E : Value → Shared → Prop), (∀ t', Q (.int (f a b) t') (St z h (tk + 1))) → wpAny (model prog w) A (binaryOp op (.int a t) (.int b u)) Q E (St z h tk)) :
    Ev w A env z h (.BinOp l op r pos) (IntV (f a b)) := fun tk Q E k =>
  wpAny_BinOp (x tk _ E fun v tk1 hv => y tk1 _ E fun v2 tk2 hv2 => by
    obtain ⟨t, rfl⟩ := hv
    obtain ⟨u, rfl⟩ := hv2
    exact hop _ _ _ _ _ fun t' => k _ _ ⟨t', rfl⟩)
theorem ev_add (x : Ev w A env z h l (IntV a)) (y : Ev w A env z h r (IntV b)) : Ev w A env z h (.BinOp l .Add r pos) (IntV (a + b)) :=
  ev_bin x y fun _ _ _ _ _ k => PyProof.Rows.add_int (k _)
theorem ev_sub (x : Ev w A env z h l (IntV a)) (y : Ev w A env z h r (IntV b)) : Ev w A env z h (.BinOp l .Sub r pos) (IntV (a - b)) :=
  ev_bin x y fun _ _ _ _ _ k => PyProof.Rows.sub_int (k _)
theorem ev_mod (x : Ev w A env z h l (IntV a)) (y : Ev w A env z h r (IntV b)) (hb : b ≠ 0) : Ev w A env z h (.BinOp l .Mod r pos) (IntV (a.fmod b)) :=
  ev_bin x y fun _ _ _ _ _ k => mod_int' hb (k _)
theorem ev_fdiv (x : Ev w A env z h l (IntV a)) (y : Ev w A env z h r (IntV b)) (hb : b ≠ 0) (hp : Builtin.divisionGoesByPylong a b = false) : Ev w A env z h (.BinOp l .FloorDiv r pos) (IntV (a.fdiv b)) :=
  ev_bin x y fun _ _ _ _ _ k => floordiv_int hb (k _) (.inl hp)
theorem ev_and (x : Ev w A env z h l (IntV a)) (y : Ev w A env z h r (IntV b)) : Ev w A env z h (.BinOp l .BitAnd r pos) (IntV (Builtin.bitAnd a b)) :=
  ev_bin x y fun _ _ _ _ _ k => and_int (k _)
theorem ev_or (x : Ev w A env z h l (IntV a)) (y : Ev w A env z h r (IntV b)) : Ev w A env z h (.BinOp l .BitOr r pos) (IntV (Builtin.bitOr a b)) :=
  ev_bin x y fun _ _ _ _ _ k => or_int (k _)
end
end Mine
end
section
open PySem PySem.W PyProof.Rows PySem.Calls
set_option Elab.async false
set_option maxRecDepth 100000
namespace Mine
abbrev pmL : Value := .str (Str.ofString "law_mr0185_01") 303
theorem top_noLimit {w : World} {h : Heap} (X : TopIn w h) : h.NoLimit :=
  ⟨fun _ => none, ⟨_, #[], 0, top_get X (a := 2) (by kernel_rfl), by kernel_rfl, fun e he => by simp at he, fun _ => rfl⟩, rfl⟩
theorem fn_joint {w : World} {h : Heap} (X : TopIn w h) : ∃ o, h.get? 91 = some o ∧ o.data = .func (docDef (Str.ofString "_law_joint") (argsOf (top 29)) (bodyOf (top 29)) (scopeOf (top 29)) pmL (.ref 90) .none) :=
  ⟨_, top_get X (by kernel_rfl), by kernel_rfl⟩
theorem cd_joint {w : World} {h : Heap} (X : TopIn w h) : h.CodeRec (.ref 90) (Str.ofString "_law_joint") :=
  ⟨90, _, _, 306, rfl, top_get X (by kernel_rfl), (by kernel_rfl : (topObj w.params 90).data = .fields (match (topObj w.params 90).data with | .fields vs => vs | _ => #[])), by kernel_rfl⟩
end Mine
end
section
open PySem PySem.W PyProof.Rows PySem.Calls
set_option Elab.async false
set_option maxRecDepth 100000
set_option maxHeartbeats 1000000
namespace Mine
theorem log2_small {n k : Nat} (h : n < 2 ^ k) : n.log2 < k ∨ n = 0 := by
  by_cases h0 : n = 0
  · exact .inr h0
  · exact .inl ((Nat.log2_lt h0).mpr h)
theorem pylong_small {a b : Int} (hb : b.natAbs < 2 ^ 30) : Builtin.divisionGoesByPylong a b = false := by
  have : (if b == 0 then 0 else b.natAbs.log2 / 30 + 1) ≤ 300 := by
    split
    · omega
    · rcases log2_small hb with q | q
      · omega
      · rw [q]; decide
  unfold Builtin.divisionGoesByPylong
  rw [Bool.and_eq_false_iff]
  exact .inl (decide_eq_false (Nat.not_lt.mpr this))
theorem binds_loc {binds : List (Str × Value)} {names : List (Str × NameKind)} (h : (binds.map (·.1)).all (fun x => decide (names.lookup x = some .local)) = true) : ∀ x ∈ binds, names.lookup x.1 = some .local := fun x hx =>
  of_decide_eq_true (List.all_eq_true.mp h x.1 (List.mem_map.mpr ⟨x, hx, rfl⟩))
/-- a plain def of the text -/
structure FnAt (w : World) (h : Heap) (a c : Addr) (nm : Str) (i : Nat) (pm : Value) : Prop where
  fn : ∃ o, h.get? a = some o ∧ o.data = .func (docDef nm (argsOf (top i)) (bodyOf (top i)) (scopeOf (top i)) pm (.ref c) .none)
  cd : h.CodeRec (.ref c) nm
abbrev fdF (c : Addr) (nm : Str) (i : Nat) (pm : Value) : FuncData := docDef nm (argsOf (top i)) (bodyOf (top i)) (scopeOf (top i)) pm (.ref c) .none
abbrev envF (a c : Addr) (nm : Str) (i : Nat) (pm : Value) (L : Addr) : Env := callEnv (fdF c nm i pm) L a
theorem call_top {w : World} {A : Around} {z : Shared} {h : Heap} {tk : Nat} {Q : Value → Shared → Prop} {E : Value → Shared → Prop} {a c : Addr} {nm : Str} {i : Nat} {pm : Value} {args : List Value} {binds : List (Str × Value)}
    (X : TopIn w h) (F : FnAt w h a c nm i pm) (hA : A.depth < recursionLimit) (hb : bindArgs (fdF c nm i pm) ⟨args, []⟩ = pure binds)
    (hcell : ((scopeOf (top i)).names.all fun x => x.2 != .cell) = true) (hloc : (binds.map (·.1)).all (fun x => decide ((scopeOf (top i)).names.lookup x = some .local)) = true)
    (k : ∀ h₁, h₁.Ns h.objs.size (fun x => binds.reverse.lookup x) → (∀ b o, h.get? b = some o → h₁.get? b = some o) →
      wpAny (model prog w) (A.deeper (envF a c nm i pm h.objs.size)) (execs (bodyOf (top i)) (envF a c nm i pm h.objs.size)) (fun f s' => Q (match f with | .ret v => v | _ => .none) s') (fun _ _ => False) (St z h₁ (tk + binds.length)))
    (hco : (scopeOf (top i)).isCoroutine = false := by rfl) (hgen : (scopeOf (top i)).isGenerator = false := by rfl) (hk : (scopeOf (top i)).kind = .function := by rfl) :
    wpAny (model prog w) A (call (.ref a) args) Q E (St z h tk) := by
  obtain ⟨o, ho, hd⟩ := F.fn
  refine wpAny_call (codeAny_call_def hA ho hd (top_noLimit X) F.cd rfl (BindsTo.of_eq hb) (fun x hx => ?_) (binds_loc hloc) (fun h₁ hns hk₁ => ?_) hco hgen hk)
  · have := List.all_eq_true.mp hcell x hx
    simpa using this
  · exact wpAny_mono (k h₁ hns hk₁) (fun _ _ q => q) fun _ _ q => q.elim
theorem fn_joint' {w : World} {h : Heap} (X : TopIn w h) : FnAt w h 91 90 (Str.ofString "_law_joint") 29 pmL := ⟨fn_joint X, cd_joint X⟩
end Mine
end
section
open PySem PySem.W PyProof.Rows PySem.Calls
set_option Elab.async false
set_option maxRecDepth 100000
set_option maxHeartbeats 1000000
namespace Mine
/-! the global names -/
noncomputable def gEs (P : Params) (a : Addr) : Array DictEntry := match (topObj P a).data with | .dict es _ => es | _ => #[]
noncomputable def mgT (P : Params) (x : Str) : Option Value := nsFind (gEs P 3) x
noncomputable def mbT (P : Params) (x : Str) : Option Value := nsFind (gEs P 0) x
def strKey (e : DictEntry) : Bool := match e.key with | .str .. => true | _ => false
theorem strKeys_of {es : Array DictEntry} (h : es.toList.all strKey = true) : StrKeys es := fun e he => by
  have := List.all_eq_true.mp h e (Array.mem_toList_iff.mpr he)
  unfold strKey at this
  split at this
  · exact ⟨_, _, by assumption⟩
  · cases this
theorem top_g {w : World} {h : Heap} (X : TopIn w h) : h.Ns 3 (mgT w.params) :=
  ⟨_, gEs w.params 3, (match (topObj w.params 3).data with | .dict _ n => n | _ => 0), top_get X (a := 3) (by kernel_rfl), by kernel_rfl, strKeys_of (by kernel_rfl), fun _ => rfl⟩
theorem top_b {w : World} {h : Heap} (X : TopIn w h) : h.Ns 0 (mbT w.params) :=
  ⟨_, gEs w.params 0, (match (topObj w.params 0).data with | .dict _ n => n | _ => 0), top_get X (a := 0) (by kernel_rfl), by kernel_rfl, strKeys_of (by kernel_rfl), fun _ => rfl⟩
section
variable {w : World} {A : Around} {env : Env} {z : Shared} {h : Heap} {l r : Expr} {pos : Pos} {a b : Int} {P : Value → Prop} {x : Str} {v : Value}
theorem ev_glob (X : TopIn w h) (hv : mgT w.params x = some v) (hg : env.globals = 3 := by rfl) (hk : env.scope.kind = .function := by rfl) (hx : env.kindOf x = some .globalImplicit := by rfl)
    (hd : (x == ("__debug__" : Str)) = false := by decide) : Ev w A env z h (.Name x pos) (· = v) := fun _ _ _ k =>
  Name_function_global hk hx (loadGlobal_global (by rw [hg]; exact top_g X) hv (k _ _ rfl)) hd
theorem ev_built (X : TopIn w h) (hn : mgT w.params x = none) (hv : mbT w.params x = some v) (hg : env.globals = 3 := by rfl) (hb : env.builtins = 0 := by rfl) (hk : env.scope.kind = .function := by rfl) (hx : env.kindOf x = some .globalImplicit := by rfl)
    (hd : (x == ("__debug__" : Str)) = false := by decide) : Ev w A env z h (.Name x pos) (· = v) := fun _ _ _ k =>
  Name_function_global hk hx (loadGlobal_builtin (by rw [hg]; exact top_g X) hn (by rw [hb]; exact top_b X) hv (k _ _ rfl)) hd
theorem ev_cell {c : Addr} (hc : env.cells.lookup x = some c) (hv : h.IsCell c (some v)) (hk : env.scope.kind = .function := by rfl) (hl : env.kindOf x = some .cell := by rfl)
    (hd : (x == ("__debug__" : Str)) = false := by decide) : Ev w A env z h (.Name x pos) (· = v) := fun _ _ _ k => wpAny_Name (wpAny_loadName_cell hk hl hc hv (k _ _ rfl)) hd
theorem Ev.mono {e : Expr} {P' : Value → Prop} (x : Ev w A env z h e P) (k : ∀ v, P v → P' v) : Ev w A env z h e P' := fun tk Q E q => x tk Q E fun v tk' hv => q v tk' (k v hv)
theorem Ev.int {e : Expr} {i : Int} {t : Tok} (x : Ev w A env z h e (· = .int i t)) : Ev w A env z h e (IntV i) := x.mono fun v hv => ⟨t, hv⟩
theorem ev_mul (x : Ev w A env z h l (IntV a)) (y : Ev w A env z h r (IntV b)) (hm : IntMulOk a b) : Ev w A env z h (.BinOp l .Mult r pos) (IntV (a * b)) :=
  ev_bin x y fun _ _ _ _ _ k => PyProof.Rows.mul_int (k _) hm
theorem ev_pow {n : Int} (x : Ev w A env z h l (IntV a)) (y : Ev w A env z h r (IntV n)) (hn : 0 ≤ n) (hs : (Builtin.Int.intBits a : Int) * n ≤ 2 ^ 27) : Ev w A env z h (.BinOp l .Pow r pos) (IntV (a ^ n.toNat)) :=
  ev_bin (f := fun a n => a ^ n.toNat) x y fun _ _ _ _ _ k => pow_int hn hs (k _)
theorem ev_item {lst : Addr} {items : Array Value} {k : Int} {y : Value} (x : Ev w A env z h l (· = .ref lst)) (i : Ev w A env z h r (IntV k)) (hl : h.IsList lst items) (h0 : 0 ≤ k) (h1 : k < 2 ^ 63) (hy : items[k.toNat]? = some y)
    (hs : ∀ t, subscripted r false (.ref lst) (.int k t) = operate [.ref lst, .int k t] (getItem (.ref lst) (.int k t)) := by intro _; with_unfolding_all rfl) :
    Ev w A env z h (.Subscript l r pos) (· = y) := fun tk Q E q =>
  Subscript_ (x tk _ E fun v tk1 hv => i tk1 _ E fun v2 tk2 hv2 => by
    subst hv
    obtain ⟨t, rfl⟩ := hv2
    exact tail_any (Heap.IsList.typeIs (s := St z h tk2) hl) slot_list_getitem.lookup (wpAny_getItem_list (s := St z h tk2) hl h0 h1 hy (q _ _ rfl)) (hs t))
theorem ev_tup {tp : Addr} {items : List Value} {k : Int} {j : Nat} {y : Value} (x : Ev w A env z h l (· = .ref tp)) (i : Ev w A env z h r (IntV k)) (ht : h.IsTuple tp items.toArray) (h0 : -(2 ^ 63) ≤ k) (h1 : k < 2 ^ 63) (hj : seqIndex? k items.length = some j) (hy : items[j]? = some y)
    (hs : ∀ t, subscripted r false (.ref tp) (.int k t) = operate [.ref tp, .int k t] (getItem (.ref tp) (.int k t)) := by intro _; with_unfolding_all rfl) :
    Ev w A env z h (.Subscript l r pos) (· = y) := fun tk Q E q =>
  Subscript_ (x tk _ E fun v tk1 hv => i tk1 _ E fun v2 tk2 hv2 => by
    subst hv
    obtain ⟨t, rfl⟩ := hv2
    exact item_tupleT (s := St z h tk2) ht h0 h1 hj hy (q _ _ rfl) (hs t))
end
/-- a def with cells -/
abbrev envFC (a c : Addr) (nm : Str) (i : Nat) (pm : Value) (L : Addr) : Env :=
  newEnv (scopeOf (top i)) L 3 (cellsFrom (L + 1) (scopeOf (top i)).names []) (nm ++ Str.ofString ".<locals>.") (some a) (.ref c) none 0
theorem call_topC {w : World} {A : Around} {z : Shared} {h : Heap} {tk : Nat} {Q : Value → Shared → Prop} {E : Value → Shared → Prop} {a c : Addr} {nm : Str} {i : Nat} {pm : Value} {args : List Value} {binds : List (Str × Value)}
    (X : TopIn w h) (F : FnAt w h a c nm i pm) (hA : A.depth < recursionLimit) (hb : bindArgs (fdF c nm i pm) ⟨args, []⟩ = pure binds)
    (hkind : (binds.all fun y => (scopeOf (top i)).names.lookup y.1 == some .local || (scopeOf (top i)).names.lookup y.1 == some .cell) = true)
    (k : ∀ h₁ tk₁, h₁.Ns h.objs.size (bindL (envFC a c nm i pm h.objs.size).kindOf binds fun _ => none) → (∀ b o, h.get? b = some o → h₁.get? b = some o) →
      (∀ n cc, (cellsFrom (h.objs.size + 1) (scopeOf (top i)).names []).lookup n = some cc → h₁.IsCell cc (bindC (envFC a c nm i pm h.objs.size).kindOf binds (fun _ => none) n)) →
      wpAny (model prog w) (A.deeper (envFC a c nm i pm h.objs.size)) (execs (bodyOf (top i)) (envFC a c nm i pm h.objs.size)) (fun f s' => Q (match f with | .ret v => v | _ => .none) s') (fun _ _ => False) (St z h₁ tk₁))
    (hco : (scopeOf (top i)).isCoroutine = false := by rfl) (hgen : (scopeOf (top i)).isGenerator = false := by rfl) (hk : (scopeOf (top i)).kind = .function := by rfl) :
    wpAny (model prog w) A (call (.ref a) args) Q E (St z h tk) := by
  obtain ⟨o, ho, hd⟩ := F.fn
  refine wpAny_call (codeAny_call_function hA ho hd hco hgen rfl F.cd ?_)
  rw [hb]
  refine wpAny_pure (wpAny_newFunctionEnv_cells hk (kindsX hkind _) fun env he s' x => ?_)
  subst he
  refine ⟨(top_noLimit X).keeps x.toInCall.keep, codeAny_func ?_⟩
  obtain ⟨h₁, tk₁, rfl, hk₁⟩ := x.done
  exact wpAny_mono (k h₁ tk₁ x.toInCall.ns hk₁ x.cell) (fun _ _ q => q) fun _ _ q => q.elim
theorem fn_number {w : World} {h : Heap} (X : TopIn w h) : FnAt w h 127 126 (Str.ofString "_law_number") 35 pmL :=
  ⟨⟨_, top_get X (by kernel_rfl), by kernel_rfl⟩, ⟨126, _, _, 359, rfl, top_get X (by kernel_rfl), (by kernel_rfl : (topObj w.params 126).data = .fields (match (topObj w.params 126).data with | .fields vs => vs | _ => #[])), by kernel_rfl⟩⟩
theorem fn_set {w : World} {h : Heap} (X : TopIn w h) : FnAt w h 115 114 (Str.ofString "_law_set") 33 pmL :=
  ⟨⟨_, top_get X (by kernel_rfl), by kernel_rfl⟩, ⟨114, _, _, 338, rfl, top_get X (by kernel_rfl), (by kernel_rfl : (topObj w.params 114).data = .fields (match (topObj w.params 114).data with | .fields vs => vs | _ => #[])), by kernel_rfl⟩⟩
end Mine
end
section
open PySem PySem.W PyProof.Rows PySem.Calls
set_option Elab.async false
set_option maxRecDepth 100000
set_option maxHeartbeats 1000000
set_option linter.unusedVariables false
namespace Mine
theorem lt_sz {h : Heap} {a : Addr} {o : Obj} (e : h.get? a = some o) : @LT.lt Nat instLTNat (a) (h.objs.size) := Heap.lt_size e
theorem step_lt {i n : Nat} (h : i < n) : n + 1 - (i + 1) < n + 1 - i := by rw [Nat.add_sub_add_right, Nat.succ_sub (Nat.le_of_lt h)]; exact Nat.lt_succ_self _
abbrev Keep (h h' : Heap) : Prop := ∀ b o, h.get? b = some o → h'.get? b = some o
abbrev KeepOff (wr : List Addr) (h h' : Heap) : Prop := ∀ b o, b ∉ wr → h.get? b = some o → h'.get? b = some o
/-- an iterator -/
structure It (w : World) (A : Around) (z : Shared) (I : Addr) (wr fp : List Addr) (n : Nat) (P : Nat → Value → List Addr → Heap → Prop) (S : Nat → Heap → Prop) : Prop where
  sub : ∀ b ∈ wr, b ∈ fp
  frame : ∀ i h h', S i h → (∀ b ∈ fp, ∀ o, h.get? b = some o → h'.get? b = some o) → S i h'
  pframe : ∀ i v as h h', P i v as h → (∀ b ∈ as, ∀ o, h.get? b = some o → h'.get? b = some o) → P i v as h'
  live : ∀ i h, S i h → ∀ b ∈ wr, @LT.lt Nat instLTNat (b) (h.objs.size)
  item : ∀ i h tk (Q : Option Value → Shared → Prop) (E : Value → Shared → Prop), i < n → S i h →
    (∀ v as h' tk', P i v as h' → S (i + 1) h' → (∀ a ∈ as, @LE.le Nat instLENat (h.objs.size) (a)) → KeepOff wr h h' → Q (some v) (St z h' tk')) → wpAny (model prog w) A (pyNext (.ref I)) Q E (St z h tk)
  done : ∀ h tk (Q : Option Value → Shared → Prop) (E : Value → Shared → Prop), S n h → (∀ h' tk', KeepOff wr h h' → Q none (St z h' tk')) → wpAny (model prog w) A (pyNext (.ref I)) Q E (St z h tk)
  self : ∀ i h tk (Q : Value → Shared → Prop) (E : Value → Shared → Prop), S i h → Q (.ref I) (St z h tk) → wpAny (model prog w) A (pyIter (.ref I)) Q E (St z h tk)
theorem It.of_walks {w : World} {A : Around} {z : Shared} {I : Addr} {wr fp : List Addr} {n : Nat} {P : Nat → Value → Prop} {S : Nat → Heap → Prop} (W : Walks prog w A I fp wr n P S) (hl : ∀ i h, S i h → ∀ b ∈ wr, @LT.lt Nat instLTNat (b) (h.objs.size)) :
    It w A z I wr fp n (fun i v as _ => P i v ∧ as = []) S where
  sub := W.sub
  frame := W.frame
  pframe := fun _ _ _ _ _ p _ => p
  live := hl
  item := fun i h tk Q E hi st k => W.item i (St z h tk) Q E hi st fun v h' tk' hp hs hk => k v [] h' tk' ⟨hp, rfl⟩ hs (by simp) hk
  done := fun h tk Q E st k => W.done (St z h tk) Q E st fun h' tk' hk => k h' tk' hk
  self := fun i h tk Q E st k => W.self i (St z h tk) Q E st k
theorem It.list {w : World} {A : Around} {z : Shared} (hh : A.handled = none) (I ax : Addr) (hne : ax ≠ I) (items : Array Value) :
    It w A z I [I] [I, ax] items.size (fun i v as _ => items[i]? = some v ∧ as = []) (fun i h => h.IsListIter I ax i ∧ h.IsList ax items) :=
  It.of_walks (Walks.list hh I ax hne items) fun i h st b hb => by
    obtain ⟨⟨o, ho, _⟩, _⟩ := st
    rw [List.mem_singleton.mp hb]
    exact Heap.lt_size ho
theorem It.tuple {w : World} {A : Around} {z : Shared} (hh : A.handled = none) (I ax : Addr) (hne : ax ≠ I) (items : Array Value) :
    It w A z I [I] [I, ax] items.size (fun i v as _ => items[i]? = some v ∧ as = []) (fun i h => h.IsTupleIter I ax i ∧ h.IsTuple ax items) :=
  It.of_walks (Walks.tuple hh I ax hne items) fun i h st b hb => by
    obtain ⟨⟨o, ho, _⟩, _⟩ := st
    rw [List.mem_singleton.mp hb]
    exact Heap.lt_size ho
theorem It.range {w : World} {A : Around} {z : Shared} (hh : A.handled = none) (I : Addr) (a c : Int) (n : Nat) :
    It w A z I [I] [I] n (fun i v as _ => (∃ t, v = .int (a + i * c) t) ∧ as = []) (fun i h => IsRangeIter h I (a + (i : Nat) * c) ((n : Int) - (i : Nat)) c) :=
  It.of_walks (Walks.range hh I a c n) fun i h st b hb => by
    rw [List.mem_singleton.mp hb]
    exact Heap.lt_size st
/-- an iterator with sizes -/
structure ItS (w : World) (A : Around) (z : Shared) (I : Addr) (wr fp : List Addr) (n : Nat) (P : Nat → Value → List Addr → Heap → Prop) (S : Nat → Heap → Prop) (e : Nat) : Prop extends It w A z I wr fp n P S where
  item2 : ∀ i h tk (Q : Option Value → Shared → Prop) (E : Value → Shared → Prop), i < n → S i h →
    (∀ v as h' tk', P i v as h' → S (i + 1) h' → (∀ a ∈ as, @LE.le Nat instLENat (h.objs.size) (a)) → KeepOff wr h h' → h'.objs.size = h.objs.size → Q (some v) (St z h' tk')) → wpAny (model prog w) A (pyNext (.ref I)) Q E (St z h tk)
  done2 : ∀ h tk (Q : Option Value → Shared → Prop) (E : Value → Shared → Prop), S n h → (∀ h' tk', KeepOff wr h h' → h'.objs.size = h.objs.size + e → Q none (St z h' tk')) → wpAny (model prog w) A (pyNext (.ref I)) Q E (St z h tk)
theorem It.itemG {w : World} {A : Around} {z : Shared} {I : Addr} {wr fp : List Addr} {n : Nat} {P : Nat → Value → List Addr → Heap → Prop} {S : Nat → Heap → Prop} {ex : Option Nat} (W : It w A z I wr fp n P S) (WS : ∀ e, ex = some e → ItS w A z I wr fp n P S e)
    (i : Nat) (h : Heap) (tk : Nat) (Q : Option Value → Shared → Prop) (E : Value → Shared → Prop) (hi : i < n) (st : S i h)
    (k : ∀ v as h' tk', P i v as h' → S (i + 1) h' → (∀ a ∈ as, @LE.le Nat instLENat (h.objs.size) (a)) → KeepOff wr h h' → (∀ e, ex = some e → h'.objs.size = h.objs.size) → Q (some v) (St z h' tk')) : wpAny (model prog w) A (pyNext (.ref I)) Q E (St z h tk) :=
  match ex, WS, k with
  | none, _, k => W.item i h tk Q E hi st fun v as h' tk' a b c d => k v as h' tk' a b c d nofun
  | some e, WS, k => (WS e rfl).item2 i h tk Q E hi st fun v as h' tk' a b c d q => k v as h' tk' a b c d fun _ _ => q
theorem It.doneG {w : World} {A : Around} {z : Shared} {I : Addr} {wr fp : List Addr} {n : Nat} {P : Nat → Value → List Addr → Heap → Prop} {S : Nat → Heap → Prop} {ex : Option Nat} (W : It w A z I wr fp n P S) (WS : ∀ e, ex = some e → ItS w A z I wr fp n P S e)
    (h : Heap) (tk : Nat) (Q : Option Value → Shared → Prop) (E : Value → Shared → Prop) (st : S n h)
    (k : ∀ h' tk', KeepOff wr h h' → (∀ e, ex = some e → h'.objs.size = h.objs.size + e) → Q none (St z h' tk')) : wpAny (model prog w) A (pyNext (.ref I)) Q E (St z h tk) :=
  match ex, WS, k with
  | none, _, k => W.done h tk Q E st fun h' tk' a => k h' tk' a nofun
  | some e, WS, k => (WS e rfl).done2 h tk Q E st fun h' tk' a q => k h' tk' a fun _ he => by cases he; exact q
theorem not_cons {a b : Addr} {l : List Addr} (h1 : a ≠ b) (h2 : a ∉ l) : a ∉ b :: l := fun h => (List.mem_cons.mp h).elim h1 h2
section
variable {w : World} {A : Around} {z : Shared} {env : Env}
/-- a list comprehension with one name and no test: the loop, with sizes -/
theorem comp_gen {c : Nat} {ex : Option Nat} {use : Option (Value → Sem Unit)} {pos0 : Pos} {h : Heap} {tk : Nat} {elt iter : Expr} {x : Str} {px : Pos} {scope : Scope} {cl : List (Str × Addr)} {pos : Pos} {Q : Value → Shared → Prop} {E : Value → Shared → Prop} (R : Nat → Value → List Addr → Heap → Prop)
    (hR : ∀ j y as h h', R j y as h → (∀ a ∈ as, ∀ o, h.get? a = some o → h'.get? a = some o) → R j y as h')
    (hclos : closureFor scope env = pure cl) (hcell : ∀ y ∈ scope.names, y.2 ≠ .cell) (hkind : scope.kind = .function)
    (hnames : ∀ y ∈ scope.names, y.2 = .local → scope.names.lookup y.1 = some .local) (hx : scope.names.lookup x = some .local)
    (hit : wpAny (model prog w) A (eval iter env) (fun xv s₁ => wpAny (model prog w) A (pyIter xv) (fun it s₂ => ∃ I wr fp n P S h₂ tk₂, it = .ref I ∧ s₂ = St z h₂ tk₂ ∧ It w A z I wr fp n P S ∧ (∀ e, ex = some e → ItS w A z I wr fp n P S e) ∧ n ≤ sizeLine ∧ S 0 h₂ ∧ (∀ b ∈ fp, @LT.lt Nat instLTNat (b) (h₂.objs.size)) ∧
      (∀ C i v as h₃ tk₃ m₃ E', i < n → @LE.le Nat instLENat (h₂.objs.size) (C) → P i v as h₃ → (∀ a ∈ as, @LE.le Nat instLENat (h₂.objs.size) (a)) → h₃.Ns C m₃ → m₃ x = some v → KeepOff wr h₂ h₃ →
        wpAny (model prog w) A (eval elt (compEnvC scope cl C env)) (fun y s₄ => ∃ h₄ tk₄ bs, s₄ = St z h₄ tk₄ ∧ Keep h₃ h₄ ∧ (∀ b ∈ bs, b ∈ as ∨ @LE.le Nat instLENat (h₃.objs.size) (b)) ∧ R i y bs h₄ ∧ (∀ e, ex = some e → h₄.objs.size = h₃.objs.size + c)) E' (St z h₃ tk₃)) ∧
      (∀ D C h' tk ys m, @LE.le Nat instLENat (h₂.objs.size) (D) → C = D + 1 → h'.PlainList D ys → h'.Ns C m → ys.size = n → (∀ j y, ys[j]? = some y → ∃ as, (∀ a ∈ as, @LT.lt Nat instLTNat (C) (a)) ∧ R j y as h') → KeepOff wr h₂ h' → (∀ e, ex = some e → h'.objs.size = h₂.objs.size + 2 + c * n + e) → compPost (model prog w) A E use Q (.ref D) C (.ok .next) (St z h' tk))) E s₁) E (St z h tk))
    (hs : ∀ x, foldedSetIterable iter env x = pure x := by intro _; rfl) :
    wpAny (model prog w) A (comprehension (.ListComp elt [⟨.Name x px, iter, [], 0⟩] scope pos) scope env pos0 (newList []) false (eval iter env) use) Q E (St z h tk) := by
  refine wpAny_comprehension_free (use := use) rfl hs hclos hkind hnames (wpAny_mono hit (fun xv s₁ h₁ => wpAny_mono h₁ (fun it s₂ h₂ => ?_) fun _ _ e => e) fun _ _ e => e)
  clear hit
  obtain ⟨I, wr, fp, n, P, S, h₂, tk₂, rfl, rfl, W, WS, hsz, hst, hfp, helt, hQ⟩ := h₂
  refine wpAny_newObj_type (wpAny_newFunctionEnv hcell (by intro y hy; simp at hy) (fun h₁ hns₁ hsb₁ => ?_) hkind)
  dsimp only at hns₁ hsb₁ ⊢
  generalize hH2 : h₂.push { cls := .type "list", dict := none, data := .seq ([] : List Value).toArray } = H2 at hns₁ hsb₁ ⊢
  generalize hDd : h₂.objs.size = D at hns₁ hsb₁ hfp helt hQ ⊢
  generalize hCc : H2.objs.size = C at hns₁ hsb₁ ⊢
  have hC : C = D + 1 := by rw [← hCc, ← hH2, Heap.size_push, hDd]
  have hDC' : @LT.lt Nat instLTNat (D) (C) := hC ▸ Nat.lt_succ_self D
  have hDC : D ≠ C := Nat.ne_of_lt hDC'
  have hz₁ : h₁.objs.size = D + 2 := by rw [hsb₁.1, Heap.size_push, hCc, hC]
  have hwD : ∀ b ∈ wr, @LT.lt Nat instLTNat (b) (D) := fun b hb => hDd ▸ W.live 0 h₂ hst b hb
  have hDf : D ∉ fp := fun hm => Nat.lt_irrefl _ (hfp _ hm)
  have hCf : C ∉ fp := fun hm => Nat.lt_asymm hDC' (hfp _ hm)
  have hDw : D ∉ wr := fun hm => Nat.lt_irrefl _ (hwD _ hm)
  have hCw : C ∉ wr := fun hm => Nat.lt_asymm hDC' (hwD _ hm)
  have old : Keep h₂ h₁ := fun b o e => hsb₁.extBut b o (Nat.ne_of_lt (Nat.lt_trans (hDd ▸ lt_sz e) hDC')) (Heap.get?_push_of_some _ (hH2 ▸ Heap.get?_push_of_some _ e))
  have hacc : h₁.PlainList D #[] := ⟨_, hsb₁.extBut _ _ hDC (Heap.get?_push_of_some _ (hH2 ▸ hDd ▸ Heap.get?_push_size _ rfl))⟩
  have hst₁ : S 0 h₁ := W.frame _ _ _ hst fun b _ o e => old b o e
  have loop : ∀ s₃ : Shared, s₃ = St z h₁ (tk₂ + ([] : List (Str × Value)).length) →
      codeAny (model prog w) A (.compLoop (.ListComp elt [⟨.Name x px, iter, [], 0⟩] scope pos) 0 (.ref I) (.ref D) (compEnvC scope cl C env))
        (compPost (model prog w) A E use Q (.ref D) C) s₃ := by
    rintro s₃ rfl
    refine codeAny_compLoop_list
      (fun k s' => ∃ i h' tk m' ys, s' = St z h' tk ∧ S i h' ∧ h'.PlainList D ys ∧ h'.Ns C m' ∧ ys.size = i ∧ i ≤ n ∧ k = n + 1 - i ∧ (∀ j y, ys[j]? = some y → ∃ as, (∀ a ∈ as, @LT.lt Nat instLTNat (C) (a) ∧ a ∉ wr) ∧ R j y as h') ∧ KeepOff wr h₂ h' ∧ (∀ e, ex = some e → h'.objs.size = D + 2 + c * i)) ?_ (n + 1)
      ⟨0, h₁, _, _, #[], rfl, hst₁, hacc, hns₁, rfl, Nat.zero_le _, rfl, fun j y hj => by simp at hj, fun b o _ e => old b o e, fun _ _ => hz₁⟩
    rintro k s' ⟨i, H, tk, m', ys, rfl, hst', hacc', hn', hys, hi, rfl, hP, hk, hzi⟩
    have hCl : C < H.objs.size := by obtain ⟨_, _, _, ho, _⟩ := hn'; exact Heap.lt_size ho
    by_cases hlt : i < n
    · refine It.itemG W WS i H tk _ _ hlt hst' fun v as h₁ tk₁ hPv hst₁ has hk₁ hz1 => ?_
      have hn₁ : h₁.Ns C m' := hn'.at' fun o e => hk₁ _ o hCw e
      have hCl₁ : C < h₁.objs.size := by obtain ⟨_, _, _, ho, _⟩ := hn₁; exact Heap.lt_size ho
      refine wpAny_assign_Name (wpAny_storeName_local (lookup_relabel_local hx) hn₁ (fun h₂' hn₂ hs₂ => ?_) (by simp [compEnvC, relabel, hkind]))
      have hst₂ : S (i + 1) h₂' := W.frame _ _ _ hst₁ fun b hb o e => hs₂.extBut b o (fun h => hCf ((show b = C from h) ▸ hb)) e
      have hP₂ : P i v as h₂' := W.pframe _ _ _ _ _ hPv fun b hb o e => hs₂.extBut b o (fun h => Nat.not_le.mpr hCl ((show b = C from h) ▸ has b hb)) e
      have up₂ : KeepOff (C :: wr) H h₂' := fun b o hb e => hs₂.extBut b o (fun h => hb (h ▸ .head _)) (hk₁ b o (fun h => hb (.tail _ h)) e)
      have hacc₂ : h₂'.PlainList D ys := hacc'.at fun o e => up₂ D o (by simp [hDC, hDw]) e
      refine wpAny_mono (helt C i v as h₂' _ _ _ hlt (Nat.le_of_lt hDC') hP₂ (fun a ha => Nat.le_of_lt (Nat.lt_of_lt_of_le (Nat.lt_trans hDC' hCl) (has a ha))) hn₂ (by simp) fun b o hb e => up₂ b o (not_cons (Nat.ne_of_lt (Nat.lt_trans (hDd ▸ lt_sz e) hDC')) hb) (hk b o hb e)) (fun y s₄ h₄ => ?_) fun _ _ e => e
      obtain ⟨h₄, tk₄, bs, rfl, hk₄, hbs, hRy, hz4⟩ := h₄
      refine wpAny_list_append_plain (hsz := by rw [hys]; exact Nat.le_trans (Nat.le_of_lt hlt) hsz) (hacc₂.at fun o e => hk₄ _ o e) fun h₅ hl₅ hs₅ => ?_
      have hD₄ : KeepOff [D] h₂' h₅ := fun b o hb e => hs₅.extBut b o (by simpa using hb) (hk₄ b o e)
      have hD₅ : KeepOff (D :: C :: wr) H h₅ := fun b o hb e => hD₄ b o (by simp at hb ⊢; exact hb.1) (up₂ b o (fun q => hb (.tail _ q)) e)
      have hl2 : h₁.objs.size ≤ h₂'.objs.size := Nat.le_of_eq hs₂.1.symm
      have hH1 : ∀ b ∈ wr, @LT.lt Nat instLTNat (b) (h₁.objs.size) := W.live _ _ hst₁
      have hbs' : ∀ b ∈ bs, @LT.lt Nat instLTNat (C) (b) ∧ b ∉ wr := fun b hb => by
        rcases hbs b hb with q | q
        · exact ⟨Nat.lt_of_lt_of_le hCl (has b q), fun hw => Nat.not_le.mpr (W.live _ _ hst' b hw) (has b q)⟩
        · exact ⟨Nat.lt_of_lt_of_le hCl₁ (Nat.le_trans hl2 q), fun hw => Nat.not_le.mpr (hH1 b hw) (Nat.le_trans hl2 q)⟩
      have hz5 : ∀ e, ex = some e → h₅.objs.size = D + 2 + c * (i + 1) := fun e he => by
        have a1 : h₅.objs.size = h₄.objs.size := hs₅.1
        have a2 : h₂'.objs.size = h₁.objs.size := hs₂.1
        rw [a1, hz4 e he, a2, hz1 e he, hzi e he, Nat.mul_succ, Nat.add_assoc]
      refine ⟨n + 1 - (i + 1), step_lt hlt, i + 1, h₅, tk₄, _, ys.push y, rfl, W.frame _ _ _ hst₂ fun b hb o e => hD₄ b o (by simp; rintro rfl; exact hDf hb) e, hl₅, (hn₂.keeps hk₄).sameBut hs₅ (Ne.symm hDC), by simp [hys], hlt, rfl, ?_, fun b o hb e => hD₅ b o (not_cons (Nat.ne_of_lt (hDd ▸ lt_sz e)) (not_cons (Nat.ne_of_lt (Nat.lt_trans (hDd ▸ lt_sz e) hDC')) hb)) (hk b o hb e), hz5⟩
      intro j y' hj
      rw [Array.getElem?_push] at hj
      split at hj
      · cases hj
        refine ⟨bs, hbs', ?_⟩
        rename_i e
        rw [e, hys]
        exact hR _ _ _ _ _ hRy fun a ha o e => hs₅.extBut a o (Ne.symm (Nat.ne_of_lt (Nat.lt_trans hDC' (hbs' a ha).1))) e
      · obtain ⟨as', has', hR'⟩ := hP j y' hj
        exact ⟨as', has', hR _ _ _ _ _ hR' fun a ha o e => hD₅ a o (not_cons (Ne.symm (Nat.ne_of_lt (Nat.lt_trans hDC' (has' a ha).1))) (not_cons (Ne.symm (Nat.ne_of_lt (has' a ha).1)) (has' a ha).2)) e⟩
    · have hin : i = n := Nat.le_antisymm hi (Nat.not_lt.mp hlt)
      subst hin
      refine It.doneG W WS _ _ _ _ hst' fun h₁ tk₁ hk₁ hzd => ?_
      refine hQ D C h₁ tk₁ ys m' (Nat.le_refl _) hC (hacc'.at fun o e => hk₁ _ o hDw e) (hn'.at' fun o e => hk₁ _ o hCw e) hys (fun j y hj => ?_) (fun b o hb e => hk₁ b o hb (hk b o hb e)) fun e he => by rw [hzd e he, hzi e he]
      obtain ⟨as', has', hR'⟩ := hP j y hj
      exact ⟨as', fun a ha => (has' a ha).1, hR _ _ _ _ _ hR' fun a ha o e => hk₁ a o (has' a ha).2 e⟩
  exact codeAny_compStart_list (loop _ rfl) (W.self 0 _ _ _ _ hst₁ (loop _ rfl))
/-- a list comprehension with one name and no test: the loop -/
theorem comp_core {use : Option (Value → Sem Unit)} {pos0 : Pos} {h : Heap} {tk : Nat} {elt iter : Expr} {x : Str} {px : Pos} {scope : Scope} {cl : List (Str × Addr)} {pos : Pos} {Q : Value → Shared → Prop} {E : Value → Shared → Prop} (R : Nat → Value → List Addr → Heap → Prop)
    (hR : ∀ j y as h h', R j y as h → (∀ a ∈ as, ∀ o, h.get? a = some o → h'.get? a = some o) → R j y as h')
    (hclos : closureFor scope env = pure cl) (hcell : ∀ y ∈ scope.names, y.2 ≠ .cell) (hkind : scope.kind = .function)
    (hnames : ∀ y ∈ scope.names, y.2 = .local → scope.names.lookup y.1 = some .local) (hx : scope.names.lookup x = some .local)
    (hit : wpAny (model prog w) A (eval iter env) (fun xv s₁ => wpAny (model prog w) A (pyIter xv) (fun it s₂ => ∃ I wr fp n P S h₂ tk₂, it = .ref I ∧ s₂ = St z h₂ tk₂ ∧ It w A z I wr fp n P S ∧ n ≤ sizeLine ∧ S 0 h₂ ∧ (∀ b ∈ fp, @LT.lt Nat instLTNat (b) (h₂.objs.size)) ∧
      (∀ C i v as h₃ tk₃ m₃ E', i < n → @LE.le Nat instLENat (h₂.objs.size) (C) → P i v as h₃ → (∀ a ∈ as, @LE.le Nat instLENat (h₂.objs.size) (a)) → h₃.Ns C m₃ → m₃ x = some v → KeepOff wr h₂ h₃ →
        wpAny (model prog w) A (eval elt (compEnvC scope cl C env)) (fun y s₄ => ∃ h₄ tk₄ bs, s₄ = St z h₄ tk₄ ∧ Keep h₃ h₄ ∧ (∀ b ∈ bs, b ∈ as ∨ @LE.le Nat instLENat (h₃.objs.size) (b)) ∧ R i y bs h₄) E' (St z h₃ tk₃)) ∧
      (∀ D C h' tk ys m, @LE.le Nat instLENat (h₂.objs.size) (D) → C = D + 1 → h'.PlainList D ys → h'.Ns C m → ys.size = n → (∀ j y, ys[j]? = some y → ∃ as, (∀ a ∈ as, @LT.lt Nat instLTNat (C) (a)) ∧ R j y as h') → KeepOff wr h₂ h' → compPost (model prog w) A E use Q (.ref D) C (.ok .next) (St z h' tk))) E s₁) E (St z h tk))
    (hs : ∀ x, foldedSetIterable iter env x = pure x := by intro _; rfl) :
    wpAny (model prog w) A (comprehension (.ListComp elt [⟨.Name x px, iter, [], 0⟩] scope pos) scope env pos0 (newList []) false (eval iter env) use) Q E (St z h tk) := by
  refine comp_gen (c := 0) (ex := none) R hR hclos hcell hkind hnames hx (wpAny_mono hit (fun xv s₁ h₁ => wpAny_mono h₁ (fun it s₂ h₂ => ?_) fun _ _ e => e) fun _ _ e => e) hs
  obtain ⟨I, wr, fp, n, P, S, h₂, tk₂, e1, e2, W, hsz, hst, hfp, helt, hQ⟩ := h₂
  refine ⟨I, wr, fp, n, P, S, h₂, tk₂, e1, e2, W, nofun, hsz, hst, hfp, fun C i v as h₃ tk₃ m₃ E' a b c d e f g => ?_, fun D C h' tk ys m a b c d e f g _ => hQ D C h' tk ys m a b c d e f g⟩
  refine wpAny_mono (helt C i v as h₃ tk₃ m₃ E' a b c d e f g) (fun y s₄ h₄ => ?_) fun _ _ e => e
  obtain ⟨h₄, tk₄, bs, q1, q2, q3, q4⟩ := h₄
  exact ⟨h₄, tk₄, bs, q1, q2, q3, q4, nofun⟩
/-- a list comprehension with one name and no test -/
theorem comp_any {h : Heap} {tk : Nat} {elt iter : Expr} {x : Str} {px : Pos} {scope : Scope} {cl : List (Str × Addr)} {pos : Pos} {Q : Value → Shared → Prop} {E : Value → Shared → Prop} (R : Nat → Value → List Addr → Heap → Prop)
    (hR : ∀ j y as h h', R j y as h → (∀ a ∈ as, ∀ o, h.get? a = some o → h'.get? a = some o) → R j y as h')
    (hclos : closureFor scope env = pure cl) (hcell : ∀ y ∈ scope.names, y.2 ≠ .cell) (hkind : scope.kind = .function)
    (hnames : ∀ y ∈ scope.names, y.2 = .local → scope.names.lookup y.1 = some .local) (hx : scope.names.lookup x = some .local)
    (hit : wpAny (model prog w) A (eval iter env) (fun xv s₁ => wpAny (model prog w) A (pyIter xv) (fun it s₂ => ∃ I wr fp n P S h₂ tk₂, it = .ref I ∧ s₂ = St z h₂ tk₂ ∧ It w A z I wr fp n P S ∧ n ≤ sizeLine ∧ S 0 h₂ ∧ (∀ b ∈ fp, @LT.lt Nat instLTNat (b) (h₂.objs.size)) ∧
      (∀ C i v as h₃ tk₃ m₃ E', i < n → @LE.le Nat instLENat (h₂.objs.size) (C) → P i v as h₃ → (∀ a ∈ as, @LE.le Nat instLENat (h₂.objs.size) (a)) → h₃.Ns C m₃ → m₃ x = some v → KeepOff wr h₂ h₃ →
        wpAny (model prog w) A (eval elt (compEnvC scope cl C env)) (fun y s₄ => ∃ h₄ tk₄ bs, s₄ = St z h₄ tk₄ ∧ Keep h₃ h₄ ∧ (∀ b ∈ bs, b ∈ as ∨ @LE.le Nat instLENat (h₃.objs.size) (b)) ∧ R i y bs h₄) E' (St z h₃ tk₃)) ∧
      (∀ D h' tk ys, @LE.le Nat instLENat (h₂.objs.size) (D) → h'.PlainList D ys → ys.size = n → (∀ j y, ys[j]? = some y → ∃ as, (∀ a ∈ as, @LE.le Nat instLENat (h₂.objs.size) (a)) ∧ R j y as h') → KeepOff wr h₂ h' → Q (.ref D) (St z h' tk))) E s₁) E (St z h tk))
    (hs : ∀ x, foldedSetIterable iter env x = pure x := by intro _; rfl) :
    wpAny (model prog w) A (eval (.ListComp elt [⟨.Name x px, iter, [], 0⟩] scope pos) env) Q E (St z h tk) := by
  rw [eval_ListComp]
  refine comp_core (use := none) R hR hclos hcell hkind hnames hx (wpAny_mono hit (fun xv s₁ h₁ => wpAny_mono h₁ (fun it s₂ h₂ => ?_) fun _ _ e => e) fun _ _ e => e) hs
  obtain ⟨I, wr, fp, n, P, S, h₂, tk₂, e1, e2, W, hsz, hst, hfp, helt, hQ⟩ := h₂
  refine ⟨I, wr, fp, n, P, S, h₂, tk₂, e1, e2, W, hsz, hst, hfp, helt, fun D C h' tk ys m hD hC hp hn hz hy hk => ⟨m, hn, fun h₅ s₅ => ?_⟩⟩
  have hx := s₅.extBut
  have hDC : @LT.lt Nat _ D C := hC ▸ Nat.lt_succ_self D
  refine hQ D h₅ tk ys hD (hp.extBut hx (Nat.ne_of_lt hDC)) hz (fun j y hj => ?_) fun b o hb e => hx b o (Nat.ne_of_lt (Nat.lt_of_lt_of_le (lt_sz e) (Nat.le_trans hD (Nat.le_of_lt hDC)))) (hk b o hb e)
  obtain ⟨as, ha, r⟩ := hy j y hj
  exact ⟨as, fun a q => Nat.le_trans hD (Nat.le_of_lt (Nat.lt_trans hDC (ha a q))), hR _ _ _ _ _ r fun a q o e => hx a o (Ne.symm (Nat.ne_of_lt (ha a q))) e⟩
end
end Mine
end
section
open PySem PySem.W PyProof.Rows PySem.Calls
set_option Elab.async false
set_option maxRecDepth 100000
set_option maxHeartbeats 1000000
namespace Mine
theorem mulOk_right {a b : Int} (h1 : -(2 ^ 64) < b) (h2 : b < 2 ^ 64) : IntMulOk a b := by
  have := intBits_le_64 h1 h2
  unfold IntMulOk
  have q : decide (Builtin.Int.intBits b > shortFactorBits) = false := decide_eq_false (Nat.not_lt.mpr this)
  rw [q]
  simp
theorem TopIn.keep {w : World} {h h' : Heap} (X : TopIn w h) (k : Keep h h') : TopIn w h' := fun a o ho => k a o (X a o ho)
theorem TopIn.size {w : World} {h : Heap} (X : TopIn w h) : @LE.le Nat instLENat 140 h.objs.size := Heap.lt_size (top_get X (a := 139) (by kernel_rfl))
theorem TopIn.off {w : World} {wr : List Addr} {h h' : Heap} (X : TopIn w h) (k : KeepOff wr h h') (hw : ∀ a ∈ wr, @LE.le Nat instLENat 140 a) : TopIn w h' := fun a o ho => k a o (fun q => absurd (hw a q) (Nat.not_le.mpr (k2_off ho).2)) (X a o ho)
theorem KeepOff.mono {wr wr' : List Addr} {h h' : Heap} (k : KeepOff wr h h') (s : ∀ a ∈ wr, a ∈ wr') : KeepOff wr' h h' := fun b o hb e => k b o (fun q => hb (s b q)) e
theorem KeepOff.push1 {h h' : Heap} {o : Obj} (k : KeepOff [h.objs.size] (h.push o) h') : Keep h h' := fun b o' e => k b o' (by simp; exact Nat.ne_of_lt (Heap.lt_size e)) (Heap.get?_push_of_some _ e)
theorem ints_of {ys : Array Value} {n : Nat} {g : Nat → Int} (hn : ys.size = n) (hy : ∀ j y, ys[j]? = some y → IntV (g j) y) : IntsAre ys.toList ((List.range n).map g) := by
  obtain ⟨l⟩ := ys
  simp at hn hy ⊢
  have key : ∀ (l : List Value) (k : Nat), (∀ j y, l[j]? = some y → IntV (g (k + j)) y) → IntsAre l ((List.range' k l.length).map g) := by
    intro l
    induction l with
    | nil => intro k _; exact .nil
    | cons v l ih =>
      intro k h
      obtain ⟨t, rfl⟩ := h 0 v rfl
      have := ih (k + 1) fun j y hj => by
        obtain ⟨t, e⟩ := h (j + 1) y (by simpa using hj)
        exact ⟨t, by rw [e]; congr 2; omega⟩
      exact .cons _ _ this
  have := key l 0 fun j y hj => by simpa using hy j y hj
  rw [hn] at this
  rwa [List.range_eq_range']
/-- sum over a list of ints -/
theorem sum_ints {w : World} {A : Around} {z : Shared} {h : Heap} {tk : Nat} {Q : Value → Shared → Prop} {E : Value → Shared → Prop} {l : Addr} {ys : Array Value} {ns : List Int} (hh : A.handled = none) (hl : h.IsList l ys) (hi : IntsAre ys.toList ns)
    (k : ∀ h' tk' t', Keep h h' → Q (.int ns.sum t') (St z h' tk')) :
    wpAny (model prog w) A (call (.builtin "sum") [.ref l]) Q E (St z h tk) := by
  have hall : AllInts ys := by
    have := hi.allInts
    simpa using this
  obtain ⟨xs, rfl⟩ := hall.items
  refine sum_intListG (s := St z h tk) hh hl fun h' tk' t' hk => ?_
  have e : preSum (numAt xs) xs.size = ns.sum := by
    rw [preSum_eq, List.take_of_length_le (by simp), ← nums_intItems, hi.numsOf]
  rw [e]
  exact k h' tk' t' hk
theorem IntsAre_get {vs : List Value} {ds : List Int} (h : IntsAre vs ds) : ∀ {j : Nat}, j < ds.length → ∃ t, vs[j]? = some (.int (ds.getD j 0) t) := by
  induction h with
  | nil => intro j hj; simp at hj
  | cons a t _ ih =>
    intro j hj
    cases j with
    | zero => exact ⟨t, by simp⟩
    | succ j =>
      obtain ⟨t', e⟩ := ih (j := j) (by simpa using hj)
      exact ⟨t', by simpa using e⟩
theorem cell_keep {h h' : Heap} {c : Addr} {v : Option Value} (x : h.IsCell c v) (k : Keep h h') : h'.IsCell c v := by
  obtain ⟨o, ho, r⟩ := x
  exact ⟨o, k _ _ ho, r⟩
theorem range1 {w : World} {A : Around} {z : Shared} {h : Heap} {tk : Nat} {Q : Value → Shared → Prop} {E : Value → Shared → Prop} {n : Int} {t : Tok} (k : ∀ r h' tk' t u v, IsRange h' r 0 n 1 t u v → Keep h h' → Q (.ref r) (St z h' tk')) :
    wpAny (model prog w) A (call (.type "range") [.int n t]) Q E (St z h tk) := call_range_1 (k _ _ _ _ _ _ (IsRange.new _ _ _ _ _ _ _) fun _ _ e => Heap.get?_push_of_some _ e)
theorem range2 {w : World} {A : Around} {z : Shared} {h : Heap} {tk : Nat} {Q : Value → Shared → Prop} {E : Value → Shared → Prop} {a n : Int} {t u : Tok} (k : ∀ r h' tk' t u v, IsRange h' r a n 1 t u v → Keep h h' → Q (.ref r) (St z h' tk')) :
    wpAny (model prog w) A (call (.type "range") [.int a t, .int n u]) Q E (St z h tk) := call_range_2 (k _ _ _ _ _ _ (IsRange.new _ _ _ _ _ _ _) fun _ _ e => Heap.get?_push_of_some _ e)
theorem len_l {w : World} {A : Around} {z : Shared} {h : Heap} {tk : Nat} {Q : Value → Shared → Prop} {E : Value → Shared → Prop} {l : Addr} {items : Array Value} (hl : h.IsList l items) (hf : items.size ≤ 1000) (k : ∀ tk' t, Q (.int items.size t) (St z h tk')) :
    wpAny (model prog w) A (call (.builtin "len") [.ref l]) Q E (St z h tk) := len_list (s := St z h tk) hl (by omega) (k _ _)
theorem IsPlain {h : Heap} {D : Addr} {ys : Array Value} (x : h.PlainList D ys) : h.IsList D ys := x.isList
section
variable {w : World} {A : Around} {z : Shared} {env : Env} {elt : Expr} {x : Str} {scope : Scope} {cl : List (Str × Addr)} {Q : Value → Shared → Prop} {E : Value → Shared → Prop} {R : Nat → Value → List Addr → Heap → Prop}
/-- what a comprehension wants of its iterator -/
def CompGo (w : World) (A : Around) (z : Shared) (env : Env) (elt : Expr) (x : Str) (scope : Scope) (cl : List (Str × Addr)) (Q : Value → Shared → Prop) (R : Nat → Value → List Addr → Heap → Prop) (it : Value) (s₂ : Shared) : Prop :=
  ∃ I wr fp n P S h₂ tk₂, it = .ref I ∧ s₂ = St z h₂ tk₂ ∧ It w A z I wr fp n P S ∧ n ≤ sizeLine ∧ S 0 h₂ ∧ (∀ b ∈ fp, @LT.lt Nat instLTNat (b) (h₂.objs.size)) ∧
      (∀ C i v as h₃ tk₃ m₃ E', i < n → @LE.le Nat instLENat (h₂.objs.size) (C) → P i v as h₃ → (∀ a ∈ as, @LE.le Nat instLENat (h₂.objs.size) (a)) → h₃.Ns C m₃ → m₃ x = some v → KeepOff wr h₂ h₃ →
        wpAny (model prog w) A (eval elt (compEnvC scope cl C env)) (fun y s₄ => ∃ h₄ tk₄ bs, s₄ = St z h₄ tk₄ ∧ Keep h₃ h₄ ∧ (∀ b ∈ bs, b ∈ as ∨ @LE.le Nat instLENat (h₃.objs.size) (b)) ∧ R i y bs h₄) E' (St z h₃ tk₃)) ∧
      (∀ D h' tk ys, @LE.le Nat instLENat (h₂.objs.size) (D) → h'.PlainList D ys → ys.size = n → (∀ j y, ys[j]? = some y → ∃ as, (∀ a ∈ as, @LE.le Nat instLENat (h₂.objs.size) (a)) ∧ R j y as h') → KeepOff wr h₂ h' → Q (.ref D) (St z h' tk))
theorem comp_go {h : Heap} {tk : Nat} {iter : Expr} {px : Pos} {pos : Pos} (R : Nat → Value → List Addr → Heap → Prop)
    (hR : ∀ j y as h h', R j y as h → (∀ a ∈ as, ∀ o, h.get? a = some o → h'.get? a = some o) → R j y as h')
    (hclos : closureFor scope env = pure cl) (hcell : ∀ y ∈ scope.names, y.2 ≠ .cell) (hkind : scope.kind = .function)
    (hnames : ∀ y ∈ scope.names, y.2 = .local → scope.names.lookup y.1 = some .local) (hx : scope.names.lookup x = some .local)
    (hit : wpAny (model prog w) A (eval iter env) (fun xv s₁ => wpAny (model prog w) A (pyIter xv) (CompGo w A z env elt x scope cl Q R) E s₁) E (St z h tk))
    (hs : ∀ x, foldedSetIterable iter env x = pure x := by intro _; rfl) :
    wpAny (model prog w) A (eval (.ListComp elt [⟨.Name x px, iter, [], 0⟩] scope pos) env) Q E (St z h tk) := comp_any R hR hclos hcell hkind hnames hx hit hs
theorem range_len {a b : Int} {n : Nat} (h : b = a + n) : Builtin.Range.rangeSize a b 1 = (n : Int) := by
  rw [rangeSize_one, h]
  split <;> omega
theorem range_small {a b : Int} {n : Nat} (h : b = a + n) (ha : -(2 ^ 60) ≤ a) (ha' : a < 2 ^ 60) (hn : n ≤ 1000) : Builtin.Range.small a b 1 = true := small_one (by omega) (by omega) (by omega) (by omega)
theorem comp_go_range {h : Heap} {tk : Nat} {r : Addr} {a b : Int} {n : Nat} {t u v : Tok} (hh : A.handled = none) (hr : IsRange h r a b 1 t u v) (hn : b = a + n) (ha : -(2 ^ 60) ≤ a) (ha' : a < 2 ^ 60) (hn' : n ≤ 1000)
    (helt : ∀ C i v t h₃ tk₃ m₃ E', i < n → @LT.lt Nat instLTNat (h.objs.size) (C) → v = Value.int (a + (i : Nat)) t → h₃.Ns C m₃ → m₃ x = some v → Keep h h₃ →
        wpAny (model prog w) A (eval elt (compEnvC scope cl C env)) (fun y s₄ => ∃ h₄ tk₄ bs, s₄ = St z h₄ tk₄ ∧ Keep h₃ h₄ ∧ (∀ b ∈ bs, @LE.le Nat instLENat (h₃.objs.size) (b)) ∧ R i y bs h₄) E' (St z h₃ tk₃))
    (hQ : ∀ D h' tk ys, @LE.le Nat instLENat (h.objs.size) (D) → h'.PlainList D ys → ys.size = n → (∀ j y, ys[j]? = some y → ∃ as, (∀ a ∈ as, @LE.le Nat instLENat (h.objs.size) (a)) ∧ R j y as h') → Keep h h' → Q (.ref D) (St z h' tk)) :
    wpAny (model prog w) A (pyIter (.ref r)) (CompGo w A z env elt x scope cl Q R) E (St z h tk) := by
  have hz := range_len hn
  refine wpAny_pyIter_range (s := St z h tk) hr (range_small hn ha ha' hn') ?_
  refine ⟨h.objs.size, [h.objs.size], [h.objs.size], n, _, _, _, tk, rfl, rfl, It.range hh _ a 1 n, (by unfold sizeLine; omega), ?_, ?_, ?_, ?_⟩
  · show IsRangeIter _ _ _ _ _
    rw [hz]
    simpa using Heap.get?_push_size _ rfl
  · intro b hb
    rw [List.mem_singleton.mp hb, Heap.size_push]
    exact Nat.lt_succ_self _
  · intro C i v as h₃ tk₃ m₃ E' hi hC hP has hns hm hk
    obtain ⟨⟨t, rfl⟩, rfl⟩ := hP
    rw [Heap.size_push] at hC
    refine wpAny_mono (helt C i _ t h₃ tk₃ m₃ E' hi hC (by rw [Int.mul_one]) hns hm hk.push1) (fun y s₄ h₄ => ?_) fun _ _ e => e
    obtain ⟨h₄, tk₄, bs, e, hk₄, hb, hr⟩ := h₄
    exact ⟨h₄, tk₄, bs, e, hk₄, fun b q => .inr (hb b q), hr⟩
  · intro D h' tk' ys hD hp hs hy hk
    rw [Heap.size_push] at hD
    refine hQ D h' tk' ys (Nat.le_of_succ_le hD) hp hs (fun j y e => ?_) hk.push1
    obtain ⟨as, ha, r⟩ := hy j y e
    exact ⟨as, fun a q => by have := ha a q; rw [Heap.size_push] at this; exact Nat.le_of_succ_le this, r⟩
theorem comp_go_list {h : Heap} {tk : Nat} {l : Addr} {items : Array Value} (hh : A.handled = none) (hl : h.IsList l items) (hn : items.size ≤ 1000)
    (helt : ∀ C i v h₃ tk₃ m₃ E', items[i]? = some v → @LT.lt Nat instLTNat (h.objs.size) (C) → h₃.Ns C m₃ → m₃ x = some v → Keep h h₃ →
        wpAny (model prog w) A (eval elt (compEnvC scope cl C env)) (fun y s₄ => ∃ h₄ tk₄ bs, s₄ = St z h₄ tk₄ ∧ Keep h₃ h₄ ∧ (∀ b ∈ bs, @LE.le Nat instLENat (h₃.objs.size) (b)) ∧ R i y bs h₄) E' (St z h₃ tk₃))
    (hQ : ∀ D h' tk ys, @LE.le Nat instLENat (h.objs.size) (D) → h'.PlainList D ys → ys.size = items.size → (∀ j y, ys[j]? = some y → ∃ as, (∀ a ∈ as, @LE.le Nat instLENat (h.objs.size) (a)) ∧ R j y as h') → Keep h h' → Q (.ref D) (St z h' tk)) :
    wpAny (model prog w) A (pyIter (.ref l)) (CompGo w A z env elt x scope cl Q R) E (St z h tk) := by
  have hll : @LT.lt Nat instLTNat (l) (h.objs.size) := by obtain ⟨o, ho, _⟩ := hl; exact Heap.lt_size ho
  have hne : l ≠ h.objs.size := Nat.ne_of_lt hll
  refine wpAny_pyIter_list (s := St z h tk) hl ?_
  refine ⟨h.objs.size, [h.objs.size], [h.objs.size, l], items.size, _, _, _, tk, rfl, rfl, It.list hh _ l hne items, (by unfold sizeLine; omega), ?_, ?_, ?_, ?_⟩
  · exact ⟨⟨_, Heap.get?_push_size _ rfl, rfl, rfl⟩, hl.at fun o e => Heap.get?_push_of_some _ e⟩
  · intro b hb
    rw [Heap.size_push]
    rcases List.mem_cons.mp hb with rfl | hb
    · exact Nat.lt_succ_self _
    · rw [List.mem_singleton.mp hb]; exact Nat.lt_succ_of_lt hll
  · intro C i v as h₃ tk₃ m₃ E' hi hC hP has hns hm hk
    obtain ⟨hv, rfl⟩ := hP
    rw [Heap.size_push] at hC
    refine wpAny_mono (helt C i v h₃ tk₃ m₃ E' hv hC hns hm hk.push1) (fun y s₄ h₄ => ?_) fun _ _ e => e
    obtain ⟨h₄, tk₄, bs, e, hk₄, hb, hr⟩ := h₄
    exact ⟨h₄, tk₄, bs, e, hk₄, fun b q => .inr (hb b q), hr⟩
  · intro D h' tk' ys hD hp hs hy hk
    rw [Heap.size_push] at hD
    refine hQ D h' tk' ys (Nat.le_of_succ_le hD) hp hs (fun j y e => ?_) hk.push1
    obtain ⟨as, ha, r⟩ := hy j y e
    exact ⟨as, fun a q => by have := ha a q; rw [Heap.size_push] at this; exact Nat.le_of_succ_le this, r⟩
end
def numZ (ds : List Int) : Int := ((List.range ds.length).map fun k => 2 ^ k * ds.getD k 0).sum
/-- _law_number(digits) -/
theorem number_call {w : World} {A : Around} {z : Shared} {h : Heap} {tk : Nat} {Q : Value → Shared → Prop} {E : Value → Shared → Prop} (X : TopIn w h) (hA : A.depth < recursionLimit) (hh : A.handled = none) {lst : Addr} {vs : List Value} {ds : List Int}
    (hl : h.IsList lst vs.toArray) (hi : IntsAre vs ds) (hn : ds.length ≤ 64) (hd : ∀ d ∈ ds, 0 ≤ d ∧ d ≤ 1)
    (k : ∀ h' tk' t', Keep h h' → Q (.int (numZ ds) t') (St z h' tk')) :
    wpAny (model prog w) A (call (.ref 127) [.ref lst]) Q E (St z h tk) := by
  refine call_topC X (fn_number X) hA (binds := [(Str.ofString "digits", .ref lst)]) (by rfl) (by rfl) fun h₁ tk₁ hns hk hcell => ?_
  have X₁ := X.keep hk
  have hc' : h₁.IsCell (h.objs.size + 1) (some (.ref lst)) := hcell (Str.ofString "digits") (h.objs.size + 1) (by rfl)
  refine wpAny_execs_cons (wpAny_Return_some (Call_ (Ev.use (ev_built X₁ (v := .builtin "sum") (by kernel_rfl) (by kernel_rfl)) fun v tk2 hv => ?_)))
  subst hv
  refine PyProof.Rows.callWith_builtin1 (spliced_more ?_)
  refine comp_go (cl := [(Str.ofString "digits", h.objs.size + 1)]) (fun j y _ _ => IntV (2 ^ j * ds.getD j 0) y) (fun _ _ _ _ _ r _ => r) (by rfl) (by decide) (by rfl) (by decide) (by rfl) ?_
  refine Call_ (Ev.use (ev_built X₁ (v := .type "range") (by kernel_rfl) (by kernel_rfl)) fun v tk3 hv => ?_)
  subst hv
  refine PyProof.Rows.callWith_type1 (spliced_more ?_)
  refine Call_ (Ev.use (ev_built X₁ (v := .builtin "len") (by kernel_rfl) (by kernel_rfl)) fun v tk4 hv => ?_)
  subst hv
  refine PyProof.Rows.callWith_builtin1 (spliced_more (Ev.use (ev_cell (by rfl) hc') fun v tk5 hv => ?_))
  subst hv
  refine spliced_none ?_
  have hl₁ : h₁.IsList lst vs.toArray := hl.at fun o e => hk lst o e
  have hlen : vs.length = ds.length := hi.length
  refine len_l hl₁ (by simp; omega) fun tk6 t6 => ?_
  refine spliced_none (range1 fun r h₂ tk7 _ _ _ hr hk₂ => ?_)
  have hk02 : Keep h h₂ := fun b o e => hk₂ b o (hk b o e)
  refine comp_go_range hh hr (n := ds.length) (by simp [hlen]) (by decide) (by decide) (by omega) ?_ ?_
  · intro C i v t h₃ tk₃ m₃ E' hi' hC hv hns₃ hm hk₃
    subst hv
    have k13 : Keep h₁ h₃ := fun b o e => hk₃ b o (hk₂ b o e)
    obtain ⟨t', ht'⟩ := IntsAre_get hi hi'
    have hdi : 0 ≤ ds.getD i 0 ∧ ds.getD i 0 ≤ 1 := by
      have : ds.getD i 0 ∈ ds := by rw [List.getD_eq_getElem?_getD, List.getElem?_eq_getElem hi']; exact List.getElem_mem _
      exact hd _ this
    refine Ev.use (P := IntV (2 ^ (0 + (i : Int)).toNat * ds.getD i 0)) ?_ fun y tk₄ hy => ⟨h₃, tk₄, [], rfl, fun _ _ e => e, nofun, by simpa using hy⟩
    refine (ev_mul (ev_pow ev_int (ev_locI hns₃ hm) (by omega) ?_) (ev_item (lst := lst) (items := vs.toArray) (ev_cell (by rfl) (cell_keep hc' k13)) (ev_locI hns₃ hm) (hl₁.at fun o e => k13 _ o e) (by omega) (by omega) (by simpa using ht')).int (mulOk_right (by omega) (by omega)))
    · have : Builtin.Int.intBits 2 ≤ 64 := intBits_le_64 (by decide) (by decide)
      have h2 : (Builtin.Int.intBits 2 : Int) * (0 + (i : Int)) ≤ 64 * 64 := by
        refine Int.le_trans (Int.mul_le_mul_of_nonneg_right (Int.ofNat_le.mpr this) (by omega)) ?_
        have : (i : Int) ≤ 64 := by omega
        omega
      exact Int.le_trans h2 (by decide)
  · intro D h' tk' ys hD hp hsz hy hk'
    refine spliced_none (sum_ints hh hp.isList (ints_of (g := fun j => 2 ^ j * ds.getD j 0) hsz fun j y e => ?_) fun h₂ tk₂ t₂ hk₂ => ?_)
    · obtain ⟨_, _, r⟩ := hy j y e
      exact r
    · exact k _ _ _ fun b o e => hk₂ b o (hk' b o (hk02 b o e))
end Mine
end
section
open PySem PySem.W PyProof.Rows PySem.Calls
set_option Elab.async false
set_option maxRecDepth 100000
set_option maxHeartbeats 1000000
namespace Mine
def setZ (row : List Int) (least : Int) : Int := (((List.range 4).filter fun k => decide (least ≤ row.getD k 0)).map fun k => (2 : Int) ^ k).sum
def intOf : Value → Int
  | .int i _ => i
  | _ => 0
theorem paired_filter {p : Value → Bool} {F : Value → Value → Prop} {q : Nat → Bool} {g : Nat → Int} : ∀ {vs ys : List Value} (j₀ : Nat), Paired F (vs.filter p) ys → (∀ j v, vs[j]? = some v → p v = q (j₀ + j)) →
    (∀ j v y, vs[j]? = some v → F v y → IntV (g (j₀ + j)) y) → IntsAre ys (((List.range' j₀ vs.length).filter q).map g)
  | [], ys, j₀, hP, _, _ => by
    cases hP
    exact .nil
  | v :: vs, ys, j₀, hP, hp, hF => by
    have e := hp 0 v rfl
    have ih := fun ys h => paired_filter (p := p) (F := F) (q := q) (g := g) (vs := vs) (ys := ys) (j₀ + 1) h (fun j v hv => by rw [hp (j + 1) v hv]; congr 1; omega) (fun j v y hv hy => by
      have := hF (j + 1) v y hv hy
      rwa [show j₀ + 1 + j = j₀ + (j + 1) by omega])
    rw [List.length_cons, List.range'_succ, List.filter_cons]
    cases hq : q j₀ with
    | false =>
      rw [List.filter_cons_of_neg (by rw [e, Nat.add_zero, hq]; exact Bool.false_ne_true)] at hP
      exact ih _ hP
    | true =>
      rw [List.filter_cons_of_pos (by rw [e, Nat.add_zero, hq])] at hP
      cases hP with
      | cons h t =>
        obtain ⟨t', rfl⟩ := hF 0 v _ rfl h
        simp only [if_true, List.map_cons]
        exact .cons _ _ (ih _ t)
/-- _law_set(row, least) -/
theorem set_call {w : World} {A : Around} {z : Shared} {h : Heap} {tk : Nat} {Q : Value → Shared → Prop} {E : Value → Shared → Prop} (X : TopIn w h) (hA : A.depth < recursionLimit) (hh : A.handled = none) {lst : Addr} {vs : List Value} {ds : List Int} {least : Int} {tl : Tok}
    (hl : h.IsList lst vs.toArray) (hi : IntsAre vs ds) (hn : ds.length = 4)
    (k : ∀ h' tk' t', Keep h h' → Q (.int (setZ ds least) t') (St z h' tk')) :
    wpAny (model prog w) A (call (.ref 115) [.ref lst, .int least tl]) Q E (St z h tk) := by
  refine call_topC X (fn_set X) hA (binds := [(Str.ofString "row", .ref lst), (Str.ofString "least", .int least tl)]) (by rfl) (by rfl) fun h₁ tk₁ hns hk hcell => ?_
  have X₁ := X.keep hk
  have hc' : h₁.IsCell (h.objs.size + 1) (some (.ref lst)) := hcell (Str.ofString "row") (h.objs.size + 1) (by rfl)
  have hc2 : h₁.IsCell (h.objs.size + 1 + 1) (some (.int least tl)) := hcell (Str.ofString "least") (h.objs.size + 1 + 1) (by rfl)
  refine wpAny_execs_cons (wpAny_Return_some (Call_ (Ev.use (ev_built X₁ (v := .builtin "sum") (by kernel_rfl) (by kernel_rfl)) fun v tk2 hv => ?_)))
  subst hv
  refine PyProof.Rows.callWith_builtin1 (spliced_more ?_)
  have hlen : vs.length = ds.length := hi.length
  have hl₁ : h₁.IsList lst vs.toArray := hl.at fun o e => hk lst o e
  refine wpAny_ListComp_free (cl := [(Str.ofString "row", h.objs.size + 1), (Str.ofString "least", h.objs.size + 1 + 1)]) (fun v => decide (least ≤ ds.getD (intOf v).toNat 0)) (fun v y => IntV (2 ^ (intOf v).toNat) y) (by rfl) (by decide) (by rfl) (by decide) (by rfl) ?_
  refine Call_ (Ev.use (ev_built X₁ (v := .type "range") (by kernel_rfl) (by kernel_rfl)) fun v tk3 hv => ?_)
  subst hv
  refine PyProof.Rows.callWith_type1 (spliced_more (Ev.use ev_int fun v tk4 hv => ?_))
  obtain ⟨t4, rfl⟩ := hv
  refine spliced_none (range1 fun r h₂ tk7 _ _ _ hr hk₂ => ?_)
  have hk02 : Keep h h₂ := fun b o e => hk₂ b o (hk b o e)
  have hz : Builtin.Range.rangeSize 0 4 1 = ((4 : Nat) : Int) := by rw [rangeSize_one]; rfl
  refine wpAny_pyIter_range (s := St z h₂ tk7) hr (small_one (by decide) (by decide) (by decide) (by decide)) ?_
  refine ⟨h₂.objs.size, [h₂.objs.size], [h₂.objs.size], 4, _, _, rfl, (Walks.range (A := A.deeper _) hh _ 0 1 4).bound, (by unfold sizeLine; omega), ?_, ?_, ⟨?_, ?_⟩, ?_⟩
  · show IsRangeIter _ _ _ _ _
    rw [hz]
    simpa using Heap.get?_push_size _ rfl
  · intro b hb
    show b < (h₂.push _).objs.size
    rw [List.mem_singleton.mp hb, Heap.size_push]
    exact Nat.lt_succ_self _
  · rintro C i v ⟨h₃, g₃, d₃, tk₃, os₃⟩ m₃ E' hC ⟨hi4, t, rfl⟩ hns₃ hm hk₃ htk
    have k13 : Keep h₁ h₃ := fun b o e => KeepOff.push1 (h' := h₃) hk₃ b o (hk₂ b o e)
    obtain ⟨t', ht'⟩ := IntsAre_get hi (j := i) (by omega)
    have hm' : m₃ (Str.ofString "k") = some (.int ((i : Nat) : Int) t) := by rw [hm]; simp
    simp only [List.forIn_cons, List.forIn_nil, if_true]
    refine wpAny_bind ?_
    refine wpAny_bind (wpAny_isTrue_Compare1 ?_)
    refine Ev.use (z := ⟨h₃, g₃, d₃, tk₃, os₃⟩) (ev_item (lst := lst) (items := vs.toArray) (ev_cell (by rfl) (cell_keep hc' k13)) (ev_locI hns₃ hm') (hl₁.at fun o e => k13 _ o e) (by omega) (by omega) (by simpa using ht')) fun v tk₄ hv => ?_
    subst hv
    refine Ev.use (ev_cell (by rfl) (cell_keep hc2 k13)) fun v tk₅ hv => ?_
    subst hv
    refine PyProof.Rows.ge_int (wpAny_truthy_bool (wpAny_pure (wpAny_pure ⟨?_, h₃, tk₅, rfl, fun _ _ e => e⟩)))
    simp [intOf]
  · rintro C i v ⟨h₃, g₃, d₃, tk₃, os₃⟩ m₃ E' hC ⟨hi4, t, rfl⟩ hp hns₃ hm hk₃ htk
    refine Ev.use (z := ⟨h₃, g₃, d₃, tk₃, os₃⟩) (P := IntV (2 ^ (0 + (i : Int) * 1).toNat)) ?_ fun v tk₄ hv => ⟨by simpa [intOf] using hv, h₃, tk₄, rfl, fun _ _ e => e⟩
    refine ev_pow ev_int (ev_locI hns₃ hm) (by omega) ?_
    have : Builtin.Int.intBits 2 ≤ 64 := intBits_le_64 (by decide) (by decide)
    have h2 : (Builtin.Int.intBits 2 : Int) * (0 + (i : Int) * 1) ≤ 64 * 64 := by
      refine Int.le_trans (Int.mul_le_mul_of_nonneg_right (Int.ofNat_le.mpr this) (by omega)) ?_
      omega
    exact Int.le_trans h2 (by decide)
  · intro D h' tk' ys vs' hD hp hpl hlen' hP hF hk'
    refine spliced_none (sum_ints (h := h') hh hp (ns := ((List.range 4).filter fun k => decide (least ≤ ds.getD k 0)).map fun k => (2 : Int) ^ k) ?_ fun h₂' tk₂' t₂ hk₂' => ?_)
    · have := paired_filter (q := fun k => decide (least ≤ ds.getD k 0)) (g := fun k => (2 : Int) ^ k) 0 hF (fun j v hv => by
        obtain ⟨_, t, rfl⟩ := hP j v hv
        simp [intOf]) (fun j v y hv hy => by
        obtain ⟨_, t, rfl⟩ := hP j v hv
        simpa [intOf] using hy)
      rw [hlen'] at this
      rwa [List.range_eq_range']
    · exact k _ _ _ fun b o e => hk₂' b o (KeepOff.push1 (h' := h') hk' b o (hk02 b o e))
end Mine
end
section
open PySem PySem.W PyProof.Rows PySem.Calls
set_option Elab.async false
set_option maxRecDepth 100000
set_option maxHeartbeats 1000000
namespace Mine
theorem fn_step {w : World} {h : Heap} (X : TopIn w h) : FnAt w h 98 97 (Str.ofString "_law_step") 30 pmL :=
  ⟨⟨_, top_get X (by kernel_rfl), by kernel_rfl⟩, ⟨97, _, _, 314, rfl, top_get X (by kernel_rfl), (by kernel_rfl : (topObj w.params 97).data = .fields (match (topObj w.params 97).data with | .fields vs => vs | _ => #[])), by kernel_rfl⟩⟩
theorem KeepOff.trans {wr : List Addr} {a b c : Heap} (x : KeepOff wr a b) (y : KeepOff wr b c) : KeepOff wr a c := fun p o hp e => y p o hp (x p o hp e)
theorem Keep.off {wr : List Addr} {a b : Heap} (x : Keep a b) : KeepOff wr a b := fun p o _ e => x p o e
theorem KeepOff.of_same {L : Addr} {a b : Heap} (x : Heap.SameBut L a b) : KeepOff [L] a b := fun p o hp e => x.extBut p o (fun q => hp (q ▸ .head _)) e
theorem KeepOff.of_ext {a b : Heap} (x : Heap.ExtBut a.objs.size a b) : Keep a b := fun p o e => x p o (Nat.ne_of_lt (Heap.lt_size e)) e
theorem Keep.trans {a b c : Heap} (x : Keep a b) (y : Keep b c) : Keep a c := fun p o e => y p o (x p o e)
section
variable {w : World} {A : Around} {z : Shared} {env : Env} {h : Heap} {tk : Nat} {m : Str → Option Value} {E : Value → Shared → Prop}
abbrev put (m : Str → Option Value) (x : Str) (v : Value) : Str → Option Value := fun y => if y = x then some v else m y
theorem store_loc {x : Str} {v : Value} {Q : Unit → Shared → Prop} (hns : h.Ns env.locals m) (k : ∀ h' tk', h'.Ns env.locals (put m x v) → Heap.SameBut env.locals h h' → Q () (St z h' tk'))
    (hx : env.kindOf x = some .local := by rfl) (hp : (env.scope.kind == .class || (env.scope.kind == .module && env.locals != env.globals)) = false := by rfl) :
    wpAny (model prog w) A (storeName env x v) Q E (St z h tk) := wpAny_storeName_local hx hns (fun h' a b => k h' _ a b) hp
/-- a, b, c = t, into local names -/
theorem unpack3 {x y u : Str} {px py pu : Pos} {kk : Nat} {pos : Pos} {T : Addr} {a b c : Value} {Q : Unit → Shared → Prop} (hh : A.handled = none) (hT : h.IsTuple T #[a, b, c]) (hns : h.Ns env.locals m)
    (k : ∀ h' tk', h'.Ns env.locals (put (put (put m x a) y b) u c) → KeepOff [env.locals] h h' → Q () (St z h' tk'))
    (hx : env.kindOf x = some .local := by rfl) (hy : env.kindOf y = some .local := by rfl) (hu : env.kindOf u = some .local := by rfl) (hp : (env.scope.kind == .class || (env.scope.kind == .module && env.locals != env.globals)) = false := by rfl) :
    wpAny (model prog w) A (assign (.Tuple [.Name x px, .Name y py, .Name u pu] kk pos) env (.ref T)) Q E (St z h tk) := by
  refine wpAny_assign_Tuple (s := St z h tk) hh hT rfl rfl fun h₁ hx₁ => ?_
  have hk₁ := KeepOff.of_ext hx₁
  refine wpAny_assignInOrder_more (wpAny_assign_Name (store_loc (hns.at' fun o e => hk₁ _ o e) (fun h₂ tk₂ n₂ s₂ => ?_) hx hp))
  refine wpAny_assignInOrder_more (wpAny_assign_Name (store_loc n₂ (fun h₃ tk₃ n₃ s₃ => ?_) hy hp))
  refine wpAny_assignInOrder_more (wpAny_assign_Name (store_loc n₃ (fun h₄ tk₄ n₄ s₄ => ?_) hu hp))
  exact wpAny_assignInOrder_none (k h₄ _ n₄ (((Keep.off hk₁).trans (.of_same s₂)).trans ((KeepOff.of_same s₃).trans (.of_same s₄))))
theorem unpack2 {x y : Str} {px py : Pos} {kk : Nat} {pos : Pos} {T : Addr} {a b : Value} {Q : Unit → Shared → Prop} (hh : A.handled = none) (hT : h.IsTuple T #[a, b]) (hns : h.Ns env.locals m)
    (k : ∀ h' tk', h'.Ns env.locals (put (put m x a) y b) → KeepOff [env.locals] h h' → Q () (St z h' tk'))
    (hx : env.kindOf x = some .local := by rfl) (hy : env.kindOf y = some .local := by rfl) (hp : (env.scope.kind == .class || (env.scope.kind == .module && env.locals != env.globals)) = false := by rfl) :
    wpAny (model prog w) A (assign (.Tuple [.Name x px, .Name y py] kk pos) env (.ref T)) Q E (St z h tk) := by
  refine wpAny_assign_Tuple (s := St z h tk) hh hT rfl rfl fun h₁ hx₁ => ?_
  have hk₁ := KeepOff.of_ext hx₁
  refine wpAny_assignInOrder_more (wpAny_assign_Name (store_loc (hns.at' fun o e => hk₁ _ o e) (fun h₂ tk₂ n₂ s₂ => ?_) hx hp))
  refine wpAny_assignInOrder_more (wpAny_assign_Name (store_loc n₂ (fun h₃ tk₃ n₃ s₃ => ?_) hy hp))
  exact wpAny_assignInOrder_none (k h₃ _ n₃ (((Keep.off hk₁).trans (.of_same s₂)).trans (.of_same s₃)))
/-- list(l) -/
theorem list_copy {l : Addr} {items : Array Value} {Q : Value → Shared → Prop} (hl : h.IsList l items) (hn : items.size ≤ 1000) (k : ∀ h', Keep h h' → h'.IsList h.objs.size items → Q (.ref h.objs.size) (St z h' tk)) :
    wpAny (model prog w) A (call (.type "list") [.ref l]) Q E (St z h tk) := by
  obtain ⟨o, ho, hc, n, hd⟩ := hl
  exact call_list_seq (s := St z h tk) l (.inl rfl) ho hc hd (fun h' c' hk hn => k h' hk ⟨_, hn, rfl, _, rfl⟩) (by unfold sizeLine; omega)
end
theorem IntsAre_set {vs : List Value} {ds : List Int} (h : IntsAre vs ds) {a : Int} {t : Tok} : ∀ (j : Nat), IntsAre (vs.set j (.int a t)) (ds.set j a) := by
  induction h with
  | nil => intro j; exact .nil
  | cons b u hr ih =>
    intro j
    cases j with
    | zero => exact .cons _ _ hr
    | succ j => exact .cons _ _ (ih j)
def stepZ (ms : List Int) (lo hi : Nat) : List Int := (ms.set lo (Builtin.bitAnd (ms.getD lo 0) (ms.getD hi 0))).set hi (Builtin.bitOr (ms.getD lo 0) (ms.getD hi 0))
/-- _law_step(modes, joint) -/
theorem step_call {w : World} {A : Around} {z : Shared} {h : Heap} {tk : Nat} {Q : Value → Shared → Prop} {E : Value → Shared → Prop} (X : TopIn w h) (hA : A.depth < recursionLimit) (hh : A.handled = none) {lst T : Addr} {vs : List Value} {ms : List Int} {lo hg : Nat} {wy : Value} {tl th : Tok}
    (hl : h.IsList lst vs.toArray) (hi : IntsAre vs ms) (hn : ms.length = 4) (hT : h.IsTuple T #[.int lo tl, .int hg th, wy]) (hlo : lo < 4) (hhi : hg < 4)
    (k : ∀ D h' tk' vs', Keep h h' → h'.IsList D vs'.toArray → IntsAre vs' (stepZ ms lo hg) → Q (.ref D) (St z h' tk')) :
    wpAny (model prog w) A (call (.ref 98) [.ref lst, .ref T]) Q E (St z h tk) := by
  refine call_top X (fn_step X) hA (binds := [(Str.ofString "modes", .ref lst), (Str.ofString "joint", .ref T)]) (by rfl) (by decide) (by rfl) fun h₁ hns hk => ?_
  have hlen : vs.length = 4 := hi.length.trans hn
  refine wpAny_execs_cons (Assign_Tuple (Ev.use (ev_loc hns rfl) fun v tk1 hv => ?_))
  subst hv
  refine unpack3 hh (hT.at fun o e => hk T o e) hns fun h₂ tk2 n₂ k₂ => ?_
  have k02 : Keep h h₂ := fun b o e => k₂ b o (by simp; exact Nat.ne_of_lt (Heap.lt_size e)) (hk b o e)
  have X₂ := X.keep k02
  have l₂ : h₂.IsList lst vs.toArray := hl.at fun o e => k02 lst o e
  refine wpAny_execs_cons (wpAny_Assign_Name (Call_ (Ev.use (ev_built X₂ (v := .type "list") (by kernel_rfl) (by kernel_rfl)) fun v tk2 hv => ?_)))
  subst hv
  refine PyProof.Rows.callWith_type1 (spliced_more (Ev.use (ev_loc n₂ rfl) fun v tk3 hv => ?_))
  subst hv
  refine spliced_none (list_copy l₂ (by simp; omega) fun h₃ k₃ l₃ => ?_)
  have hL2 : h.objs.size < h₂.objs.size := by obtain ⟨_, _, _, ho, _⟩ := n₂; exact Heap.lt_size ho
  have hLD : h.objs.size ≠ h₂.objs.size := Nat.ne_of_lt hL2
  refine store_loc (n₂.at' fun o e => k₃ _ o e) fun h₄ tk4 n₄ s₄ => ?_
  have d₄ : h₄.IsList h₂.objs.size vs.toArray := l₃.extBut s₄.extBut (Ne.symm hLD)
  have k04 : Keep h h₄ := fun b o e => s₄.extBut b o (Nat.ne_of_lt (Heap.lt_size e)) (k₃ b o (k02 b o e))
  have l₄ : h₄.IsList lst vs.toArray := hl.at fun o e => k04 lst o e
  obtain ⟨t1, e1⟩ := IntsAre_get hi (j := lo) (by omega)
  obtain ⟨t2, e2⟩ := IntsAre_get hi (j := hg) (by omega)
  refine wpAny_execs_cons (wpAny_Assign_Subscript (Ev.use (ev_and (ev_item (lst := lst) (ev_loc n₄ rfl) (ev_locI n₄ rfl) l₄ (by omega) (by omega) (by simpa using e1)).int (ev_item (lst := lst) (ev_loc n₄ rfl) (ev_locI n₄ rfl) l₄ (by omega) (by omega) (by simpa using e2)).int) fun v tk5 hv => ?_))
  obtain ⟨t5, rfl⟩ := hv
  refine Ev.use (ev_loc n₄ rfl) fun v tk6 hv => ?_
  subst hv
  refine Ev.use (ev_locI n₄ rfl) fun v tk7 hv => ?_
  obtain ⟨t7, rfl⟩ := hv
  refine wpAny_setItem_list (s := St z h₄ tk7) d₄ (by omega) (by omega) (by simp; omega) fun h₅ d₅ s₅ => ?_
  have k05 : Keep h h₅ := fun b o e => s₅.extBut b o (by have := lt_sz e; have : @LT.lt Nat _ h.objs.size h₂.objs.size := hL2; (first | omega | (dsimp only [PySem.Addr] at *; omega))) (k04 b o e)
  have l₅ : h₅.IsList lst vs.toArray := hl.at fun o e => k05 lst o e
  have n₅ := n₄.sameBut s₅ hLD
  refine wpAny_execs_cons (wpAny_Assign_Subscript (Ev.use (ev_or (ev_item (lst := lst) (ev_loc n₅ rfl) (ev_locI n₅ rfl) l₅ (by omega) (by omega) (by simpa using e1)).int (ev_item (lst := lst) (ev_loc n₅ rfl) (ev_locI n₅ rfl) l₅ (by omega) (by omega) (by simpa using e2)).int) fun v tk5 hv => ?_))
  obtain ⟨t6, rfl⟩ := hv
  refine Ev.use (ev_loc n₅ rfl) fun v tk6 hv => ?_
  subst hv
  refine Ev.use (ev_locI n₅ rfl) fun v tk7 hv => ?_
  obtain ⟨t8, rfl⟩ := hv
  refine wpAny_setItem_list (s := St z h₅ tk7) d₅ (by omega) (by omega) (by simp; omega) fun h₆ d₆ s₆ => ?_
  have k06 : Keep h h₆ := fun b o e => s₆.extBut b o (by have := lt_sz e; have : @LT.lt Nat _ h.objs.size h₂.objs.size := hL2; (first | omega | (dsimp only [PySem.Addr] at *; omega))) (k05 b o e)
  have n₆ := n₅.sameBut s₆ hLD
  refine wpAny_execs_cons (wpAny_Return_some (Ev.use (ev_loc n₆ rfl) fun v tk9 hv => ?_))
  subst hv
  refine k _ h₆ tk9 ((vs.set lo (.int (Builtin.bitAnd (ms.getD lo 0) (ms.getD hg 0)) t5)).set hg (.int (Builtin.bitOr (ms.getD lo 0) (ms.getD hg 0)) t6)) k06 ?_ (IntsAre_set (IntsAre_set hi lo) hg)
  simpa using d₆
end Mine
end
section
open PySem PySem.W PyProof.Rows PySem.Calls
set_option Elab.async false
set_option maxRecDepth 100000
set_option maxHeartbeats 1000000
namespace Mine
section
variable {w : World} {A : Around} {z : Shared} {env : Env} {E : Value → Shared → Prop}
/-- what a for statement wants of its iterator -/
def ForGo (w : World) (A : Around) (z : Shared) (env : Env) (target : Expr) (body orelse : List Stmt) (Q : Flow → Shared → Prop) (it : Value) (s₂ : Shared) : Prop :=
  ∃ I wr fp n P S, ∃ J : Nat → Heap → Prop, ∃ h₂ tk₂, it = .ref I ∧ s₂ = St z h₂ tk₂ ∧ It w A z I wr fp n P S ∧ S 0 h₂ ∧ J 0 h₂ ∧ (∀ i h h', J i h → KeepOff wr h h' → J i h') ∧
    (∀ i v as h tk (Q : Unit → Shared → Prop) (E : Value → Shared → Prop), P i v as h → S (i + 1) h → (∀ h', P i v as h' → S (i + 1) h' → KeepOff wr h h' → Q () (St z h' tk)) → wpAny (model prog w) A (letOwnedTupleGo target (.ref I) v) Q E (St z h tk)) ∧
    (∀ i v as h tk, i < n → P i v as h → S (i + 1) h → J i h →
      wpAny (model prog w) A (assign target env v) (fun _ s₂ => wpAny (model prog w) A (execs body env) (fun f s₃ => match f with
        | .next | .cont => ∃ h' tk', s₃ = St z h' tk' ∧ S (i + 1) h' ∧ J (i + 1) h'
        | .brk => Q .next s₃
        | .ret v => Q (.ret v) s₃) (fun _ _ => False) s₂) (fun _ _ => False) (St z h tk)) ∧
    (∀ h tk, J n h → wpAny (model prog w) A (execs orelse env) Q (fun _ _ => False) (St z h tk))
theorem for_it {h : Heap} {tk : Nat} {target iter : Expr} {body orelse : List Stmt} {pos : Pos} {Q : Flow → Shared → Prop}
    (hit : wpAny (model prog w) A (eval iter env) (fun xv s₁ => wpAny (model prog w) A (pyIter xv) (ForGo w A z env target body orelse Q) E s₁) E (St z h tk))
    (hs : ∀ x, foldedSetIterable iter env x = pure x := by intro _; rfl) :
    wpAny (model prog w) A (exec (.For target iter body orelse pos) env) Q E (St z h tk) := by
  refine wpAny_For (wpAny_mono hit (fun xv s₁ h₁ => wpAny_mono h₁ (fun it s₂ h₂ => ?_) fun _ _ e => e) fun _ _ e => e) hs
  obtain ⟨I, wr, fp, n, P, S, J, h₂, tk₂, rfl, rfl, W, hS, hJ, hf, go, step, fin⟩ := h₂
  refine codeAny_forLoop_any (fun k s' => ∃ i h' tk', s' = St z h' tk' ∧ S i h' ∧ J i h' ∧ i ≤ n ∧ k = n + 1 - i) ?_ (n + 1) ⟨0, h₂, tk₂, rfl, hS, hJ, Nat.zero_le _, rfl⟩
  rintro k s' ⟨i, H, tk', rfl, hS', hJ', hi, rfl⟩
  by_cases hlt : i < n
  · refine W.item i H tk' _ _ hlt hS' fun v as h₁ tk₁ hP hS₁ has hk₁ => ?_
    refine go i v as h₁ tk₁ _ _ hP hS₁ fun h₃ hP₃ hS₃ hk₃ => ?_
    refine wpAny_mono (step i v as h₃ tk₁ hlt hP₃ hS₃ (hf _ _ _ (hf _ _ _ hJ' hk₁) hk₃)) (fun _ s₂ h₂ => wpAny_mono h₂ (fun f s₃ h₃ => ?_) fun _ _ e => e.elim) fun _ _ e => e.elim
    cases f with
    | next =>
      obtain ⟨h', tk'', rfl, hs', hj'⟩ := h₃
      exact ⟨n + 1 - (i + 1), step_lt hlt, i + 1, h', tk'', rfl, hs', hj', hlt, rfl⟩
    | cont =>
      obtain ⟨h', tk'', rfl, hs', hj'⟩ := h₃
      exact ⟨n + 1 - (i + 1), step_lt hlt, i + 1, h', tk'', rfl, hs', hj', hlt, rfl⟩
    | brk => exact h₃
    | ret v => exact h₃
  · have : i = n := by omega
    subst this
    refine W.done _ _ _ _ hS' fun h₁ tk₁ hk₁ => ?_
    exact wpAny_mono (fin h₁ tk₁ (hf _ _ _ hJ' hk₁)) (fun _ _ q => q) fun _ _ e => e.elim
/-- iter(x) -/
theorem iter_call {h : Heap} {tk : Nat} {v : Value} {Q : Value → Shared → Prop} (k : wpAny (model prog w) A.in1 (pyIter v) Q E (St z h tk)) :
    wpAny (model prog w) A (call (.builtin "iter") [v]) Q E (St z h tk) := by
  refine call_function_entry (by decide +kernel) (by decide +kernel) kdk_entry_iter (kdk_args_iter _) ?_
  unfold Builtin.«iter»
  refine wpAny_bind (m := someArgs "iter" 1 2 _) (wpAny_of_eq (a := [v]) (by first | rfl | kernel_rfl!) ?_)
  show wpAny _ _ (pyIter v >>= _) _ _ _
  exact wpAny_bind (wpAny_mono k (fun a s' q => wpAny_pure ⟨a, rfl, q⟩) fun _ _ e => e)
end
abbrev pmF : Value := .str (Str.ofString "cpy313.functools") 187
abbrev pmS : Value := .str (Str.ofString "cpy313.stat") 211
abbrev fdR : FuncData := { docDef (Str.ofString "reduce") (argsOf (top 3)) (bodyOf (top 3)) (scopeOf (top 3)) pmF (.ref 29) .none with defaults := .ref 23 }
theorem fn_reduce {w : World} {h : Heap} (X : TopIn w h) : (∃ o, h.get? 30 = some o ∧ o.data = .func fdR) ∧ h.CodeRec (.ref 29) (Str.ofString "reduce") :=
  ⟨⟨_, top_get X (by kernel_rfl), by kernel_rfl⟩, ⟨29, _, _, 200, rfl, top_get X (by kernel_rfl), (by kernel_rfl : (topObj w.params 29).data = .fields (match (topObj w.params 29).data with | .fields vs => vs | _ => #[])), by kernel_rfl⟩⟩
/-- a call of a def, by its data -/
theorem call_fd {w : World} {A : Around} {z : Shared} {h : Heap} {tk : Nat} {Q : Value → Shared → Prop} {E : Value → Shared → Prop} {a : Addr} {fd : FuncData} {body : List Stmt} {args : List Value} {binds : List (Str × Value)}
    (X : TopIn w h) (F : ∃ o, h.get? a = some o ∧ o.data = .func fd) (hcd : h.CodeRec fd.code fd.qualname) (hA : A.depth < recursionLimit) (hbody : fd.body = .stmts body) (hb : BindsTo (St z h tk) fd ⟨args, []⟩ binds)
    (hcell : (fd.scope.names.all fun x => x.2 != .cell) = true) (hloc : (binds.map (·.1)).all (fun x => decide (fd.scope.names.lookup x = some .local)) = true)
    (k : ∀ h₁ tk₁, h₁.Ns h.objs.size (fun x => binds.reverse.lookup x) → Keep h h₁ →
      wpAny (model prog w) (A.deeper (callEnv fd h.objs.size a)) (execs body (callEnv fd h.objs.size a)) (fun f s' => Q (match f with | .ret v => v | _ => .none) s') (fun _ _ => False) (St z h₁ tk₁))
    (hco : fd.scope.isCoroutine = false := by rfl) (hgen : fd.scope.isGenerator = false := by rfl) (hk : fd.scope.kind = .function := by rfl) :
    wpAny (model prog w) A (call (.ref a) args) Q E (St z h tk) := by
  obtain ⟨o, ho, hd⟩ := F
  refine wpAny_call (codeAny_call_def hA ho hd (top_noLimit X) hcd hbody hb (fun x hx => ?_) (binds_loc hloc) (fun h₁ hns hk₁ => ?_) hco hgen hk)
  · have := List.all_eq_true.mp hcell x hx
    simpa using this
  · exact wpAny_mono (k h₁ _ hns hk₁) (fun _ _ q => q) fun _ _ q => q.elim
/-- a joint in the heap -/
structure Joint where
  lo : Nat
  hi : Nat
  way : Nat
def Joint.ok (j : Joint) : Prop := j.lo < 4 ∧ j.hi < 4 ∧ j.lo ≠ j.hi ∧ j.way < 10
def JointAt (h : Heap) (j : Joint) (v : Value) : Prop := ∃ T t1 t2 t3, v = .ref T ∧ 140 ≤ T ∧ h.IsTuple T #[.int j.lo t1, .int j.hi t2, .int j.way t3]
def NetAt (h : Heap) (net : List Joint) (l : Addr) : Prop := ∃ vs : List Value, h.IsList l vs.toArray ∧ vs.length = net.length ∧ (∀ (i : Nat) (j : Joint) (v : Value), net[i]? = some j → vs[i]? = some v → JointAt h j v)
def IntList (h : Heap) (ds : List Int) (l : Addr) : Prop := ∃ vs : List Value, h.IsList l vs.toArray ∧ IntsAre vs ds
theorem JointAt.keep {h h' : Heap} {j : Joint} {v : Value} (x : JointAt h j v) (k : Keep h h') : JointAt h' j v := by
  obtain ⟨T, t1, t2, t3, e, b, hT⟩ := x
  exact ⟨T, t1, t2, t3, e, b, hT.at fun o q => k _ o q⟩
theorem NetAt.keep {h h' : Heap} {net : List Joint} {l : Addr} (x : NetAt h net l) (k : Keep h h') : NetAt h' net l := by
  obtain ⟨vs, hl, hn, hj⟩ := x
  exact ⟨vs, hl.at fun o e => k _ o e, hn, fun i j v a b => (hj i j v a b).keep k⟩
theorem IntList.keep {h h' : Heap} {ds : List Int} {l : Addr} (x : IntList h ds l) (k : Keep h h') : IntList h' ds l := by
  obtain ⟨vs, hl, hi⟩ := x
  exact ⟨vs, hl.at fun o e => k _ o e, hi⟩
def runZ (ms : List Int) (net : List Joint) : List Int := net.foldl (fun ms j => stepZ ms j.lo j.hi) ms
theorem stepZ_length (ms : List Int) (a b : Nat) : (stepZ ms a b).length = ms.length := by simp [stepZ]
theorem put_ne {m : Str → Option Value} {x y : Str} {v : Value} (h : y ≠ x) : put m x v y = m y := if_neg h
theorem ty_ne {a b : String} (h : Value.type a = Value.type b) (hn : a ≠ b) : False := by
  injection h with q
  exact hn q
theorem ne_list_iter {h : Heap} {a b c : Addr} {i : Nat} {items : Array Value} (x : h.IsList a items) (y : h.IsListIter b c i) : a ≠ b := by
  rintro rfl
  obtain ⟨o, ho, hc, _⟩ := x
  obtain ⟨o', ho', hc', _⟩ := y
  rw [ho] at ho'
  cases ho'
  exact ty_ne (hc.symm.trans hc') (by decide)
theorem ne_list_ns {h : Heap} {a b : Addr} {m : Str → Option Value} {items : Array Value} (x : h.IsList a items) (y : h.Ns b m) : a ≠ b := by
  rintro rfl
  obtain ⟨_, ho, hc, n, hd⟩ := x
  obtain ⟨_, _, _, ho', hd', _⟩ := y
  rw [ho] at ho'
  cases ho'
  rw [hd] at hd'
  cases hd'
theorem runZ_take {ms : List Int} {net : List Joint} {i : Nat} {j : Joint} (hj : net[i]? = some j) : runZ ms (net.take (i + 1)) = stepZ (runZ ms (net.take i)) j.lo j.hi := by
  rw [List.take_add_one, hj]
  simp [runZ]
theorem runZ_length (net : List Joint) : ∀ (ms : List Int), (runZ ms net).length = ms.length := by
  unfold runZ
  induction net with
  | nil => intro ms; rfl
  | cons j net ih => intro ms; rw [List.foldl_cons, ih, stepZ_length]
/-- reduce(_law_step, network, modes) -/
theorem reduce_call {w : World} {A : Around} {z : Shared} {h : Heap} {tk : Nat} {Q : Value → Shared → Prop} {E : Value → Shared → Prop} (X : TopIn w h) (hA : A.depth + 1 < recursionLimit) (hh : A.handled = none) {nl ml : Addr} {net : List Joint} {ms : List Int}
    (hnet : NetAt h net nl) (hok : ∀ j ∈ net, j.ok) (hlen : net.length ≤ 1000) (hms : IntList h ms ml) (hm4 : ms.length = 4)
    (k : ∀ D h' tk', Keep h h' → IntList h' (runZ ms net) D → Q (.ref D) (St z h' tk')) :
    wpAny (model prog w) A (call (.ref 30) [.ref 98, .ref nl, .ref ml]) Q E (St z h tk) := by
  refine call_fd X (fn_reduce X).1 (fn_reduce X).2 (by omega) rfl (binds := [(Str.ofString "function", .ref 98), (Str.ofString "sequence", .ref nl), (Str.ofString "initial", .ref ml)]) ?_ (by decide) (by rfl) fun h₁ tk₁ hns hk => ?_
  · refine BindsTo.of_defaults (T := 23) (items := #[.ref 22]) (n := 0) rfl (top_get X (a := 23) (by kernel_rfl)) (by kernel_rfl) rfl rfl
  have X₁ := X.keep hk
  refine wpAny_execs_cons (wpAny_Assign_Name (Call_ (Ev.use (ev_built X₁ (v := .builtin "iter") (by kernel_rfl) (by kernel_rfl)) fun v tk2 hv => ?_)))
  subst hv
  refine PyProof.Rows.callWith_builtin1 (spliced_more (Ev.use (ev_loc hns rfl) fun v tk3 hv => ?_))
  subst hv
  obtain ⟨vs, hl, hvn, hj⟩ := hnet
  refine spliced_none (iter_call (wpAny_pyIter_list (hl.at fun o e => hk _ o e) ?_))
  have hL1 : h.objs.size < h₁.objs.size := by obtain ⟨_, _, _, ho, _⟩ := hns; exact Heap.lt_size ho
  have hLI : h.objs.size ≠ h₁.objs.size := Nat.ne_of_lt hL1
  refine store_loc (z := z) (hns.at' fun o e => Heap.get?_push_of_some _ e) fun h₂ tk4 n₂ s₂ => ?_
  have k02 : Keep h h₂ := fun b o e => s₂.extBut b o (Nat.ne_of_lt (Heap.lt_size e)) (Heap.get?_push_of_some _ (hk b o e))
  have it₂ : h₂.IsListIter h₁.objs.size nl 0 := Heap.IsListIter.extBut (h := h₁.push _) ⟨_, Heap.get?_push_size _ rfl, rfl, rfl⟩ s₂.extBut (Ne.symm hLI)
  have X₂ := X.keep k02
  obtain ⟨ws, hml, hwi⟩ := hms
  obtain ⟨ol, hol, hcl, _⟩ := hml.at fun o e => k02 _ o e
  have o22 := top_get X₂ (a := 22) (by kernel_rfl)
  have hne : ml ≠ 22 := by
    rintro rfl
    rw [hol] at o22
    cases o22
    have : (topObj w.params 22).cls = .type "object" := by kernel_rfl
    exact ty_ne (this.symm.trans hcl) (by decide)
  refine wpAny_execs_cons (wpAny_If (wpAny_isTrue_Compare1 (Ev.use (ev_loc n₂ rfl) fun v tk5 hv => ?_)))
  subst hv
  refine Ev.use (ev_glob X₂ (v := .ref 22) (by kernel_rfl)) fun v tk6 hv => ?_
  subst hv
  refine wpAny_is_ref_other hne hol o22 (fun q => ty_ne (hcl.symm.trans q) (by decide)) (wpAny_truthy_bool ?_)
  simp only [Bool.false_eq_true, if_false]
  refine wpAny_execs_cons (wpAny_Assign_Name (Ev.use (ev_loc n₂ rfl) fun v tk7 hv => ?_))
  subst hv
  refine store_loc n₂ fun h₃ tk8 n₃ s₃ => ?_
  have k03 : Keep h h₃ := fun b o e => s₃.extBut b o (Nat.ne_of_lt (Heap.lt_size e)) (k02 b o e)
  have it₃ : h₃.IsListIter h₁.objs.size nl 0 := it₂.extBut s₃.extBut (Ne.symm hLI)
  have hIh : ∀ b o, h.get? b = some o → b ∉ [h₁.objs.size] := fun b o e q => by
    have := lt_sz e
    rw [List.mem_singleton.mp q] at this
    exact absurd this (Nat.not_lt.mpr (Nat.le_of_lt hL1))
  have hml3 : ml ≠ h₁.objs.size := ne_list_iter (hml.at fun o e => k03 _ o e) it₃
  have hnl3 : nl ≠ h₁.objs.size := ne_list_iter (hl.at fun o e => k03 _ o e) it₃
  refine wpAny_execs_nil (wpAny_execs_cons (for_it (Ev.use (ev_loc n₃ rfl) fun v tk9 hv => ?_)))
  subst hv
  refine wpAny_pyIter_listiter (s := St z h₃ tk9) it₃ ?_
  refine ⟨h₁.objs.size, [h₁.objs.size], [h₁.objs.size, nl], vs.toArray.size, _, _, fun i H => Keep h H ∧ ∃ D m', D ≠ h₁.objs.size ∧ H.Ns h.objs.size m' ∧ m' (Str.ofString "value") = some (.ref D) ∧ m' (Str.ofString "function") = some (.ref 98) ∧ IntList H (runZ ms (net.take i)) D, h₃, tk9, rfl, rfl, It.list (A := A.deeper _) hh _ nl hnl3 vs.toArray, ⟨it₃, hl.at fun o e => k03 _ o e⟩, ⟨k03, ml, _, hml3, n₃, rfl, rfl, ws, hml.at fun o e => k03 _ o e, hwi⟩, ?_, fun i v as h tk Q E hP hS k => wpAny_pure (k h hP hS fun _ _ _ e => e), ?_, ?_⟩
  · rintro i H H' ⟨hk', D, m', hD, hn, e1, e2, us, hu, hui⟩ kk
    exact ⟨fun b o e => kk b o (hIh b o e) (hk' b o e), D, m', hD, hn.at' fun o e => kk _ o (by simpa using hLI) e, e1, e2, us, hu.at fun o e => kk _ o (by simpa using hD) e, hui⟩
  · rintro i v as H tk' hi ⟨hv, rfl⟩ ⟨itS, lS⟩ ⟨hk', D, m', hD, hn, e1, e2, us, hu, hui⟩
    refine wpAny_assign_Name (store_loc hn fun h₄ tk4 n₄ s₄ => ?_)
    have hin : i < net.length := by simpa [hvn] using hi
    obtain ⟨j, hjj⟩ : ∃ j, net[i]? = some j := ⟨net[i], by simp [hin]⟩
    obtain ⟨T, t1, t2, t3, rfl, hT140, hT⟩ := hj i j v hjj (by simpa using hv)
    have k04 : Keep h h₄ := fun b o e => s₄.extBut b o (Nat.ne_of_lt (Heap.lt_size e)) (hk' b o e)
    have jok := hok j (List.mem_of_getElem? hjj)
    have hDL : D ≠ h.objs.size := ne_list_ns hu hn
    have u₄ : h₄.IsList D us.toArray := hu.extBut s₄.extBut hDL
    refine wpAny_execs_cons (wpAny_Assign_Name (Call_ (Ev.use (ev_loc n₄ (v := .ref 98) ((put_ne (by decide)).trans e2)) fun v tk5 hv => ?_)))
    subst hv
    have X₄ := X.keep k04
    obtain ⟨of, hof, hdf⟩ := (fn_step X₄).fn
    refine PyProof.Rows.callWith_def hdf (spliced_more (Ev.use (ev_loc n₄ (v := .ref D) ((put_ne (by decide)).trans e1)) fun v tk6 hv => ?_))
    subst hv
    refine spliced_more (Ev.use (ev_loc n₄ rfl) fun v tk7 hv => ?_)
    subst hv
    refine spliced_none ⟨hof, ?_⟩
    refine step_call (A := A.deeper _) X₄ (show A.depth + 1 < recursionLimit from hA) hh u₄ hui (by rw [runZ_length, hm4]) (hT.at fun o e => k04 _ o e) jok.1 jok.2.1 fun D' h₅ tk8 vs' k₅ l₅ i₅ => ?_
    have it₄ : h₄.IsListIter h₁.objs.size nl (i + 1) := itS.extBut s₄.extBut (Ne.symm hLI)
    refine store_loc (n₄.at' fun o e => k₅ _ o e) fun h₆ tk9 n₆ s₆ => wpAny_execs_nil ?_
    have it₆ : h₆.IsListIter h₁.objs.size nl (i + 1) := (it₄.at fun o e => k₅ _ o e).extBut s₆.extBut (Ne.symm hLI)
    have k06 : Keep h h₆ := fun b o e => s₆.extBut b o (Nat.ne_of_lt (Heap.lt_size e)) (k₅ b o (k04 b o e))
    have hDL' : D' ≠ h.objs.size := ne_list_ns l₅ (n₄.at' fun o e => k₅ _ o e)
    have l₆ : h₆.IsList D' vs'.toArray := l₅.extBut s₆.extBut hDL'
    refine ⟨h₆, tk9, rfl, ⟨it₆, hl.at fun o e => k06 _ o e⟩, k06, D', _, ne_list_iter l₆ it₆, n₆, rfl, (put_ne (by decide)).trans ((put_ne (by decide)).trans e2), vs', l₆, ?_⟩
    rwa [runZ_take hjj]
  · rintro H tk' ⟨hk', D, m', hD, hn, e1, e2, us, hu, hui⟩
    refine wpAny_execs_nil ?_
    refine wpAny_execs_cons (wpAny_Return_some (Ev.use (ev_loc hn e1) fun v tk5 hv => ?_))
    subst hv
    refine k D H tk5 hk' ⟨us, hu, ?_⟩
    rwa [List.take_of_length_le (by simp [hvn])] at hui
end Mine
end
section
open PySem PySem.W PyProof.Rows PySem.Calls
set_option Elab.async false
set_option maxRecDepth 100000
set_option maxHeartbeats 1000000
namespace Mine
theorem fn_imode {w : World} {h : Heap} (X : TopIn w h) : FnAt w h 37 36 (Str.ofString "S_IMODE") 5 pmS :=
  ⟨⟨_, top_get X (by kernel_rfl), by kernel_rfl⟩, ⟨36, _, _, 214, rfl, top_get X (by kernel_rfl), (by kernel_rfl : (topObj w.params 36).data = .fields (match (topObj w.params 36).data with | .fields vs => vs | _ => #[])), by kernel_rfl⟩⟩
theorem fn_ifmt {w : World} {h : Heap} (X : TopIn w h) : FnAt w h 44 43 (Str.ofString "S_IFMT") 6 pmS :=
  ⟨⟨_, top_get X (by kernel_rfl), by kernel_rfl⟩, ⟨43, _, _, 221, rfl, top_get X (by kernel_rfl), (by kernel_rfl : (topObj w.params 43).data = .fields (match (topObj w.params 43).data with | .fields vs => vs | _ => #[])), by kernel_rfl⟩⟩
theorem fn_filemode {w : World} {h : Heap} (X : TopIn w h) : FnAt w h 84 83 (Str.ofString "filemode") 27 pmS :=
  ⟨⟨_, top_get X (by kernel_rfl), by kernel_rfl⟩, ⟨83, _, _, 292, rfl, top_get X (by kernel_rfl), (by kernel_rfl : (topObj w.params 83).data = .fields (match (topObj w.params 83).data with | .fields vs => vs | _ => #[])), by kernel_rfl⟩⟩
theorem fn_text {w : World} {h : Heap} (X : TopIn w h) : FnAt w h 134 133 (Str.ofString "_law_text") 36 pmL :=
  ⟨⟨_, top_get X (by kernel_rfl), by kernel_rfl⟩, ⟨133, _, _, 365, rfl, top_get X (by kernel_rfl), (by kernel_rfl : (topObj w.params 133).data = .fields (match (topObj w.params 133).data with | .fields vs => vs | _ => #[])), by kernel_rfl⟩⟩
section
variable {w : World} {A : Around} {z : Shared} {h : Heap} {tk : Nat} {Q : Value → Shared → Prop} {E : Value → Shared → Prop}
theorem imode_call (X : TopIn w h) (hA : A.depth < recursionLimit) {x : Int} {t : Tok}
    (k : ∀ h' tk' t', Keep h h' → @LE.le Nat _ h.objs.size h'.objs.size → Q (.int (Builtin.bitAnd x 4095) t') (St z h' tk')) :
    wpAny (model prog w) A (call (.ref 37) [.int x t]) Q E (St z h tk) := by
  refine call_top X (fn_imode X) hA (binds := [(Str.ofString "mode", .int x t)]) (by rfl) (by decide) (by rfl) fun h₁ hns hk => ?_
  refine wpAny_execs_cons (wpAny_Return_some (Ev.use (ev_and (ev_locI hns rfl) ev_int) fun v tk1 hv => ?_))
  obtain ⟨t1, rfl⟩ := hv
  exact k _ _ _ hk (by obtain ⟨_, _, _, ho, _⟩ := hns; exact Nat.le_of_lt (Heap.lt_size ho))
theorem ifmt_call (X : TopIn w h) (hA : A.depth < recursionLimit) {x : Int} {t : Tok}
    (k : ∀ h' tk' t', Keep h h' → @LE.le Nat _ h.objs.size h'.objs.size → Q (.int (Builtin.bitAnd x 61440) t') (St z h' tk')) :
    wpAny (model prog w) A (call (.ref 44) [.int x t]) Q E (St z h tk) := by
  refine call_top X (fn_ifmt X) hA (binds := [(Str.ofString "mode", .int x t)]) (by rfl) (by decide) (by rfl) fun h₁ hns hk => ?_
  refine wpAny_execs_cons (wpAny_Return_some (Ev.use (ev_and (ev_locI hns rfl) ev_int) fun v tk1 hv => ?_))
  obtain ⟨t1, rfl⟩ := hv
  exact k _ _ _ hk (by obtain ⟨_, _, _, ho, _⟩ := hns; exact Nat.le_of_lt (Heap.lt_size ho))
end
abbrev StrV (x : Str) (v : Value) : Prop := ∃ t, v = .str x t
def at1 (x : Str) (i : Nat) : Str := ⟨#[x.cps.getD i 0]⟩
theorem at1_length (x : Str) (i : Nat) : (at1 x i).length = 1 := rfl
section
variable {w : World} {A : Around} {env : Env} {z : Shared} {h : Heap} {l r : Expr} {pos : Pos} {a b : Int} {P : Value → Prop} {x y : Str}
theorem ev_str {k : Nat} : Ev w A env z h (.Constant (.str x) k pos) (StrV x) := fun _ _ _ k => wpAny_Constant_str (k _ _ ⟨_, rfl⟩)
theorem ev_chr {i : Int} (p : Ev w A env z h l (StrV x)) (q : Ev w A env z h r (IntV i)) (h0 : 0 ≤ i) (h1 : i < x.length) (h2 : x.length ≤ 1000)
    (hs : ∀ t u, subscripted r false (.str x t) (.int i u) = operate [.str x t, .int i u] (getItem (.str x t) (.int i u)) := by intro _ _; with_unfolding_all rfl) :
    Ev w A env z h (.Subscript l r pos) (StrV (at1 x i.toNat)) := fun tk Q E k =>
  Subscript_ (p tk _ E fun v tk1 hv => q tk1 _ E fun v2 tk2 hv2 => by
    obtain ⟨t, rfl⟩ := hv
    obtain ⟨u, rfl⟩ := hv2
    have hlen : x.length = x.cps.size := rfl
    have hc : (seqIndex? i x.length).bind (x.cps[·]?) = some (x.cps.getD i.toNat 0) := by
      have e : seqIndex? i x.length = some i.toNat := by
        unfold seqIndex?
        simp only [show ¬ i < 0 by omega, if_false]
        rw [if_pos]
        simp
        omega
      rw [e]
      have hlt : i.toNat < x.cps.size := by omega
      simp [Array.getD, hlt]
    exact tail_any (typeIs_str (St z h tk2) x t) slot_str_getitem.lookup (PyProof.Rows.getItem_str (by simp; omega) hc (k _ _ ⟨_, rfl⟩)) (hs t u))
theorem ev_cat (p : Ev w A env z h l (StrV x)) (q : Ev w A env z h r (StrV y)) (hs : x.length + y.length ≤ 1000) : Ev w A env z h (.BinOp l .Add r pos) (StrV (x ++ y)) := fun tk Q E k =>
  wpAny_BinOp (p tk _ E fun v tk1 hv => q tk1 _ E fun v2 tk2 hv2 => by
    obtain ⟨t, rfl⟩ := hv
    obtain ⟨u, rfl⟩ := hv2
    exact PyProof.Rows.add_str (fun t' tk' => k _ _ ⟨_, rfl⟩) (by unfold sizeLine; omega))
theorem ev_ifeq {p : Pos} {e f : Expr} (x : Ev w A env z h l (IntV a)) (y : Ev w A env z h r (IntV b)) (h1 : a = b → Ev w A env z h e P) (h2 : a ≠ b → Ev w A env z h f P) (hm : behindInMarks .Eq r = false := by with_unfolding_all rfl) :
    Ev w A env z h (.IfExp (.Compare l [.Eq] [r] p) e f pos) P := fun tk Q E k =>
  IfExp_ (wpAny_isTrue_Compare1 (x tk _ E fun v tk1 hv => y tk1 _ E fun v2 tk2 hv2 => by
    obtain ⟨t, rfl⟩ := hv
    obtain ⟨u, rfl⟩ := hv2
    refine eq_int (wpAny_truthy_bool ?_)
    by_cases q : a = b
    · rw [show (a == b) = true by simpa using q]
      exact h1 q _ _ _ k
    · rw [show (a == b) = false by simpa using q]
      exact h2 q _ _ _ k) hm)
end
end Mine
end
section
open PySem PySem.W PyProof.Rows PySem.Calls
set_option Elab.async false
set_option maxRecDepth 100000
set_option maxHeartbeats 1000000
namespace Mine
section
variable {w : World} {A : Around} {env : Env} {z : Shared} {h : Heap} {tk : Nat} {value : Expr} {pos p p1 p2 : Pos} {l : Addr} {items : Array Value} {Q : Value → Shared → Prop} {E : Value → Shared → Prop}
theorem slice_core {lower upper : Option Expr} {lo hi : Option Int} (x : Ev w A env z h value (· = .ref l)) (hl : h.IsList l items) (hn : items.size ≤ 1000)
    (plo : ∀ tk (Q : Value → Shared → Prop), (∀ v tk', IsPart v lo → Q v (St z h tk')) → wpAny (model prog w) A (evalPart lower env) Q E (St z h tk))
    (phi : ∀ tk (Q : Value → Shared → Prop), (∀ v tk', IsPart v hi → Q v (St z h tk')) → wpAny (model prog w) A (evalPart upper env) Q E (St z h tk))
    (k : ∀ h' tk' D, Keep h h' → @LT.lt Nat _ h.objs.size D → h'.PlainList D (slicePick items lo hi none) → Q (.ref D) (St z h' tk'))
    (ht : ∀ o r, letTemporaryGo value o r = pure () := by intro _ _; rfl) :
    wpAny (model prog w) A (eval (.Subscript value (.Slice lower upper none p) pos) env) Q E (St z h tk) := by
  refine wpAny_Subscript_Slice slot_list_getitem.lookup (Ev.use x fun v tk1 hv => ?_) ht
  subst hv
  refine wpAny_Slice (plo _ _ fun v1 tk2 h1 => phi _ _ fun v2 tk3 h2 => wpAny_pure ?_)
  refine ⟨Heap.IsList.typeIs (s := { heap := h.push _, gens := z.gens, drawn := z.drawn, toks := tk3, os := z.os }) (hl.push _), ?_⟩
  refine wpAny_getItem_list_slice (s := St z (h.push _) tk3) (hl.push _) (Heap.IsSliceOf.new ..) h1 h2 .none (by simp) ?_ (by unfold sizeLine; omega)
  refine k _ _ _ (fun b o e => Heap.get?_push_of_some _ (Heap.get?_push_of_some _ e)) ?_ ⟨_, Heap.get?_push_size _ rfl⟩
  show h.objs.size < (h.push _).objs.size
  rw [Heap.size_push]
  exact Nat.lt_succ_self _
theorem slice_from {a : Nat} {kk : Nat} (x : Ev w A env z h value (· = .ref l)) (hl : h.IsList l items) (hn : items.size ≤ 1000)
    (k : ∀ h' tk' D, Keep h h' → @LT.lt Nat _ h.objs.size D → h'.PlainList D (items.toList.drop a).toArray → Q (.ref D) (St z h' tk'))
    (ht : ∀ o r, letTemporaryGo value o r = pure () := by intro _ _; rfl) :
    wpAny (model prog w) A (eval (.Subscript value (.Slice (some (.Constant (.int a) kk p1)) none none p) pos) env) Q E (St z h tk) :=
  slice_core (lo := some (a : Int)) (hi := none) x hl hn (fun _ _ k => wpAny_Constant_int (k := kk) (pos := p1) (k _ _ (.int _ _))) (fun _ _ k => wpAny_pure (k _ _ .none)) (fun h' tk' D a b c => k h' tk' D a b (by rwa [slicePick_from'] at c)) ht
theorem slice_upto {a : Nat} {kk : Nat} (x : Ev w A env z h value (· = .ref l)) (hl : h.IsList l items) (hn : items.size ≤ 1000)
    (k : ∀ h' tk' D, Keep h h' → @LT.lt Nat _ h.objs.size D → h'.PlainList D (items.toList.take a).toArray → Q (.ref D) (St z h' tk'))
    (ht : ∀ o r, letTemporaryGo value o r = pure () := by intro _ _; rfl) :
    wpAny (model prog w) A (eval (.Subscript value (.Slice none (some (.Constant (.int a) kk p1)) none p) pos) env) Q E (St z h tk) :=
  slice_core (lo := none) (hi := some (a : Int)) x hl hn (fun _ _ k => wpAny_pure (k _ _ .none)) (fun _ _ k => wpAny_Constant_int (k := kk) (pos := p1) (k _ _ (.int _ _))) (fun h' tk' D a b c => k h' tk' D a b (by rwa [slicePick_upto'] at c)) ht
end
theorem IntsAre_drop {vs : List Value} {ds : List Int} (h : IntsAre vs ds) : ∀ n, IntsAre (vs.drop n) (ds.drop n) := by
  induction h with
  | nil => intro n; simp; exact .nil
  | cons a t hr ih =>
    intro n
    cases n with
    | zero => exact .cons _ _ hr
    | succ n => exact ih n
theorem IntsAre_take {vs : List Value} {ds : List Int} (h : IntsAre vs ds) : ∀ n, IntsAre (vs.take n) (ds.take n) := by
  induction h with
  | nil => intro n; simp; exact .nil
  | cons a t hr ih =>
    intro n
    cases n with
    | zero => exact .nil
    | succ n => exact .cons _ _ (ih n)
section
variable {w : World} {A : Around} {z : Shared} {env : Env} {target : Expr} {body orelse : List Stmt} {Q : Flow → Shared → Prop} {E : Value → Shared → Prop} {h : Heap} {tk : Nat}
theorem for_go_range {r : Addr} {a b : Int} {n : Nat} {t u v : Tok} {x : Str} {px : Pos} (J : Nat → Heap → Prop) (hh : A.handled = none) (hr : IsRange h r a b 1 t u v) (hn : b = a + n) (ha : -(2 ^ 60) ≤ a) (ha' : a < 2 ^ 60) (hn' : n ≤ 1000)
    (hJ0 : J 0 h) (hJ : ∀ i H H', J i H → KeepOff [h.objs.size] H H' → J i H')
    (step : ∀ i t H tk, i < n → (∃ o, H.get? h.objs.size = some o) → J i H →
      wpAny (model prog w) A (storeName env x (.int (a + (i : Nat)) t)) (fun _ s₂ => wpAny (model prog w) A (execs body env) (fun f s₃ => match f with
        | .next | .cont => ∃ h' tk', s₃ = St z h' tk' ∧ (∀ o, H.get? h.objs.size = some o → h'.get? h.objs.size = some o) ∧ J (i + 1) h'
        | .brk => Q .next s₃
        | .ret v => Q (.ret v) s₃) (fun _ _ => False) s₂) (fun _ _ => False) (St z H tk))
    (fin : ∀ H tk, J n H → wpAny (model prog w) A (execs orelse env) Q (fun _ _ => False) (St z H tk)) :
    wpAny (model prog w) A (pyIter (.ref r)) (ForGo w A z env (.Name x px) body orelse Q) E (St z h tk) := by
  have hz := range_len hn
  refine wpAny_pyIter_range (s := St z h tk) hr (range_small hn ha ha' hn') ?_
  refine ⟨h.objs.size, [h.objs.size], [h.objs.size], n, _, _, J, _, tk, rfl, rfl, It.range hh _ a 1 n, ?_, hJ _ _ _ hJ0 fun b o _ e => Heap.get?_push_of_some _ e, hJ, (fun i v as h tk Q E hP hS k => wpAny_pure (k h hP hS fun _ _ _ e => e)), ?_, fin⟩
  · show IsRangeIter _ _ _ _ _
    rw [hz]
    simpa using Heap.get?_push_size _ rfl
  · rintro i v as H tk' hi ⟨⟨t, rfl⟩, rfl⟩ hS hj
    rw [Int.mul_one]
    refine wpAny_assign_Name (wpAny_mono (step i t H tk' hi ⟨_, hS⟩ hj) (fun _ s₂ h₂ => wpAny_mono h₂ (fun f s₃ h₃ => ?_) fun _ _ e => e) fun _ _ e => e)
    cases f with
    | next =>
      obtain ⟨h', tk'', e, q, j⟩ := h₃
      exact ⟨h', tk'', e, q _ hS, j⟩
    | cont =>
      obtain ⟨h', tk'', e, q, j⟩ := h₃
      exact ⟨h', tk'', e, q _ hS, j⟩
    | brk => exact h₃
    | ret v => exact h₃
end
theorem chr_tail {w : World} {A : Around} {z : Shared} {h : Heap} {tk : Nat} {l r : Expr} {x : Str} {i : Int} {t u : Tok} {Q : Value → Shared → Prop} {E : Value → Shared → Prop} (h0 : 0 ≤ i) (h1 : i < x.length) (h2 : x.length ≤ 1000) (k : ∀ t' tk', Q (.str (at1 x i.toNat) t') (St z h tk'))
    (hs : subscripted r false (.str x t) (.int i u) = operate [.str x t, .int i u] (getItem (.str x t) (.int i u)) := by with_unfolding_all rfl) (hg : ∀ r, letTemporaryGo l (.str x t) r = pure () := by intro _; with_unfolding_all rfl) :
    wpAny (model prog w) A (subscriptTail l r (.str x t) (.int i u)) Q E (St z h tk) := by
  have hlen : x.length = x.cps.size := rfl
  have hc : (seqIndex? i x.length).bind (x.cps[·]?) = some (x.cps.getD i.toNat 0) := by
    have e : seqIndex? i x.length = some i.toNat := by
      unfold seqIndex?
      simp only [show ¬ i < 0 by omega, if_false]
      rw [if_pos]
      simp
      omega
    rw [e]
    have hlt : i.toNat < x.cps.size := by omega
    simp [Array.getD, hlt]
  exact subscriptTail_builtin (typeIs_str (St z h tk) x t) slot_str_getitem.lookup (PyProof.Rows.getItem_str (by simp; omega) hc (k _ _)) hs hg
/-! the text of sixteen bits -/
def bitN (ds : List Int) (i : Nat) : Nat := (ds.getD i 0).toNat
def textStep (ds : List Int) (x : Str) (k : Nat) : Str :=
  ((x ++ at1 (Str.ofString "-r") (bitN ds (8 - 3 * k))) ++ at1 (Str.ofString "-w") (bitN ds (7 - 3 * k))) ++ at1 (if k = 2 then Str.ofString "-xTt" else Str.ofString "-xSs") (bitN ds (6 - 3 * k) + 2 * bitN ds (11 - k))
def textZ (ds : List Int) : Str := (List.range 3).foldl (textStep ds) (at1 (Str.ofString "?pc?d?b?-?l?s???") (numZ (ds.drop 12)).toNat)
theorem numZ_four {ds : List Int} (hn : ds.length = 4) (hd : ∀ d ∈ ds, 0 ≤ d ∧ d ≤ 1) : 0 ≤ numZ ds ∧ numZ ds < 16 := by
  match ds, hn with
  | [a, b, c, d], _ =>
    have h1 := hd a (by simp)
    have h2 := hd b (by simp)
    have h3 := hd c (by simp)
    have h4 := hd d (by simp)
    have : numZ [a, b, c, d] = a + 2 * b + 4 * c + 8 * d := by
      simp [numZ, List.range, List.range.loop]
      omega
    omega
/-- bits[c - 3 * k] -/
theorem ev_bitAt {w : World} {A : Around} {z : Shared} {env : Env} {h : Heap} {l e : Expr} {k0 k1 : Nat} {p0 p1 p2 p3 p4 : Pos} {lst : Addr} {vs : List Value} {v : Int} {t : Tok} {i : Nat} (c : Nat) (hi : i < 3) (hc : c < 16) (h6 : 6 ≤ c) (hl : h.IsList lst vs.toArray)
    (hb : Ev w A env z h l (· = .ref lst)) (hk : Ev w A env z h e (IntV (0 + (i : Int)))) (ea : vs[c - 3 * i]? = some (.int v t))
    (hs : ∀ t k, subscripted (.BinOp (.Constant (.int c) k0 p0) .Sub (.BinOp (.Constant (.int 3) k1 p1) .Mult e p2) p3) false (.ref lst) (.int k t) = operate [.ref lst, .int k t] (getItem (.ref lst) (.int k t)) := by intro _ _; with_unfolding_all rfl) :
    Ev w A env z h (.Subscript l (.BinOp (.Constant (.int c) k0 p0) .Sub (.BinOp (.Constant (.int 3) k1 p1) .Mult e p2) p3) p4) (IntV v) := by
  have e1 : (c : Int) - 3 * (0 + (i : Int)) = ((c - 3 * i : Nat) : Int) := by omega
  have hm : IntMulOk 3 (0 + (i : Int)) := mulOk_right (by omega) (by omega)
  have hlt : ((c - 3 * i : Nat) : Int) < 2 ^ 63 := by omega
  refine (ev_item (y := .int v t) hb (ev_sub ev_int (ev_mul ev_int hk hm)) hl ?_ ?_ ?_ fun t => hs t _).int
  · rw [e1]; exact Int.natCast_nonneg _
  · rw [e1]; exact hlt
  · rw [e1, Int.toNat_natCast]; simpa using ea
/-- bits[11 - k] -/
theorem ev_bitUp {w : World} {A : Around} {z : Shared} {env : Env} {h : Heap} {l e : Expr} {k0 : Nat} {p0 p3 p4 : Pos} {lst : Addr} {vs : List Value} {v : Int} {t : Tok} {i : Nat} (hi : i < 3) (hl : h.IsList lst vs.toArray)
    (hb : Ev w A env z h l (· = .ref lst)) (hk : Ev w A env z h e (IntV (0 + (i : Int)))) (ea : vs[11 - i]? = some (.int v t))
    (hs : ∀ t k, subscripted (.BinOp (.Constant (.int 11) k0 p0) .Sub e p3) false (.ref lst) (.int k t) = operate [.ref lst, .int k t] (getItem (.ref lst) (.int k t)) := by intro _ _; with_unfolding_all rfl) :
    Ev w A env z h (.Subscript l (.BinOp (.Constant (.int 11) k0 p0) .Sub e p3) p4) (IntV v) := by
  have e1 : (11 : Int) - (0 + (i : Int)) = ((11 - i : Nat) : Int) := by omega
  have hlt : ((11 - i : Nat) : Int) < 2 ^ 63 := by omega
  refine (ev_item (y := .int v t) hb (ev_sub ev_int hk) hl ?_ ?_ ?_ fun t => hs t _).int
  · rw [e1]; exact Int.natCast_nonneg _
  · rw [e1]; exact hlt
  · rw [e1, Int.toNat_natCast]; simpa using ea
theorem sgn_lt {x : Str} {n : Nat} {b : Int} (h : x.length = n) (hb : b < n) : b < x.length := by rw [h]; exact hb
theorem sub_lt16 {c : Nat} (j : Nat) (h : c < 16) : c - j < 16 := Nat.lt_of_le_of_lt (Nat.sub_le c j) h
theorem two_nat {a b : Int} (ha : 0 ≤ a) (hb : 0 ≤ b) : (a + 2 * b).toNat = a.toNat + 2 * b.toNat := by omega
theorem two_pos {a b : Int} (ha : 0 ≤ a) (hb : 0 ≤ b) : 0 ≤ a + 2 * b := by omega
theorem two_lt {a b : Int} (ha : a ≤ 1) (hb : b ≤ 1) : a + 2 * b < (4 : Nat) := by omega
theorem len_le {n d i : Nat} (h : n = d + 3 * i) (hi : i < 3) (hd : d ≤ 3) : n ≤ 9 := by omega
theorem len_ok {n : Nat} (h : n ≤ 9) : n + 1 ≤ 1000 := Nat.le_trans (Nat.succ_le_succ h) (by decide)
theorem len_ok2 {n : Nat} (h : n ≤ 9) : n + 1 + 1 ≤ 1000 := Nat.le_trans (Nat.succ_le_succ (Nat.succ_le_succ h)) (by decide)
theorem zero_two {i : Nat} (h : 0 + (i : Int) = 2) : i = 2 := by omega
/-- _law_text(bits) -/
theorem text_call {w : World} {A : Around} {z : Shared} {h : Heap} {tk : Nat} {Q : Value → Shared → Prop} {E : Value → Shared → Prop} (X : TopIn w h) (hA : A.depth + 1 < recursionLimit) (hh : A.handled = none) {lst : Addr} {vs : List Value} {ds : List Int}
    (hl : h.IsList lst vs.toArray) (hi : IntsAre vs ds) (hn : ds.length = 16) (hd : ∀ d ∈ ds, 0 ≤ d ∧ d ≤ 1)
    (k : ∀ h' tk' t', Keep h h' → Q (.str (textZ ds) t') (St z h' tk')) :
    wpAny (model prog w) A (call (.ref 134) [.ref lst]) Q E (St z h tk) := by
  refine call_top X (fn_text X) (by omega) (binds := [(Str.ofString "bits", .ref lst)]) (by rfl) (by decide) (by rfl) fun h₁ hns hk => ?_
  have hlen : vs.length = 16 := hi.length.trans hn
  have X₁ := X.keep hk
  have l₁ : h₁.IsList lst vs.toArray := hl.at fun o e => hk lst o e
  refine wpAny_execs_cons (wpAny_Assign_Name (Subscript_ (Ev.use ev_str fun v tk1 hv => ?_)))
  obtain ⟨t1, rfl⟩ := hv
  refine Call_ (Ev.use (ev_glob X₁ (v := .ref 127) (by kernel_rfl)) fun v tk2 hv => ?_)
  subst hv
  obtain ⟨of, hof, hdf⟩ := (fn_number X₁).fn
  refine PyProof.Rows.callWith_def hdf (spliced_more (slice_from (a := 12) (ev_loc hns rfl) l₁ (by simp; omega) fun h₂ tk3 D k₂ hD l₂ => ?_))
  refine spliced_none ⟨k₂ _ _ hof, ?_⟩
  have X₂ := X₁.keep k₂
  have hdr : ∀ d ∈ ds.drop 12, 0 ≤ d ∧ d ≤ 1 := fun d hd' => hd d (List.mem_of_mem_drop hd')
  refine number_call (A := A.deeper _) X₂ (show A.depth + 1 < recursionLimit from hA) hh (vs := vs.drop 12) (by simpa using l₂.isList) (IntsAre_drop hi 12) (by simp; omega) hdr fun h₃ tk4 t4 k₃ => ?_
  have k03 : Keep h h₃ := fun b o e => k₃ b o (k₂ b o (hk b o e))
  have n4 := numZ_four (ds := ds.drop 12) (by simp; omega) hdr
  refine chr_tail n4.1 (by have : (Str.ofString "?pc?d?b?-?l?s???").length = 16 := by decide +kernel
                           rw [this]; omega) (by decide +kernel) fun t5 tk5 => ?_
  refine store_loc ((hns.at' fun o e => k₂ _ o e).at' fun o e => k₃ _ o e) fun h₄ tk6 n₄ s₄ => ?_
  have k04 : Keep h h₄ := fun b o e => s₄.extBut b o (Nat.ne_of_lt (Heap.lt_size e)) (k03 b o e)
  have X₄ := X.keep k04
  refine wpAny_execs_cons (for_it (Call_ (Ev.use (ev_built X₄ (v := .type "range") (by kernel_rfl) (by kernel_rfl)) fun v tk7 hv => ?_)))
  subst hv
  refine PyProof.Rows.callWith_type1 (spliced_more (Ev.use ev_int fun v tk8 hv => ?_))
  obtain ⟨t8, rfl⟩ := hv
  refine spliced_none (range1 fun r h₅ tk9 _ _ _ hr k₅ => ?_)
  have k05 : Keep h h₅ := fun b o e => k₅ b o (k04 b o e)
  have hL5 : h.objs.size < h₅.objs.size := by obtain ⟨_, _, _, ho, _⟩ := n₄; exact Heap.lt_size (k₅ _ _ ho)
  have hLI : h.objs.size ≠ h₅.objs.size := Nat.ne_of_lt hL5
  have hIh : ∀ b o, h.get? b = some o → b ∉ [h₅.objs.size] := fun b o e q => by
    have := lt_sz e
    rw [List.mem_singleton.mp q] at this
    exact absurd this (Nat.not_lt.mpr (Nat.le_of_lt hL5))
  have bitOk : ∀ i, i < 16 → ∃ t, vs[i]? = some (.int (ds.getD i 0) t) ∧ 0 ≤ ds.getD i 0 ∧ ds.getD i 0 ≤ 1 := fun i hi' => by
    obtain ⟨t, e⟩ := IntsAre_get hi (j := i) (by omega)
    have : ds.getD i 0 ∈ ds := by rw [List.getD_eq_getElem?_getD, List.getElem?_eq_getElem (by omega)]; exact List.getElem_mem _
    exact ⟨t, e, hd _ this⟩
  refine for_go_range (A := A.deeper _) (fun i H => Keep h H ∧ ∃ m' t, H.Ns h.objs.size m' ∧ m' (Str.ofString "bits") = some (.ref lst) ∧ m' (Str.ofString "signs") = some (.str ((List.range i).foldl (textStep ds) (at1 (Str.ofString "?pc?d?b?-?l?s???") (numZ (ds.drop 12)).toNat)) t) ∧ ((List.range i).foldl (textStep ds) (at1 (Str.ofString "?pc?d?b?-?l?s???") (numZ (ds.drop 12)).toNat)).length = 1 + 3 * i)
    hh hr (n := 3) (by decide) (by decide) (by decide) (by decide) ⟨k05, _, _, n₄.at' fun o e => k₅ _ o e, rfl, rfl, rfl⟩ ?_ ?_ ?_
  · rintro i H H' ⟨a, m', t, n, e1, e2, e3⟩ kk
    exact ⟨fun b o e => kk b o (hIh b o e) (a b o e), m', t, n.at' fun o e => kk _ o (by simpa using hLI) e, e1, e2, e3⟩
  · rintro i t H tk' hi3 ⟨oI, hoI⟩ ⟨kH, m', t', nH, e1, e2, e3⟩
    refine store_loc nH fun h₆ tk10 n₆ s₆ => ?_
    have k06 : Keep h h₆ := fun b o e => s₆.extBut b o (Nat.ne_of_lt (Heap.lt_size e)) (kH b o e)
    have l₆ : h₆.IsList lst vs.toArray := hl.at fun o e => k06 lst o e
    generalize hx : (List.range i).foldl (textStep ds) (at1 (Str.ofString "?pc?d?b?-?l?s???") (numZ (ds.drop 12)).toNat) = x at e2 e3
    obtain ⟨ta, ea, ba, ca⟩ := bitOk (8 - 3 * i) (sub_lt16 _ (by decide))
    obtain ⟨tb, eb, bb, cb⟩ := bitOk (7 - 3 * i) (sub_lt16 _ (by decide))
    obtain ⟨tc, ec, bc, cc⟩ := bitOk (6 - 3 * i) (sub_lt16 _ (by decide))
    obtain ⟨td, ed, bd, cd⟩ := bitOk (11 - i) (sub_lt16 _ (by decide))
    have mb : put m' (Str.ofString "k") (.int (0 + (i : Int)) t) (Str.ofString "bits") = some (.ref lst) := (put_ne (by decide)).trans e1
    have ms : put m' (Str.ofString "k") (.int (0 + (i : Int)) t) (Str.ofString "signs") = some (.str x t') := (put_ne (by decide)).trans e2
    have mk : put m' (Str.ofString "k") (.int (0 + (i : Int)) t) (Str.ofString "k") = some (.int (0 + (i : Int)) t) := if_pos rfl
    have e9 := len_le e3 hi3 (by decide)
    have lenR : (Str.ofString "-r").length = 2 := by decide +kernel
    have lenW : (Str.ofString "-w").length = 2 := by decide +kernel
    have lenT : (Str.ofString "-xTt").length = 4 := by decide +kernel
    have lenS : (Str.ofString "-xSs").length = 4 := by decide +kernel
    refine wpAny_execs_cons (wpAny_Assign_Name (Ev.use (P := StrV ((x ++ at1 (Str.ofString "-r") (bitN ds (8 - 3 * i))) ++ at1 (Str.ofString "-w") (bitN ds (7 - 3 * i)))) ?_ fun v tk11 hv => ?_))
    · refine ev_cat (ev_cat ((ev_loc n₆ ms).mono fun v hv => ⟨_, hv⟩) (ev_chr ev_str (ev_bitAt 8 hi3 (by decide) (by decide) l₆ (ev_loc n₆ mb) (ev_locI n₆ mk) ea) ba (sgn_lt lenR (Int.lt_of_le_of_lt ca (by decide))) (by rw [lenR]; decide)) ?_) (ev_chr ev_str (ev_bitAt 7 hi3 (by decide) (by decide) l₆ (ev_loc n₆ mb) (ev_locI n₆ mk) eb) bb (sgn_lt lenW (Int.lt_of_le_of_lt cb (by decide))) (by rw [lenW]; decide)) ?_
      · rw [at1_length]; exact len_ok e9
      · rw [Str.length_append, at1_length, at1_length]; exact len_ok2 e9
    obtain ⟨t11, rfl⟩ := hv
    refine store_loc n₆ fun h₇ tk12 n₇ s₇ => ?_
    have k07 : Keep h h₇ := fun b o e => s₇.extBut b o (Nat.ne_of_lt (Heap.lt_size e)) (k06 b o e)
    have l₇ : h₇.IsList lst vs.toArray := hl.at fun o e => k07 lst o e
    generalize hy : (x ++ at1 (Str.ofString "-r") (bitN ds (8 - 3 * i))) ++ at1 (Str.ofString "-w") (bitN ds (7 - 3 * i)) = y at n₇
    have ly : y.length = 3 + 3 * i := by rw [← hy, Str.length_append, Str.length_append, at1_length, at1_length, e3, Nat.add_comm 1, Nat.add_comm 3]
    have mb₂ := (put_ne (m := put m' (Str.ofString "k") (.int (0 + (i : Int)) t)) (x := Str.ofString "signs") (y := Str.ofString "bits") (v := .str y t11) (by decide)).trans mb
    have mk₂ := (put_ne (m := put m' (Str.ofString "k") (.int (0 + (i : Int)) t)) (x := Str.ofString "signs") (y := Str.ofString "k") (v := .str y t11) (by decide)).trans mk
    refine wpAny_execs_cons (wpAny_Assign_Name (Ev.use (P := StrV (y ++ at1 (if i = 2 then Str.ofString "-xTt" else Str.ofString "-xSs") (bitN ds (6 - 3 * i) + 2 * bitN ds (11 - i)))) ?_ fun v tk13 hv => ?_))
    · have hidx : (ds.getD (6 - 3 * i) 0 + 2 * ds.getD (11 - i) 0).toNat = bitN ds (6 - 3 * i) + 2 * bitN ds (11 - i) := two_nat bc bd
      rw [← hidx]
      refine ev_cat ((ev_loc n₇ (if_pos rfl)).mono fun v hv => ⟨_, hv⟩) (ev_chr (x := if i = 2 then Str.ofString "-xTt" else Str.ofString "-xSs") ?_ (ev_add (ev_bitAt 6 hi3 (by decide) (by decide) l₇ (ev_loc n₇ mb₂) (ev_locI n₇ mk₂) ec) (ev_mul ev_int (ev_bitUp hi3 l₇ (ev_loc n₇ mb₂) (ev_locI n₇ mk₂) ed) (mulOk_right (Int.lt_of_lt_of_le (by decide) bd) (Int.lt_of_le_of_lt cd (by decide))))) (two_pos bc bd) ?_ ?_) ?_
      · refine ev_ifeq (ev_locI n₇ mk₂) ev_int (fun q => ?_) (fun q => ?_)
        · rw [if_pos (zero_two q)]; exact ev_str
        · rw [if_neg fun e => q (by rw [e]; rfl)]; exact ev_str
      · split
        · rw [lenT]; exact two_lt cc cd
        · rw [lenS]; exact two_lt cc cd
      · split
        · rw [lenT]; decide
        · rw [lenS]; decide
      · rw [at1_length]; exact len_ok (len_le ly hi3 (by decide))
    obtain ⟨t13, rfl⟩ := hv
    refine store_loc n₇ fun h₈ tk14 n₈ s₈ => wpAny_execs_nil ?_
    have k08 : Keep h h₈ := fun b o e => s₈.extBut b o (Nat.ne_of_lt (Heap.lt_size e)) (k07 b o e)
    have e' : (List.range (i + 1)).foldl (textStep ds) (at1 (Str.ofString "?pc?d?b?-?l?s???") (numZ (ds.drop 12)).toNat) = y ++ at1 (if i = 2 then Str.ofString "-xTt" else Str.ofString "-xSs") (bitN ds (6 - 3 * i) + 2 * bitN ds (11 - i)) := by
      rw [List.range_succ, List.foldl_append, hx, ← hy]
      rfl
    refine ⟨h₈, tk14, rfl, fun o e => s₈.extBut _ o (Ne.symm hLI) (s₇.extBut _ o (Ne.symm hLI) (s₆.extBut _ o (Ne.symm hLI) e)), k08, _, t13, n₈, (put_ne (by decide)).trans mb₂, ?_, ?_⟩
    · rw [e']
      exact if_pos rfl
    · rw [e', Str.length_append, at1_length, ly, Nat.add_comm 3, Nat.add_comm 1]
      rfl
  · rintro H tk' ⟨kH, m', t', nH, e1, e2, e3⟩
    refine wpAny_execs_nil (wpAny_execs_cons (wpAny_Return_some (Ev.use (ev_loc nH e2) fun v tk11 hv => ?_)))
    subst hv
    exact k H tk11 _ kH
end Mine
end
section
open PySem PySem.W PyProof.Rows PySem.Calls
set_option Elab.async false
set_option maxRecDepth 100000
set_option maxHeartbeats 1000000
namespace Mine
section
variable {prog : Program} {w : World} {A : Around} {E : Value → Shared → Prop} {s : Shared}
theorem wpAny_loadIfAlive {M : Model} {a : Addr} {Q : Option Obj → Shared → Prop} (h : Q (s.heap.get? a) s) : wpAny M A (loadIfAlive a) Q E s := fun Γ p _ => by
  unfold loadIfAlive
  rw [Sem.wp_loadIfAlive]
  exact (Sem.wp_pure' ..).mpr h
theorem wpAny_nextOf_tuple_item {it l : Addr} {i : Nat} {items} {x : Value} {Q : Value → Shared → Prop} (hit : s.heap.IsTupleIter it l i)
    (hl : s.heap.IsTuple l items) (hx : items[i]? = some x)
    (hQ : ∀ h', h'.IsTupleIter it l (i + 1) → Heap.SameBut it s.heap h' → Q x { s with heap := h' }) :
    wpAny (model prog w) A (Builtin.SmallTypes.nextOf (.ref it)) Q E s := by
  obtain ⟨o, ho, hc, hd⟩ := id hit
  obtain ⟨ol, hol, _, nl, hdl⟩ := hl
  unfold Builtin.SmallTypes.nextOf
  refine wpAny_bind (wpAny_callSpecial?_slot (name := Str.ofString "__next__") hit.typeIs F.slot_tuple_iterator_next
    (wpAny_call_entry F.slot_tuple_iterator_next hit.typeIs F.entry_tuple_iterator_next ?_ (F.args_tuple_iterator_next_1 _)))
  show wpAny _ _ (field (.ref it) 0 >>= _) _ _ s
  refine wpAny_bind (wpAny_field ho hd (x := .ref l) rfl ?_)
  show wpAny _ _ (if (Value.ref l == Value.none) = true then _ else _) _ _ s
  rw [if_neg (show ¬ ((Value.ref l == Value.none) = true) from Bool.false_ne_true)]
  show wpAny _ _ (field (.ref it) 1 >>= _) _ _ s
  refine wpAny_bind (wpAny_field ho hd (x := .int i 0) rfl ?_)
  show wpAny _ _ (seqItems? (.ref l) >>= _) _ _ s
  refine wpAny_bind (wpAny_seqItems hol hdl ?_)
  simp only [Int.toNat_natCast, hx]
  refine wpAny_bind (wpAny_setField ho hd (by simp) (wpAny_pure ⟨x, rfl, wpAny_pure (hQ _ ?_ (Heap.SameBut.update ..))⟩))
  exact ⟨_, Heap.get?_update_self _ ho (Obj.isFreed_of_fields (Obj.data_mapFields hd _)), (Obj.cls_mapFields ..).trans hc, by
    rw [Obj.data_mapFields hd]; simp [rawInt]⟩
theorem wpAny_nextOf_tuple_end {it l : Addr} {i : Nat} {items} {Q : Value → Shared → Prop} (hh : A.handled = none)
    (hit : s.heap.IsTupleIter it l i) (hl : s.heap.IsTuple l items) (hx : items[i]? = none)
    (hE : ∀ h' e, Heap.ExtBut it s.heap h' → (∃ o, h'.get? e = some o ∧ o.cls = .type "StopIteration") → E (.ref e) { s with heap := h' }) :
    wpAny (model prog w) A (Builtin.SmallTypes.nextOf (.ref it)) Q E s := by
  obtain ⟨o, ho, hc, hd⟩ := id hit
  obtain ⟨ol, hol, _, nl, hdl⟩ := hl
  unfold Builtin.SmallTypes.nextOf
  refine wpAny_bind (wpAny_callSpecial?_slot (name := Str.ofString "__next__") hit.typeIs F.slot_tuple_iterator_next
    (wpAny_call_entry F.slot_tuple_iterator_next hit.typeIs F.entry_tuple_iterator_next ?_ (F.args_tuple_iterator_next_1 _)))
  show wpAny _ _ (field (.ref it) 0 >>= _) _ _ s
  refine wpAny_bind (wpAny_field ho hd (x := .ref l) rfl ?_)
  show wpAny _ _ (if (Value.ref l == Value.none) = true then _ else _) _ _ s
  rw [if_neg (show ¬ ((Value.ref l == Value.none) = true) from Bool.false_ne_true)]
  show wpAny _ _ (field (.ref it) 1 >>= _) _ _ s
  refine wpAny_bind (wpAny_field ho hd (x := .int i 0) rfl ?_)
  show wpAny _ _ (seqItems? (.ref l) >>= _) _ _ s
  refine wpAny_bind (wpAny_seqItems hol hdl ?_)
  simp only [Int.toNat_natCast, hx]
  refine wpAny_bind (wpAny_rule (wpAny_bind (wpAny_setField ho hd (by simp) ?_)))
  show wpAny _ _ (newExc (.type "StopIteration") [] >>= _) _ _ _
  refine wpAny_bind ?_
  simp only [newExc, newTuple]
  refine wpAny_bind (wpAny_newObj_type ?_ (by size_fits))
  refine wpAny_bind (m := firstArgMember _ _) (wpAny_of_eq (a := Value.none) (by first | rfl | (simp only [firstArgMember]; rfl)) ?_)
  refine wpAny_newObj_type ?_ (by size_fits)
  simp only [raiseNew]
  refine wpAny_bind (wpAny_handled ?_)
  first | rw [show A.in1.handled = none from hh] | rw [hh]
  refine wpAny_bind (wpAny_pure (wpAny_throw ?_))
  exact hE _ _ (((Heap.SameBut.update ..).extBut.push _).push _) ⟨_, Heap.get?_push_size _ rfl, rfl⟩
theorem drawsTuple (hh : A.handled = none) (it l : Addr) (hne : l ≠ it) (items : Array Value) :
    Draws prog w A it [it, l] items.size (fun i v => items[i]? = some v) (fun i h => h.IsTupleIter it l i ∧ h.IsTuple l items) where
  live := fun _ _ st => let ⟨o, ho, _⟩ := st.1; ⟨o, ho⟩
  frame := fun _ _ _ st hk => ⟨st.1.at fun o e => hk it (by simp) o e, st.2.at fun o e => hk l (by simp) o e⟩
  item := fun i s Q E hi st hQ => by
    refine wpAny_nextOf_tuple_item st.1 st.2 (x := items[i]) (by simp [hi]) fun h' hit' hs' => ?_
    exact hQ _ h' s.toks (by simp [hi]) ⟨hit', st.2.extBut hs'.extBut hne⟩ hs'
  done := fun s Q E st hE => wpAny_nextOf_tuple_end hh st.1 st.2 (by simp) hE
/-- an enumerate object, whatever it has handed out -/
abbrev EnumA (h : Heap) (e it : Addr) (i : Int) (f0 f1 old : Value) : Prop :=
  h.get? e = some { cls := .type "enumerate", dict := none, data := .fields #[f0, f1, .ref it, rawInt i, .none, old], slots := #[] }
def EnumS (h : Heap) (e it : Addr) (i : Int) : Prop := ∃ f0 f1 old, EnumA h e it i f0 f1 old ∧ (f0 = .none ∨ ∃ a : Int, f0 = .int a 0)
theorem enum_nextA {e it : Addr} {fp : List Addr} {n i : Nat} {P : Nat → Value → Prop} {S : Nat → Heap → Prop} {f0 f1 old : Value} {Q : Value → Shared → Prop}
    (D : Draws prog w A it fp n P S) (he : EnumA s.heap e it i f0 f1 old) (hf0 : f0 = .none ∨ ∃ a : Int, f0 = .int a 0) (hst : S i s.heap) (hlt : i < n) (hne : e ≠ it) (hef : e ∉ fp)
    (hQ : ∀ x h' tk, P i x → EnumS h' e it ((i : Int) + 1) → S (i + 1) h' →
      h'.get? s.heap.objs.size = some { cls := .type "tuple", data := .seq #[.int i tk, x] } → h'.objs.size = s.heap.objs.size + 1 →
      (∀ b o, b ≠ e → b ≠ it → s.heap.get? b = some o → h'.get? b = some o) → Q (.ref s.heap.objs.size) { s with heap := h', toks := tk + 1 }) :
    wpAny (model prog w) A (Builtin.«enumerate.__next__» ⟨[.ref e], []⟩) (fun fin s' => ∃ v, fin = .done (.ret v) ∧ Q v s') E s := by
  obtain ⟨hp, g, d, tk₀, os⟩ := s
  show wpAny _ _ (field (.ref e) 2 >>= _) _ _ _
  refine wpAny_bind (wpAny_field he rfl (x := .ref it) rfl ?_)
  refine wpAny_bind (D.item i _ _ _ hlt hst fun x h₁ tk hPx hit₁ hs₁ => ?_)
  replace hs₁ : Heap.SameBut it hp h₁ := hs₁
  have he₁ : EnumA h₁ e it i f0 f1 old := (hs₁.2 e hne).trans he
  show wpAny _ _ (field (.ref e) 3 >>= _) _ _ ⟨h₁, g, d, tk, os⟩
  refine wpAny_bind (wpAny_field he₁ rfl (x := rawInt i) rfl ?_)
  show wpAny _ _ (field (.ref e) 4 >>= _) _ _ ⟨h₁, g, d, tk, os⟩
  refine wpAny_bind (wpAny_field he₁ rfl (x := .none) rfl ?_)
  show wpAny _ _ (mkInt i >>= _) _ _ ⟨h₁, g, d, tk, os⟩
  refine wpAny_bind (wpAny_mkInt ?_)
  show wpAny _ _ (setField (.ref e) 3 (rawInt ((i : Int) + 1)) >>= _) _ _ ⟨h₁, g, d, tk + 1, os⟩
  refine wpAny_bind (wpAny_setField_rec he₁ (by simp) fun h₂ he₂ hs₂ => ?_)
  replace hs₂ : Heap.SameBut e h₁ h₂ := hs₂
  replace he₂ : EnumA h₂ e it ((i : Int) + 1) f0 f1 old := he₂
  show wpAny _ _ (setField (.ref e) 4 .none >>= _) _ _ ⟨h₂, g, d, tk + 1, os⟩
  refine wpAny_bind (wpAny_setField_rec he₂ (by simp) fun h₃ he₃ hs₃ => ?_)
  replace hs₃ : Heap.SameBut e h₂ h₃ := hs₃
  replace he₃ : EnumA h₃ e it ((i : Int) + 1) f0 f1 old := he₃
  show wpAny _ _ (newTuple [.int i tk, x] >>= _) _ _ ⟨h₃, g, d, tk + 1, os⟩
  refine wpAny_bind (wpAny_newTuple ?_)
  have he₄ : EnumA (h₃.push { cls := .type "tuple", data := .seq #[.int i tk, x] }) e it ((i : Int) + 1) f0 f1 old := Heap.get?_push_of_some _ he₃
  generalize hh₄ : h₃.push { cls := .type "tuple", data := .seq #[.int i tk, x] } = h₄ at he₄
  have hsz : h₃.objs.size = hp.objs.size := by rw [hs₃.1, hs₂.1, hs₁.1]
  have hel : e < hp.objs.size := Heap.lt_size he
  have ht₄ : h₄.get? hp.objs.size = some { cls := .type "tuple", data := .seq #[.int i tk, x] } := by rw [← hh₄, ← hsz]; exact Heap.get?_push_size _ rfl
  have hz₄ : h₄.objs.size = hp.objs.size + 1 := by rw [← hh₄, Heap.size_push, hsz]
  have hk₄ : ∀ b o, b ≠ e → b ≠ it → hp.get? b = some o → h₄.get? b = some o := fun b o hbe hbi hb => by
    rw [← hh₄]; exact Heap.get?_push_of_some _ (hs₃.extBut b o hbe (hs₂.extBut b o hbe (hs₁.extBut b o hbi hb)))
  have hit₄ : S (i + 1) h₄ := D.frame _ _ _ hit₁ fun b hb o y => by
    have hbe : b ≠ e := fun q => hef (q ▸ hb)
    rw [← hh₄]; exact Heap.get?_push_of_some _ (hs₃.extBut b o hbe (hs₂.extBut b o hbe y))
  show wpAny _ _ (Builtin.SmallTypes.ownedTupleIsFree (.ref e) >>= _) _ _ ⟨h₄, g, d, tk + 1, os⟩
  rw [hsz]
  clear hh₄ he₃ hs₃ he₂ hs₂ he₁ hs₁ hit₁ hsz h₃ h₂ h₁
  have yes : wpAny (model prog w) A (do
      rule "enumerate.__next__.owned-tuple-again"
      let old ← field (.ref e) 5
      setField (.ref e) 5 x
      Builtin.SmallTypes.ownedTupleHandOut (.ref e) (.ref hp.objs.size)
      letGo [old] [.ref hp.objs.size]
      ret (.ref hp.objs.size)) (fun fin s' => ∃ v, fin = .done (.ret v) ∧ Q v s') E ⟨h₄, g, d, tk + 1, os⟩ := by
    refine wpAny_bind (wpAny_rule ?_)
    refine wpAny_bind (wpAny_field he₄ rfl (x := old) rfl ?_)
    refine wpAny_bind (wpAny_setField_rec he₄ (by simp) fun h₅ he₅ hs₅ => ?_)
    replace hs₅ : Heap.SameBut e h₄ h₅ := hs₅
    replace he₅ : EnumA h₅ e it ((i : Int) + 1) f0 f1 x := he₅
    show wpAny _ _ (Builtin.SmallTypes.ownedTupleHandOut (.ref e) (.ref hp.objs.size) >>= _) _ _ ⟨h₅, g, d, tk + 1, os⟩
    refine wpAny_bind ?_
    unfold Builtin.SmallTypes.ownedTupleHandOut
    refine wpAny_bind (wpAny_setField_rec he₅ (by simp) fun h₆ he₆ hs₆ => ?_)
    replace hs₆ : Heap.SameBut e h₅ h₆ := hs₆
    replace he₆ : EnumA h₆ e it ((i : Int) + 1) (rawInt hp.objs.size) f1 x := he₆
    refine wpAny_setField_rec he₆ (by simp) fun h₇ he₇ hs₇ => ?_
    replace hs₇ : Heap.SameBut e h₆ h₇ := hs₇
    replace he₇ : EnumA h₇ e it ((i : Int) + 1) (rawInt hp.objs.size) (.bool false) x := he₇
    refine wpAny_bind (wpAny_letGo (wpAny_pure ⟨_, rfl, hQ x h₇ tk hPx ⟨_, _, _, he₇, .inr ⟨_, rfl⟩⟩ ?_ ?_ ?_ ?_⟩))
    · exact D.frame _ _ _ hit₄ fun b hb o y => by
        have hbe : b ≠ e := fun q => hef (q ▸ hb)
        exact hs₇.extBut b o hbe (hs₆.extBut b o hbe (hs₅.extBut b o hbe y))
    · exact hs₇.extBut _ _ (Nat.ne_of_gt hel) (hs₆.extBut _ _ (Nat.ne_of_gt hel) (hs₅.extBut _ _ (Nat.ne_of_gt hel) ht₄))
    · rw [hs₇.1, hs₆.1, hs₅.1, hz₄]
    · exact fun b o hbe hbi hb => hs₇.extBut b o hbe (hs₆.extBut b o hbe (hs₅.extBut b o hbe (hk₄ b o hbe hbi hb)))
  refine wpAny_bind ?_
  unfold Builtin.SmallTypes.ownedTupleIsFree
  rcases hf0 with rfl | ⟨a, rfl⟩
  · refine wpAny_bind (wpAny_field he₄ rfl (x := .none) rfl (wpAny_pure ?_))
    exact yes
  · refine wpAny_bind (wpAny_field he₄ rfl (x := .int a 0) rfl ?_)
    refine wpAny_bind (wpAny_loadIfAlive ?_)
    cases hal : (Shared.heap ⟨h₄, g, d, tk + 1, os⟩).get? a.toNat with
    | none => exact wpAny_pure yes
    | some oa =>
      show wpAny _ _ (field (.ref e) 1 >>= _) _ _ _
      refine wpAny_bind (wpAny_field he₄ rfl (x := f1) rfl ?_)
      dsimp only
      split
      · refine wpAny_bind (wpAny_setField_rec he₄ (by simp) fun h₅ he₅ hs₅ => wpAny_pure ?_)
        replace hs₅ : Heap.SameBut e h₄ h₅ := hs₅
        replace he₅ : EnumA h₅ e it ((i : Int) + 1) (.int a 0) (.bool true) old := he₅
        refine wpAny_pure ⟨_, rfl, hQ x h₅ tk hPx ⟨_, _, _, he₅, .inr ⟨_, rfl⟩⟩ ?_ ?_ ?_ ?_⟩
        · exact D.frame _ _ _ hit₄ fun b hb o y => hs₅.extBut b o (fun q => hef (q ▸ hb)) y
        · exact hs₅.extBut _ _ (Nat.ne_of_gt hel) ht₄
        · rw [hs₅.1, hz₄]
        · exact fun b o hbe hbi hb => hs₅.extBut b o hbe (hk₄ b o hbe hbi hb)
      · exact wpAny_pure (wpAny_pure ⟨_, rfl, hQ x h₄ tk hPx ⟨_, _, _, he₄, .inr ⟨_, rfl⟩⟩ hit₄ ht₄ hz₄ hk₄⟩)
theorem pyNext_enumA {e it : Addr} {fp : List Addr} {n i : Nat} {P : Nat → Value → Prop} {S : Nat → Heap → Prop} {Q : Option Value → Shared → Prop}
    (D : Draws prog w A.in1 it fp n P S) (he : EnumS s.heap e it i) (hst : S i s.heap) (hlt : i < n) (hne : e ≠ it) (hef : e ∉ fp)
    (hQ : ∀ x h' tk, P i x → EnumS h' e it ((i : Int) + 1) → S (i + 1) h' →
      h'.get? s.heap.objs.size = some { cls := .type "tuple", data := .seq #[.int i tk, x] } → h'.objs.size = s.heap.objs.size + 1 →
      (∀ b o, b ≠ e → b ≠ it → s.heap.get? b = some o → h'.get? b = some o) → Q (some (.ref s.heap.objs.size)) { s with heap := h', toks := tk + 1 }) :
    wpAny (model prog w) A (pyNext (.ref e)) Q E s := by
  obtain ⟨f0, f1, old, he, hf0⟩ := he
  have hT : s.TypeIs (.ref e) "enumerate" := ⟨_, he, rfl⟩
  unfold pyNext
  exact wpAny_bind (wpAny_attempt (wpAny_callSpecial?_slot (name := Str.ofString "__next__") hT F.slot_enumerate_next
    (wpAny_call_entry F.slot_enumerate_next hT F.entry_enumerate_next
      (enum_nextA D he hf0 hst hlt hne hef fun x h' tk a b c d k q => wpAny_pure (hQ x h' tk a b c d k q)) (F.args_enumerate_next_1 _))))
theorem pyNext_enumEnd {e it : Addr} {fp : List Addr} {n : Nat} {P : Nat → Value → Prop} {S : Nat → Heap → Prop} {i : Int} {Q : Option Value → Shared → Prop}
    (D : Draws prog w A.in1 it fp n P S) (he : EnumS s.heap e it i) (hst : S n s.heap)
    (hQ : ∀ h', Heap.ExtBut it s.heap h' → Q none { s with heap := h' }) : wpAny (model prog w) A (pyNext (.ref e)) Q E s := by
  obtain ⟨f0, f1, old, he, hf0⟩ := he
  have hT : s.TypeIs (.ref e) "enumerate" := ⟨_, he, rfl⟩
  unfold pyNext
  refine wpAny_bind (wpAny_attempt (wpAny_callSpecial?_slot (name := Str.ofString "__next__") hT F.slot_enumerate_next
    (wpAny_call_entry F.slot_enumerate_next hT F.entry_enumerate_next ?_ (F.args_enumerate_next_1 _))))
  show wpAny _ _ (field (.ref e) 2 >>= _) _ _ _
  refine wpAny_bind (wpAny_field he rfl (x := .ref it) rfl ?_)
  refine wpAny_bind (D.done _ _ _ hst fun h' x he' hx' => ?_)
  obtain ⟨o, ho, hc⟩ := hx'
  refine wpAny_bind (wpAny_isInstance (T := "StopIteration") (b := true) ⟨o, ho, hc⟩ isSubtype_stop ?_)
  exact wpAny_pure (hQ _ he')
end
/-- the iterator of an enumerate object -/
theorem It.enum {w : World} {A : Around} {z : Shared} {it e : Addr} {fp : List Addr} {n : Nat} {P : Nat → Value → Prop} {S : Nat → Heap → Prop} (D : Draws prog w A.in1 it fp n P S) (hei : e ≠ it) (hef : e ∉ fp) (hif : it ∈ fp) :
    It w A z e [e, it] (e :: fp) n (fun i v as h => ∃ T t x, as = [T] ∧ v = .ref T ∧ P i x ∧ h.IsTuple T #[.int i t, x]) (fun i h => EnumS h e it i ∧ S i h) where
  sub := fun b hb => by
    rcases List.mem_cons.mp hb with rfl | hb
    · exact List.mem_cons_self ..
    · rw [List.mem_singleton.mp hb]; exact List.mem_cons_of_mem _ hif
  frame := fun i h h' hst hk => by
    obtain ⟨⟨f0, f1, old, he, hf⟩, hs⟩ := hst
    exact ⟨⟨f0, f1, old, hk e (by simp) _ he, hf⟩, D.frame _ _ _ hs fun b hb o x => hk b (List.mem_cons_of_mem _ hb) o x⟩
  pframe := fun i v as h h' hP hk => by
    obtain ⟨T, t, x, rfl, rfl, hx, hT⟩ := hP
    exact ⟨T, t, x, rfl, rfl, hx, hT.at fun o q => hk T (by simp) o q⟩
  live := fun i h hst b hb => by
    obtain ⟨⟨f0, f1, old, he, hf⟩, hs⟩ := hst
    rcases List.mem_cons.mp hb with rfl | hb
    · exact Heap.lt_size he
    · rw [List.mem_singleton.mp hb]
      obtain ⟨o, ho⟩ := D.live _ _ hs
      exact Heap.lt_size ho
  item := fun i h tk Q E hi hst k => by
    refine pyNext_enumA (s := St z h tk) D hst.1 hst.2 hi hei hef fun x h' tk' hP he hs hT hsz hk => ?_
    exact k _ [h.objs.size] h' (tk' + 1) ⟨_, _, x, rfl, rfl, hP, _, hT, rfl, _, rfl⟩ ⟨he, hs⟩ (by simp) fun b o hb e' => hk b o (fun q => hb (by simp [q])) (fun q => hb (by simp [q])) e'
  done := fun h tk Q E hst k => by
    refine pyNext_enumEnd (s := St z h tk) D hst.1 hst.2 fun h' hx => ?_
    exact k h' tk fun b o hb e' => hx b o (fun q => hb (by simp [q])) e'
  self := fun i h tk Q E hst k => by
    obtain ⟨⟨f0, f1, old, he, hf⟩, hs⟩ := hst
    have hT : (St z h tk).TypeIs (.ref e) "enumerate" := ⟨_, he, rfl⟩
    refine wpAny_pyIter_slot hT F.slot_enumerate_iter (wpAny_call_entry F.slot_enumerate_iter hT F.entry_enumerate_iter ?_ (F.args_enumerate_iter_1 _))
    show wpAny _ _ (ret (.ref e)) _ _ (St z h tk)
    exact wpAny_pure ⟨_, rfl, "enumerate", _, hT, F.slot_enumerate_next.lookup, k⟩
/-- a tuple target lets the enumerate object's tuple go -/
theorem go_enum {w : World} {A : Around} {z : Shared} {h : Heap} {tk : Nat} {e it T : Addr} {i : Int} {elts : List Expr} {k1 : Nat} {pos : Pos} {Q : Unit → Shared → Prop} {E : Value → Shared → Prop} (he : EnumS h e it i)
    (k : ∀ h', EnumS h' e it i → Heap.SameBut e h h' → Q () (St z h' tk)) : wpAny (model prog w) A (letOwnedTupleGo (.Tuple elts k1 pos) (.ref e) (.ref T)) Q E (St z h tk) := by
  obtain ⟨f0, f1, old, he, hf⟩ := he
  unfold letOwnedTupleGo
  refine wpAny_bind (wpAny_load (s := St z h tk) he ?_)
  dsimp only
  split
  · refine wpAny_bind (wpAny_rule ?_)
    show wpAny _ A (setField (.ref e) 0 .none) Q E _
    exact wpAny_setField_rec (s := St z h tk) he (by simp) fun h' he' hs' => k h' ⟨.none, f1, old, he', .inl rfl⟩ hs'
  · exact wpAny_pure (k h ⟨f0, f1, old, he, hf⟩ ⟨rfl, fun _ _ => rfl⟩)
open AutoSeq1 (wpAny_loadPart') in
theorem meets_enumerate_newT (l : Addr) (items : Array Value) (n : Nat) (dct : Option Addr) (sl : Array (Option Value)) :
    Meets (Builtin.«enumerate.__new__» ⟨[.type "enumerate", .ref l], []⟩) (fun _ R s => s.heap.get? l = some { cls := .type "tuple", dict := dct, data := .seq items n, slots := sl } ∧
      R (.ok (.ret (.ref (s.heap.push { cls := .type "tuple_iterator", data := .fields #[.ref l, .int 0 0] }).objs.size)))
        { s with heap := (s.heap.push { cls := .type "tuple_iterator", data := .fields #[.ref l, .int 0 0] }).push { cls := .type "enumerate", data := .fields #[.none, .bool false, .ref s.heap.objs.size, rawInt 0, .none, .none] } }) :=
  .of_wp fun prog w A R s h => by
    obtain ⟨hp, g, d, tk, os⟩ := s; obtain ⟨hl, h⟩ := h
    have hsub := sub_enumerate
    have hL : Heap.IsTuple (Shared.heap ⟨hp, g, d, tk, os⟩) l items := ⟨_, hl, rfl, n, rfl⟩
    wp_walk using wpAny_loadPart' hl
    refine wpAny_stack_any fun st => wpAny_pure ?_
    split
    · rename_i c _ _ _ _ _
      cases (c == Value.type "enumerate")
      · wp_walk using wpAny_loadPart' hl, wpAny_pyIter_tuple hL
        exact ⟨_, rfl, h⟩
      · wp_walk using wpAny_loadPart' hl, wpAny_pyIter_tuple hL
        exact ⟨_, rfl, h⟩
    · wp_walk using wpAny_loadPart' hl, wpAny_pyIter_tuple hL
      exact ⟨_, rfl, h⟩
theorem enumerate_tuple {w : World} {A : Around} {z : Shared} {h : Heap} {tk : Nat} {l : Addr} {items : Array Value} {Q : Value → Shared → Prop} {E : Value → Shared → Prop} (hL : h.IsTuple l items)
    (k : ∀ h', EnumS h' (h.objs.size + 1) h.objs.size 0 → h'.IsTupleIter h.objs.size l 0 → h'.objs.size = h.objs.size + 2 → Keep h h' → Q (.ref (h.objs.size + 1)) (St z h' tk)) :
    wpAny (model prog w) A (call (.type "enumerate") [.ref l]) Q E (St z h tk) := by
  obtain ⟨⟨c, dct, dt, sl⟩, hl, hc, n, hd⟩ := hL
  replace hc : c = .type "tuple" := hc
  replace hd : dt = .seq items n := hd
  subst hc hd
  refine callType_new F.called_enumerate (by decide) (F.typeCall_enumerate_1 _) (F.newCall_enumerate_1 _) (fun obj => F.args_object_init_2 obj _) F.entry_enumerate_new
    (meets_enumerate_newT l items n dct sl) ⟨hl, ?_⟩
  have hz : (h.push { cls := .type "tuple_iterator", data := .fields #[.ref l, .int 0 0] }).objs.size = h.objs.size + 1 := Heap.size_push ..
  show _ ∧ _
  have he : IsEnum ((h.push { cls := .type "tuple_iterator", data := .fields #[.ref l, .int 0 0] }).push
      { cls := .type "enumerate", data := .fields #[.none, .bool false, .ref h.objs.size, rawInt 0, .none, .none] }) (h.objs.size + 1) h.objs.size 0 .none := by
    have := Heap.get?_push_size (h.push { cls := .type "tuple_iterator", data := .fields #[.ref l, .int 0 0] })
      (o := { cls := .type "enumerate", data := .fields #[.none, .bool false, .ref h.objs.size, rawInt 0, .none, .none] }) rfl
    rw [hz] at this; exact this
  refine ⟨⟨_, by simpa [hz] using he, rfl⟩, ?_⟩
  have := k _ ⟨.none, .bool false, .none, he, .inl rfl⟩ ⟨_, Heap.get?_push_of_some _ (Heap.get?_push_size _ rfl), rfl, rfl⟩ (by rw [Heap.size_push, hz]) fun b o x => Heap.get?_push_of_some _ (Heap.get?_push_of_some _ x)
  simpa [hz] using this
theorem enumerate_list {w : World} {A : Around} {z : Shared} {h : Heap} {tk : Nat} {l : Addr} {items : Array Value} {Q : Value → Shared → Prop} {E : Value → Shared → Prop} (hL : h.IsList l items)
    (k : ∀ h', EnumS h' (h.objs.size + 1) h.objs.size 0 → h'.IsListIter h.objs.size l 0 → h'.objs.size = h.objs.size + 2 → Keep h h' → Q (.ref (h.objs.size + 1)) (St z h' tk)) :
    wpAny (model prog w) A (call (.type "enumerate") [.ref l]) Q E (St z h tk) :=
  call_enumerate_list (s := St z h tk) hL fun h' he hi hs hk => k h' ⟨.none, .bool false, .none, he, .inl rfl⟩ hi hs hk
end Mine
end
section
open PySem PySem.W PyProof.Rows PySem.Calls
set_option Elab.async false
set_option maxRecDepth 100000
set_option maxHeartbeats 1000000
namespace Mine
def AllP {α : Type} (P : α → Prop) : List α → Prop
  | [] => True
  | a :: l => P a ∧ AllP P l
theorem AllP.get {α : Type} {P : α → Prop} : ∀ {l : List α} {i : Nat} {a : α}, AllP P l → l[i]? = some a → P a
  | [], _, _, _, e => by simp at e
  | b :: l, 0, a, h, e => by
    simp at e
    exact e ▸ h.1
  | b :: l, i + 1, a, h, e => h.2.get (by simpa using e)
theorem tupT {w : World} {h : Heap} (X : TopIn w h) {a : Addr} {items : Array Value} (e : List.lookup a (K2 w.params) = some (topObj w.params a)) (hc : (topObj w.params a).cls = .type "tuple") (hd : (topObj w.params a).data = .seq items 0) : h.IsTuple a items :=
  ⟨_, top_get X e, hc, 0, hd⟩
def fmRows : List (Nat × List (Nat × Int × Nat × Str × Nat)) :=
  [(52, [(45, 40960, 237, Str.ofString "l", 265), (46, 49152, 239, Str.ofString "s", 266), (47, 32768, 233, Str.ofString "-", 267), (48, 24576, 231, Str.ofString "b", 268), (49, 16384, 227, Str.ofString "d", 269), (50, 8192, 229, Str.ofString "c", 270), (51, 4096, 235, Str.ofString "p", 271)]),
   (54, [(53, 256, 247, Str.ofString "r", 272)]),
   (56, [(55, 128, 249, Str.ofString "w", 273)]),
   (60, [(57, 2112, 274, Str.ofString "s", 275), (58, 2048, 241, Str.ofString "S", 276), (59, 64, 251, Str.ofString "x", 277)]),
   (62, [(61, 32, 253, Str.ofString "r", 278)]),
   (64, [(63, 16, 255, Str.ofString "w", 279)]),
   (68, [(65, 1032, 280, Str.ofString "s", 281), (66, 1024, 243, Str.ofString "S", 282), (67, 8, 257, Str.ofString "x", 283)]),
   (70, [(69, 4, 259, Str.ofString "r", 284)]),
   (72, [(71, 2, 261, Str.ofString "w", 285)]),
   (76, [(73, 513, 286, Str.ofString "t", 287), (74, 512, 245, Str.ofString "T", 288), (75, 1, 263, Str.ofString "x", 289)])]
theorem fm_rows {w : World} {h : Heap} (X : TopIn w h) : AllP (fun p : Nat × List (Nat × Int × Nat × Str × Nat) => h.IsTuple p.1 (p.2.map fun q => Value.ref q.1).toArray ∧ AllP (fun q : Nat × Int × Nat × Str × Nat => h.IsTuple q.1 #[.int q.2.1 q.2.2.1, .str q.2.2.2.1 q.2.2.2.2]) p.2) fmRows :=
  ⟨⟨tupT X (by kernel_rfl) (by kernel_rfl) (by kernel_rfl), ⟨tupT X (by kernel_rfl) (by kernel_rfl) (by kernel_rfl), tupT X (by kernel_rfl) (by kernel_rfl) (by kernel_rfl), tupT X (by kernel_rfl) (by kernel_rfl) (by kernel_rfl), tupT X (by kernel_rfl) (by kernel_rfl) (by kernel_rfl), tupT X (by kernel_rfl) (by kernel_rfl) (by kernel_rfl), tupT X (by kernel_rfl) (by kernel_rfl) (by kernel_rfl), tupT X (by kernel_rfl) (by kernel_rfl) (by kernel_rfl), trivial⟩⟩,
   ⟨tupT X (by kernel_rfl) (by kernel_rfl) (by kernel_rfl), ⟨tupT X (by kernel_rfl) (by kernel_rfl) (by kernel_rfl), trivial⟩⟩,
   ⟨tupT X (by kernel_rfl) (by kernel_rfl) (by kernel_rfl), ⟨tupT X (by kernel_rfl) (by kernel_rfl) (by kernel_rfl), trivial⟩⟩,
   ⟨tupT X (by kernel_rfl) (by kernel_rfl) (by kernel_rfl), ⟨tupT X (by kernel_rfl) (by kernel_rfl) (by kernel_rfl), tupT X (by kernel_rfl) (by kernel_rfl) (by kernel_rfl), tupT X (by kernel_rfl) (by kernel_rfl) (by kernel_rfl), trivial⟩⟩,
   ⟨tupT X (by kernel_rfl) (by kernel_rfl) (by kernel_rfl), ⟨tupT X (by kernel_rfl) (by kernel_rfl) (by kernel_rfl), trivial⟩⟩,
   ⟨tupT X (by kernel_rfl) (by kernel_rfl) (by kernel_rfl), ⟨tupT X (by kernel_rfl) (by kernel_rfl) (by kernel_rfl), trivial⟩⟩,
   ⟨tupT X (by kernel_rfl) (by kernel_rfl) (by kernel_rfl), ⟨tupT X (by kernel_rfl) (by kernel_rfl) (by kernel_rfl), tupT X (by kernel_rfl) (by kernel_rfl) (by kernel_rfl), tupT X (by kernel_rfl) (by kernel_rfl) (by kernel_rfl), trivial⟩⟩,
   ⟨tupT X (by kernel_rfl) (by kernel_rfl) (by kernel_rfl), ⟨tupT X (by kernel_rfl) (by kernel_rfl) (by kernel_rfl), trivial⟩⟩,
   ⟨tupT X (by kernel_rfl) (by kernel_rfl) (by kernel_rfl), ⟨tupT X (by kernel_rfl) (by kernel_rfl) (by kernel_rfl), trivial⟩⟩,
   ⟨tupT X (by kernel_rfl) (by kernel_rfl) (by kernel_rfl), ⟨tupT X (by kernel_rfl) (by kernel_rfl) (by kernel_rfl), tupT X (by kernel_rfl) (by kernel_rfl) (by kernel_rfl), tupT X (by kernel_rfl) (by kernel_rfl) (by kernel_rfl), trivial⟩⟩, trivial⟩
theorem fm_top {w : World} {h : Heap} (X : TopIn w h) : h.IsTuple 77 (fmRows.map fun p => Value.ref p.1).toArray := tupT X (by kernel_rfl) (by kernel_rfl) (by kernel_rfl)
section
variable {w : World} {A : Around} {env : Env} {z : Shared} {h : Heap} {tk : Nat} {E : Value → Shared → Prop}
/-- x.append(e) as a statement -/
theorem exec_append {x : Str} {px apos pos spos : Pos} {elt : Expr} {D : Addr} {ys : Array Value} {Q : Flow → Shared → Prop} (hx : Ev w A env z h (.Name x px) (· = .ref D)) (hp : h.PlainList D ys) (hn : ys.size ≤ 1000)
    (k : ∀ tk, wpAny (model prog w) A (eval elt env) (fun y s₂ => ∃ h₂ tk₂, s₂ = St z h₂ tk₂ ∧ h₂.PlainList D ys ∧ ∀ h', h'.PlainList D (ys.push y) → Heap.SameBut D h₂ h' → Q .next (St z h' tk₂)) E (St z h tk))
    (hfew : ((backTo pos (starEach [elt] env)).all (fun x => !x.1) && (backToKw pos (keywordEach [] env)).all (fun x => x.1.isSome)
      && decide (([elt] : List Expr).length + ([] : List Keyword).length + (if ([] : List Keyword).isEmpty then 0 else 1) < 30)) = true := by rfl)
    (htrees : backTo pos (starEach [elt] env) = [(false, eval elt env)] := by rfl)
    (hline : (apos.endLine == pos.line) = true := by rfl) (hbase : attributeBase (.Name x px) (Str.ofString "append") env (eval (.Name x px) env) = eval (.Name x px) env := by rfl)
    (hi : interactive env = false := by rfl) (hs : swapsWith (.Call (.Attribute (.Name x px) (Str.ofString "append") apos) [elt] [] pos) none spos.line env = pure false := by rfl) :
    wpAny (model prog w) A (exec (.Expr (.Call (.Attribute (.Name x px) (Str.ofString "append") apos) [elt] [] pos) spos) env) Q E (St z h tk) := by
  refine wpAny_Expr (wpAny_Call_append hbase hfew hline htrees (Ev.use hx fun v tk1 hv => ?_)) hi hs
  obtain ⟨c, hc⟩ := id hp
  refine ⟨D, ys, hv, ⟨_, _, hc, rfl, rfl, rfl⟩, ?_⟩
  refine wpAny_mono (k tk1) (fun y s₂ h₂ => ?_) fun _ _ e => e
  obtain ⟨h₂, tk₂, rfl, hp₂, kk⟩ := h₂
  exact wpAny_list_append_plain (hsz := by unfold sizeLine; omega) hp₂ fun h' hl hs => kk h' hl hs
end
/-! filemode -/
def fmHit (mode : Int) (i : Nat) (b : Int) : Bool := if i = 0 then Builtin.bitAnd mode 61440 == b else Builtin.bitAnd mode b == b
def fmChar (mode : Int) (i : Nat) (row : List (Int × Str)) : Str := match row.find? (fun q => fmHit mode i q.1) with
  | some q => q.2
  | none => if i = 0 then Str.ofString "?" else Str.ofString "-"
abbrev fmRow (p : Nat × List (Nat × Int × Nat × Str × Nat)) : List (Int × Str) := p.2.map fun q => (q.2.1, q.2.2.2.1)
def fmChars (mode : Int) : List Str := (List.range 10).map fun i => fmChar mode i (fmRow (fmRows.getD i (0, [])))
theorem go_tup {w : World} {A : Around} {z : Shared} {h : Heap} {tk : Nat} {I t T : Addr} {i : Nat} {elts : List Expr} {k1 : Nat} {pos : Pos} {Q : Unit → Shared → Prop} {E : Value → Shared → Prop} (hit : h.IsTupleIter I t i) (hQ : Q () (St z h tk)) :
    wpAny (model prog w) A (letOwnedTupleGo (.Tuple elts k1 pos) (.ref I) (.ref T)) Q E (St z h tk) := by
  obtain ⟨o, ho, hc, hd⟩ := hit
  unfold letOwnedTupleGo
  refine wpAny_bind (wpAny_load (s := St z h tk) ho ?_)
  rw [hc, hd]
  show wpAny _ A (if (["enumerate", "zip", "dict_itemiterator", "dict_reverseitemiterator", "odict_iterator", "itertools.zip_longest", "itertools.pairwise"].contains "tuple_iterator" && _) = true then _ else _) _ _ _
  rw [if_neg (by simp)]
  exact wpAny_pure hQ
theorem ne_tup_ns {h : Heap} {a b : Addr} {m : Str → Option Value} {items : Array Value} (x : h.IsTuple a items) (y : h.Ns b m) : a ≠ b := by
  rintro rfl
  obtain ⟨_, ho, hc, n, hd⟩ := x
  obtain ⟨_, _, _, ho', hd', _⟩ := y
  rw [ho] at ho'
  cases ho'
  rw [hd] at hd'
  cases hd'
theorem not_mem1 {a b : Addr} (h : a ≠ b) : a ∉ [b] := fun q => h (List.mem_singleton.mp q)
abbrev envM (L : Addr) : Env := envF 84 83 (Str.ofString "filemode") 27 pmS L
def fmFor : Stmt := stmtAt 1 (bodyOf (top 27))
def forBody : Stmt → List Stmt
  | .For _ _ b _ _ => b
  | _ => []
def forElse : Stmt → List Stmt
  | .For _ _ _ b _ => b
  | _ => []
/-- the inner loop: one sign -/
theorem fm_inner {w : World} {A : Around} {z : Shared} {h : Heap} {tk : Nat} {L Pm : Addr} {m : Str → Option Value} {mode : Int} {tm ti : Tok} {i : Nat} {p : Nat × List (Nat × Int × Nat × Str × Nat)} {ps : Array Value} {Q : Flow → Shared → Prop}
    (X : TopIn w h) (hA : A.depth < recursionLimit) (hh : A.handled = none) (hp : fmRows[i]? = some p) (hL140 : @LE.le Nat _ 140 L) (hns : h.Ns L m) (m1 : m (Str.ofString "perm") = some (.ref Pm)) (m2 : m (Str.ofString "mode") = some (.int mode tm)) (m3 : m (Str.ofString "index") = some (.int i ti)) (m4 : m (Str.ofString "table") = some (.ref p.1))
    (hP : h.PlainList Pm ps) (hps : ps.size ≤ 100)
    (k : ∀ h' tk' m' t', h'.Ns L m' → m' (Str.ofString "perm") = some (.ref Pm) → m' (Str.ofString "mode") = some (.int mode tm) → h'.PlainList Pm (ps.push (.str (fmChar mode i (fmRow p)) t')) → KeepOff [L, Pm] h h' → Q .next (St z h' tk')) :
    wpAny (model prog w) A (exec (stmtAt 0 (forBody fmFor)) (envM L)) Q (fun _ _ => False) (St z h tk) := by
  have hr := (fm_rows X).get hp
  have hTL : p.1 ≠ L := ne_tup_ns hr.1 hns
  have hPL : Pm ≠ L := ne_list_ns hP.isList hns
  have hL : @LT.lt Nat _ L h.objs.size := by obtain ⟨_, _, _, ho, _⟩ := hns; exact Heap.lt_size ho
  have hLI : L ≠ h.objs.size := Nat.ne_of_lt hL
  have hT : @LT.lt Nat _ p.1 h.objs.size := by obtain ⟨_, ho, _⟩ := hr.1; exact Heap.lt_size ho
  refine for_it (Ev.use (ev_loc (env := envM L) hns m4) fun v tk1 hv => ?_)
  subst hv
  refine wpAny_pyIter_tuple (s := St z h tk1) hr.1 ?_
  refine ⟨h.objs.size, [h.objs.size], [h.objs.size, p.1], _, _, _, fun j H => KeepOff [L] h H ∧ ∃ m', H.Ns L m' ∧ m' (Str.ofString "perm") = some (.ref Pm) ∧ m' (Str.ofString "mode") = some (.int mode tm) ∧ m' (Str.ofString "index") = some (.int i ti) ∧ ∀ q ∈ p.2.take j, fmHit mode i q.2.1 = false,
    _, tk1, rfl, rfl, It.tuple hh h.objs.size p.1 (Nat.ne_of_lt hT) _, ⟨⟨_, Heap.get?_push_size _ rfl, rfl, rfl⟩, hr.1.push _⟩, ⟨fun b o _ e => Heap.get?_push_of_some _ e, m, hns.push _, m1, m2, m3, by simp⟩, ?_, ?_, ?_, ?_⟩
  · rintro j H H' ⟨kH, m', n', e⟩ kk
    exact ⟨fun b o hb e' => kk b o (by simp; exact Nat.ne_of_lt (Heap.lt_size e')) (kH b o hb e'), m', n'.at' fun o e' => kk _ o (by simpa using hLI) e', e⟩
  · rintro j v as H tk' Q' E' ⟨hv, rfl⟩ hS kk
    obtain ⟨q, hq⟩ : ∃ q, v = Value.ref q := by
      have := List.mem_of_getElem? (by simpa using hv : (p.2.map fun q => Value.ref q.1)[j]? = some v)
      obtain ⟨q, _, rfl⟩ := List.mem_map.mp this
      exact ⟨_, rfl⟩
    subst hq
    exact go_tup hS.1 (kk H ⟨hv, rfl⟩ hS fun _ _ _ e => e)
  · rintro j v as H tk' hj ⟨hv, rfl⟩ hS ⟨kH, m', n', e1, e2, e3, e4⟩
    have hj' : j < p.2.length := by simpa using hj
    obtain ⟨q, hq⟩ : ∃ q, p.2[j]? = some q := ⟨p.2[j], by simp [hj']⟩
    have hvq : v = .ref q.1 := by
      have : (p.2.map fun q => Value.ref q.1)[j]? = some v := by simpa using hv
      rw [List.getElem?_map, hq] at this
      exact (Option.some.inj this).symm
    subst hvq
    have hqt := hr.2.get hq
    have hqL : q.1 ≠ L := ne_tup_ns hqt hns
    refine unpack2 (env := envM L) hh (hqt.at fun o e => kH _ o (by simpa using hqL) e) n' fun h₂ tk2 n₂ k₂ => ?_
    have k02 : KeepOff [L] h h₂ := kH.trans k₂
    have p₂ : h₂.PlainList Pm ps := hP.at fun o e => k02 _ o (by simpa using hPL) e
    have X₂ : TopIn w h₂ := X.off k02 (by simpa using hL140)
    have f1 : put (put m' (Str.ofString "bit") (.int q.2.1 q.2.2.1)) (Str.ofString "char") (.str q.2.2.2.1 q.2.2.2.2) (Str.ofString "perm") = some (.ref Pm) := (put_ne (by decide)).trans ((put_ne (by decide)).trans e1)
    have f2 : put (put m' (Str.ofString "bit") (.int q.2.1 q.2.2.1)) (Str.ofString "char") (.str q.2.2.2.1 q.2.2.2.2) (Str.ofString "mode") = some (.int mode tm) := (put_ne (by decide)).trans ((put_ne (by decide)).trans e2)
    have f3 : put (put m' (Str.ofString "bit") (.int q.2.1 q.2.2.1)) (Str.ofString "char") (.str q.2.2.2.1 q.2.2.2.2) (Str.ofString "index") = some (.int i ti) := (put_ne (by decide)).trans ((put_ne (by decide)).trans e3)
    have f4 : put (put m' (Str.ofString "bit") (.int q.2.1 q.2.2.1)) (Str.ofString "char") (.str q.2.2.2.1 q.2.2.2.2) (Str.ofString "bit") = some (.int q.2.1 q.2.2.1) := (put_ne (by decide)).trans (if_pos rfl)
    have f5 : put (put m' (Str.ofString "bit") (.int q.2.1 q.2.2.1)) (Str.ofString "char") (.str q.2.2.2.1 q.2.2.2.2) (Str.ofString "char") = some (.str q.2.2.2.1 q.2.2.2.2) := if_pos rfl
    generalize put (put m' (Str.ofString "bit") (.int q.2.1 q.2.2.1)) (Str.ofString "char") (.str q.2.2.2.1 q.2.2.2.2) = m₂ at n₂ f1 f2 f3 f4 f5
    have hS₂ : h₂.IsTupleIter h.objs.size p.1 (j + 1) ∧ h₂.IsTuple p.1 (p.2.map fun q => Value.ref q.1).toArray := ⟨hS.1.at fun o e => k₂ _ o (not_mem1 (Ne.symm hLI)) e, hS.2.at fun o e => k₂ _ o (not_mem1 hTL) e⟩
    clear n' e1 e2 e3 hS
    -- what a hit does
    have hit : fmHit mode i q.2.1 = true → ∀ h₃, Keep h₂ h₃ → ∀ (h₄ : Heap) tk₄ t', h₄.PlainList Pm (ps.push (.str q.2.2.2.1 t')) → Heap.SameBut Pm h₃ h₄ → Q .next (St z h₄ tk₄) := by
      intro hh' h₃ k₃ h₄ tk₄ t' p₄ s₄
      have n₄ : h₄.Ns L m₂ := (n₂.at' fun o e => k₃ _ o e).sameBut s₄ (Ne.symm hPL)
      have ec : fmChar mode i (fmRow p) = q.2.2.2.1 := by
        unfold fmChar
        have : (fmRow p).find? (fun q => fmHit mode i q.1) = some (q.2.1, q.2.2.2.1) := by
          rw [List.find?_map, List.find?_eq_some_iff_getElem.mpr ⟨?_, j, hj', ?_, ?_⟩]
          · rfl
          · exact hh'
          · rw [List.getElem?_eq_getElem hj'] at hq; exact Option.some.inj hq
          · intro j' hlt
            have := e4 (p.2[j']) (List.mem_iff_getElem?.mpr ⟨j', by rw [List.getElem?_take, if_pos hlt, List.getElem?_eq_getElem (by omega)]⟩)
            simpa using this
        rw [this]
      refine k h₄ tk₄ m₂ t' n₄ f1 f2 (by rw [ec]; exact p₄) fun b o hb e => ?_
      simp at hb
      exact s₄.extBut b o hb.2 (k₃ b o (k02 b o (by simpa using hb.1) e))
    have miss : fmHit mode i q.2.1 = false → ∀ h₃ (tk₃ : Nat), Keep h₂ h₃ → ∃ h' tk', St z h₃ tk₃ = St z h' tk' ∧ (h'.IsTupleIter h.objs.size p.1 (j + 1) ∧ h'.IsTuple p.1 (p.2.map fun q => Value.ref q.1).toArray) ∧
        KeepOff [L] h h' ∧ ∃ m', h'.Ns L m' ∧ m' (Str.ofString "perm") = some (.ref Pm) ∧ m' (Str.ofString "mode") = some (.int mode tm) ∧ m' (Str.ofString "index") = some (.int i ti) ∧ ∀ q ∈ p.2.take (j + 1), fmHit mode i q.2.1 = false := by
      intro hh' h₃ tk₃ k₃
      refine ⟨h₃, tk₃, rfl, ⟨hS₂.1.at fun o e => k₃ _ o e, hS₂.2.at fun o e => k₃ _ o e⟩, k02.trans (Keep.off k₃), m₂, n₂.at' fun o e => k₃ _ o e, f1, f2, f3, fun q' hq' => ?_⟩
      rw [List.take_add_one, hq] at hq'
      rcases List.mem_append.mp hq' with r | r
      · exact e4 q' r
      · simp at r
        rw [r]; exact hh'
    refine wpAny_execs_cons (wpAny_If (wpAny_isTrue_Compare1 (Ev.use (ev_locI (env := envM L) n₂ f3) fun v tk3 hv => ?_)))
    obtain ⟨t3, rfl⟩ := hv
    refine Ev.use ev_int fun v tk4 hv => ?_
    obtain ⟨t4, rfl⟩ := hv
    refine eq_int (wpAny_truthy_bool ?_)
    by_cases hi0 : i = 0
    · rw [show ((i : Int) == 0) = true by simp [hi0]]
      simp only [if_true]
      refine wpAny_execs_cons (wpAny_If (wpAny_isTrue_Compare1 (Call_ (Ev.use (ev_glob (env := envM L) X₂ (v := .ref 44) (by kernel_rfl)) fun v tk5 hv => ?_))))
      subst hv
      obtain ⟨of, hof, hdf⟩ := (fn_ifmt X₂).fn
      refine PyProof.Rows.callWith_def hdf (spliced_more (Ev.use (ev_locI (env := envM L) n₂ f2) fun v tk6 hv => ?_))
      obtain ⟨t6, rfl⟩ := hv
      refine spliced_none ⟨hof, ifmt_call X₂ hA fun h₃ tk7 t7 k₃ _ => ?_⟩
      refine Ev.use (ev_locI (env := envM L) (n₂.at' fun o e => k₃ _ o e) f4) fun v tk8 hv => ?_
      obtain ⟨t8, rfl⟩ := hv
      refine eq_int (wpAny_truthy_bool ?_)
      have eh : fmHit mode i q.2.1 = (Builtin.bitAnd mode 61440 == q.2.1) := by unfold fmHit; rw [if_pos hi0]
      rw [← eh]
      cases ehit : fmHit mode i q.2.1 with
      | true =>
        simp only [if_true]
        refine wpAny_execs_cons (exec_append (ev_loc (env := envM L) (n₂.at' fun o e => k₃ _ o e) f1) (p₂.at fun o e => k₃ _ o e) (by omega) fun tk9 => Ev.use (ev_loc (env := envM L) (n₂.at' fun o e => k₃ _ o e) f5) fun v tk10 hv => ⟨h₃, tk10, rfl, p₂.at fun o e => k₃ _ o e, fun h₄ p₄ s₄ => ?_⟩)
        subst hv
        exact wpAny_execs_cons (wpAny_Break (hit ehit h₃ k₃ h₄ _ _ p₄ s₄))
      | false =>
        simp only [Bool.false_eq_true, if_false]
        exact wpAny_execs_nil (wpAny_execs_nil (wpAny_execs_nil (miss ehit h₃ _ k₃)))
    · rw [show ((i : Int) == 0) = false by simp [hi0]]
      simp only [Bool.false_eq_true, if_false]
      refine wpAny_execs_cons (wpAny_If (wpAny_isTrue_Compare1 (Ev.use (ev_and (ev_locI (env := envM L) n₂ f2) (ev_locI (env := envM L) n₂ f4)) fun v tk5 hv => ?_)))
      obtain ⟨t5, rfl⟩ := hv
      refine Ev.use (ev_locI (env := envM L) n₂ f4) fun v tk8 hv => ?_
      obtain ⟨t8, rfl⟩ := hv
      refine eq_int (wpAny_truthy_bool ?_)
      have eh : fmHit mode i q.2.1 = (Builtin.bitAnd mode q.2.1 == q.2.1) := by unfold fmHit; rw [if_neg hi0]
      rw [← eh]
      cases ehit : fmHit mode i q.2.1 with
      | true =>
        simp only [if_true]
        refine wpAny_execs_cons (exec_append (ev_loc (env := envM L) n₂ f1) p₂ (by omega) fun tk9 => Ev.use (ev_loc (env := envM L) n₂ f5) fun v tk10 hv => ⟨h₂, tk10, rfl, p₂, fun h₄ p₄ s₄ => ?_⟩)
        subst hv
        exact wpAny_execs_cons (wpAny_Break (hit ehit h₂ (fun _ _ e => e) h₄ _ _ p₄ s₄))
      | false =>
        simp only [Bool.false_eq_true, if_false]
        exact wpAny_execs_nil (wpAny_execs_nil (wpAny_execs_nil (miss ehit h₂ _ fun _ _ e => e)))
  · rintro H tk' ⟨kH, m', n', e1, e2, e3, e4⟩
    have p₂ : H.PlainList Pm ps := hP.at fun o e => kH _ o (not_mem1 hPL) e
    have en : (fmRow p).find? (fun q => fmHit mode i q.1) = none := by
      rw [List.find?_eq_none]
      intro x hx
      obtain ⟨q, hq, rfl⟩ := List.mem_map.mp hx
      have := e4 q (by rw [List.take_of_length_le (by simp)]; exact hq)
      simp [this]
    have fin : ∀ (c : Str), fmChar mode i (fmRow p) = c → ∀ (h₄ : Heap) tk₄ t', h₄.PlainList Pm (ps.push (.str c t')) → Heap.SameBut Pm H h₄ → Q .next (St z h₄ tk₄) := by
      intro c hc h₄ tk₄ t' p₄ s₄
      refine k h₄ tk₄ m' t' (n'.sameBut s₄ (Ne.symm hPL)) e1 e2 (by rw [hc]; exact p₄) fun b o hb e => ?_
      simp at hb
      exact s₄.extBut b o hb.2 (kH b o (by simpa using hb.1) e)
    refine wpAny_execs_cons (wpAny_If (wpAny_isTrue_Compare1 (Ev.use (ev_locI (env := envM L) n' e3) fun v tk3 hv => ?_)))
    obtain ⟨t3, rfl⟩ := hv
    refine Ev.use ev_int fun v tk4 hv => ?_
    obtain ⟨t4, rfl⟩ := hv
    refine eq_int (wpAny_truthy_bool ?_)
    by_cases hi0 : i = 0
    · rw [show ((i : Int) == 0) = true by simp [hi0]]
      simp only [if_true]
      refine wpAny_execs_cons (exec_append (ev_loc (env := envM L) n' e1) p₂ (by omega) fun tk9 => Ev.use ev_str fun v tk10 hv => ⟨H, tk10, rfl, p₂, fun h₄ p₄ s₄ => ?_⟩)
      obtain ⟨t10, rfl⟩ := hv
      exact wpAny_execs_nil (wpAny_execs_nil (fin _ (by unfold fmChar; rw [en]; simp [hi0]) h₄ _ _ p₄ s₄))
    · rw [show ((i : Int) == 0) = false by simp [hi0]]
      simp only [Bool.false_eq_true, if_false]
      refine wpAny_execs_cons (exec_append (ev_loc (env := envM L) n' e1) p₂ (by omega) fun tk9 => Ev.use ev_str fun v tk10 hv => ⟨H, tk10, rfl, p₂, fun h₄ p₄ s₄ => ?_⟩)
      obtain ⟨t10, rfl⟩ := hv
      exact wpAny_execs_nil (wpAny_execs_nil (fin _ (by unfold fmChar; rw [en]; simp [hi0]) h₄ _ _ p₄ s₄))
end Mine
end
section
open PySem PySem.W PyProof.Rows PySem.Calls
set_option Elab.async false
set_option maxRecDepth 100000
set_option maxHeartbeats 1000000
namespace Mine
theorem fmChar_length (mode : Int) (i : Nat) (p : Nat × List (Nat × Int × Nat × Str × Nat)) (h : fmRows[i]? = some p) : (fmChar mode i (fmRow p)).length = 1 := by
  have key : ∀ p ∈ fmRows, ∀ q ∈ p.2, q.2.2.2.1.length = 1 := by decide +kernel
  have h1 : (Str.ofString "?").length = 1 := by decide +kernel
  have h2 : (Str.ofString "-").length = 1 := by decide +kernel
  unfold fmChar
  split
  · rename_i q hq
    have := List.mem_of_find?_eq_some hq
    obtain ⟨r, hr, rfl⟩ := List.mem_map.mp this
    exact key p (List.mem_of_getElem? h) r hr
  · split
    · exact h1
    · exact h2
theorem StrsAre_snoc {vs : List Value} {ys : List Str} (h : StrsAre vs ys) (y : Str) (t : Tok) : StrsAre (vs ++ [.str y t]) (ys ++ [y]) := by
  induction h with
  | nil => exact .cons _ _ .nil
  | cons a u hr ih => exact .cons _ _ ih
def fileZ (mode : Int) : Str := Txt.join (Str.ofString "") (fmChars mode)
/-- filemode(mode) -/
theorem filemode_call {w : World} {A : Around} {z : Shared} {h : Heap} {tk : Nat} {Q : Value → Shared → Prop} {E : Value → Shared → Prop} (X : TopIn w h) (hA : A.depth + 1 < recursionLimit) (hh : A.handled = none) {mode : Int} {tm : Tok}
    (k : ∀ h' tk' t', Keep h h' → @LE.le Nat _ h.objs.size h'.objs.size → Q (.str (fileZ mode) t') (St z h' tk')) :
    wpAny (model prog w) A (call (.ref 84) [.int mode tm]) Q E (St z h tk) := by
  refine call_top X (fn_filemode X) (by omega) (binds := [(Str.ofString "mode", .int mode tm)]) (by rfl) (by decide) (by rfl) fun h₁ hns hk => ?_
  have hL1 : @LT.lt Nat _ h.objs.size h₁.objs.size := by obtain ⟨_, _, _, ho, _⟩ := hns; exact Heap.lt_size ho
  refine wpAny_execs_cons (wpAny_Assign_Name (wpAny_List_spliced (spliced_none ⟨Nat.le_of_ble_eq_true rfl, ?_⟩)))
  refine store_loc (z := z) (hns.push _) fun h₂ tk2 n₂ s₂ => ?_
  have hLP : h.objs.size ≠ h₁.objs.size := Nat.ne_of_lt hL1
  have p₂ : h₂.PlainList h₁.objs.size #[] := ⟨_, s₂.extBut _ _ (Ne.symm hLP) (Heap.get?_push_size _ rfl)⟩
  have k02 : Keep h h₂ := fun b o e => s₂.extBut b o (Nat.ne_of_lt (Heap.lt_size e)) (Heap.get?_push_of_some _ (hk b o e))
  have X₂ := X.keep k02
  generalize hPm : h₁.objs.size = Pm at *
  refine wpAny_execs_cons (for_it (Call_ (Ev.use (ev_built X₂ (v := .type "enumerate") (by kernel_rfl) (by kernel_rfl)) fun v tk3 hv => ?_)))
  subst hv
  refine PyProof.Rows.callWith_type1 (spliced_more (Ev.use (ev_glob X₂ (v := .ref 77) (by kernel_rfl)) fun v tk4 hv => ?_))
  subst hv
  refine spliced_none (enumerate_tuple (fm_top X₂) fun h₃ he hit hsz k₃ => ?_)
  have hP2 : @LT.lt Nat _ Pm h₂.objs.size := by obtain ⟨c, ho⟩ := p₂; exact Heap.lt_size ho
  have h77 : @LT.lt Nat _ 77 h₂.objs.size := by obtain ⟨_, ho, _⟩ := fm_top X₂; exact Heap.lt_size ho
  have hLL : @LT.lt Nat _ h.objs.size h₂.objs.size := by obtain ⟨_, _, _, ho, _⟩ := n₂; exact Heap.lt_size ho
  have k03 : Keep h h₃ := k02.trans k₃
  generalize hit' : h₂.objs.size = it at *
  have h140 := X.size
  have W := It.enum (w := w) (A := A.deeper (envM h.objs.size)) (z := z) (drawsTuple (prog := prog) (w := w) (A := (A.deeper (envM h.objs.size)).in1) hh it 77 (by (first | omega | (dsimp only [PySem.Addr] at *; omega))) (fmRows.map fun p => Value.ref p.1).toArray) (e := it + 1) (by (first | omega | (dsimp only [PySem.Addr] at *; omega))) (by simp; (first | omega | (dsimp only [PySem.Addr] at *; omega))) (by simp)
  refine W.self 0 _ _ _ _ ⟨he, hit, (fm_top X₂).at fun o e => k₃ _ o e⟩ ?_
  refine ⟨it + 1, [it + 1, it], _, _, _, _, fun i H => Keep h H ∧ ∃ m' cs, H.Ns h.objs.size m' ∧ m' (Str.ofString "perm") = some (.ref Pm) ∧ m' (Str.ofString "mode") = some (.int mode tm) ∧ H.PlainList Pm cs ∧ cs.size = i ∧ StrsAre cs.toList ((List.range i).map fun i => fmChar mode i (fmRow (fmRows.getD i (0, [])))),
    h₃, _, rfl, rfl, W, ⟨he, hit, (fm_top X₂).at fun o e => k₃ _ o e⟩, ⟨k03, _, _, n₂.at' fun o e => k₃ _ o e, rfl, rfl, p₂.at fun o e => k₃ _ o e, rfl, .nil⟩, ?_, ?_, ?_, ?_⟩
  · rintro i H H' ⟨kH, m', cs, n', e1, e2, pH, hc, hs⟩ kk
    refine ⟨fun b o e => kk b o (by have := lt_sz e; simp; (first | omega | (dsimp only [PySem.Addr] at *; omega))) (kH b o e), m', cs, n'.at' fun o e => kk _ o (by simp; (first | omega | (dsimp only [PySem.Addr] at *; omega))) e, e1, e2, pH.at fun o e => kk _ o (by simp; (first | omega | (dsimp only [PySem.Addr] at *; omega))) e, hc, hs⟩
  · rintro i v as H tk' Q' E' ⟨T, t, x, rfl, rfl, hx, hT⟩ ⟨he', hS'⟩ kk
    refine go_enum he' fun H' he'' hs' => kk H' ⟨T, t, x, rfl, rfl, hx, hT.extBut hs'.extBut ?_⟩ ⟨he'', hS'.1.extBut hs'.extBut (by (first | omega | (dsimp only [PySem.Addr] at *; omega))), hS'.2.extBut hs'.extBut (by (first | omega | (dsimp only [PySem.Addr] at *; omega)))⟩ fun b o hb e => hs'.extBut b o (fun q => hb (by rw [q]; simp)) e
    rintro rfl
    obtain ⟨_, _, _, ho, _⟩ := he'
    obtain ⟨_, ho', hc', _⟩ := hT
    rw [ho] at ho'
    cases ho'
    exact ty_ne hc' (by decide)
  · rintro i v as H tk' hi ⟨T, t, x, rfl, rfl, hx, hT⟩ ⟨he', hS'⟩ ⟨kH, m', cs, n', e1, e2, pH, hc, hs⟩
    have hi10 : i < fmRows.length := by simpa using hi
    have hten : fmRows.length = 10 := rfl
    obtain ⟨p, hp⟩ : ∃ p, fmRows[i]? = some p := ⟨fmRows[i], by simp [hi10]⟩
    have hxp : x = .ref p.1 := by
      have : (fmRows.map fun p => Value.ref p.1)[i]? = some x := by simpa using hx
      rw [List.getElem?_map, hp] at this
      exact (Option.some.inj this).symm
    subst hxp
    refine unpack2 (env := envM h.objs.size) hh hT n' fun h₄ tk4 n₄ k₄ => ?_
    have hPL : Pm ≠ h.objs.size := ne_list_ns pH.isList n'
    have k04 : Keep h h₄ := fun b o e => k₄ b o (not_mem1 (Nat.ne_of_lt (Heap.lt_size e))) (kH b o e)
    refine wpAny_execs_cons (fm_inner (A := A.deeper _) (X.keep k04) (show A.depth + 1 < recursionLimit from hA) hh hp h140 n₄ ((put_ne (by decide)).trans ((put_ne (by decide)).trans e1)) ((put_ne (by decide)).trans ((put_ne (by decide)).trans e2)) ((put_ne (by decide)).trans (if_pos rfl)) (if_pos rfl) (pH.at fun o e => k₄ _ o (not_mem1 hPL) e) (by omega) fun h₅ tk5 m₅ t₅ n₅ f1 f2 p₅ k₅ => ?_)
    have kk : KeepOff [h.objs.size, Pm] H h₅ := fun b o hb e => k₅ b o hb (k₄ b o (fun q => hb (by simp at q ⊢; exact .inl q)) e)
    refine wpAny_execs_nil ⟨h₅, tk5, rfl, W.frame _ _ _ ⟨he', hS'⟩ fun b hb o e => kk b o (by simp at hb ⊢; (first | omega | (dsimp only [PySem.Addr] at *; omega))) e, ?_, m₅, _, n₅, f1, f2, p₅, by simp [hc], ?_⟩
    · exact fun b o e => kk b o (by have := lt_sz e; simp; (first | omega | (dsimp only [PySem.Addr] at *; omega))) (kH b o e)
    · rw [Array.toList_push, List.range_succ, List.map_append]
      have := StrsAre_snoc hs (fmChar mode i (fmRow p)) t₅
      simpa [List.getD_eq_getElem?_getD, hp] using this
  · rintro H tk' ⟨kH, m', cs, n', e1, e2, pH, hc, hs⟩
    refine wpAny_execs_nil (wpAny_execs_cons (wpAny_Return_some (Call_method1 (by rfl) (by rfl) (by rfl) (Ev.use ev_str fun v tk6 hv => ?_))))
    obtain ⟨t6, rfl⟩ := hv
    refine ⟨"str", "str.join", F.plainAttrs_str, F.slot_str_join, F.type_str_join, typeIs_str _ _ _, (fun a q => by cases q), ?_⟩
    refine callWith_builtin rfl (evalArgs_plain (spliced_cons (Ev.use (ev_loc (env := envM h.objs.size) n' e1) fun v tk7 hv => spliced_nil ?_)))
    subst hv
    refine join_list (s := St z H tk7) pH.isList hs ?_ fun t' k' => k H k' t' kH (by obtain ⟨_, _, _, ho, _⟩ := n'; exact Nat.le_of_lt (Heap.lt_size ho))
    have hl : ∀ y ∈ (List.range (fmRows.map fun p => Value.ref p.1).toArray.size).map fun i => fmChar mode i (fmRow (fmRows.getD i (0, []))), y.length = 1 := by
      intro y hy
      obtain ⟨i, hi, rfl⟩ := List.mem_map.mp hy
      have hi' : i < fmRows.length := by simpa using hi
      have : fmRows[i]? = some (fmRows.getD i (0, [])) := by simp [List.getD_eq_getElem?_getD, List.getElem?_eq_getElem hi']
      exact fmChar_length mode i _ this
    have hsum : ∀ l : List Str, (∀ y ∈ l, y.length = 1) → (l.map (·.length)).sum = l.length := by
      intro l
      induction l with
      | nil => intro _; rfl
      | cons a l ih =>
        intro hl
        rw [List.map_cons, List.sum_cons, ih fun y hy => hl y (.tail _ hy), hl a (.head _), List.length_cons]
        omega
    rw [hsum _ hl]
    have e0 : (Str.ofString "").length = 0 := by decide +kernel
    rw [e0]
    simp
    decide
end Mine
end
section
open PySem PySem.W PyProof.Rows PySem.Calls
open Builtin Builtin.ObjectAttr Builtin.Getset_descriptor
set_option linter.unusedVariables false
set_option Elab.async false
set_option maxRecDepth 100000
set_option maxHeartbeats 1000000
namespace Mine
theorem slotMD_get : Slot "member_descriptor" "__get__" "member_descriptor.__get__" :=
  .of (owner := "member_descriptor") (n := "__get__") (by rw [typeLookup_type, builtinLookup_eq_fast]; kernel_rfl) (by decide +kernel) (by decide +kernel) (by decide +kernel)
    (by first | exact .inl (by decide +kernel) | exact .inr (by decide +kernel)) (by rw [isSubtype_type]; kernel_rfl)
theorem slotMD_set : Slot "member_descriptor" "__set__" "member_descriptor.__set__" :=
  .of (owner := "member_descriptor") (n := "__set__") (by rw [typeLookup_type, builtinLookup_eq_fast]; kernel_rfl) (by decide +kernel) (by decide +kernel) (by decide +kernel)
    (by first | exact .inl (by decide +kernel) | exact .inr (by decide +kernel)) (by rw [isSubtype_type]; kernel_rfl)
theorem entryMD_get : entryFor table "member_descriptor.__get__" = some Builtin.«member_descriptor.__get__» := entryFor_of_tree (by kernel_rfl)
theorem entryMD_set : entryFor table "member_descriptor.__set__" = some Builtin.«member_descriptor.__set__» := entryFor_of_tree (by kernel_rfl)
theorem entry_slot : entryFor table "proto.slot" = some Builtin.«proto.slot» := entryFor_of_tree (by kernel_rfl)
theorem argsMD_get (a b c : Value) : argsOk "member_descriptor.__get__" ⟨[a, b, c], []⟩ := by unfold argsOk; kernel_rfl
theorem argsMD_set (a b c : Value) : argsOk "member_descriptor.__set__" ⟨[a, b, c], []⟩ := by unfold argsOk; kernel_rfl
section
variable {w : World} {A : Around} {E : Value → Shared → Prop} {h : Heap} {g : Array GenState} {d : Drawn} {t : Nat} {os : OsState}
variable {nm q : Str} {C N x md : Addr} {bs : List Value} {hdct : Bool} {sub : List Value} {ab : Bool} {col : Option Bool} {dd : Option Addr} {k0 k1 k2 k3 k5 : Option Value} {newId : String} {mN : Str → Option Value} {name : Str} {v : Value} {o : Obj} {t0 : Tok}
theorem slot_entry {tk : Tok} {Q : Fin → Shared → Prop}
    (hC : h.get? C = some (excClassObj nm q C N bs [.type "object"] hdct [name] sub ab col dd k0 k1 k2 k3 k5 newId)) (hn : h.Ns N mN) (hmd : mN name = some (.ref md)) (hga : mN (Str.ofString "__getattr__") = none)
    (hm : h.get? md = some { cls := .type "member_descriptor", data := .fields #[.str name t0, .ref C, .builtin "proto.slot", .builtin "proto.slot#set", .int 0 0] }) {y : Option Value}
    (hB : typeLookup (.type "object") name = pure y) (hx : h.get? x = some o) (hc : o.cls = .ref C) (hv : o.slots[0]? = some (some v)) (hq : Q (.done (.ret v)) ⟨h, g, d, t, os⟩) :
    wpAny (model prog w) A (Builtin.«proto.getattr_hooked» ⟨[.ref x, .str name tk], []⟩) Q E ⟨h, g, d, t, os⟩ := by
  have hTm : Shared.TypeIs ⟨h, g, d, t, os⟩ (.ref md) "member_descriptor" := ⟨_, hm, rfl⟩
  unfold Builtin.«proto.getattr_hooked»
  repeat (first | (with_reducible refine wpAny_loadPart_at hx ?_; rw [hc]) | (with_reducible refine wpAny_typeLookup_exc hC hn F.mro_object hB ?_; rw [hmd]) | (with_reducible refine wpAny_specialOf hTm slotMD_get.lookup ?_) | (with_reducible refine wpAny_specialOf hTm slotMD_set.lookup ?_) | (with_reducible refine wpAny_typeLookup_exc hC hn F.mro_object F.lk_object_getattr ?_; rw [hga]) | wp_step)
  refine codeAny_call_builtin slotMD_get.plain entryMD_get (slotMD_get.check _ _ _ _ _ _ _ _ hTm (argsMD_get _ _ _) ?_)
  unfold Builtin.«member_descriptor.__get__» descrGet descrGetArgs
  repeat (first | (with_reducible refine wpAny_loadPart_at hx ?_; rw [hc]) | wp_step)
  refine wpAny_isSubtype_exc hC ?_
  rw [show (Value.ref C :: [Value.type "object"]).contains (#[Value.str name t0, Value.ref C, Value.builtin "proto.slot", Value.builtin "proto.slot#set", Value.int 0 0][1]) = true by simp]
  repeat (first | (with_reducible refine wpAny_loadPart_at hx ?_; rw [hc]) | wp_step)
  rw [if_pos (by simp)]
  refine ⟨plainId_quiet (by decide +kernel) _, codeAny_builtin entry_slot ?_⟩
  unfold Builtin.«proto.slot» Slots.target slotAt
  repeat (first | (with_reducible refine wpAny_loadPart_at hx ?_; rw [hc]) | wp_step)
  have e : (o.slots[0]?).join = some v := by rw [hv]; rfl
  show wpAny _ _ (match (o.slots[0]?).join with | some v => ret v | none => _) _ _ _
  rw [e]
  exact wpAny_pure (wpAny_pure hq)
theorem slot_load {expr : Bool} {Q : Value → Shared → Prop}
    (hC : h.get? C = some (excClassObj nm q C N bs [.type "object"] hdct [name] sub ab col dd k0 k1 k2 k3 k5 newId)) (hn : h.Ns N mN) (hng : mN (Str.ofString "__getattribute__") = none) (hga : mN (Str.ofString "__getattr__") = none) (hmd : mN name = some (.ref md))
    (hm : h.get? md = some { cls := .type "member_descriptor", data := .fields #[.str name t0, .ref C, .builtin "proto.slot", .builtin "proto.slot#set", .int 0 0] }) {y : Option Value}
    (hB : typeLookup (.type "object") name = pure y) (hx : h.get? x = some o) (hc : o.cls = .ref C) (hv : o.slots[0]? = some (some v)) (hh : handedOut v = pure v) (hq : Q v ⟨h, g, d, t + 1, os⟩) :
    wpAny (model prog w) A (getAttr (.ref x) name expr) Q E ⟨h, g, d, t, os⟩ := by
  unfold getAttr getAttrBy
  repeat (first | (with_reducible refine wpAny_loadPart_at hx ?_; rw [hc]) | (with_reducible refine wpAny_typeLookup_exc hC hn F.mro_object F.lk_object_ga ?_; rw [hng]) | wp_step)
  show wpAny _ _ ((runValue (.builtin "proto.getattr_hooked" ⟨[.ref x, .str name t], []⟩)).onRaise (noteIf true (.ref x) (.str name t))) _ _ _
  refine wpAny_onRaise (wpAny_runValue (codeAny_builtin F.plainObj_entry_getattr_hooked (slot_entry hC hn hmd hga hm hB hx hc hv ?_)))
  show wpAny _ _ (handedOut v) _ _ _
  rw [hh]
  exact wpAny_pure hq
end
end Mine
end
section
open PySem PySem.W PyProof.Rows PySem.Calls
open Builtin Builtin.ObjectAttr
set_option Elab.async false
set_option maxRecDepth 100000
set_option maxHeartbeats 1000000
set_option linter.unusedVariables false
namespace Mine
/-! the class K that cmp_to_key makes, as the heap has it -/
def clsBody : List Stmt := bodyOf (stmtAt 0 (bodyOf (top 1)))
def meth (i : Nat) : Stmt := stmtAt (i + 2) clsBody
abbrev methFd (i : Nat) (nm q : Str) (cl : List (Str × Addr)) (c : Addr) (md ct : Value) : FuncData :=
  { name := nm, qualname := q, params := argsOf (meth i), body := .stmts (bodyOf (meth i)), scope := scopeOf (meth i), globals := 3, closure := cl, defaults := .none, kwdefaults := .none, doc := .none, pyModule := md, annotations := none, code := .ref c, closureTuple := ct, builtins := 0 }
structure MethAt (h : Heap) (i : Nat) (nm q : Str) (cl : List (Str × Addr)) (f : Addr) : Prop where
  fn : ∃ o c md ct, h.get? f = some o ∧ o.cls = .type "function" ∧ o.data = .func (methFd i nm q cl c md ct) ∧ h.CodeRec (.ref c) q
structure KAt (h : Heap) (kc N md cm : Addr) (fs : Nat → Addr) : Prop where
  cls : ∃ nm q bs hdct sub ab col dd k0 k1 k2 k3 k5 newId, h.get? kc = some (excClassObj nm q kc N bs [.type "object"] hdct [Str.ofString "obj"] sub ab col dd k0 k1 k2 k3 k5 newId)
  ns : ∃ mN, h.Ns N mN ∧ mN (Str.ofString "__getattribute__") = none ∧ mN (Str.ofString "__getattr__") = none ∧ mN (Str.ofString "obj") = some (.ref md) ∧ mN (Str.ofString "__ne__") = none ∧
    mN (Str.ofString "__lt__") = some (.ref (fs 1)) ∧ mN (Str.ofString "__gt__") = some (.ref (fs 2)) ∧ mN (Str.ofString "__eq__") = some (.ref (fs 3)) ∧ mN (Str.ofString "__le__") = some (.ref (fs 4)) ∧ mN (Str.ofString "__ge__") = some (.ref (fs 5))
  md : ∃ t0, h.get? md = some { cls := .type "member_descriptor", data := .fields #[.str (Str.ofString "obj") t0, .ref kc, .builtin "proto.slot", .builtin "proto.slot#set", .int 0 0] }
  lt : MethAt h 1 (Str.ofString "__lt__") (Str.ofString "cmp_to_key.<locals>.K.__lt__") [(Str.ofString "mycmp", cm)] (fs 1)
  gt : MethAt h 2 (Str.ofString "__gt__") (Str.ofString "cmp_to_key.<locals>.K.__gt__") [(Str.ofString "mycmp", cm)] (fs 2)
  eq : MethAt h 3 (Str.ofString "__eq__") (Str.ofString "cmp_to_key.<locals>.K.__eq__") [(Str.ofString "mycmp", cm)] (fs 3)
  le : MethAt h 4 (Str.ofString "__le__") (Str.ofString "cmp_to_key.<locals>.K.__le__") [(Str.ofString "mycmp", cm)] (fs 4)
  ge : MethAt h 5 (Str.ofString "__ge__") (Str.ofString "cmp_to_key.<locals>.K.__ge__") [(Str.ofString "mycmp", cm)] (fs 5)
/-- an object of the class K -/
def KInst (h : Heap) (kc x : Addr) (v : Value) : Prop := ∃ o, h.get? x = some o ∧ o.cls = .ref kc ∧ o.slots[0]? = some (some v)
theorem lk_obj : typeLookup (.type "object") (Str.ofString "obj") = pure none := by rw [typeLookup_type, builtinLookup_eq_fast]; kernel_rfl
/-- x.obj -/
theorem ev_obj {w : World} {A : Around} {env : Env} {z : Shared} {h : Heap} {x : Str} {xp pos : Pos} {kc N md cm a b : Addr} {fs : Nat → Addr} (K : KAt h kc N md cm fs) (I : KInst h kc a (.ref b)) (hx : Ev w A env z h (.Name x xp) (· = .ref a))
    (he : eval (.Attribute (.Name x xp) (Str.ofString "obj") pos) env = (do
      let o ← eval (.Name x xp) env
      standAt pos.atName
      let r ← holding [o] (getAttr o (Str.ofString "obj") true)
      letTemporaryGo (.Name x xp) o r
      pure r) := by with_unfolding_all rfl) :
    Ev w A env z h (.Attribute (.Name x xp) (Str.ofString "obj") pos) (· = .ref b) := fun tk Q E k => by
  obtain ⟨nm, q, bs, hdct, sub, ab, col, dd, k0, k1, k2, k3, k5, newId, hC⟩ := K.cls
  obtain ⟨mN, hn, h1, h2, h3, _⟩ := K.ns
  obtain ⟨t0, hm⟩ := K.md
  obtain ⟨o, ho, hc, hv⟩ := I
  refine Attribute_Name_ (hx tk _ E fun v tk1 hv => ?_) he
  subst hv
  exact slot_load hC hn h1 h2 h3 hm lk_obj ho hc hv rfl (k _ _ rfl)
theorem ev_free {w : World} {A : Around} {env : Env} {z : Shared} {h : Heap} {x : Str} {pos : Pos} {v : Value} {c : Addr} (hc : env.cells.lookup x = some c) (hv : h.IsCell c (some v)) (hk : env.scope.kind = .function := by rfl) (hl : env.kindOf x = some .free := by rfl)
    (hd : (x == ("__debug__" : Str)) = false := by decide) (hn : (x == ("__classdict__" : Str)) = false := by decide) : Ev w A env z h (.Name x pos) (· = v) := fun _ _ _ k => wpAny_Name (wpAny_loadName_free hk hl hc hv (k _ _ rfl) hn) hd
/-- what a call of mycmp gives on two things -/
def CmpOk (w : World) (z : Shared) (fm p q : Addr) (dv : Int) (h : Heap) : Prop :=
  ∀ (A : Around) h' tk (Q : Value → Shared → Prop) (E : Value → Shared → Prop), A.depth < recursionLimit → A.handled = none → Keep h h' → (∀ h'' tk' t, Keep h' h'' → Q (.int dv t) (St z h'' tk')) → wpAny (model prog w) A (call (.ref fm) [.ref p, .ref q]) Q E (St z h' tk)
theorem KAt.keep {h h' : Heap} {kc N md cm : Addr} {fs : Nat → Addr} (K : KAt h kc N md cm fs) (k : Keep h h') : KAt h' kc N md cm fs := by
  have cd : ∀ {v : Value} {q : Str}, h.CodeRec v q → h'.CodeRec v q := by
    rintro v q ⟨c, o, vs, t, e, ho, r⟩
    exact ⟨c, o, vs, t, e, k _ _ ho, r⟩
  have mt : ∀ {i nm q cl f}, MethAt h i nm q cl f → MethAt h' i nm q cl f := by
    rintro i nm q cl f ⟨o, c, md, ct, ho, r1, r2, r3⟩
    exact ⟨o, c, md, ct, k _ _ ho, r1, r2, cd r3⟩
  obtain ⟨⟨nm, q, bs, hdct, sub, ab, col, dd, k0, k1, k2, k3, k5, newId, hC⟩, ⟨mN, hn, r⟩, ⟨t0, hm⟩, a, b, c, d, e⟩ := K
  exact ⟨⟨nm, q, bs, hdct, sub, ab, col, dd, k0, k1, k2, k3, k5, newId, k _ _ hC⟩, ⟨mN, hn.keeps k, r⟩, ⟨t0, k _ _ hm⟩, mt a, mt b, mt c, mt d, mt e⟩
theorem KInst.keep {h h' : Heap} {kc x : Addr} {v : Value} (I : KInst h kc x v) (k : Keep h h') : KInst h' kc x v := by
  obtain ⟨o, ho, r⟩ := I
  exact ⟨o, k _ _ ho, r⟩
theorem ltK_call {w : World} {A : Around} {z : Shared} {h : Heap} {tk : Nat} {Q : Value → Shared → Prop} {E : Value → Shared → Prop} {kc N md cm fm x y p q : Addr} {fs : Nat → Addr} {dv : Int} (X : TopIn w h) (hA : A.depth + 1 < recursionLimit) (hh : A.handled = none) (K : KAt h kc N md cm fs)
    (hcm : h.IsCell cm (some (.ref fm))) (hfm : ∃ o fd, h.get? fm = some o ∧ o.data = .func fd) (Ix : KInst h kc x (.ref p)) (Iy : KInst h kc y (.ref q)) (C : CmpOk w z fm p q dv h)
    (k : ∀ h' tk', Keep h h' → Q (.bool (decide (dv < 0))) (St z h' tk')) :
    wpAny (model prog w) A (call (.ref (fs 1)) [.ref x, .ref y]) Q E (St z h tk) := by
  obtain ⟨o, c, md', ct, ho, _, hd, hcr⟩ := K.lt.fn
  refine call_fd X ⟨o, ho, hd⟩ hcr (by omega) rfl (binds := [(Str.ofString "self", .ref x), (Str.ofString "other", .ref y)]) (BindsTo.of_eq (by rfl)) (by rfl) (by rfl) fun h₁ tk₁ hns hk => ?_
  refine wpAny_execs_cons (wpAny_Return_some (wpAny_Compare1 (Call_ (Ev.use (ev_free (c := cm) (by rfl) (cell_keep hcm hk)) fun v tk2 hv => ?_))))
  subst hv
  obtain ⟨of, fd, hof, hdf⟩ := hfm
  refine PyProof.Rows.callWith_def hdf (spliced_more (Ev.use (ev_obj (K.keep hk) (Ix.keep hk) (ev_loc hns rfl)) fun v tk3 hv => ?_))
  subst hv
  refine spliced_more (Ev.use (ev_obj (K.keep hk) (Iy.keep hk) (ev_loc hns rfl)) fun v tk4 hv => ?_)
  subst hv
  refine spliced_none ⟨hk _ _ hof, C _ _ _ _ _ (show A.depth + 1 < recursionLimit from hA) hh hk fun h₂ tk5 t5 k₂ => ?_⟩
  refine Ev.use ev_int fun v tk6 hv => ?_
  obtain ⟨t6, rfl⟩ := hv
  exact lt_int (k _ _ fun b o e => k₂ b o (hk b o e))
theorem gtK_call {w : World} {A : Around} {z : Shared} {h : Heap} {tk : Nat} {Q : Value → Shared → Prop} {E : Value → Shared → Prop} {kc N md cm fm x y p q : Addr} {fs : Nat → Addr} {dv : Int} (X : TopIn w h) (hA : A.depth + 1 < recursionLimit) (hh : A.handled = none) (K : KAt h kc N md cm fs)
    (hcm : h.IsCell cm (some (.ref fm))) (hfm : ∃ o fd, h.get? fm = some o ∧ o.data = .func fd) (Ix : KInst h kc x (.ref p)) (Iy : KInst h kc y (.ref q)) (C : CmpOk w z fm p q dv h)
    (k : ∀ h' tk', Keep h h' → Q (.bool (decide (dv > 0))) (St z h' tk')) :
    wpAny (model prog w) A (call (.ref (fs 2)) [.ref x, .ref y]) Q E (St z h tk) := by
  obtain ⟨o, c, md', ct, ho, _, hd, hcr⟩ := K.gt.fn
  refine call_fd X ⟨o, ho, hd⟩ hcr (by omega) rfl (binds := [(Str.ofString "self", .ref x), (Str.ofString "other", .ref y)]) (BindsTo.of_eq (by rfl)) (by rfl) (by rfl) fun h₁ tk₁ hns hk => ?_
  refine wpAny_execs_cons (wpAny_Return_some (wpAny_Compare1 (Call_ (Ev.use (ev_free (c := cm) (by rfl) (cell_keep hcm hk)) fun v tk2 hv => ?_))))
  subst hv
  obtain ⟨of, fd, hof, hdf⟩ := hfm
  refine PyProof.Rows.callWith_def hdf (spliced_more (Ev.use (ev_obj (K.keep hk) (Ix.keep hk) (ev_loc hns rfl)) fun v tk3 hv => ?_))
  subst hv
  refine spliced_more (Ev.use (ev_obj (K.keep hk) (Iy.keep hk) (ev_loc hns rfl)) fun v tk4 hv => ?_)
  subst hv
  refine spliced_none ⟨hk _ _ hof, C _ _ _ _ _ (show A.depth + 1 < recursionLimit from hA) hh hk fun h₂ tk5 t5 k₂ => ?_⟩
  refine Ev.use ev_int fun v tk6 hv => ?_
  obtain ⟨t6, rfl⟩ := hv
  exact gt_int (k _ _ fun b o e => k₂ b o (hk b o e))
theorem eqK_call {w : World} {A : Around} {z : Shared} {h : Heap} {tk : Nat} {Q : Value → Shared → Prop} {E : Value → Shared → Prop} {kc N md cm fm x y p q : Addr} {fs : Nat → Addr} {dv : Int} (X : TopIn w h) (hA : A.depth + 1 < recursionLimit) (hh : A.handled = none) (K : KAt h kc N md cm fs)
    (hcm : h.IsCell cm (some (.ref fm))) (hfm : ∃ o fd, h.get? fm = some o ∧ o.data = .func fd) (Ix : KInst h kc x (.ref p)) (Iy : KInst h kc y (.ref q)) (C : CmpOk w z fm p q dv h)
    (k : ∀ h' tk', Keep h h' → Q (.bool (dv == 0)) (St z h' tk')) :
    wpAny (model prog w) A (call (.ref (fs 3)) [.ref x, .ref y]) Q E (St z h tk) := by
  obtain ⟨o, c, md', ct, ho, _, hd, hcr⟩ := K.eq.fn
  refine call_fd X ⟨o, ho, hd⟩ hcr (by omega) rfl (binds := [(Str.ofString "self", .ref x), (Str.ofString "other", .ref y)]) (BindsTo.of_eq (by rfl)) (by rfl) (by rfl) fun h₁ tk₁ hns hk => ?_
  refine wpAny_execs_cons (wpAny_Return_some (wpAny_Compare1 (Call_ (Ev.use (ev_free (c := cm) (by rfl) (cell_keep hcm hk)) fun v tk2 hv => ?_))))
  subst hv
  obtain ⟨of, fd, hof, hdf⟩ := hfm
  refine PyProof.Rows.callWith_def hdf (spliced_more (Ev.use (ev_obj (K.keep hk) (Ix.keep hk) (ev_loc hns rfl)) fun v tk3 hv => ?_))
  subst hv
  refine spliced_more (Ev.use (ev_obj (K.keep hk) (Iy.keep hk) (ev_loc hns rfl)) fun v tk4 hv => ?_)
  subst hv
  refine spliced_none ⟨hk _ _ hof, C _ _ _ _ _ (show A.depth + 1 < recursionLimit from hA) hh hk fun h₂ tk5 t5 k₂ => ?_⟩
  refine Ev.use ev_int fun v tk6 hv => ?_
  obtain ⟨t6, rfl⟩ := hv
  exact eq_int (k _ _ fun b o e => k₂ b o (hk b o e))
theorem leK_call {w : World} {A : Around} {z : Shared} {h : Heap} {tk : Nat} {Q : Value → Shared → Prop} {E : Value → Shared → Prop} {kc N md cm fm x y p q : Addr} {fs : Nat → Addr} {dv : Int} (X : TopIn w h) (hA : A.depth + 1 < recursionLimit) (hh : A.handled = none) (K : KAt h kc N md cm fs)
    (hcm : h.IsCell cm (some (.ref fm))) (hfm : ∃ o fd, h.get? fm = some o ∧ o.data = .func fd) (Ix : KInst h kc x (.ref p)) (Iy : KInst h kc y (.ref q)) (C : CmpOk w z fm p q dv h)
    (k : ∀ h' tk', Keep h h' → Q (.bool (decide (dv ≤ 0))) (St z h' tk')) :
    wpAny (model prog w) A (call (.ref (fs 4)) [.ref x, .ref y]) Q E (St z h tk) := by
  obtain ⟨o, c, md', ct, ho, _, hd, hcr⟩ := K.le.fn
  refine call_fd X ⟨o, ho, hd⟩ hcr (by omega) rfl (binds := [(Str.ofString "self", .ref x), (Str.ofString "other", .ref y)]) (BindsTo.of_eq (by rfl)) (by rfl) (by rfl) fun h₁ tk₁ hns hk => ?_
  refine wpAny_execs_cons (wpAny_Return_some (wpAny_Compare1 (Call_ (Ev.use (ev_free (c := cm) (by rfl) (cell_keep hcm hk)) fun v tk2 hv => ?_))))
  subst hv
  obtain ⟨of, fd, hof, hdf⟩ := hfm
  refine PyProof.Rows.callWith_def hdf (spliced_more (Ev.use (ev_obj (K.keep hk) (Ix.keep hk) (ev_loc hns rfl)) fun v tk3 hv => ?_))
  subst hv
  refine spliced_more (Ev.use (ev_obj (K.keep hk) (Iy.keep hk) (ev_loc hns rfl)) fun v tk4 hv => ?_)
  subst hv
  refine spliced_none ⟨hk _ _ hof, C _ _ _ _ _ (show A.depth + 1 < recursionLimit from hA) hh hk fun h₂ tk5 t5 k₂ => ?_⟩
  refine Ev.use ev_int fun v tk6 hv => ?_
  obtain ⟨t6, rfl⟩ := hv
  exact le_int (k _ _ fun b o e => k₂ b o (hk b o e))
theorem geK_call {w : World} {A : Around} {z : Shared} {h : Heap} {tk : Nat} {Q : Value → Shared → Prop} {E : Value → Shared → Prop} {kc N md cm fm x y p q : Addr} {fs : Nat → Addr} {dv : Int} (X : TopIn w h) (hA : A.depth + 1 < recursionLimit) (hh : A.handled = none) (K : KAt h kc N md cm fs)
    (hcm : h.IsCell cm (some (.ref fm))) (hfm : ∃ o fd, h.get? fm = some o ∧ o.data = .func fd) (Ix : KInst h kc x (.ref p)) (Iy : KInst h kc y (.ref q)) (C : CmpOk w z fm p q dv h)
    (k : ∀ h' tk', Keep h h' → Q (.bool (decide (0 ≤ dv))) (St z h' tk')) :
    wpAny (model prog w) A (call (.ref (fs 5)) [.ref x, .ref y]) Q E (St z h tk) := by
  obtain ⟨o, c, md', ct, ho, _, hd, hcr⟩ := K.ge.fn
  refine call_fd X ⟨o, ho, hd⟩ hcr (by omega) rfl (binds := [(Str.ofString "self", .ref x), (Str.ofString "other", .ref y)]) (BindsTo.of_eq (by rfl)) (by rfl) (by rfl) fun h₁ tk₁ hns hk => ?_
  refine wpAny_execs_cons (wpAny_Return_some (wpAny_Compare1 (Call_ (Ev.use (ev_free (c := cm) (by rfl) (cell_keep hcm hk)) fun v tk2 hv => ?_))))
  subst hv
  obtain ⟨of, fd, hof, hdf⟩ := hfm
  refine PyProof.Rows.callWith_def hdf (spliced_more (Ev.use (ev_obj (K.keep hk) (Ix.keep hk) (ev_loc hns rfl)) fun v tk3 hv => ?_))
  subst hv
  refine spliced_more (Ev.use (ev_obj (K.keep hk) (Iy.keep hk) (ev_loc hns rfl)) fun v tk4 hv => ?_)
  subst hv
  refine spliced_none ⟨hk _ _ hof, C _ _ _ _ _ (show A.depth + 1 < recursionLimit from hA) hh hk fun h₂ tk5 t5 k₂ => ?_⟩
  refine Ev.use ev_int fun v tk6 hv => ?_
  obtain ⟨t6, rfl⟩ := hv
  exact PyProof.Rows.ge_int (k _ _ fun b o e => k₂ b o (hk b o e))
end Mine
end
section
open PySem PySem.W PyProof.Rows PySem.Calls
set_option Elab.async false
set_option maxRecDepth 100000
set_option maxHeartbeats 1000000
set_option linter.unusedVariables false
namespace Mine
/-- all that a comparison of two instances leans on -/
structure Duel (w : World) (z : Shared) (h : Heap) (kc x y : Addr) (dv : Int) : Prop where
  ok : ∃ N md cm fm p q fs, KAt h kc N md cm fs ∧ h.IsCell cm (some (.ref fm)) ∧ (∃ o fd, h.get? fm = some o ∧ o.data = .func fd) ∧ KInst h kc x (.ref p) ∧ KInst h kc y (.ref q) ∧ CmpOk w z fm p q dv h
theorem CmpOk.keep {w : World} {z : Shared} {fm p q : Addr} {dv : Int} {h h' : Heap} (C : CmpOk w z fm p q dv h) (k : Keep h h') : CmpOk w z fm p q dv h' :=
  fun A h₂ tk Q E a b c d => C A h₂ tk Q E a b (fun b o e => c b o (k b o e)) d
theorem Duel.keep {w : World} {z : Shared} {h h' : Heap} {kc x y : Addr} {dv : Int} (D : Duel w z h kc x y dv) (k : Keep h h') : Duel w z h' kc x y dv := by
  obtain ⟨N, md, cm, fm, p, q, fs, K, hcm, ⟨o, fd, ho, hd⟩, Ix, Iy, C⟩ := D.ok
  exact ⟨N, md, cm, fm, p, q, fs, K.keep k, cell_keep hcm k, ⟨o, fd, k _ _ ho, hd⟩, Ix.keep k, Iy.keep k, C.keep k⟩
theorem lk_lt : typeLookup (.type "object") (Str.ofString "__lt__") = pure (some (.builtin "object.__lt__")) := by rw [typeLookup_type, builtinLookup_eq_fast]; kernel_rfl
theorem cmp_lt {w : World} {A : Around} {z : Shared} {h : Heap} {tk : Nat} {Q : Value → Shared → Prop} {E : Value → Shared → Prop} {kc x y : Addr} {dv : Int} (X : TopIn w h) (hA : A.depth + 1 < recursionLimit) (hu : A.units < cLine) (hh : A.handled = none) (D : Duel w z h kc x y dv)
    (k : ∀ h' tk', Keep h h' → Q (.bool (decide (dv < 0))) (St z h' tk')) : wpAny (model prog w) A (compareOp .Lt (.ref x) (.ref y)) Q E (St z h tk) := by
  obtain ⟨N, md, cm, fm, p, q, fs, K, hcm, hfm, Ix, Iy, C⟩ := D.ok
  obtain ⟨nm, qn, bs, hdct, sub, ab, col, dd, k0, k1, k2, k3, k5, newId, hC⟩ := K.cls
  obtain ⟨mN, hn, h1, h2, h3, h4, h5, h6, h7, h8, h9⟩ := K.ns
  obtain ⟨o, ho, hc, hv⟩ := id Ix
  obtain ⟨oy, hoy, hcy, hvy⟩ := id Iy
  obtain ⟨of, c, md', ct, hof, hofc, _⟩ := K.lt.fn
  refine compareOp_own_same (B := "object") (by rfl) (by decide) ⟨o, of, nm, qn, N, bs, _, hdct, _, sub, ab, col, dd, k0, k1, k2, k3, k5, newId, mN, _, ho, hc, hC, hn, h5, hof, hofc, F.mro_object, lk_lt⟩ hoy hcy hu ?_
  exact ltK_call X hA hh K hcm hfm Ix Iy C fun h' tk' kk => ⟨_, rfl, k h' tk' kk⟩
theorem lk_gt : typeLookup (.type "object") (Str.ofString "__gt__") = pure (some (.builtin "object.__gt__")) := by rw [typeLookup_type, builtinLookup_eq_fast]; kernel_rfl
theorem cmp_gt {w : World} {A : Around} {z : Shared} {h : Heap} {tk : Nat} {Q : Value → Shared → Prop} {E : Value → Shared → Prop} {kc x y : Addr} {dv : Int} (X : TopIn w h) (hA : A.depth + 1 < recursionLimit) (hu : A.units < cLine) (hh : A.handled = none) (D : Duel w z h kc x y dv)
    (k : ∀ h' tk', Keep h h' → Q (.bool (decide (dv > 0))) (St z h' tk')) : wpAny (model prog w) A (compareOp .Gt (.ref x) (.ref y)) Q E (St z h tk) := by
  obtain ⟨N, md, cm, fm, p, q, fs, K, hcm, hfm, Ix, Iy, C⟩ := D.ok
  obtain ⟨nm, qn, bs, hdct, sub, ab, col, dd, k0, k1, k2, k3, k5, newId, hC⟩ := K.cls
  obtain ⟨mN, hn, h1, h2, h3, h4, h5, h6, h7, h8, h9⟩ := K.ns
  obtain ⟨o, ho, hc, hv⟩ := id Ix
  obtain ⟨oy, hoy, hcy, hvy⟩ := id Iy
  obtain ⟨of, c, md', ct, hof, hofc, _⟩ := K.gt.fn
  refine compareOp_own_same (B := "object") (by rfl) (by decide) ⟨o, of, nm, qn, N, bs, _, hdct, _, sub, ab, col, dd, k0, k1, k2, k3, k5, newId, mN, _, ho, hc, hC, hn, h6, hof, hofc, F.mro_object, lk_gt⟩ hoy hcy hu ?_
  exact gtK_call X hA hh K hcm hfm Ix Iy C fun h' tk' kk => ⟨_, rfl, k h' tk' kk⟩
theorem lk_eq : typeLookup (.type "object") (Str.ofString "__eq__") = pure (some (.builtin "object.__eq__")) := by rw [typeLookup_type, builtinLookup_eq_fast]; kernel_rfl
theorem cmp_eq {w : World} {A : Around} {z : Shared} {h : Heap} {tk : Nat} {Q : Value → Shared → Prop} {E : Value → Shared → Prop} {kc x y : Addr} {dv : Int} (X : TopIn w h) (hA : A.depth + 1 < recursionLimit) (hu : A.units < cLine) (hh : A.handled = none) (D : Duel w z h kc x y dv)
    (k : ∀ h' tk', Keep h h' → Q (.bool (dv == 0)) (St z h' tk')) : wpAny (model prog w) A (compareOp .Eq (.ref x) (.ref y)) Q E (St z h tk) := by
  obtain ⟨N, md, cm, fm, p, q, fs, K, hcm, hfm, Ix, Iy, C⟩ := D.ok
  obtain ⟨nm, qn, bs, hdct, sub, ab, col, dd, k0, k1, k2, k3, k5, newId, hC⟩ := K.cls
  obtain ⟨mN, hn, h1, h2, h3, h4, h5, h6, h7, h8, h9⟩ := K.ns
  obtain ⟨o, ho, hc, hv⟩ := id Ix
  obtain ⟨oy, hoy, hcy, hvy⟩ := id Iy
  obtain ⟨of, c, md', ct, hof, hofc, _⟩ := K.eq.fn
  refine compareOp_own_same (B := "object") (by rfl) (by decide) ⟨o, of, nm, qn, N, bs, _, hdct, _, sub, ab, col, dd, k0, k1, k2, k3, k5, newId, mN, _, ho, hc, hC, hn, h7, hof, hofc, F.mro_object, lk_eq⟩ hoy hcy hu ?_
  exact eqK_call X hA hh K hcm hfm Ix Iy C fun h' tk' kk => ⟨_, rfl, k h' tk' kk⟩
theorem lk_le : typeLookup (.type "object") (Str.ofString "__le__") = pure (some (.builtin "object.__le__")) := by rw [typeLookup_type, builtinLookup_eq_fast]; kernel_rfl
theorem cmp_le {w : World} {A : Around} {z : Shared} {h : Heap} {tk : Nat} {Q : Value → Shared → Prop} {E : Value → Shared → Prop} {kc x y : Addr} {dv : Int} (X : TopIn w h) (hA : A.depth + 1 < recursionLimit) (hu : A.units < cLine) (hh : A.handled = none) (D : Duel w z h kc x y dv)
    (k : ∀ h' tk', Keep h h' → Q (.bool (decide (dv ≤ 0))) (St z h' tk')) : wpAny (model prog w) A (compareOp .LtE (.ref x) (.ref y)) Q E (St z h tk) := by
  obtain ⟨N, md, cm, fm, p, q, fs, K, hcm, hfm, Ix, Iy, C⟩ := D.ok
  obtain ⟨nm, qn, bs, hdct, sub, ab, col, dd, k0, k1, k2, k3, k5, newId, hC⟩ := K.cls
  obtain ⟨mN, hn, h1, h2, h3, h4, h5, h6, h7, h8, h9⟩ := K.ns
  obtain ⟨o, ho, hc, hv⟩ := id Ix
  obtain ⟨oy, hoy, hcy, hvy⟩ := id Iy
  obtain ⟨of, c, md', ct, hof, hofc, _⟩ := K.le.fn
  refine compareOp_own_same (B := "object") (by rfl) (by decide) ⟨o, of, nm, qn, N, bs, _, hdct, _, sub, ab, col, dd, k0, k1, k2, k3, k5, newId, mN, _, ho, hc, hC, hn, h8, hof, hofc, F.mro_object, lk_le⟩ hoy hcy hu ?_
  exact leK_call X hA hh K hcm hfm Ix Iy C fun h' tk' kk => ⟨_, rfl, k h' tk' kk⟩
theorem lk_ge : typeLookup (.type "object") (Str.ofString "__ge__") = pure (some (.builtin "object.__ge__")) := by rw [typeLookup_type, builtinLookup_eq_fast]; kernel_rfl
theorem cmp_ge {w : World} {A : Around} {z : Shared} {h : Heap} {tk : Nat} {Q : Value → Shared → Prop} {E : Value → Shared → Prop} {kc x y : Addr} {dv : Int} (X : TopIn w h) (hA : A.depth + 1 < recursionLimit) (hu : A.units < cLine) (hh : A.handled = none) (D : Duel w z h kc x y dv)
    (k : ∀ h' tk', Keep h h' → Q (.bool (decide (0 ≤ dv))) (St z h' tk')) : wpAny (model prog w) A (compareOp .GtE (.ref x) (.ref y)) Q E (St z h tk) := by
  obtain ⟨N, md, cm, fm, p, q, fs, K, hcm, hfm, Ix, Iy, C⟩ := D.ok
  obtain ⟨nm, qn, bs, hdct, sub, ab, col, dd, k0, k1, k2, k3, k5, newId, hC⟩ := K.cls
  obtain ⟨mN, hn, h1, h2, h3, h4, h5, h6, h7, h8, h9⟩ := K.ns
  obtain ⟨o, ho, hc, hv⟩ := id Ix
  obtain ⟨oy, hoy, hcy, hvy⟩ := id Iy
  obtain ⟨of, c, md', ct, hof, hofc, _⟩ := K.ge.fn
  refine compareOp_own_same (B := "object") (by rfl) (by decide) ⟨o, of, nm, qn, N, bs, _, hdct, _, sub, ab, col, dd, k0, k1, k2, k3, k5, newId, mN, _, ho, hc, hC, hn, h9, hof, hofc, F.mro_object, lk_ge⟩ hoy hcy hu ?_
  exact geK_call X hA hh K hcm hfm Ix Iy C fun h' tk' kk => ⟨_, rfl, k h' tk' kk⟩
theorem cmp_ne {w : World} {A : Around} {z : Shared} {h : Heap} {tk : Nat} {Q : Value → Shared → Prop} {E : Value → Shared → Prop} {kc x y : Addr} {dv : Int} (X : TopIn w h) (hA : A.depth + 1 < recursionLimit) (hu : A.units + 1 < cLine) (hh : A.handled = none) (D : Duel w z h kc x y dv)
    (k : ∀ h' tk', Keep h h' → Q (.bool (!(dv == 0))) (St z h' tk')) : wpAny (model prog w) A (compareOp .NotEq (.ref x) (.ref y)) Q E (St z h tk) := by
  obtain ⟨N, md, cm, fm, p, q, fs, K, hcm, hfm, Ix, Iy, C⟩ := D.ok
  obtain ⟨nm, qn, bs, hdct, sub, ab, col, dd, k0, k1, k2, k3, k5, newId, hC⟩ := K.cls
  obtain ⟨mN, hn, h1, h2, h3, h4, h5, h6, h7, h8, h9⟩ := K.ns
  obtain ⟨o, ho, hc, hv⟩ := id Ix
  obtain ⟨oy, hoy, hcy, hvy⟩ := id Iy
  obtain ⟨of, c, md', ct, hof, hofc, _⟩ := K.eq.fn
  refine compareOp_ne_ownEq (B := "object") (f := fs 3) F.cmp_object ⟨o, of, nm, qn, N, bs, hdct, _, sub, ab, col, dd, k0, k1, k2, k3, k5, newId, mN, _, ho, hc, hC, hn, h7, hof, hofc, F.mro_object, lk_eq, h4⟩ hoy hcy hu ?_
  exact eqK_call X hA hh K hcm hfm Ix Iy C fun h' tk' kk => ⟨_, rfl, k h' tk' kk⟩
end Mine
end
section
open PySem PySem.W PyProof.Rows PySem.Calls
set_option Elab.async false
set_option maxRecDepth 100000
set_option maxHeartbeats 1000000
set_option linter.unusedVariables false
namespace Mine
/-- a call of a lambda, by its data -/
theorem call_lam {w : World} {A : Around} {z : Shared} {h : Heap} {tk : Nat} {Q : Value → Shared → Prop} {E : Value → Shared → Prop} {a : Addr} {fd : FuncData} {body : Expr} {args : List Value} {binds : List (Str × Value)}
    (X : TopIn w h) (F : ∃ o, h.get? a = some o ∧ o.data = .func fd) (hcd : h.CodeRec fd.code fd.qualname) (hA : A.depth < recursionLimit) (hbody : fd.body = .expr body) (hb : BindsTo (St z h tk) fd ⟨args, []⟩ binds)
    (hcell : (fd.scope.names.all fun x => x.2 != .cell) = true) (hloc : (binds.map (·.1)).all (fun x => decide (fd.scope.names.lookup x = some .local)) = true)
    (k : ∀ h₁ tk₁, h₁.Ns h.objs.size (fun x => binds.reverse.lookup x) → Keep h h₁ →
      wpAny (model prog w) (A.deeper (callEnv fd h.objs.size a)) (eval body (callEnv fd h.objs.size a)) Q (fun _ _ => False) (St z h₁ tk₁))
    (hco : fd.scope.isCoroutine = false := by rfl) (hgen : fd.scope.isGenerator = false := by rfl) (hk : fd.scope.kind = .function := by rfl) :
    wpAny (model prog w) A (call (.ref a) args) Q E (St z h tk) := by
  obtain ⟨o, ho, hd⟩ := F
  refine wpAny_call (kla_callFunE hA ho hd hco hgen hbody hcd (hb _ _ _ _ ?_))
  refine wpAny_newFunctionEnv (fun x hx => ?_) (binds_loc hloc) (fun h₀ hns₀ hsb₀ => ⟨(top_noLimit X).fresh _ hsb₀, kla_codeExpr (wpAny_mono (k h₀ _ hns₀ fun b o e => ?_) (fun _ _ q => q) fun _ _ q => q.elim)⟩) hk
  · have := List.all_eq_true.mp hcell x hx
    simpa using this
  · exact hsb₀.extBut b o (Nat.ne_of_lt (Heap.lt_size e)) (Heap.get?_push_of_some _ e)
def lamOf : Expr → Arguments × Expr × Scope
  | .Lambda a b s _ => (a, b, s)
  | _ => (⟨[], [], none, [], [], none, []⟩, .Constant .none 0 default, default)
def exprAt : Nat → List Expr → Expr
  | _, [] => .Constant .none 0 default
  | 0, s :: _ => s
  | n + 1, _ :: r => exprAt n r
def waysList : List Expr := match bodyOf (top 31) with
  | [.Return (some (.List es _)) _] => es
  | _ => []
def wayLam (i : Nat) : Arguments × Expr × Scope := lamOf (exprAt i waysList)
abbrev wayFd (i : Nat) (c : Addr) (md ct : Value) : FuncData :=
  { name := Str.ofString "<lambda>", qualname := Str.ofString "_law_ways.<locals>.<lambda>", params := (wayLam i).1, body := .expr (wayLam i).2.1, scope := (wayLam i).2.2, globals := 3, closure := [], defaults := .none, kwdefaults := .none, doc := .none, pyModule := md, annotations := none, code := .ref c, closureTuple := ct, builtins := 0 }
/-- the i-th way of asking, at f -/
def WayAt (h : Heap) (i : Nat) (f : Addr) : Prop := ∃ o c md ct, h.get? f = some o ∧ o.data = .func (wayFd i c md ct) ∧ h.CodeRec (.ref c) (Str.ofString "_law_ways.<locals>.<lambda>")
/-- two instances, both ways round -/
def Both (w : World) (z : Shared) (h : Heap) (kc x y : Addr) (dv : Int) : Prop := Duel w z h kc x y dv ∧ Duel w z h kc y x (-dv)
def Says (dv : Int) (b : Bool) : Prop := (0 < dv → b = true) ∧ (dv < 0 → b = false)
theorem lt9a {u c : Nat} (h : u + 9 < c) : u + 3 + 1 < c := Nat.lt_of_le_of_lt (Nat.le_add_right (u + 4) 5) h
theorem lt9b {u c : Nat} (h : u + 9 < c) : u + 3 < c := Nat.lt_of_le_of_lt (Nat.le_add_right (u + 3) 6) h
theorem way_0 {w : World} {A : Around} {z : Shared} {h : Heap} {tk : Nat} {Q : Value → Shared → Prop} {E : Value → Shared → Prop} {kc x y f : Addr} {dv : Int} (X : TopIn w h) (hA : A.depth + 2 < recursionLimit) (hu : A.units + 9 < cLine) (hh : A.handled = none) (D : Both w z h kc x y dv) (W : WayAt h 0 f)
    (k : ∀ h' tk' b, Keep h h' → Says dv b → Q (.bool b) (St z h' tk')) : wpAny (model prog w) A (call (.ref f) [.ref x, .ref y]) Q E (St z h tk) := by
  obtain ⟨o, c, md, ct, ho, hd, hcr⟩ := W
  refine call_lam X ⟨o, ho, hd⟩ hcr (by omega) rfl (binds := [(Str.ofString "a", .ref x), (Str.ofString "b", .ref y)]) (BindsTo.of_eq (by rfl)) (by rfl) (by rfl) fun h₁ tk₁ hns hk => ?_
  have hu1 : (A.deeper (callEnv (wayFd 0 c md ct) h.objs.size f)).units + 1 < cLine := lt9a hu
  have hu0 : (A.deeper (callEnv (wayFd 0 c md ct) h.objs.size f)).units < cLine := lt9b hu
  have hd1 : (A.deeper (callEnv (wayFd 0 c md ct) h.objs.size f)).depth + 1 < recursionLimit := hA
  exact wpAny_Compare1 (Ev.use (ev_loc hns rfl) fun v tk2 hv => by subst hv; exact Ev.use (ev_loc hns rfl) fun v tk3 hv => by subst hv; exact cmp_gt (X.keep hk) hd1 hu0 hh (D.1.keep hk) fun h₂ tk₄ k₂ => k h₂ _ _ (fun b o e => k₂ b o (hk b o e)) (by unfold Says; constructor <;> intro q <;> simp <;> omega))
theorem way_1 {w : World} {A : Around} {z : Shared} {h : Heap} {tk : Nat} {Q : Value → Shared → Prop} {E : Value → Shared → Prop} {kc x y f : Addr} {dv : Int} (X : TopIn w h) (hA : A.depth + 2 < recursionLimit) (hu : A.units + 9 < cLine) (hh : A.handled = none) (D : Both w z h kc x y dv) (W : WayAt h 1 f)
    (k : ∀ h' tk' b, Keep h h' → Says dv b → Q (.bool b) (St z h' tk')) : wpAny (model prog w) A (call (.ref f) [.ref x, .ref y]) Q E (St z h tk) := by
  obtain ⟨o, c, md, ct, ho, hd, hcr⟩ := W
  refine call_lam X ⟨o, ho, hd⟩ hcr (by omega) rfl (binds := [(Str.ofString "a", .ref x), (Str.ofString "b", .ref y)]) (BindsTo.of_eq (by rfl)) (by rfl) (by rfl) fun h₁ tk₁ hns hk => ?_
  have hu1 : (A.deeper (callEnv (wayFd 1 c md ct) h.objs.size f)).units + 1 < cLine := lt9a hu
  have hu0 : (A.deeper (callEnv (wayFd 1 c md ct) h.objs.size f)).units < cLine := lt9b hu
  have hd1 : (A.deeper (callEnv (wayFd 1 c md ct) h.objs.size f)).depth + 1 < recursionLimit := hA
  exact wpAny_Compare1 (Ev.use (ev_loc hns rfl) fun v tk2 hv => by subst hv; exact Ev.use (ev_loc hns rfl) fun v tk3 hv => by subst hv; exact cmp_lt (X.keep hk) hd1 hu0 hh (D.2.keep hk) fun h₂ tk₄ k₂ => k h₂ _ _ (fun b o e => k₂ b o (hk b o e)) (by unfold Says; constructor <;> intro q <;> simp <;> omega))
theorem way_2 {w : World} {A : Around} {z : Shared} {h : Heap} {tk : Nat} {Q : Value → Shared → Prop} {E : Value → Shared → Prop} {kc x y f : Addr} {dv : Int} (X : TopIn w h) (hA : A.depth + 2 < recursionLimit) (hu : A.units + 9 < cLine) (hh : A.handled = none) (D : Both w z h kc x y dv) (W : WayAt h 2 f)
    (k : ∀ h' tk' b, Keep h h' → Says dv b → Q (.bool b) (St z h' tk')) : wpAny (model prog w) A (call (.ref f) [.ref x, .ref y]) Q E (St z h tk) := by
  obtain ⟨o, c, md, ct, ho, hd, hcr⟩ := W
  refine call_lam X ⟨o, ho, hd⟩ hcr (by omega) rfl (binds := [(Str.ofString "a", .ref x), (Str.ofString "b", .ref y)]) (BindsTo.of_eq (by rfl)) (by rfl) (by rfl) fun h₁ tk₁ hns hk => ?_
  have hu1 : (A.deeper (callEnv (wayFd 2 c md ct) h.objs.size f)).units + 1 < cLine := lt9a hu
  have hu0 : (A.deeper (callEnv (wayFd 2 c md ct) h.objs.size f)).units < cLine := lt9b hu
  have hd1 : (A.deeper (callEnv (wayFd 2 c md ct) h.objs.size f)).depth + 1 < recursionLimit := hA
  exact UnaryOp_ (wpAny_Compare1 (Ev.use (ev_loc hns rfl) fun v tk2 hv => by subst hv; exact Ev.use (ev_loc hns rfl) fun v tk3 hv => by subst hv; exact cmp_le (X.keep hk) hd1 hu0 hh (D.1.keep hk) fun h₂ tk₄ k₂ => not_of (wpAny_truthy_bool (k h₂ _ _ (fun b o e => k₂ b o (hk b o e)) (by unfold Says; constructor <;> intro q <;> simp <;> omega)))))
theorem way_3 {w : World} {A : Around} {z : Shared} {h : Heap} {tk : Nat} {Q : Value → Shared → Prop} {E : Value → Shared → Prop} {kc x y f : Addr} {dv : Int} (X : TopIn w h) (hA : A.depth + 2 < recursionLimit) (hu : A.units + 9 < cLine) (hh : A.handled = none) (D : Both w z h kc x y dv) (W : WayAt h 3 f)
    (k : ∀ h' tk' b, Keep h h' → Says dv b → Q (.bool b) (St z h' tk')) : wpAny (model prog w) A (call (.ref f) [.ref x, .ref y]) Q E (St z h tk) := by
  obtain ⟨o, c, md, ct, ho, hd, hcr⟩ := W
  refine call_lam X ⟨o, ho, hd⟩ hcr (by omega) rfl (binds := [(Str.ofString "a", .ref x), (Str.ofString "b", .ref y)]) (BindsTo.of_eq (by rfl)) (by rfl) (by rfl) fun h₁ tk₁ hns hk => ?_
  have hu1 : (A.deeper (callEnv (wayFd 3 c md ct) h.objs.size f)).units + 1 < cLine := lt9a hu
  have hu0 : (A.deeper (callEnv (wayFd 3 c md ct) h.objs.size f)).units < cLine := lt9b hu
  have hd1 : (A.deeper (callEnv (wayFd 3 c md ct) h.objs.size f)).depth + 1 < recursionLimit := hA
  exact UnaryOp_ (wpAny_Compare1 (Ev.use (ev_loc hns rfl) fun v tk2 hv => by subst hv; exact Ev.use (ev_loc hns rfl) fun v tk3 hv => by subst hv; exact cmp_ge (X.keep hk) hd1 hu0 hh (D.2.keep hk) fun h₂ tk₄ k₂ => not_of (wpAny_truthy_bool (k h₂ _ _ (fun b o e => k₂ b o (hk b o e)) (by unfold Says; constructor <;> intro q <;> simp <;> omega)))))
theorem way_4 {w : World} {A : Around} {z : Shared} {h : Heap} {tk : Nat} {Q : Value → Shared → Prop} {E : Value → Shared → Prop} {kc x y f : Addr} {dv : Int} (X : TopIn w h) (hA : A.depth + 2 < recursionLimit) (hu : A.units + 9 < cLine) (hh : A.handled = none) (D : Both w z h kc x y dv) (W : WayAt h 4 f)
    (k : ∀ h' tk' b, Keep h h' → Says dv b → Q (.bool b) (St z h' tk')) : wpAny (model prog w) A (call (.ref f) [.ref x, .ref y]) Q E (St z h tk) := by
  obtain ⟨o, c, md, ct, ho, hd, hcr⟩ := W
  refine call_lam X ⟨o, ho, hd⟩ hcr (by omega) rfl (binds := [(Str.ofString "a", .ref x), (Str.ofString "b", .ref y)]) (BindsTo.of_eq (by rfl)) (by rfl) (by rfl) fun h₁ tk₁ hns hk => ?_
  have hu1 : (A.deeper (callEnv (wayFd 4 c md ct) h.objs.size f)).units + 1 < cLine := lt9a hu
  have hu0 : (A.deeper (callEnv (wayFd 4 c md ct) h.objs.size f)).units < cLine := lt9b hu
  have hd1 : (A.deeper (callEnv (wayFd 4 c md ct) h.objs.size f)).depth + 1 < recursionLimit := hA
  exact wpAny_Compare1 (Ev.use (ev_loc hns rfl) fun v tk2 hv => by subst hv; exact Ev.use (ev_loc hns rfl) fun v tk3 hv => by subst hv; exact cmp_ge (X.keep hk) hd1 hu0 hh (D.1.keep hk) fun h₂ tk₄ k₂ => k h₂ _ _ (fun b o e => k₂ b o (hk b o e)) (by unfold Says; constructor <;> intro q <;> simp <;> omega))
theorem way_5 {w : World} {A : Around} {z : Shared} {h : Heap} {tk : Nat} {Q : Value → Shared → Prop} {E : Value → Shared → Prop} {kc x y f : Addr} {dv : Int} (X : TopIn w h) (hA : A.depth + 2 < recursionLimit) (hu : A.units + 9 < cLine) (hh : A.handled = none) (D : Both w z h kc x y dv) (W : WayAt h 5 f)
    (k : ∀ h' tk' b, Keep h h' → Says dv b → Q (.bool b) (St z h' tk')) : wpAny (model prog w) A (call (.ref f) [.ref x, .ref y]) Q E (St z h tk) := by
  obtain ⟨o, c, md, ct, ho, hd, hcr⟩ := W
  refine call_lam X ⟨o, ho, hd⟩ hcr (by omega) rfl (binds := [(Str.ofString "a", .ref x), (Str.ofString "b", .ref y)]) (BindsTo.of_eq (by rfl)) (by rfl) (by rfl) fun h₁ tk₁ hns hk => ?_
  have hu1 : (A.deeper (callEnv (wayFd 5 c md ct) h.objs.size f)).units + 1 < cLine := lt9a hu
  have hu0 : (A.deeper (callEnv (wayFd 5 c md ct) h.objs.size f)).units < cLine := lt9b hu
  have hd1 : (A.deeper (callEnv (wayFd 5 c md ct) h.objs.size f)).depth + 1 < recursionLimit := hA
  exact wpAny_Compare1 (Ev.use (ev_loc hns rfl) fun v tk2 hv => by subst hv; exact Ev.use (ev_loc hns rfl) fun v tk3 hv => by subst hv; exact cmp_le (X.keep hk) hd1 hu0 hh (D.2.keep hk) fun h₂ tk₄ k₂ => k h₂ _ _ (fun b o e => k₂ b o (hk b o e)) (by unfold Says; constructor <;> intro q <;> simp <;> omega))
theorem way_6 {w : World} {A : Around} {z : Shared} {h : Heap} {tk : Nat} {Q : Value → Shared → Prop} {E : Value → Shared → Prop} {kc x y f : Addr} {dv : Int} (X : TopIn w h) (hA : A.depth + 2 < recursionLimit) (hu : A.units + 9 < cLine) (hh : A.handled = none) (D : Both w z h kc x y dv) (W : WayAt h 6 f)
    (k : ∀ h' tk' b, Keep h h' → Says dv b → Q (.bool b) (St z h' tk')) : wpAny (model prog w) A (call (.ref f) [.ref x, .ref y]) Q E (St z h tk) := by
  obtain ⟨o, c, md, ct, ho, hd, hcr⟩ := W
  refine call_lam X ⟨o, ho, hd⟩ hcr (by omega) rfl (binds := [(Str.ofString "a", .ref x), (Str.ofString "b", .ref y)]) (BindsTo.of_eq (by rfl)) (by rfl) (by rfl) fun h₁ tk₁ hns hk => ?_
  have hu1 : (A.deeper (callEnv (wayFd 6 c md ct) h.objs.size f)).units + 1 < cLine := lt9a hu
  have hu0 : (A.deeper (callEnv (wayFd 6 c md ct) h.objs.size f)).units < cLine := lt9b hu
  have hd1 : (A.deeper (callEnv (wayFd 6 c md ct) h.objs.size f)).depth + 1 < recursionLimit := hA
  exact UnaryOp_ (wpAny_Compare1 (Ev.use (ev_loc hns rfl) fun v tk2 hv => by subst hv; exact Ev.use (ev_loc hns rfl) fun v tk3 hv => by subst hv; exact cmp_lt (X.keep hk) hd1 hu0 hh (D.1.keep hk) fun h₂ tk₄ k₂ => not_of (wpAny_truthy_bool (k h₂ _ _ (fun b o e => k₂ b o (hk b o e)) (by unfold Says; constructor <;> intro q <;> simp <;> omega)))))
theorem way_7 {w : World} {A : Around} {z : Shared} {h : Heap} {tk : Nat} {Q : Value → Shared → Prop} {E : Value → Shared → Prop} {kc x y f : Addr} {dv : Int} (X : TopIn w h) (hA : A.depth + 2 < recursionLimit) (hu : A.units + 9 < cLine) (hh : A.handled = none) (D : Both w z h kc x y dv) (W : WayAt h 7 f)
    (k : ∀ h' tk' b, Keep h h' → Says dv b → Q (.bool b) (St z h' tk')) : wpAny (model prog w) A (call (.ref f) [.ref x, .ref y]) Q E (St z h tk) := by
  obtain ⟨o, c, md, ct, ho, hd, hcr⟩ := W
  refine call_lam X ⟨o, ho, hd⟩ hcr (by omega) rfl (binds := [(Str.ofString "a", .ref x), (Str.ofString "b", .ref y)]) (BindsTo.of_eq (by rfl)) (by rfl) (by rfl) fun h₁ tk₁ hns hk => ?_
  have hu1 : (A.deeper (callEnv (wayFd 7 c md ct) h.objs.size f)).units + 1 < cLine := lt9a hu
  have hu0 : (A.deeper (callEnv (wayFd 7 c md ct) h.objs.size f)).units < cLine := lt9b hu
  have hd1 : (A.deeper (callEnv (wayFd 7 c md ct) h.objs.size f)).depth + 1 < recursionLimit := hA
  exact UnaryOp_ (wpAny_Compare1 (Ev.use (ev_loc hns rfl) fun v tk2 hv => by subst hv; exact Ev.use (ev_loc hns rfl) fun v tk3 hv => by subst hv; exact cmp_gt (X.keep hk) hd1 hu0 hh (D.2.keep hk) fun h₂ tk₄ k₂ => not_of (wpAny_truthy_bool (k h₂ _ _ (fun b o e => k₂ b o (hk b o e)) (by unfold Says; constructor <;> intro q <;> simp <;> omega)))))
theorem way_8 {w : World} {A : Around} {z : Shared} {h : Heap} {tk : Nat} {Q : Value → Shared → Prop} {E : Value → Shared → Prop} {kc x y f : Addr} {dv : Int} (X : TopIn w h) (hA : A.depth + 2 < recursionLimit) (hu : A.units + 9 < cLine) (hh : A.handled = none) (D : Both w z h kc x y dv) (W : WayAt h 8 f)
    (k : ∀ h' tk' b, Keep h h' → Says dv b → Q (.bool b) (St z h' tk')) : wpAny (model prog w) A (call (.ref f) [.ref x, .ref y]) Q E (St z h tk) := by
  obtain ⟨o, c, md, ct, ho, hd, hcr⟩ := W
  refine call_lam X ⟨o, ho, hd⟩ hcr (by omega) rfl (binds := [(Str.ofString "a", .ref x), (Str.ofString "b", .ref y)]) (BindsTo.of_eq (by rfl)) (by rfl) (by rfl) fun h₁ tk₁ hns hk => ?_
  have hu1 : (A.deeper (callEnv (wayFd 8 c md ct) h.objs.size f)).units + 1 < cLine := lt9a hu
  have hu0 : (A.deeper (callEnv (wayFd 8 c md ct) h.objs.size f)).units < cLine := lt9b hu
  have hd1 : (A.deeper (callEnv (wayFd 8 c md ct) h.objs.size f)).depth + 1 < recursionLimit := hA
  refine BoolOp_and (wpAny_Compare1 (Ev.use (ev_loc hns rfl) fun v tk2 hv => ?_))
  subst hv
  refine Ev.use (ev_loc hns rfl) fun v tk3 hv => ?_
  subst hv
  refine cmp_ne (X.keep hk) hd1 hu1 hh (D.1.keep hk) fun h₂ tk₄ k₂ => wpAny_truthy_bool ?_
  have k02 : Keep h h₂ := fun b o e => k₂ b o (hk b o e)
  have n₂ := hns.keeps k₂
  by_cases h0 : dv = 0
  · rw [show (!(dv == 0)) = false by simp [h0]]
    exact k h₂ _ _ k02 (by unfold Says; constructor <;> intro q <;> omega)
  · rw [show (!(dv == 0)) = true by simp [h0]]
    simp only [if_true]
    refine BoolOp_one (UnaryOp_ (wpAny_Compare1 (Ev.use (ev_loc n₂ rfl) fun v tk5 hv => ?_)))
    subst hv
    refine Ev.use (ev_loc n₂ rfl) fun v tk6 hv => ?_
    subst hv
    exact cmp_lt (X.keep k02) hd1 hu0 hh (D.1.keep k02) fun h₃ tk₇ k₃ => not_of (wpAny_truthy_bool (k h₃ _ _ (fun b o e => k₃ b o (k02 b o e)) (by unfold Says; constructor <;> intro q <;> simp <;> omega)))
theorem way_9 {w : World} {A : Around} {z : Shared} {h : Heap} {tk : Nat} {Q : Value → Shared → Prop} {E : Value → Shared → Prop} {kc x y f : Addr} {dv : Int} (X : TopIn w h) (hA : A.depth + 2 < recursionLimit) (hu : A.units + 9 < cLine) (hh : A.handled = none) (D : Both w z h kc x y dv) (W : WayAt h 9 f)
    (k : ∀ h' tk' b, Keep h h' → Says dv b → Q (.bool b) (St z h' tk')) : wpAny (model prog w) A (call (.ref f) [.ref x, .ref y]) Q E (St z h tk) := by
  obtain ⟨o, c, md, ct, ho, hd, hcr⟩ := W
  refine call_lam X ⟨o, ho, hd⟩ hcr (by omega) rfl (binds := [(Str.ofString "a", .ref x), (Str.ofString "b", .ref y)]) (BindsTo.of_eq (by rfl)) (by rfl) (by rfl) fun h₁ tk₁ hns hk => ?_
  have hu1 : (A.deeper (callEnv (wayFd 9 c md ct) h.objs.size f)).units + 1 < cLine := lt9a hu
  have hu0 : (A.deeper (callEnv (wayFd 9 c md ct) h.objs.size f)).units < cLine := lt9b hu
  have hd1 : (A.deeper (callEnv (wayFd 9 c md ct) h.objs.size f)).depth + 1 < recursionLimit := hA
  refine UnaryOp_ (BoolOp_or (wpAny_Compare1 (Ev.use (ev_loc hns rfl) fun v tk2 hv => ?_)))
  subst hv
  refine Ev.use (ev_loc hns rfl) fun v tk3 hv => ?_
  subst hv
  refine cmp_eq (X.keep hk) hd1 hu0 hh (D.1.keep hk) fun h₂ tk₄ k₂ => wpAny_truthy_bool ?_
  have k02 : Keep h h₂ := fun b o e => k₂ b o (hk b o e)
  have n₂ := hns.keeps k₂
  by_cases h0 : dv = 0
  · rw [show (dv == 0) = true by simp [h0]]
    simp only [if_true]
    exact not_of (wpAny_truthy_bool (k h₂ _ _ k02 (by unfold Says; constructor <;> intro q <;> omega)))
  · rw [show (dv == 0) = false by simp [h0]]
    simp only [Bool.false_eq_true, if_false]
    refine BoolOp_one (wpAny_Compare1 (Ev.use (ev_loc n₂ rfl) fun v tk5 hv => ?_))
    subst hv
    refine Ev.use (ev_loc n₂ rfl) fun v tk6 hv => ?_
    subst hv
    exact cmp_le (X.keep k02) hd1 hu0 hh (D.1.keep k02) fun h₃ tk₇ k₃ => not_of (wpAny_truthy_bool (k h₃ _ _ (fun b o e => k₃ b o (k02 b o e)) (by unfold Says; constructor <;> intro q <;> simp <;> omega)))
/-- any of the ten ways -/
theorem way_call {w : World} {A : Around} {z : Shared} {h : Heap} {tk : Nat} {Q : Value → Shared → Prop} {E : Value → Shared → Prop} {kc x y f : Addr} {dv : Int} {i : Nat} (hi : i < 10) (X : TopIn w h) (hA : A.depth + 2 < recursionLimit) (hu : A.units + 9 < cLine) (hh : A.handled = none) (D : Both w z h kc x y dv) (W : WayAt h i f)
    (k : ∀ h' tk' b, Keep h h' → Says dv b → Q (.bool b) (St z h' tk')) : wpAny (model prog w) A (call (.ref f) [.ref x, .ref y]) Q E (St z h tk) := by
  match i, hi, W with
  | 0, _, W => exact way_0 X hA hu hh D W k
  | 1, _, W => exact way_1 X hA hu hh D W k
  | 2, _, W => exact way_2 X hA hu hh D W k
  | 3, _, W => exact way_3 X hA hu hh D W k
  | 4, _, W => exact way_4 X hA hu hh D W k
  | 5, _, W => exact way_5 X hA hu hh D W k
  | 6, _, W => exact way_6 X hA hu hh D W k
  | 7, _, W => exact way_7 X hA hu hh D W k
  | 8, _, W => exact way_8 X hA hu hh D W k
  | 9, _, W => exact way_9 X hA hu hh D W k
  | n + 10, hi, _ => exact absurd hi (Nat.not_lt.mpr (Nat.le_add_left 10 n))
end Mine
end
section
open PySem PySem.W PyProof.Rows PySem.Calls
set_option Elab.async false
set_option maxRecDepth 100000
set_option maxHeartbeats 1000000
set_option linter.unusedVariables false
namespace Mine
def keyLam : Arguments × Expr × Scope := match stmtAt 3 (bodyOf (top 37)) with
  | .Assign _ (.Call _ (l :: _) _ _) _ => lamOf l
  | _ => lamOf (.Constant .none 0 default)
abbrev keyFd (ca c : Addr) (md ct : Value) : FuncData :=
  { name := Str.ofString "<lambda>", qualname := Str.ofString "law.<locals>.<lambda>", params := keyLam.1, body := .expr keyLam.2.1, scope := keyLam.2.2, globals := 3, closure := [(Str.ofString "above", ca)], defaults := .none, kwdefaults := .none, doc := .none, pyModule := md, annotations := none, code := .ref c, closureTuple := ct, builtins := 0 }
def CmpAt (h : Heap) (ca fm : Addr) : Prop := ∃ o c md ct, h.get? fm = some o ∧ o.data = .func (keyFd ca c md ct) ∧ h.CodeRec (.ref c) (Str.ofString "law.<locals>.<lambda>")
theorem CmpAt.keep {h h' : Heap} {ca f : Addr} (W : CmpAt h ca f) (k : Keep h h') : CmpAt h' ca f := by
  obtain ⟨o, c, md, ct, ho, hd, c', oc, vs, t, e, hoc, r⟩ := W
  exact ⟨o, c, md, ct, k _ _ ho, hd, c', oc, vs, t, e, k _ _ hoc, r⟩
/-- mycmp on two things -/
theorem cmpOk_of {w : World} {z : Shared} {h : Heap} {ca fm p q : Addr} {u v : Value} {x y above : Int} {tx ty ta : Tok} (X : TopIn w h) (F : CmpAt h ca fm) (hca : h.IsCell ca (some (.int above ta))) (hp : h.IsTuple p #[u, .int x tx]) (hq : h.IsTuple q #[v, .int y ty]) (ha : 0 ≤ above) (ha' : above < 2 ^ 60) :
    CmpOk w z fm p q ((x - y) * (above + 1)) h := by
  intro A h' tk Q E hA hh hk k
  obtain ⟨o, c, md, ct, ho, hd, hcr⟩ := F.keep hk
  refine call_lam (X.keep hk) ⟨o, ho, hd⟩ hcr hA rfl (binds := [(Str.ofString "a", .ref p), (Str.ofString "b", .ref q)]) (BindsTo.of_eq (by rfl)) (by rfl) (by rfl) fun h₁ tk₁ hns hk₁ => ?_
  have k01 : Keep h h₁ := fun b o e => hk₁ b o (hk b o e)
  refine Ev.use (P := IntV ((x - y) * (above + 1))) ?_ fun r tk2 hv => ?_
  · exact ev_mul (ev_sub (ev_tup (items := [u, .int x tx]) (j := 1) (ev_loc hns rfl) ev_int (hp.at fun o e => k01 _ o e) (by decide) (by decide) (by rfl) rfl).int (ev_tup (items := [v, .int y ty]) (j := 1) (ev_loc hns rfl) ev_int (hq.at fun o e => k01 _ o e) (by decide) (by decide) (by rfl) rfl).int) (ev_add (ev_free (c := ca) (by rfl) (cell_keep hca k01)).int ev_int) (mulOk_right (by omega) (by omega))
  · obtain ⟨t2, rfl⟩ := hv
    exact k _ _ _ hk₁
end Mine
end
section
open PySem PySem.W PyProof.Rows PySem.Calls
open Builtin Builtin.ObjectAttr Builtin.Getset_descriptor
set_option Elab.async false
set_option maxRecDepth 100000
set_option maxHeartbeats 1000000
set_option linter.unusedVariables false
namespace Mine
section
variable {w : World} {A : Around} {E : Value → Shared → Prop} {h : Heap} {g : Array GenState} {d : Drawn} {t : Nat} {os : OsState}
variable {nm q : Str} {C N : Addr} {bs : List Value} {hdct : Bool} {sn : List Str} {sub : List Value} {col : Option Bool} {dd : Option Addr} {k0 k1 k2 k3 k5 : Option Value}
/-- the object that object.__new__ makes -/
abbrev instObj (C D : Addr) : Obj := { cls := .ref C, dict := some D, data := .plain }
abbrev emptyDict : Obj := { cls := .type "dict", data := .dict #[] }
theorem new_check {M : Model} {rest : List Value} {Q : Unit → Shared → Prop}
    (hC : h.get? C = some (excClassObj nm q C N bs [.type "object"] hdct sn sub false col dd k0 k1 k2 k3 k5 "object.__new__")) (hq : Q () ⟨h, g, d, t, os⟩) :
    wpAny M A (checkBuiltinCall "object.__new__" ⟨.ref C :: rest, []⟩) Q E ⟨h, g, d, t, os⟩ := by
  have hcont : (Value.ref C :: [Value.type "object"]).contains (.type "object") = true := by rw [List.contains_cons, show [Value.type "object"].contains (.type "object") = true from by decide, Bool.or_true]
  simp only [checkBuiltinCall, F.objNew.kind, F.objNew.split, F.objNew.row]
  repeat (first | refine wpAny_loadPart_at hC ?_ | (refine wpAny_isSubtype_exc hC ?_; rw [hcont]) | refine wpAny_staticBase_exc hC ?_ | refine wpAny_madeBy_exc hC ?_ | simp only [bne_self_eq_false, Bool.false_eq_true, if_false] | wp_step)
  exact hq
theorem new_code {R : Result → Shared → Prop} {mN : Str → Option Value} {rest : List Value} {fI : Addr}
    (hC : h.get? C = some (excClassObj nm q C N bs [.type "object"] hdct sn sub false col dd k0 k1 k2 k3 k5 "object.__new__")) (hn : h.Ns N mN) (hi : mN "__init__" = some (.ref fI))
    (hq : R (.ok (.ret (.ref (h.objs.size + 1)))) ⟨(h.push emptyDict).push (instObj C h.objs.size), g, d, t, os⟩) :
    codeAny (model prog w) A (.builtin "object.__new__" ⟨.ref C :: rest, []⟩) R ⟨h, g, d, t, os⟩ := by
  have hlk : typeLookup (.type "object") "__init__" = pure (some (.builtin "object.__init__")) := by rw [typeLookup_type, builtinLookup_eq_fast]; kernel_rfl
  have hne : (some (Value.ref fI) != some (Value.builtin "object.__init__")) = true := rfl
  have hsame : (some "object.__new__" != some "object.__new__") = false := bne_self_eq_false _
  refine codeAny_builtin F.objNew.entry ?_
  unfold Builtin.«object.__new__»
  rcases rest with _ | ⟨r0, rr⟩
  all_goals
    repeat (first | with_reducible refine wpAny_madeHere_exc F.objNew.canon hC ?_ | (with_reducible refine wpAny_madeBy_exc hC ?_; simp only [hsame]) | with_reducible refine wpAny_loadPart_at hC ?_ | (with_reducible refine wpAny_typeLookup_exc hC hn F.mro_object hlk ?_; rw [hi]; simp only [hne]) | wp_step)
  all_goals
    show wpAny _ _ (alloc { cls := .type "dict", data := .dict #[] } >>= fun x => pure (some x)) _ _ _
    refine wpAny_bind (wpAny_alloc' (wpAny_pure ?_))
    unfold newObj
    repeat wp_step
    show R _ _
    rw [Heap.size_push]
    exact hq
end
end Mine
end
section
open PySem PySem.W PyProof.Rows PySem.Calls
open Builtin Builtin.ObjectAttr Builtin.Getset_descriptor
set_option Elab.async false
set_option maxRecDepth 100000
set_option maxHeartbeats 1000000
set_option linter.unusedVariables false
namespace Mine
section
variable {w : World} {A : Around} {E : Value → Shared → Prop} {h : Heap} {g : Array GenState} {d : Drawn} {t : Nat} {os : OsState}
variable {nm q : Str} {C N : Addr} {bs : List Value} {hdct : Bool} {sn : List Str} {sub : List Value} {col : Option Bool} {dd : Option Addr} {k0 k1 k2 k3 k5 : Option Value}
theorem inst_init {mN : Str → Option Value} {rest : List Value} {fI : Addr} {oI : Obj} {Q : Fin → Shared → Prop}
    (hC : h.get? C = some (excClassObj nm q C N bs [.type "object"] hdct sn sub false col dd k0 k1 k2 k3 k5 "object.__new__")) (hn : h.Ns N mN) (hi : mN "__init__" = some (.ref fI))
    (hfI : h.get? fI = some oI) (hfc : oI.cls = .type "function")
    (hq : wpAny (model prog w) A (call (.ref fI) (.ref (h.objs.size + 1) :: rest)) (fun r s' => r = .none ∧ Q (.done (.ret (.ref (h.objs.size + 1)))) s') E ⟨(h.push emptyDict).push (instObj C h.objs.size), g, d, t, os⟩) :
    wpAny (model prog w) A (Builtin.«type.__call__» ⟨.ref C :: rest, []⟩) Q E ⟨h, g, d, t, os⟩ := by
  have hlk : typeLookup (.type "object") "__init__" = pure (some (.builtin "object.__init__")) := by rw [typeLookup_type, builtinLookup_eq_fast]; kernel_rfl
  repeat (first | with_reducible refine wpAny_loadPart_at hC ?_ | with_reducible refine wpAny_madeBy_exc hC ?_ | wp_step)
  refine codeAny_call_builtin_code (Code.quiet_builtin _ F.objNew.quiet) (new_check hC ?_)
  refine new_code hC hn hi ?_
  show wpAny _ _ _ _ _ _
  have up : Keep h ((h.push emptyDict).push (instObj C h.objs.size)) := fun b o e => Heap.get?_push_of_some _ (Heap.get?_push_of_some _ e)
  have hC₁ := up _ _ hC
  have hfI₁ := up _ _ hfI
  have hn₁ := hn.keeps up
  have hget : ((h.push emptyDict).push (instObj C h.objs.size)).get? (h.objs.size + 1) = some (instObj C h.objs.size) := by
    have := Heap.get?_push_size (h.push emptyDict) (o := instObj C h.objs.size) rfl
    rwa [Heap.size_push] at this
  have hcC : (Value.ref C :: [Value.type "object"]).contains (.ref C) = true := by simp
  unfold isInstance
  repeat (first | with_reducible refine wpAny_loadPart_at hget ?_ | (with_reducible refine wpAny_isSubtype_exc hC₁ ?_; rw [hcC]) | wp_step)
  show wpAny _ _ (typeLookup (.ref C) _) _ _ _
  refine wpAny_typeLookup_exc hC₁ hn₁ F.mro_object hlk ?_
  rw [hi]
  refine wpAny_holding (wpAny_bind ?_)
  unfold bindSpecial
  refine wpAny_bind (wpAny_typeOf (T := "function") ⟨_, hfI₁, hfc⟩ ?_)
  rw [if_pos (by decide)]
  refine wpAny_pure (wpAny_bind (wpAny_mono hq (fun r s' hr => ?_) fun _ _ x => x))
  obtain ⟨rfl, hQ⟩ := hr
  wp_walk
  exact hQ
theorem inst_call {mN : Str → Option Value} {rest : List Value} {fI : Addr} {oI : Obj} {Q : Value → Shared → Prop}
    (hC : h.get? C = some (excClassObj nm q C N bs [.type "object"] hdct sn sub false col dd k0 k1 k2 k3 k5 "object.__new__")) (hn : h.Ns N mN) (hi : mN "__init__" = some (.ref fI))
    (hfI : h.get? fI = some oI) (hfc : oI.cls = .type "function")
    (hq : wpAny (model prog w) (A.under (.builtin "type.__call__" ⟨.ref C :: rest, []⟩)) (call (.ref fI) (.ref (h.objs.size + 1) :: rest)) (fun r s' => r = .none ∧ Q (.ref (h.objs.size + 1)) s') E ⟨(h.push emptyDict).push (instObj C h.objs.size), g, d, t, os⟩) :
    wpAny (model prog w) A (call (.ref C) rest) Q E ⟨h, g, d, t, os⟩ := by
  have f1 := tc_lookup
  have f2 := tc_bind (.ref C)
  have hT : (⟨h, g, d, t, os⟩ : Shared).TypeIs (.ref C) "type" := ⟨_, hC, rfl⟩
  refine wpAny_call (codeAny_of_tree ?_)
  show wpAny _ _ (callAny (.ref C) _) _ _ _
  repeat (any_goals (first | assumption | with_reducible refine wpAny_loadPart_at hC ?_ | wp_step))
  refine ⟨rfl, ?_⟩
  exact codeAny_call_builtin_at (Code.quiet_builtin _ (by decide +kernel)) entry_typeCall (wpAny_check_type_call_sub hC (inst_init hC hn hi hfI hfc hq))
end
end Mine
end
section
open PySem PySem.W PyProof.Rows PySem.Calls
open Builtin Builtin.ObjectAttr Builtin.Getset_descriptor
set_option Elab.async false
set_option maxRecDepth 100000
set_option maxHeartbeats 1000000
set_option linter.unusedVariables false
namespace Mine
theorem entry_slotSet : entryFor table "proto.slot#set" = some Builtin.«proto.slot#set» := entryFor_of_tree (by kernel_rfl)
section
variable {w : World} {A : Around} {E : Value → Shared → Prop} {h : Heap} {g : Array GenState} {d : Drawn} {t : Nat} {os : OsState}
variable {nm q : Str} {C N x md D : Addr} {bs : List Value} {hdct : Bool} {sub : List Value} {ab : Bool} {col : Option Bool} {dd : Option Addr} {k0 k1 k2 k3 k5 : Option Value} {newId : String} {mN : Str → Option Value} {name : Str} {v : Value} {t0 : Tok}
theorem slotset_entry {tk : Tok} {Q : Fin → Shared → Prop} {y : Option Value}
    (hC : h.get? C = some (excClassObj nm q C N bs [.type "object"] hdct [name] sub ab col dd k0 k1 k2 k3 k5 newId)) (hn : h.Ns N mN) (hmd : mN name = some (.ref md))
    (hm : h.get? md = some { cls := .type "member_descriptor", data := .fields #[.str name t0, .ref C, .builtin "proto.slot", .builtin "proto.slot#set", .int 0 0] })
    (hB : typeLookup (.type "object") name = pure y) (hx : h.get? x = some (instObj C D)) (hp : refuseLoop (.ref x) "__setattr__" [.type "object"] = pure ())
    (hq : ∀ h', h'.get? x = some { instObj C D with slots := #[some v] } → Heap.SameBut x h h' → Q (.done (.ret .none)) ⟨h', g, d, t, os⟩) :
    wpAny (model prog w) A (Builtin.«object.__setattr__» ⟨[.ref x, .str name tk, v], []⟩) Q E ⟨h, g, d, t, os⟩ := by
  have hTm : Shared.TypeIs ⟨h, g, d, t, os⟩ (.ref md) "member_descriptor" := ⟨_, hm, rfl⟩
  unfold Builtin.«object.__setattr__»
  repeat (first | rw [refuse_eq] | (rw [refuseLoop_ref, hp]) | with_reducible refine wpAny_loadPart_at hx ?_ | with_reducible refine wpAny_mroOf_exc hC ?_ | (with_reducible refine wpAny_typeLookup_exc hC hn F.mro_object hB ?_; rw [hmd]) | (with_reducible refine wpAny_specialOf hTm slotMD_set.lookup ?_) | wp_step)
  refine wpAny_of_eq (slotMD_set.bind (.ref md)) ?_
  refine wpAny_bind (wpAny_call (codeAny_call_builtin slotMD_set.plain entryMD_set (slotMD_set.check _ _ _ _ _ _ _ _ hTm (argsMD_set _ _ _) ?_)))
  unfold Builtin.«member_descriptor.__set__» descrSet descrStoreThrough descrCheckInstance descrItself
  repeat (first | with_reducible refine wpAny_loadPart_at hx ?_ | wp_step)
  refine wpAny_isSubtype_exc hC ?_
  rw [show (Value.ref C :: [Value.type "object"]).contains (#[Value.str name t0, Value.ref C, Value.builtin "proto.slot", Value.builtin "proto.slot#set", Value.int 0 0][1]) = true by simp]
  repeat (first | with_reducible refine wpAny_loadPart_at hx ?_ | wp_step)
  rw [if_pos (by simp)]
  refine ⟨plainId_quiet (by decide +kernel) _, codeAny_builtin entry_slotSet ?_⟩
  unfold Builtin.«proto.slot#set» Slots.target setSlotAt
  repeat (first | with_reducible refine wpAny_loadPart_at hx ?_ | wp_step)
  exact hq _ (Heap.get?_update_self _ hx rfl) (Heap.SameBut.update ..)
end
end Mine
end
section
open PySem PySem.W PyProof.Rows PySem.Calls
open Builtin Builtin.ObjectAttr Builtin.Getset_descriptor
set_option Elab.async false
set_option maxRecDepth 100000
set_option maxHeartbeats 1000000
set_option linter.unusedVariables false
namespace Mine
section
variable {w : World} {A : Around} {E : Value → Shared → Prop} {h : Heap} {g : Array GenState} {d : Drawn} {t : Nat} {os : OsState}
variable {nm q : Str} {C N x md D : Addr} {bs : List Value} {hdct : Bool} {sub : List Value} {ab : Bool} {col : Option Bool} {dd : Option Addr} {k0 k1 k2 k3 k5 : Option Value} {newId sa owner : String} {mN : Str → Option Value} {name : Str} {v : Value} {t0 : Tok}
theorem slot_check {M : Model} {o : Obj} {nameV : Value} {Q : Unit → Shared → Prop} (SF : StoreFacts "object" [.type "object"] sa owner) {sn : List Str}
    (hC : h.get? C = some (excClassObj nm q C N bs [.type "object"] hdct sn sub ab col dd k0 k1 k2 k3 k5 newId)) (hx : h.get? x = some o) (hc : o.cls = .ref C) (hq : Q () ⟨h, g, d, t, os⟩) :
    wpAny M A (checkBuiltinCall sa ⟨[.ref x, nameV, v], []⟩) Q E ⟨h, g, d, t, os⟩ := by
  have hcB : (Value.ref C :: [Value.type "object"]).contains (.type owner) = true := by rw [List.contains_cons, SF.hasOwner, Bool.or_true]
  have ha := SF.args (.ref x) nameV v
  simp only [checkBuiltinCall, SF.kind, SF.split]
  refine wpAny_bind ?_
  · unfold isInstance
    repeat (first | (with_reducible refine wpAny_loadPart_at hx ?_; rw [hc]) | (with_reducible refine wpAny_isSubtype_exc hC ?_; rw [hcB]) | wp_step)
    cases hsig : Manifest.signature? sa with
    | none => exact wpAny_pure hq
    | some sig =>
      simp only [argsOk, hsig] at ha
      have h2 : Bind.checkArgs sa sig ⟨[.ref x, nameV, v], []⟩ = pure () := ha
      show wpAny M A (Bind.checkArgs sa sig ⟨[.ref x, nameV, v], []⟩) Q E _
      rw [h2]; exact wpAny_pure hq
theorem slot_store_call {tk : Tok} {R : Result → Shared → Prop} {y : Option Value} (SF : StoreFacts "object" [.type "object"] sa owner)
    (hC : h.get? C = some (excClassObj nm q C N bs [.type "object"] hdct [name] sub ab col dd k0 k1 k2 k3 k5 newId)) (hn : h.Ns N mN) (hmd : mN name = some (.ref md))
    (hm : h.get? md = some { cls := .type "member_descriptor", data := .fields #[.str name t0, .ref C, .builtin "proto.slot", .builtin "proto.slot#set", .int 0 0] })
    (hB : typeLookup (.type "object") name = pure y) (hx : h.get? x = some (instObj C D))
    (hq : ∀ h', h'.get? x = some { instObj C D with slots := #[some v] } → Heap.SameBut x h h' → R (.ok (.ret .none)) ⟨h', g, d, t, os⟩) :
    codeAny (model prog w) A (.call (.builtin sa) ⟨[.ref x, .str name tk, v], []⟩) R ⟨h, g, d, t, os⟩ :=
  codeAny_call_builtin SF.slot.plain SF.entry (slot_check SF hC hx rfl (slotset_entry hC hn hmd hm hB hx (SF.passes _) hq))
theorem slot_store {Q : Unit → Shared → Prop} {y : Option Value} (SF : StoreFacts "object" [.type "object"] sa owner)
    (hC : h.get? C = some (excClassObj nm q C N bs [.type "object"] hdct [name] sub ab col dd k0 k1 k2 k3 k5 newId)) (hn : h.Ns N mN) (hns : mN "__setattr__" = none) (hmd : mN name = some (.ref md))
    (hm : h.get? md = some { cls := .type "member_descriptor", data := .fields #[.str name t0, .ref C, .builtin "proto.slot", .builtin "proto.slot#set", .int 0 0] })
    (hB : typeLookup (.type "object") name = pure y) (hx : h.get? x = some (instObj C D))
    (hq : ∀ h' tk', h'.get? x = some { instObj C D with slots := #[some v] } → Heap.SameBut x h h' → Q () ⟨h', g, d, tk', os⟩) :
    wpAny (model prog w) A (setAttr (.ref x) name v) Q E ⟨h, g, d, t, os⟩ := by
  have f3 := SF.slot.bind (.ref x)
  unfold setAttr callSpecial? specialOf
  repeat (any_goals (first | assumption | with_reducible refine wpAny_loadPart_at hx ?_ | (with_reducible refine wpAny_typeLookup_exc hC hn SF.mro SF.slot.lookup ?_; rw [hns]) | wp_step))
  refine slot_store_call SF hC hn hmd hm hB hx fun h' hx' hs' => ?_
  repeat (any_goals (first | assumption | wp_step))
  exact hq h' _ hx' hs'
end
end Mine
end
section
open PySem PySem.W PyProof.Rows PySem.Calls
open Builtin Builtin.ObjectAttr Builtin.Getset_descriptor
set_option Elab.async false
set_option maxRecDepth 100000
set_option maxHeartbeats 1000000
set_option linter.unusedVariables false
namespace Mine
/-- all of K that making one of its objects leans on -/
structure KNew (h : Heap) (kc N md : Addr) (f0 : Addr) : Prop where
  cls : ∃ nm q bs hdct sub col dd k0 k1 k2 k3 k5, h.get? kc = some (excClassObj nm q kc N bs [.type "object"] hdct [Str.ofString "obj"] sub false col dd k0 k1 k2 k3 k5 "object.__new__")
  ns : ∃ mN, h.Ns N mN ∧ mN (Str.ofString "__init__") = some (.ref f0) ∧ mN (Str.ofString "__setattr__") = none ∧ mN (Str.ofString "obj") = some (.ref md)
  md : ∃ t0, h.get? md = some { cls := .type "member_descriptor", data := .fields #[.str (Str.ofString "obj") t0, .ref kc, .builtin "proto.slot", .builtin "proto.slot#set", .int 0 0] }
  init : MethAt h 0 (Str.ofString "__init__") (Str.ofString "cmp_to_key.<locals>.K.__init__") [] f0
theorem KNew.keep {h h' : Heap} {kc N md f0 : Addr} (K : KNew h kc N md f0) (k : Keep h h') : KNew h' kc N md f0 := by
  have cd : ∀ {v : Value} {q : Str}, h.CodeRec v q → h'.CodeRec v q := by
    rintro v q ⟨c, o, vs, t, e, ho, r⟩
    exact ⟨c, o, vs, t, e, k _ _ ho, r⟩
  have mt : ∀ {i nm q cl f}, MethAt h i nm q cl f → MethAt h' i nm q cl f := by
    rintro i nm q cl f ⟨o, c, md, ct, ho, r1, r2, r3⟩
    exact ⟨o, c, md, ct, k _ _ ho, r1, r2, cd r3⟩
  obtain ⟨⟨nm, q, bs, hdct, sub, col, dd, k0, k1, k2, k3, k5, hC⟩, ⟨mN, hn, r⟩, ⟨t0, hm⟩, a⟩ := K
  exact ⟨⟨nm, q, bs, hdct, sub, col, dd, k0, k1, k2, k3, k5, k _ _ hC⟩, ⟨mN, hn.keeps k, r⟩, ⟨t0, k _ _ hm⟩, mt a⟩
/-- __init__ -/
theorem init_call {w : World} {A : Around} {z : Shared} {h : Heap} {tk : Nat} {Q : Value → Shared → Prop} {E : Value → Shared → Prop} {kc N md f0 x D : Addr} {v : Value} (X : TopIn w h) (hA : A.depth < recursionLimit) (K : KNew h kc N md f0) (hx : h.get? x = some (instObj kc D))
    (k : ∀ h' tk', KInst h' kc x v → KeepOff [x] h h' → Q .none (St z h' tk')) :
    wpAny (model prog w) A (call (.ref f0) [.ref x, v]) Q E (St z h tk) := by
  obtain ⟨o, c, md', ct, ho, _, hd, hcr⟩ := K.init.fn
  refine call_fd X ⟨o, ho, hd⟩ hcr hA rfl (binds := [(Str.ofString "self", .ref x), (Str.ofString "obj", v)]) (BindsTo.of_eq (by rfl)) (by rfl) (by rfl) fun h₁ tk₁ hns hk => ?_
  have K₁ := K.keep hk
  obtain ⟨nm, q, bs, hdct, sub, col, dd, k0, k1, k2, k3, k5, hC⟩ := K₁.cls
  obtain ⟨mN, hn, h1, h2, h3⟩ := K₁.ns
  obtain ⟨t0, hm⟩ := K₁.md
  refine wpAny_execs_cons (plainObj_wpAny_Assign_Attribute (Ev.use (ev_loc hns rfl) fun u tk2 hv => ?_))
  subst hv
  refine Ev.use (ev_loc hns rfl) fun u tk3 hv => ?_
  subst hv
  refine slot_store F.store_object hC hn h2 h3 hm lk_obj (hk _ _ hx) fun h' tk' e s => ?_
  refine wpAny_execs_nil (k h' _ ⟨_, e, rfl, rfl⟩ fun b o hb e' => s.extBut b o (by simpa using hb) (hk b o e'))
/-- key(thing) -/
theorem key_call {w : World} {A : Around} {z : Shared} {h : Heap} {tk : Nat} {Q : Value → Shared → Prop} {E : Value → Shared → Prop} {kc N md f0 : Addr} {v : Value} (X : TopIn w h) (hA : A.depth + 1 < recursionLimit) (K : KNew h kc N md f0)
    (k : ∀ x h' tk', h.objs.size ≤ x → KInst h' kc x v → Keep h h' → Q (.ref x) (St z h' tk')) :
    wpAny (model prog w) A (call (.ref kc) [v]) Q E (St z h tk) := by
  obtain ⟨nm, q, bs, hdct, sub, col, dd, k0, k1, k2, k3, k5, hC⟩ := K.cls
  obtain ⟨mN, hn, h1, h2, h3⟩ := K.ns
  obtain ⟨o, c, md', ct, ho, hoc, hd, hcr⟩ := K.init.fn
  refine inst_call hC hn h1 ho hoc ?_
  have up : Keep h ((h.push emptyDict).push (instObj kc h.objs.size)) := fun b o e => Heap.get?_push_of_some _ (Heap.get?_push_of_some _ e)
  have hget : ((h.push emptyDict).push (instObj kc h.objs.size)).get? (h.objs.size + 1) = some (instObj kc h.objs.size) := by
    have := Heap.get?_push_size (h.push emptyDict) (o := instObj kc h.objs.size) rfl
    rwa [Heap.size_push] at this
  have hA' : (A.under (Code.builtin "type.__call__" ⟨[.ref kc, v], []⟩)).depth < recursionLimit := by
    have : (Code.builtin "type.__call__" ⟨[.ref kc, v], []⟩).weight = 1 := rfl
    show A.depth + Code.weight _ < recursionLimit
    rw [this]
    exact hA
  refine init_call (z := z) (A := A.under _) (X.keep up) hA' (K.keep up) hget fun h' tk' I kk => ⟨rfl, ?_⟩
  exact k _ h' tk' (Nat.le_succ _) I fun b o e => kk b o (by
    have := Heap.lt_size e
    simp
    exact Nat.ne_of_lt (Nat.lt_succ_of_lt this)) (up b o e)
end Mine
end
section
open PySem PySem.W PyProof.Rows PySem.Calls
set_option Elab.async false
set_option maxRecDepth 100000
set_option maxHeartbeats 1000000
set_option linter.unusedVariables false
namespace Mine
def fldsOf (o : Obj) : Array Value := match o.data with | .fields vs => vs | _ => #[]
def strVal : Value → Str | .str s _ => s | _ => Str.ofString ""
def strTok : Value → Tok | .str _ t => t | _ => 0
def intVal : Value → Int | .int s _ => s | _ => 0
def intTok : Value → Tok | .int _ t => t | _ => 0
def boolVal : Value → Bool | .bool b => b | _ => false
theorem cd_of {w : World} {h : Heap} {c : Addr} {q : Str} (hc : h.get? c = some (topObj w.params c)) (h2 : (topObj w.params c).data = .fields (fldsOf (topObj w.params c))) (h3 : (fldsOf (topObj w.params c))[1]? = some (.str q (strTok ((fldsOf (topObj w.params c)).getD 1 .none)))) : h.CodeRec (.ref c) q :=
  ⟨c, _, _, _, rfl, hc, h2, h3⟩
theorem fn_ways {w : World} {h : Heap} (X : TopIn w h) : FnAt w h 105 104 (Str.ofString "_law_ways") 31 pmL :=
  ⟨⟨_, top_get X (by kernel_rfl), by kernel_rfl⟩, cd_of (w := w) (top_get X (by kernel_rfl)) (by kernel_rfl) (by kernel_rfl)⟩
theorem hd_of {w : World} {h : Heap} {c P : Addr} (hc : h.get? c = some (topObj w.params c)) (h1 : (topObj w.params c).cls = .type "code") (h2 : (topObj w.params c).data = .fields (fldsOf (topObj w.params c))) (h3 : (fldsOf (topObj w.params c))[11]? = some (.ref P))
    (h4 : (fldsOf (topObj w.params c)).getD 18 .none = .str (strVal ((fldsOf (topObj w.params c)).getD 18 .none)) (strTok ((fldsOf (topObj w.params c)).getD 18 .none)))
    (h5 : (fldsOf (topObj w.params c)).getD 7 .none = .int (intVal ((fldsOf (topObj w.params c)).getD 7 .none)) (intTok ((fldsOf (topObj w.params c)).getD 7 .none)))
    (h6 : (fldsOf (topObj w.params c)).getD 9 .none = .bool (boolVal ((fldsOf (topObj w.params c)).getD 9 .none)))
    (h7 : (fldsOf (topObj w.params c)).getD 10 .none = .int (intVal ((fldsOf (topObj w.params c)).getD 10 .none)) (intTok ((fldsOf (topObj w.params c)).getD 10 .none))) (h8 : c ≠ P) : CodeHd h c P :=
  ⟨_, _, _, _, _, _, _, _, _, hc, h1, h2, h3, by rw [Array.getD_eq_getD_getElem?, h3]; rfl, h4, h5, h6, h7, h8⟩
theorem hd_ways {w : World} {h : Heap} (X : TopIn w h) : CodeHd h 104 100 :=
  hd_of (w := w) (top_get X (by kernel_rfl)) (by kernel_rfl) (by kernel_rfl) (by kernel_rfl) (by kernel_rfl) (by kernel_rfl) (by kernel_rfl) (by kernel_rfl) (by decide)
theorem top_bm {w : World} {h : Heap} (X : TopIn w h) {P : Addr} (hne : (4 : Nat) ≠ P) : h.BuiltinsAt (mgT w.params) P :=
  ⟨4, topObj w.params 4, by kernel_rfl, by decide, by decide, hne, top_get X (by kernel_rfl), by kernel_rfl, by kernel_rfl, by kernel_rfl⟩
/-! the table of codes of _law_ways -/
def trips : Nat → List Addr → List Value
  | _, [] => []
  | i, c :: cs => rawInt ((i : Nat) : Int) :: rawInt 0 :: .ref c :: trips (i + 1) cs
theorem trips_ok : ∀ i cs, TriplesOk (trips i cs)
  | _, [] => trivial
  | i, c :: cs => trips_ok (i + 1) cs
theorem trips_snoc (c : Addr) : ∀ i cs, trips i (cs ++ [c]) = trips i cs ++ [rawInt ((i + cs.length : Nat) : Int), rawInt 0, .ref c]
  | i, [] => rfl
  | i, b :: cs => by
    show rawInt _ :: rawInt 0 :: Value.ref b :: trips (i + 1) (cs ++ [c]) = _
    rw [trips_snoc c (i + 1) cs]
    simp only [trips, List.cons_append, List.length_cons]
    rw [show i + 1 + cs.length = i + (cs.length + 1) by omega]
theorem trips_among {pos : Pos} (hc : pos.col = 0) : ∀ i cs, i ≤ pos.line → codeAmong pos (trips i cs) = (cs[pos.line - i]?).map Value.ref
  | i, [], _ => rfl
  | i, c :: cs, h => by
    show (if (((i : Nat) : Int) == (pos.line : Int) && ((0 : Int) == (pos.col : Int))) = true then some (Value.ref c) else codeAmong pos (trips (i + 1) cs)) = _
    rw [hc]
    by_cases e : i = pos.line
    · rw [if_pos (by simp [e])]
      simp [e]
    · rw [if_neg (by simp; omega), trips_among hc (i + 1) cs (by omega)]
      rw [show pos.line - i = (pos.line - (i + 1)) + 1 by omega, List.getElem?_cons_succ]
abbrev wq : Str := Str.ofString "_law_ways.<locals>.<lambda>"
/-- the table 100 with the codes cs -/
def Tab (h : Heap) (cs : List Addr) : Prop := h.get? 100 = some (tabObj (trips 94 cs).toArray) ∧ ∀ (k : Nat) (c : Addr), cs[k]? = some c → c ≠ 100 ∧ h.CodeRec (.ref c) wq
theorem rec_off {h h' : Heap} {c : Addr} {q : Str} (k : KeepOff [100] h h') (hc : c ≠ 100) (x : h.CodeRec (.ref c) q) : h'.CodeRec (.ref c) q := by
  obtain ⟨c', o, vs, t, e, ho, r⟩ := x
  cases e
  exact ⟨c, o, vs, t, rfl, k _ _ (by simpa using hc) ho, r⟩
/-- a way at f, apart from the table -/
def WayO (h : Heap) (i : Nat) (f : Addr) : Prop := f ≠ 100 ∧ ∃ o c md ct, c ≠ 100 ∧ h.get? f = some o ∧ o.data = .func (wayFd i c md ct) ∧ h.CodeRec (.ref c) wq
theorem WayO.off {h h' : Heap} {i : Nat} {f : Addr} (x : WayO h i f) (k : KeepOff [100] h h') : WayO h' i f := by
  obtain ⟨hf, o, c, md, ct, hc, ho, hd, hr⟩ := x
  exact ⟨hf, o, c, md, ct, hc, k _ _ (by simpa using hf) ho, hd, rec_off k hc hr⟩
theorem TopIn.tabs {w : World} {h h' : Heap} (X : TopIn w h) (k : KeepOff [100] h h') : TopIn w h' :=
  fun a o ho => k a o (fun q => (k2_off ho).1 (by rw [List.mem_singleton.mp q]; simp [Mine.tabs])) (X a o ho)
/-- one lambda of the list -/
theorem way_make {w : World} {A : Around} {z : Shared} {h : Heap} {tk : Nat} {Q : Value → Shared → Prop} {E : Value → Shared → Prop} {L : Addr} {cs : List Addr} {k : Nat} {params : Arguments} {body : Expr} {scope : Scope} {pos : Pos}
    (X : TopIn w h) (T : Tab h cs) (hk : k ≤ cs.length) (hL : pos.line = 94 + k) (hc0 : pos.col = 0) (h1 : params = (wayLam k).1) (h2 : body = (wayLam k).2.1) (h3 : scope = (wayLam k).2.2)
    (hdef : defaultsOf params (envF 105 104 (Str.ofString "_law_ways") 31 pmL L) = ([], [])) (hcl : closureFor scope (envF 105 104 (Str.ofString "_law_ways") 31 pmL L) = pure [])
    (kk : ∀ f h' tk' cs', KeepOff [100] h h' → Tab h' cs' → k + 1 ≤ cs'.length → WayO h' k f → Q (.ref f) (St z h' tk')) :
    wpAny (model prog w) A (eval (.Lambda params body scope pos) (envF 105 104 (Str.ofString "_law_ways") 31 pmL L)) Q E (St z h tk) := by
  refine kla_eval hdef ?_
  obtain ⟨hT, hcs⟩ := T
  have h140 : ∀ (g : Heap), TopIn w g → (g.objs.size : Nat) ≠ 100 := fun g Xg e => by have := Xg.size; omega
  subst h1 h2 h3
  by_cases hlt : k < cs.length
  · obtain ⟨c, hc⟩ : ∃ c, cs[k]? = some c := ⟨cs[k], by simp [hlt]⟩
    refine kla_makeFunctionHit (s := St z h tk) (cv := .ref c) (ps := (trips 94 cs).toArray) (mg := mgT w.params) hcl rfl (top_g X) rfl (hd_ways X) hT (trips_ok _ _) ?_ (top_bm X (by decide)) fun ctv h' tk' hk' hsz => ?_
    · show codeAmong pos (trips 94 cs) = _
      rw [trips_among hc0 _ _ (by omega), hL, show 94 + k - 94 = k by omega, hc]
      rfl
    · have k0 : KeepOff [100] h (h'.push { cls := .type "function", data := .func (kla_fn (Str.ofString "<lambda>") wq (wayLam k).1 (wayLam k).2.1 (wayLam k).2.2 [] ((mgT w.params (Str.ofString "__name__")).getD .none) (.ref c) ctv) }) := fun b o _ e => Heap.get?_push_of_some _ (hk' b o e)
      refine kk _ _ _ cs k0 ⟨Heap.get?_push_of_some _ (hk' _ _ hT), fun j c' hj => ⟨(hcs j c' hj).1, rec_off k0 (hcs j c' hj).1 (hcs j c' hj).2⟩⟩ hlt ⟨h140 _ (X.keep hk'), _, c, _, _, (hcs k c hc).1, Heap.get?_push_size _ rfl, rfl, rec_off k0 (hcs k c hc).1 (hcs k c hc).2⟩
  · have hk' : k = cs.length := by omega
    refine kla_makeFunction (s := St z h tk) (ps := (trips 94 cs).toArray) (mg := mgT w.params) hcl rfl (top_g X) rfl (hd_ways X) hT (trips_ok _ _) ?_ (by decide) (top_bm X (by decide)) fun c' ctv h' tk' hx hge hlt' hrec htb => ?_
    · show codeAmong pos (trips 94 cs) = _
      rw [trips_among hc0 _ _ (by omega), hL, show 94 + k - 94 = k by omega, hk']
      simp
    · have hc100 : c' ≠ 100 := by
        have : @LE.le Nat _ h.objs.size c' := hge
        have := X.size
        intro e
        have e' : @Eq Nat c' 100 := e
        omega
      have k1 : KeepOff [100] h h' := fun b o hb e => hx b o (by simpa using hb) e
      have k2 : Keep h' (h'.push (kla_obj (Str.ofString "<lambda>") wq (wayLam k).1 (wayLam k).2.1 (wayLam k).2.2 [] ((mgT w.params (Str.ofString "__name__")).getD .none) c' ctv)) := fun b o e => Heap.get?_push_of_some _ e
      refine kk _ _ _ (cs ++ [c']) (k1.trans (Keep.off k2)) ⟨?_, fun j c hj => ?_⟩ (by simp; omega) ⟨h140 _ (X.tabs k1), _, c', _, _, hc100, Heap.get?_push_size _ rfl, rfl, rec_off (Keep.off k2) hc100 hrec⟩
      · have htb' : h'.get? 100 = some (tabObj (trips 94 (cs ++ [c'])).toArray) := by
          rw [trips_snoc, ← hk']
          rw [hL, hc0] at htb
          simpa using htb
        exact k2 _ _ htb'
      · rcases Nat.lt_or_ge j cs.length with q | q
        · rw [List.getElem?_append_left q] at hj
          exact ⟨(hcs j c hj).1, rec_off (k1.trans (Keep.off k2)) (hcs j c hj).1 (hcs j c hj).2⟩
        · rw [List.getElem?_append_right q] at hj
          have : c = c' := by
            rcases Nat.eq_zero_or_pos (j - cs.length) with r | r
            · rw [r] at hj; simp at hj; exact hj.symm
            · rw [List.getElem?_eq_none (by simp; omega)] at hj; cases hj
          subst this
          exact ⟨hc100, rec_off (Keep.off k2) hc100 hrec⟩
/-- _law_ways() -/
theorem ways_call {w : World} {A : Around} {z : Shared} {h : Heap} {tk : Nat} {Q : Value → Shared → Prop} {E : Value → Shared → Prop} {cs : List Addr} (X : TopIn w h) (hA : A.depth < recursionLimit) (T : Tab h cs)
    (k : ∀ D h' tk' cs' (fs : List Addr), KeepOff [100] h h' → h.objs.size ≤ D → Tab h' cs' → h'.IsList D (fs.map Value.ref).toArray → fs.length = 10 → (∀ (i : Nat) (f : Addr), fs[i]? = some f → WayO h' i f) → Q (.ref D) (St z h' tk')) :
    wpAny (model prog w) A (call (.ref 105) []) Q E (St z h tk) := by
  refine call_top X (fn_ways X) hA (binds := []) (by rfl) (by rfl) (by rfl) fun h₁ hns hk => ?_
  have X₁ := X.keep hk
  have T₁ : Tab h₁ cs := ⟨hk _ _ T.1, fun j c hj => ⟨(T.2 j c hj).1, rec_off (Keep.off hk) (T.2 j c hj).1 (T.2 j c hj).2⟩⟩
  refine wpAny_execs_cons (wpAny_Return_some (wpAny_List_spliced ?_))
  refine spliced_more (way_make (k := 0) X₁ T₁ (Nat.zero_le _) rfl rfl rfl rfl rfl (by rfl) (by rfl) fun f1 g1 t1 c1 q1 U1 l1 w1 => ?_)
  have Y1 : TopIn w g1 := X₁.tabs q1
  have p1 : KeepOff [100] h g1 := (Keep.off hk).trans q1
  refine spliced_more (way_make (k := 1) Y1 U1 l1 rfl rfl rfl rfl rfl (by rfl) (by rfl) fun f2 g2 t2 c2 q2 U2 l2 w2 => ?_)
  have Y2 : TopIn w g2 := Y1.tabs q2
  replace w1 := w1.off q2
  have p2 : KeepOff [100] h g2 := p1.trans q2
  refine spliced_more (way_make (k := 2) Y2 U2 l2 rfl rfl rfl rfl rfl (by rfl) (by rfl) fun f3 g3 t3 c3 q3 U3 l3 w3 => ?_)
  have Y3 : TopIn w g3 := Y2.tabs q3
  replace w1 := w1.off q3
  replace w2 := w2.off q3
  have p3 : KeepOff [100] h g3 := p2.trans q3
  refine spliced_more (way_make (k := 3) Y3 U3 l3 rfl rfl rfl rfl rfl (by rfl) (by rfl) fun f4 g4 t4 c4 q4 U4 l4 w4 => ?_)
  have Y4 : TopIn w g4 := Y3.tabs q4
  replace w1 := w1.off q4
  replace w2 := w2.off q4
  replace w3 := w3.off q4
  have p4 : KeepOff [100] h g4 := p3.trans q4
  refine spliced_more (way_make (k := 4) Y4 U4 l4 rfl rfl rfl rfl rfl (by rfl) (by rfl) fun f5 g5 t5 c5 q5 U5 l5 w5 => ?_)
  have Y5 : TopIn w g5 := Y4.tabs q5
  replace w1 := w1.off q5
  replace w2 := w2.off q5
  replace w3 := w3.off q5
  replace w4 := w4.off q5
  have p5 : KeepOff [100] h g5 := p4.trans q5
  refine spliced_more (way_make (k := 5) Y5 U5 l5 rfl rfl rfl rfl rfl (by rfl) (by rfl) fun f6 g6 t6 c6 q6 U6 l6 w6 => ?_)
  have Y6 : TopIn w g6 := Y5.tabs q6
  replace w1 := w1.off q6
  replace w2 := w2.off q6
  replace w3 := w3.off q6
  replace w4 := w4.off q6
  replace w5 := w5.off q6
  have p6 : KeepOff [100] h g6 := p5.trans q6
  refine spliced_more (way_make (k := 6) Y6 U6 l6 rfl rfl rfl rfl rfl (by rfl) (by rfl) fun f7 g7 t7 c7 q7 U7 l7 w7 => ?_)
  have Y7 : TopIn w g7 := Y6.tabs q7
  replace w1 := w1.off q7
  replace w2 := w2.off q7
  replace w3 := w3.off q7
  replace w4 := w4.off q7
  replace w5 := w5.off q7
  replace w6 := w6.off q7
  have p7 : KeepOff [100] h g7 := p6.trans q7
  refine spliced_more (way_make (k := 7) Y7 U7 l7 rfl rfl rfl rfl rfl (by rfl) (by rfl) fun f8 g8 t8 c8 q8 U8 l8 w8 => ?_)
  have Y8 : TopIn w g8 := Y7.tabs q8
  replace w1 := w1.off q8
  replace w2 := w2.off q8
  replace w3 := w3.off q8
  replace w4 := w4.off q8
  replace w5 := w5.off q8
  replace w6 := w6.off q8
  replace w7 := w7.off q8
  have p8 : KeepOff [100] h g8 := p7.trans q8
  refine spliced_more (way_make (k := 8) Y8 U8 l8 rfl rfl rfl rfl rfl (by rfl) (by rfl) fun f9 g9 t9 c9 q9 U9 l9 w9 => ?_)
  have Y9 : TopIn w g9 := Y8.tabs q9
  replace w1 := w1.off q9
  replace w2 := w2.off q9
  replace w3 := w3.off q9
  replace w4 := w4.off q9
  replace w5 := w5.off q9
  replace w6 := w6.off q9
  replace w7 := w7.off q9
  replace w8 := w8.off q9
  have p9 : KeepOff [100] h g9 := p8.trans q9
  refine spliced_more (way_make (k := 9) Y9 U9 l9 rfl rfl rfl rfl rfl (by rfl) (by rfl) fun f10 g10 t10 c10 q10 U10 l10 w10 => ?_)
  have Y10 : TopIn w g10 := Y9.tabs q10
  replace w1 := w1.off q10
  replace w2 := w2.off q10
  replace w3 := w3.off q10
  replace w4 := w4.off q10
  replace w5 := w5.off q10
  replace w6 := w6.off q10
  replace w7 := w7.off q10
  replace w8 := w8.off q10
  replace w9 := w9.off q10
  have p10 : KeepOff [100] h g10 := p9.trans q10
  refine spliced_none ⟨Nat.le_of_ble_eq_true rfl, ?_⟩
  have kp : Keep g10 (g10.push { cls := .type "list", data := .seq #[.ref f1, .ref f2, .ref f3, .ref f4, .ref f5, .ref f6, .ref f7, .ref f8, .ref f9, .ref f10] }) := fun b o e => Heap.get?_push_of_some _ e
  have hsz : h.objs.size ≤ g10.objs.size := by
    refine Nat.le_of_not_lt fun hlt => ?_
    have := hns
    obtain ⟨o, _, _, ho, _⟩ := hns
    have hne : (h.objs.size : Nat) ≠ 100 := by have := X.size; omega
    have a1 : g1.get? h.objs.size = some o := q1 _ _ (by simpa using hne) ho
    have := Heap.lt_size (q10 _ _ (by simpa using hne) (q9 _ _ (by simpa using hne) (q8 _ _ (by simpa using hne) (q7 _ _ (by simpa using hne) (q6 _ _ (by simpa using hne) (q5 _ _ (by simpa using hne) (q4 _ _ (by simpa using hne) (q3 _ _ (by simpa using hne) (q2 _ _ (by simpa using hne) a1)))))))))
    exact Nat.lt_irrefl _ (Nat.lt_trans this hlt)
  refine k _ _ _ c10 [f1, f2, f3, f4, f5, f6, f7, f8, f9, f10] (p10.trans (Keep.off kp)) hsz ⟨kp _ _ U10.1, fun j c hj => ⟨(U10.2 j c hj).1, rec_off (Keep.off kp) (U10.2 j c hj).1 (U10.2 j c hj).2⟩⟩ ⟨_, Heap.get?_push_size _ rfl, rfl, _, rfl⟩ rfl fun i f hi => ?_
  refine WayO.off ?_ (Keep.off kp)
  match i, hi with
  | 0, hi => exact Option.some.inj hi ▸ w1
  | 1, hi => exact Option.some.inj hi ▸ w2
  | 2, hi => exact Option.some.inj hi ▸ w3
  | 3, hi => exact Option.some.inj hi ▸ w4
  | 4, hi => exact Option.some.inj hi ▸ w5
  | 5, hi => exact Option.some.inj hi ▸ w6
  | 6, hi => exact Option.some.inj hi ▸ w7
  | 7, hi => exact Option.some.inj hi ▸ w8
  | 8, hi => exact Option.some.inj hi ▸ w9
  | 9, hi => exact Option.some.inj hi ▸ w10
  | i + 10, hi => simp at hi
end Mine
end
section
open PySem PySem.W PyProof.Rows PySem.Calls
set_option Elab.async false
set_option maxRecDepth 100000
set_option maxHeartbeats 1000000
set_option linter.unusedVariables false
namespace Mine
section
variable {w : World} {A : Around} {z : Shared} {env : Env}
/-- what a comprehension stored to a name wants of its iterator -/
def CompGoF (w : World) (A : Around) (z : Shared) (env : Env) (elt : Expr) (x : Str) (scope : Scope) (cl : List (Str × Addr)) (R : Nat → Value → List Addr → Heap → Prop) (Fin : List Addr → Heap → Nat → Prop) (it : Value) (s₂ : Shared) : Prop :=
  ∃ I wr fp n P S h₂ tk₂, it = .ref I ∧ s₂ = St z h₂ tk₂ ∧ It w A z I wr fp n P S ∧ n ≤ sizeLine ∧ S 0 h₂ ∧ (∀ b ∈ fp, @LT.lt Nat instLTNat (b) (h₂.objs.size)) ∧
      (∀ C i v as h₃ tk₃ m₃ E', i < n → @LE.le Nat instLENat (h₂.objs.size) (C) → P i v as h₃ → (∀ a ∈ as, @LE.le Nat instLENat (h₂.objs.size) (a)) → h₃.Ns C m₃ → m₃ x = some v → KeepOff wr h₂ h₃ →
        wpAny (model prog w) A (eval elt (compEnvC scope cl C env)) (fun y s₄ => ∃ h₄ tk₄ bs, s₄ = St z h₄ tk₄ ∧ Keep h₃ h₄ ∧ (∀ b ∈ bs, b ∈ as ∨ @LE.le Nat instLENat (h₃.objs.size) (b)) ∧ R i y bs h₄) E' (St z h₃ tk₃)) ∧ Fin wr h₂ n
/-- the end of a comprehension that is stored to the local name y -/
def StoreFin (z : Shared) (env : Env) (y : Str) (R : Nat → Value → List Addr → Heap → Prop) (Q : Flow → Shared → Prop) (wr : List Addr) (h₂ : Heap) (n : Nat) : Prop :=
  ∃ m, h₂.Ns env.locals m ∧ env.locals ∉ wr ∧ ∀ D h' tk ys, @LE.le Nat instLENat (h₂.objs.size) (D) → h'.PlainList D ys → ys.size = n → (∀ j y, ys[j]? = some y → ∃ as, (∀ a ∈ as, @LE.le Nat instLENat (h₂.objs.size) (a)) ∧ R j y as h') → h'.Ns env.locals (put m y (.ref D)) → KeepOff (env.locals :: wr) h₂ h' → Q .next (St z h' tk)
/-- the list is stored to the local name y, and the frame of the comprehension is left -/
theorem store_fin {y : Str} {py : Pos} {Q : Flow → Shared → Prop} {E : Value → Shared → Prop} {R : Nat → Value → List Addr → Heap → Prop} {D C : Addr} {h₂ h' : Heap} {tk' : Nat} {ys : Array Value} {m m' : Str → Option Value} {wr : List Addr}
    (hR : ∀ j y as h h', R j y as h → (∀ a ∈ as, ∀ o, h.get? a = some o → h'.get? a = some o) → R j y as h')
    (hm : h₂.Ns env.locals m) (hmw : env.locals ∉ wr) (hD : @LE.le Nat instLENat (h₂.objs.size) (D)) (hC : C = D + 1) (hp' : h'.PlainList D ys) (hn' : h'.Ns C m') (hyR : ∀ j y, ys[j]? = some y → ∃ as, (∀ a ∈ as, @LT.lt Nat instLTNat (C) (a)) ∧ R j y as h') (hk : KeepOff wr h₂ h')
    (hQ : ∀ h₅ tk₃, h₅.PlainList D ys → (∀ j y, ys[j]? = some y → ∃ as, (∀ a ∈ as, @LE.le Nat instLENat (h₂.objs.size) (a)) ∧ R j y as h₅) → h₅.Ns env.locals (put m y (.ref D)) → KeepOff (env.locals :: wr) h₂ h₅ → h₅.objs.size = h'.objs.size → Q .next (St z h₅ tk₃))
    (hy : env.kindOf y = some .local) (hp : (env.scope.kind == .class || (env.scope.kind == .module && env.locals != env.globals)) = false) :
    compPost (model prog w) A E (some (assign (.Name y py) env)) (fun _ s' => Q .next s') (.ref D) C (.ok .next) (St z h' tk') := by
  have hL : @LT.lt Nat instLTNat (env.locals) (h₂.objs.size) := by obtain ⟨_, _, _, ho, _⟩ := hm; exact Heap.lt_size ho
  have hLD' : @LT.lt Nat instLTNat (env.locals) (D) := Nat.lt_of_lt_of_le hL hD
  have hDC' : @LT.lt Nat instLTNat (D) (C) := hC ▸ Nat.lt_succ_self D
  have hLC' : @LT.lt Nat instLTNat (env.locals) (C) := Nat.lt_trans hLD' hDC'
  have hLD : env.locals ≠ D := Nat.ne_of_lt hLD'
  have hLC : env.locals ≠ C := Nat.ne_of_lt hLC'
  have hDC : D ≠ C := Nat.ne_of_lt hDC'
  refine wpAny_assign_Name (store_loc (hm.at' fun o e => hk _ o hmw e) (fun h₃ tk₃ n₃ s₃ => ?_) hy hp)
  refine ⟨m', hn'.sameBut s₃ (Ne.symm hLC), fun h₅ s₅ => ?_⟩
  refine hQ h₅ tk₃ ((hp'.extBut s₃.extBut (Ne.symm hLD)).extBut s₅.extBut hDC) (fun j y' hj => ?_) (n₃.sameBut s₅ hLC) (fun b o hb e => ?_) (Eq.trans s₅.1 s₃.1)
  · obtain ⟨as, has, hr⟩ := hyR j y' hj
    exact ⟨as, fun a ha => Nat.le_trans hD (Nat.le_of_lt (Nat.lt_trans hDC' (has a ha))), hR _ _ _ _ _ hr fun a ha o e => s₅.extBut a o (Ne.symm (Nat.ne_of_lt (has a ha))) (s₃.extBut a o (Ne.symm (Nat.ne_of_lt (Nat.lt_trans hLC' (has a ha)))) e)⟩
  · exact s₅.extBut b o (Nat.ne_of_lt (Nat.lt_of_lt_of_le (lt_sz e) (Nat.le_trans hD (Nat.le_of_lt hDC')))) (s₃.extBut b o (fun q => hb (q ▸ .head _)) (hk b o (fun q => hb (.tail _ q)) e))
theorem comp_use {h : Heap} {tk : Nat} {elt iter : Expr} {x y : Str} {px py : Pos} {scope : Scope} {cl : List (Str × Addr)} {pos spos : Pos} {Q : Flow → Shared → Prop} {E : Value → Shared → Prop} (R : Nat → Value → List Addr → Heap → Prop)
    (hR : ∀ j y as h h', R j y as h → (∀ a ∈ as, ∀ o, h.get? a = some o → h'.get? a = some o) → R j y as h')
    (hclos : closureFor scope env = pure cl) (hcell : ∀ y ∈ scope.names, y.2 ≠ .cell) (hkind : scope.kind = .function)
    (hnames : ∀ y ∈ scope.names, y.2 = .local → scope.names.lookup y.1 = some .local) (hx : scope.names.lookup x = some .local)
    (hit : wpAny (model prog w) A (eval iter env) (fun xv s₁ => wpAny (model prog w) A (pyIter xv) (CompGoF w A z env elt x scope cl R (StoreFin z env y R Q)) E s₁) E (St z h tk))
    (hs : ∀ x, foldedSetIterable iter env x = pure x := by intro _; rfl)
    (hsw : swapsWith (.ListComp elt [⟨.Name x px, iter, [], 0⟩] scope pos) (some (.Name y py)) spos.line env = pure true := by rfl)
    (hy : env.kindOf y = some .local := by rfl) (hp : (env.scope.kind == .class || (env.scope.kind == .module && env.locals != env.globals)) = false := by rfl) :
    wpAny (model prog w) A (exec (.Assign [.Name y py] (.ListComp elt [⟨.Name x px, iter, [], 0⟩] scope pos) spos) env) Q E (St z h tk) := by
  rw [exec_Assign_Name_used _ _ _ _ hsw]
  refine wpAny_bind (wpAny_standAt (wpAny_bind ?_))
  show wpAny _ A (do let _ ← comprehension (.ListComp elt [⟨.Name x px, iter, [], 0⟩] scope pos) scope env _ (newList []) false (eval iter env) (some (assign (.Name y py) env))) _ _ _
  refine wpAny_bind (wpAny_mono (comp_core (Q := fun _ s' => Q .next s') R hR hclos hcell hkind hnames hx (wpAny_mono hit (fun xv s₁ h₁ => wpAny_mono h₁ (fun it s₂ h₂ => ?_) fun _ _ e => e) fun _ _ e => e) hs) (fun _ s' hq => wpAny_pure (wpAny_pure hq)) fun _ _ e => e)
  obtain ⟨I, wr, fp, n, P, S, h₂, tk₂, e1, e2, W, hsz, hst, hfp, helt, m, hm, hmw, hQ⟩ := h₂
  exact ⟨I, wr, fp, n, P, S, h₂, tk₂, e1, e2, W, hsz, hst, hfp, helt, fun D C h' tk' ys m' hD hC hp' hn' hys hyR hk => store_fin hR hm hmw hD hC hp' hn' hyR hk (fun h₅ tk₃ q1 q2 q3 q4 _ => hQ D h₅ tk₃ ys hD q1 hys q2 q3 q4) hy hp⟩
end
end Mine
end
section
open PySem PySem.W PyProof.Rows PySem.Calls
set_option Elab.async false
set_option maxRecDepth 100000
set_option maxHeartbeats 1000000
set_option linter.unusedVariables false
namespace Mine
theorem fn_run {w : World} {h : Heap} (X : TopIn w h) : FnAt w h 110 109 (Str.ofString "_law_run") 32 pmL :=
  ⟨⟨_, top_get X (by kernel_rfl), by kernel_rfl⟩, cd_of (w := w) (top_get X (by kernel_rfl)) (by kernel_rfl) (by kernel_rfl)⟩
/-- a call through the class K -/
theorem callWith_key {w : World} {A : Around} {E : Value → Shared → Prop} {s : Shared} {h₀ : Heap} {env : Env} {pos : Pos} {e : Expr} {rest : List Expr} {Q : Value → Shared → Prop} {kc N md f0 : Addr} (X : KNew h₀ kc N md f0)
    (h : wpAny (model prog w) A (spliced (backTo pos (starEach (e :: rest) env))) (fun vs s₁ => Keep h₀ s₁.heap ∧ wpAny (model prog w) A (call (.ref kc) vs) Q E s₁) E s)
    (he : starEach (e :: rest) env = (false, eval e env) :: starEach rest env := by rfl)
    (hplain : (backTo pos (starEach rest env)).any (·.1) = false := by rfl) :
    wpAny (model prog w) A (callWith pos (.ref kc) [] (backTo pos (starEach (e :: rest) env)) []) Q E s := by
  rw [he] at h ⊢
  have hst : ((backTo pos ((false, eval e env) :: starEach rest env)).any (fun x => x.fst) || ([] : List (Option Str × Sem Value)).any fun x => x.fst.isNone) = false := by
    show ((false || (backTo pos (starEach rest env)).any (·.1)) || false) = false
    rw [hplain]; rfl
  unfold callWith
  refine wpAny_bind (wpAny_holding (Calls.evalArgs_plain (wpAny_mono h (fun vs s₁ h₁ => ?_) fun _ _ x => x)))
  obtain ⟨hh, g, d, t, os⟩ := s₁
  obtain ⟨nm, q, bs, hdct, sub, col, dd, k0, k1, k2, k3, k5, hC⟩ := (X.keep h₁.1).cls
  have f1 := tc_lookup
  have hT : (⟨hh, g, d, t, os⟩ : Shared).TypeIs (.ref kc) "type" := ⟨_, hC, rfl⟩
  refine wpAny_bind (wpAny_standAt ?_)
  show wpAny _ _ (keeperOf (.ref kc) >>= _) _ _ _
  unfold keeperOf specialOf
  repeat (any_goals (first | assumption | with_reducible refine wpAny_loadPart_at hC ?_ | with_reducible refine wpAny_load' hC ?_ | wp_step))
  rw [if_pos (by rfl), hst]
  show wpAny _ _ (call (.ref kc) vs [] >>= fun r => do holding [r] point; pure r) _ _ _
  exact wpAny_bind (wpAny_mono h₁.2 (fun r s' hr => wpAny_bind (wpAny_holding (wpAny_point (wpAny_pure hr)))) fun _ _ x => x)
theorem callWith_def0 {M : Model} {A : Around} {E : Value → Shared → Prop} {s : Shared} {env : Env} {pos : Pos} {f : Addr} {o : Obj} {fd : FuncData} {Q : Value → Shared → Prop} (hdat : o.data = .func fd) (ho : s.heap.get? f = some o)
    (h : wpAny M A (call (.ref f) []) Q E s) : wpAny M A (callWith pos (.ref f) [] (backTo pos (starEach [] env)) []) Q E s :=
  callWith_function (o := o) (fd := fd) (evalArgs_nil3 ⟨⟨ho, hdat⟩, h⟩)
/-! what the network does to a row -/
def stepV (ds : List Int) (lo hi : Nat) : List Int := (ds.set lo (min (ds.getD lo 0) (ds.getD hi 0))).set hi (max (ds.getD lo 0) (ds.getD hi 0))
def runV (ds : List Int) (net : List Joint) : List Int := net.foldl (fun ds j => stepV ds j.lo j.hi) ds
theorem stepV_length (ds : List Int) (a b : Nat) : (stepV ds a b).length = ds.length := by simp [stepV]
theorem runV_length (net : List Joint) : ∀ (ds : List Int), (runV ds net).length = ds.length := by
  unfold runV
  induction net with
  | nil => intro ds; rfl
  | cons j net ih => intro ds; rw [List.foldl_cons, ih, stepV_length]
theorem runV_take {ds : List Int} {net : List Joint} {i : Nat} {j : Joint} (hj : net[i]? = some j) : runV ds (net.take (i + 1)) = stepV (runV ds (net.take i)) j.lo j.hi := by
  rw [List.take_add_one, hj]
  simp [runV]
/-- all that _law_run leans on -/
structure RunB (w : World) (g : Heap) (nl kc : Addr) (net : List Joint) (above : Int) : Prop where
  top : TopIn w g
  nat : NetAt g net nl
  ok : ∀ j ∈ net, j.ok
  len : net.length ≤ 1000
  key : ∃ N md cm fm ca fs f0 ta, KAt g kc N md cm fs ∧ KNew g kc N md f0 ∧ g.IsCell cm (some (.ref fm)) ∧ CmpAt g ca fm ∧ g.IsCell ca (some (.int above ta))
  a0 : 0 ≤ above
  a1 : above < 2 ^ 60
theorem RunB.keep {w : World} {g h : Heap} {nl kc : Addr} {net : List Joint} {above : Int} (B : RunB w g nl kc net above) (k : Keep g h) : RunB w h nl kc net above := by
  obtain ⟨a, b, c, d, ⟨N, md, cm, fm, ca, fs, f0, ta, e1, e2, e3, e4, e5⟩, f, i⟩ := B
  exact ⟨a.keep k, b.keep k, c, d, ⟨N, md, cm, fm, ca, fs, f0, ta, e1.keep k, e2.keep k, cell_keep e3 k, e4.keep k, cell_keep e5 k⟩, f, i⟩
/-- a pair of the list lying, above b -/
def PairAt (b c : Nat) (H : Heap) (kc : Addr) (v : Int) (y : Value) : Prop :=
  ∃ T x tp u t, y = .ref T ∧ (@LE.le Nat _ b T ∧ @LT.lt Nat _ T c) ∧ (@LE.le Nat _ b x ∧ @LT.lt Nat _ x c) ∧ (@LE.le Nat _ b tp ∧ @LT.lt Nat _ tp c) ∧ H.IsTuple T #[.ref x, .ref tp] ∧ KInst H kc x (.ref tp) ∧ H.IsTuple tp #[u, .int v t]
def LyAt (b c : Nat) (H : Heap) (kc : Addr) (vals : List Int) (ys : List Value) : Prop := ys.length = vals.length ∧ ∀ (j : Nat) (y : Value), ys[j]? = some y → PairAt b c H kc (vals.getD j 0) y
theorem PairAt.keep {b c : Nat} {H H' : Heap} {kc : Addr} {v : Int} {y : Value} (P : PairAt b c H kc v y) (k : Keep H H') : PairAt b c H' kc v y := by
  obtain ⟨T, x, tp, u, t, e, b1, b2, b3, h1, h2, h3⟩ := P
  exact ⟨T, x, tp, u, t, e, b1, b2, b3, h1.at fun o q => k _ o q, h2.keep k, h3.at fun o q => k _ o q⟩
theorem PairAt.off {b c : Nat} {H H' : Heap} {kc : Addr} {v : Int} {y : Value} {D : Addr} {items : Array Value} (P : PairAt b c H kc v y) (hD : H.IsList D items) {L : Addr} (hL : @LT.lt Nat _ L b) (k : KeepOff [L, D] H H') : PairAt b c H' kc v y := by
  obtain ⟨T, x, tp, u, t, e, b1, b2, b3, h1, h2, h3⟩ := P
  obtain ⟨oD, hoD, hcD, _⟩ := hD
  have tup : ∀ {a : Addr} {it : Array Value}, @LE.le Nat _ b a → H.IsTuple a it → a ∉ [L, D] := by
    rintro a it hb ⟨o, ho, hc, _⟩ hm
    rcases List.mem_cons.mp hm with q | q
    · have : @LE.le Nat _ b L := q ▸ hb
      omega
    · rw [List.mem_singleton.mp q, hoD] at ho
      cases ho
      exact ty_ne (hcD.symm.trans hc) (by decide)
  have hx : x ∉ [L, D] := by
    obtain ⟨o, ho, hc, _⟩ := h2
    intro hm
    rcases List.mem_cons.mp hm with q | q
    · have : @LE.le Nat _ b L := q ▸ b2.1
      omega
    · rw [List.mem_singleton.mp q, hoD] at ho
      cases ho
      rw [hcD] at hc
      cases hc
  refine ⟨T, x, tp, u, t, e, b1, b2, b3, h1.at fun o q => k _ o (tup b1.1 h1) q, ?_, h3.at fun o q => k _ o (tup b3.1 h3) q⟩
  obtain ⟨o, ho, r⟩ := h2
  exact ⟨o, k _ _ hx ho, r⟩
theorem PairAt.above {b c : Nat} {H H' : Heap} {kc : Addr} {v : Int} {y : Value} (P : PairAt b c H kc v y) {I : Addr} (hI : @LE.le Nat _ c I) (k : KeepOff [I] H H') : PairAt b c H' kc v y := by
  obtain ⟨T, x, tp, u, t, e, b1, b2, b3, h1, h2, h3⟩ := P
  have ne : ∀ {a : Addr}, @LT.lt Nat _ a c → a ∉ [I] := fun ha hm => by
    have : @LT.lt Nat _ I c := List.mem_singleton.mp hm ▸ ha
    omega
  refine ⟨T, x, tp, u, t, e, b1, b2, b3, h1.at fun o q => k _ o (ne b1.2) q, ?_, h3.at fun o q => k _ o (ne b3.2) q⟩
  obtain ⟨o, ho, r⟩ := h2
  exact ⟨o, k _ _ (ne b2.2) ho, r⟩
theorem LyAt.keep {b c : Nat} {H H' : Heap} {kc : Addr} {vals : List Int} {ys : List Value} (P : LyAt b c H kc vals ys) (k : Keep H H') : LyAt b c H' kc vals ys := ⟨P.1, fun j y e => (P.2 j y e).keep k⟩
theorem LyAt.above {b c : Nat} {H H' : Heap} {kc : Addr} {vals : List Int} {ys : List Value} (P : LyAt b c H kc vals ys) {I : Addr} (hI : @LE.le Nat _ c I) (k : KeepOff [I] H H') : LyAt b c H' kc vals ys := ⟨P.1, fun j y e => (P.2 j y e).above hI k⟩
theorem LyAt.off {b c : Nat} {H H' : Heap} {kc : Addr} {vals : List Int} {ys : List Value} {D : Addr} {items : Array Value} (P : LyAt b c H kc vals ys) (hD : H.IsList D items) {L : Addr} (hL : @LT.lt Nat _ L b) (k : KeepOff [L, D] H H') : LyAt b c H' kc vals ys := ⟨P.1, fun j y e => (P.2 j y e).off hD hL k⟩
theorem LyAt.swap {b c : Nat} {H : Heap} {kc : Addr} {vals : List Int} {ys : List Value} {lo hi : Nat} {y1 y2 : Value} (P : LyAt b c H kc vals ys) (h1 : ys[lo]? = some y1) (h2 : ys[hi]? = some y2) (hle : vals.getD hi 0 ≤ vals.getD lo 0) (hne : lo ≠ hi) :
    LyAt b c H kc (stepV vals lo hi) ((ys.set lo y2).set hi y1) := by
  have hl : lo < ys.length := (List.getElem?_eq_some_iff.mp h1).1
  have hh : hi < ys.length := (List.getElem?_eq_some_iff.mp h2).1
  have hlen := P.1
  refine ⟨by simp [stepV_length, hlen], fun j y e => ?_⟩
  have emin : min (vals.getD lo 0) (vals.getD hi 0) = vals.getD hi 0 := Int.min_eq_right hle
  have emax : max (vals.getD lo 0) (vals.getD hi 0) = vals.getD lo 0 := Int.max_eq_left hle
  unfold stepV
  rw [emin, emax]
  rw [List.getElem?_set] at e
  by_cases q : hi = j
  · subst q
    rw [if_pos rfl, if_pos (by simpa using hh)] at e
    cases e
    rw [List.getD_eq_getElem?_getD, List.getElem?_set, if_pos rfl, if_pos (by simp; omega)]
    simpa using P.2 lo _ h1
  · rw [if_neg q] at e
    rw [List.getD_eq_getElem?_getD, List.getElem?_set, if_neg q]
    rw [List.getElem?_set] at e
    by_cases q2 : lo = j
    · subst q2
      rw [if_pos rfl, if_pos hl] at e
      cases e
      rw [List.getElem?_set, if_pos rfl, if_pos (by omega)]
      simpa using P.2 hi _ h2
    · rw [if_neg q2] at e
      rw [List.getElem?_set, if_neg q2, ← List.getD_eq_getElem?_getD]
      exact P.2 j y e
theorem stepV_same {vals : List Int} {lo hi : Nat} (hle : vals.getD lo 0 ≤ vals.getD hi 0) : stepV vals lo hi = vals := by
  have emin : min (vals.getD lo 0) (vals.getD hi 0) = vals.getD lo 0 := Int.min_eq_left hle
  have emax : max (vals.getD lo 0) (vals.getD hi 0) = vals.getD hi 0 := Int.max_eq_right hle
  unfold stepV
  rw [emin, emax]
  apply List.ext_getElem?
  intro j
  have key : ∀ (l : List Int) (k : Nat), l.length = vals.length → (∀ j : Nat, l[j]? = vals[j]?) → ∀ j : Nat, (l.set k (vals.getD k 0))[j]? = vals[j]? := by
    intro l k hlen hl j
    rw [List.getElem?_set]
    by_cases q : k = j
    · subst q
      rw [if_pos rfl]
      split
      · rename_i hlt
        rw [List.getD_eq_getElem?_getD, List.getElem?_eq_getElem (by omega)]
        rfl
      · rename_i hlt
        rw [List.getElem?_eq_none (by omega)]
    · rw [if_neg q, hl]
  exact key _ _ (by simp) (key vals lo rfl fun _ => rfl) j
end Mine
end
section
open PySem PySem.W PyProof.Rows PySem.Calls
set_option Elab.async false
set_option maxRecDepth 100000
set_option maxHeartbeats 1000000
set_option linter.unusedVariables false
namespace Mine
abbrev envR (L : Addr) : Env := envFC 110 109 (Str.ofString "_law_run") 32 pmL L
def runFor : Stmt := stmtAt 2 (bodyOf (top 32))
theorem both_of {w : World} {z : Shared} {H : Heap} {nl kc : Addr} {net : List Joint} {above : Int} (B : RunB w H nl kc net above) {x y p q : Addr} {u v : Value} {a b : Int} {s t : Tok}
    (Ix : KInst H kc x (.ref p)) (Iy : KInst H kc y (.ref q)) (hp : H.IsTuple p #[u, .int a s]) (hq : H.IsTuple q #[v, .int b t]) : Both w z H kc x y ((a - b) * (above + 1)) := by
  obtain ⟨N, md, cm, fm, ca, fs, f0, ta, e1, e2, e3, e4, e5⟩ := B.key
  have hf : ∃ o fd, H.get? fm = some o ∧ o.data = .func fd := by
    obtain ⟨o, c, md', ct, ho, hd, _⟩ := e4
    exact ⟨o, _, ho, hd⟩
  have c1 := cmpOk_of (z := z) B.top e4 e5 hp hq B.a0 B.a1
  have c2 := cmpOk_of (z := z) B.top e4 e5 hq hp B.a0 B.a1
  rw [show (b - a) * (above + 1) = -((a - b) * (above + 1)) by rw [← Int.neg_mul, Int.neg_sub]] at c2
  exact ⟨⟨N, md, cm, fm, p, q, fs, e1, e3, hf, Ix, Iy, c1⟩, ⟨N, md, cm, fm, q, p, fs, e1, e3, hf, Iy, Ix, c2⟩⟩
/-- one turn of the loop over the network -/
theorem run_turn {w : World} {A : Around} {z : Shared} {H : Heap} {tk : Nat} {Q : Flow → Shared → Prop} {E : Value → Shared → Prop} {nl kc L Dl W : Addr} {net : List Joint} {above : Int} {m : Str → Option Value} {vals : List Int} {ys : List Value} {fs : List Addr} {j : Joint} {t1 t2 t3 : Tok} {b c : Nat}
    (B : RunB w H nl kc net above) (hA : A.depth + 2 < recursionLimit) (hu : A.units + 9 < cLine) (hh : A.handled = none) (jok : j.ok)
    (hns : H.Ns L m) (mW : m (Str.ofString "ways") = some (.ref W)) (mD : m (Str.ofString "lying") = some (.ref Dl)) (m1 : m (Str.ofString "low") = some (.int j.lo t1)) (m2 : m (Str.ofString "high") = some (.int j.hi t2)) (m3 : m (Str.ofString "way") = some (.int j.way t3))
    (hW : H.IsList W (fs.map Value.ref).toArray) (hfs : fs.length = 10) (hways : ∀ (i : Nat) (f : Addr), fs[i]? = some f → WayAt H i f)
    (hD : H.IsList Dl ys.toArray) (hy : LyAt b c H kc vals ys) (hv : vals.length = 4) (hL : @LT.lt Nat _ L b)
    (k : ∀ H' tk' ys', KeepOff [Dl] H H' → H'.IsList Dl ys'.toArray → LyAt b c H' kc (stepV vals j.lo j.hi) ys' → Q .next (St z H' tk')) :
    wpAny (model prog w) A (exec (stmtAt 0 (forBody runFor)) (envR L)) Q E (St z H tk) := by
  obtain ⟨hlo, hhi, hne, hway⟩ := jok
  have hlen : ys.length = 4 := hy.1.trans hv
  obtain ⟨f, hf⟩ : ∃ f, fs[j.way]? = some f := ⟨fs[j.way], by simp⟩
  obtain ⟨y1, hy1⟩ : ∃ y, ys[j.lo]? = some y := ⟨ys[j.lo], by simp⟩
  obtain ⟨y2, hy2⟩ : ∃ y, ys[j.hi]? = some y := ⟨ys[j.hi], by simp⟩
  obtain ⟨T1, x1, p1, u1, s1, rfl, a1, a2, a3, hT1, hI1, hp1⟩ := hy.2 _ _ hy1
  obtain ⟨T2, x2, p2, u2, s2, rfl, b1, b2, b3, hT2, hI2, hp2⟩ := hy.2 _ _ hy2
  have D := both_of (z := z) B hI1 hI2 hp1 hp2
  have Wf := hways _ _ hf
  obtain ⟨of, cf, mf, ctf, hof, hdf, hrf⟩ := id Wf
  have evl : ∀ {A : Around} {x : Str} {px ps pos : Pos} {i : Nat} {t : Tok} {y : Value} {H' : Heap} {ys' : List Value}, H'.Ns L m → H'.IsList Dl ys'.toArray → m x = some (.int i t) → i < 4 → ys'[i]? = some y → (envR L).kindOf x = some .local → (x == ("__debug__" : Str)) = false → Ev w A (envR L) z H' (.Subscript (.Name (Str.ofString "lying") px) (.Name x ps) pos) (· = y) :=
    fun n' d' hm hi hy' hk hd => ev_item (ev_loc n' mD) (ev_locI n' hm rfl hk hd) d' (by omega) (by omega) (by simpa using hy')
  refine wpAny_If (wpAny_isTrue_value (Call_ (Ev.use (ev_item (lst := W) (ev_loc (env := envR L) hns mW) (ev_locI hns m3) hW (by omega) (by omega) (y := .ref f) (by simp [hf])) fun v tk1 hv => ?_)) rfl)
  subst hv
  refine PyProof.Rows.callWith_def hdf (spliced_more (Ev.use (ev_tup (items := [.ref x1, .ref p1]) (j := 0) (evl hns hD m1 hlo hy1 rfl (by decide)) ev_int hT1 (by decide) (by decide) rfl rfl) fun v tk2 hv => ?_))
  subst hv
  refine spliced_more (Ev.use (ev_tup (items := [.ref x2, .ref p2]) (j := 0) (evl hns hD m2 hhi hy2 rfl (by decide)) ev_int hT2 (by decide) (by decide) rfl rfl) fun v tk3 hv => ?_)
  subst hv
  refine spliced_none ⟨hof, ?_⟩
  refine way_call hway B.top hA hu hh D Wf fun h₁ tk4 bb k₁ hs => wpAny_truthy_bool ?_
  have pos1 : 0 < above + 1 := by have := B.a0; omega
  cases bb with
  | false =>
    simp only [Bool.false_eq_true, if_false]
    refine wpAny_execs_nil (k h₁ _ ys (Keep.off k₁) (hD.at fun o e => k₁ _ o e) ?_)
    have : vals.getD j.lo 0 ≤ vals.getD j.hi 0 := by
      refine Int.not_lt.mp fun hlt => ?_
      have := hs.1 (Int.mul_pos (by omega) pos1)
      cases this
    rw [stepV_same this]
    exact hy.keep k₁
  | true =>
    simp only [if_true]
    have hle : vals.getD j.hi 0 ≤ vals.getD j.lo 0 := by
      refine Int.not_lt.mp fun hlt => ?_
      have := hs.2 (Int.mul_neg_of_neg_of_pos (by omega) pos1)
      cases this
    have n₁ : h₁.Ns L m := hns.keeps k₁
    have D₁ : h₁.IsList Dl ys.toArray := hD.at fun o e => k₁ _ o e
    refine wpAny_execs_cons (Assign_Tuple (wpAny_Tuple_spliced (spliced_more (Ev.use (evl n₁ D₁ m2 hhi hy2 rfl (by decide)) fun v tk5 hv => ?_))))
    subst hv
    refine spliced_more (Ev.use (evl n₁ D₁ m1 hlo hy1 rfl (by decide)) fun v tk6 hv => ?_)
    subst hv
    refine spliced_none ⟨Nat.le_of_ble_eq_true rfl, ?_⟩
    refine wpAny_assign_Tuple (s := St z (h₁.push _) tk6) hh (items := #[.ref T2, .ref T1]) ⟨_, Heap.get?_push_size _ rfl, rfl, 0, rfl⟩ rfl rfl fun h₂ hx₂ => ?_
    have k₂ : Keep h₁ h₂ := fun b o e => KeepOff.of_ext hx₂ b o (Heap.get?_push_of_some _ e)
    have n₂ := n₁.keeps k₂
    have D₂ : h₂.IsList Dl ys.toArray := D₁.at fun o e => k₂ _ o e
    have hLD : Dl ≠ L := ne_list_ns hD hns
    refine wpAny_assignInOrder_more (kas_sub (Ev.use (z := z) (ev_loc n₂ mD) fun v tk7 hv => ?_))
    subst hv
    refine Ev.use (ev_locI n₂ m1) fun v tk8 hv => ?_
    obtain ⟨t8, rfl⟩ := hv
    refine wpAny_setItem_list (s := St z h₂ tk8) D₂ (by omega) (by omega) (by simp; omega) fun h₃ D₃ s₃ => ?_
    have n₃ := n₂.sameBut s₃ (Ne.symm hLD)
    refine wpAny_assignInOrder_more (kas_sub (Ev.use (z := z) (ev_loc n₃ mD) fun v tk9 hv => ?_))
    subst hv
    refine Ev.use (ev_locI n₃ m2) fun v tk10 hv => ?_
    obtain ⟨t10, rfl⟩ := hv
    refine wpAny_setItem_list (s := St z h₃ tk10) D₃ (by omega) (by omega) (by simp; omega) fun h₄ D₄ s₄ => ?_
    have kD : KeepOff [Dl] H h₄ := fun b o hb e => s₄.extBut b o (by simpa using hb) (s₃.extBut b o (by simpa using hb) (k₂ b o (k₁ b o e)))
    refine wpAny_assignInOrder_none (wpAny_execs_nil (k h₄ _ ((ys.set j.lo (.ref T2)).set j.hi (.ref T1)) kD (by simpa using D₄) ?_))
    have L4 : LyAt b c h₄ kc vals ys := hy.off hD hL fun p o hp e => kD p o (fun q => hp (by simp at q ⊢; exact .inr q)) e
    exact L4.swap hy1 hy2 hle hne
end Mine
end
section
open PySem PySem.W PyProof.Rows PySem.Calls
set_option Elab.async false
set_option maxRecDepth 100000
set_option maxHeartbeats 1000000
set_option linter.unusedVariables false
namespace Mine
theorem range_getD (l : List Int) : (List.range l.length).map (fun j => l.getD j 0) = l := by
  apply List.ext_getElem?
  intro j
  by_cases h : j < l.length
  · simp [h]
  · simp [h]
theorem list_ne100 {h : Heap} {cs : List Addr} {l : Addr} {items : Array Value} (T : Tab h cs) (x : h.IsList l items) : l ≠ 100 := by
  rintro rfl
  obtain ⟨o, ho, hc, _⟩ := x
  rw [T.1] at ho
  cases ho
  cases hc
theorem Tab.keep {h h' : Heap} {cs : List Addr} (T : Tab h cs) (k : Keep h h') : Tab h' cs := ⟨k _ _ T.1, fun j c hj => ⟨(T.2 j c hj).1, rec_off (Keep.off k) (T.2 j c hj).1 (T.2 j c hj).2⟩⟩
theorem Tab.off {h h' : Heap} {cs wr : List Addr} (T : Tab h cs) (k : KeepOff wr h h') (h1 : (100 : Nat) ∉ wr) (h2 : ∀ a ∈ wr, ∀ c ∈ cs, c ≠ a) : Tab h' cs := by
  refine ⟨k _ _ h1 T.1, fun j c hj => ⟨(T.2 j c hj).1, ?_⟩⟩
  obtain ⟨c', o, vs, t, e, ho, r⟩ := (T.2 j c hj).2
  cases e
  exact ⟨c, o, vs, t, rfl, k _ _ (fun q => h2 _ q c (List.mem_of_getElem? hj) rfl) ho, r⟩
theorem rec_ne_ns {h : Heap} {c L : Addr} {q : Str} {m : Str → Option Value} (x : h.CodeRec (.ref c) q) (n : h.Ns L m) : c ≠ L := by
  rintro rfl
  obtain ⟨c', oc, vs', t', e, hoc, hdc, _⟩ := x
  cases e
  obtain ⟨os, ess, eps, hos, hds, _⟩ := n
  rw [hos] at hoc; cases hoc; rw [hds] at hdc; cases hdc
theorem rec_ne_list {h : Heap} {c L : Addr} {q : Str} {items : Array Value} (x : h.CodeRec (.ref c) q) (n : h.IsList L items) : c ≠ L := by
  rintro rfl
  obtain ⟨c', oc, vs', t', e, hoc, hdc, _⟩ := x
  cases e
  obtain ⟨os, hos, _, n, hds⟩ := n
  rw [hos] at hoc; cases hoc; rw [hds] at hdc; cases hdc
theorem rec_keep {h h' : Heap} {wr : List Addr} {c : Addr} {q : Str} (x : h.CodeRec (.ref c) q) (k : KeepOff wr h h') (hc : c ∉ wr) : h'.CodeRec (.ref c) q := by
  obtain ⟨c', oc, vs', t', e, hoc, r⟩ := x
  cases e
  exact ⟨c, oc, vs', t', rfl, k _ _ hc hoc, r⟩
theorem fn_ne_ns {h : Heap} {f L : Addr} {o : Obj} {fd : FuncData} {m : Str → Option Value} (ho : h.get? f = some o) (hd : o.data = .func fd) (n : h.Ns L m) : f ≠ L := by
  rintro rfl
  obtain ⟨os, ess, eps, hos, hds, _⟩ := n
  rw [hos] at ho; cases ho; rw [hds] at hd; cases hd
theorem fn_ne_list {h : Heap} {f L : Addr} {o : Obj} {fd : FuncData} {items : Array Value} (ho : h.get? f = some o) (hd : o.data = .func fd) (n : h.IsList L items) : f ≠ L := by
  rintro rfl
  obtain ⟨os, hos, _, n, hds⟩ := n
  rw [hos] at ho; cases ho; rw [hds] at hd; cases hd
/-- the ways stand where neither a frame nor a list is turned -/
theorem WayAt.off {h h' : Heap} {wr : List Addr} {i : Nat} {f : Addr} (W : WayAt h i f) (k : KeepOff wr h h') (hf : ∀ a o fd, h.get? a = some o → o.data = .func fd → a ∉ wr) (hc : ∀ c q, h.CodeRec (.ref c) q → c ∉ wr) : WayAt h' i f := by
  obtain ⟨o, c, md, ct, ho, hd, hr⟩ := W
  exact ⟨o, c, md, ct, k _ _ (hf _ _ _ ho hd) ho, hd, rec_keep hr k (hc _ _ hr)⟩
theorem Tab.off' {h h' : Heap} {cs wr : List Addr} (T : Tab h cs) (k : KeepOff wr h h') (h1 : (100 : Nat) ∉ wr) (hc : ∀ c q, h.CodeRec (.ref c) q → c ∉ wr) : Tab h' cs :=
  T.off k h1 fun a ha c hm e => by
    obtain ⟨j, hj⟩ := List.mem_iff_getElem?.mp hm
    exact hc c _ (T.2 j c hj).2 (e ▸ ha)
theorem above_ne {b i : Nat} (h : @LT.lt Nat _ b i) : b ∉ [i + 1, i] := not_cons (Nat.ne_of_lt (Nat.lt_succ_of_lt h)) (not_mem1 (Nat.ne_of_lt h))
def RPair (kc : Addr) (ds : List Int) (j : Nat) (y : Value) (as : List Addr) (h : Heap) : Prop :=
  ∃ T x tp u t, as = [T, x, tp] ∧ y = .ref T ∧ h.IsTuple T #[.ref x, .ref tp] ∧ KInst h kc x (.ref tp) ∧ h.IsTuple tp #[u, .int (ds.getD j 0) t]
theorem RPair.frame {kc : Addr} {ds : List Int} : ∀ j y as h h', RPair kc ds j y as h → (∀ a ∈ as, ∀ o, h.get? a = some o → h'.get? a = some o) → RPair kc ds j y as h' := by
  rintro j y as h h' ⟨T, x, tp, u, t, rfl, rfl, h1, ⟨o, ho, r⟩, h3⟩ k
  exact ⟨T, x, tp, u, t, rfl, rfl, h1.at fun o q => k T (by simp) o q, ⟨o, k x (by simp) _ ho, r⟩, h3.at fun o q => k tp (by simp) o q⟩
/-- _law_run(row, network, key) -/
theorem run_call {w : World} {A : Around} {z : Shared} {g h : Heap} {tk : Nat} {Q : Value → Shared → Prop} {E : Value → Shared → Prop} {nl kc rl : Addr} {net : List Joint} {above : Int} {cs : List Addr} {vs : List Value} {ds : List Int}
    (B : RunB w g nl kc net above) (hg : g.get? 100 = none) (kg : Keep g h) (T : Tab h cs) (hA : A.depth + 3 < recursionLimit) (hu : A.units + 12 < cLine) (hh : A.handled = none) (hrow : h.IsList rl vs.toArray) (hi : IntsAre vs ds) (hn : ds.length = 4)
    (k : ∀ D h' tk' cs', KeepOff [100] h h' → h.objs.size ≤ D → Tab h' cs' → IntList h' (runV ds net) D → Q (.ref D) (St z h' tk')) :
    wpAny (model prog w) A (call (.ref 110) [.ref rl, .ref nl, .ref kc]) Q E (St z h tk) := by
  have X : TopIn w h := B.top.keep kg
  have h140 := X.size
  refine call_topC X (fn_run X) (by omega) (binds := [(Str.ofString "row", .ref rl), (Str.ofString "network", .ref nl), (Str.ofString "key", .ref kc)]) (by rfl) (by rfl) fun h₁ tk₁ hns hk hcell => ?_
  have X₁ := X.keep hk
  have T₁ := T.keep hk
  have hckey : h₁.IsCell (h.objs.size + 1) (some (.ref kc)) := hcell (Str.ofString "key") (h.objs.size + 1) (by rfl)
  have hL1 : @LT.lt Nat _ h.objs.size h₁.objs.size := by obtain ⟨_, _, _, ho, _⟩ := hns; exact Heap.lt_size ho
  -- ways = _law_ways()
  refine wpAny_execs_cons (wpAny_Assign_Name (Call_ (Ev.use (ev_glob X₁ (v := .ref 105) (by kernel_rfl)) fun v tk2 hv => ?_)))
  subst hv
  obtain ⟨ow, how, hdw⟩ := (fn_ways X₁).fn
  refine callWith_def0 hdw how (ways_call (A := A.deeper _) X₁ (show A.depth + 1 < recursionLimit by omega) T₁ fun W h₂ tk3 cs₂ fs k₂ hWsz T₂ hW hfs hways => ?_)
  have hL100 : h.objs.size ≠ (100 : Nat) := by omega
  have ne100 : ∀ {a : Nat}, a ≠ 100 → a ∉ [(100 : Addr)] := fun q r => q (List.mem_singleton.mp r)
  refine store_loc (hns.at' fun o e => k₂ _ o (ne100 hL100) e) fun h₃ tk4 n₃ s₃ => ?_
  replace s₃ : Heap.SameBut h.objs.size h₂ h₃ := s₃
  replace n₃ : h₃.Ns h.objs.size (put (bindL (envR h.objs.size).kindOf [(Str.ofString "row", .ref rl), (Str.ofString "network", .ref nl), (Str.ofString "key", .ref kc)] fun _ => none) (Str.ofString "ways") (.ref W)) := n₃
  have hLW : h.objs.size ≠ W := by
    have : @LE.le Nat _ h₁.objs.size W := hWsz
    exact Nat.ne_of_lt (Nat.lt_of_lt_of_le hL1 this)
  have W₃ : h₃.IsList W (fs.map Value.ref).toArray := hW.extBut s₃.extBut (Ne.symm hLW)
  have k03 : KeepOff [100] h h₃ := fun b o hb e => s₃.extBut b o (Nat.ne_of_lt (Heap.lt_size e)) (k₂ b o hb (hk b o e))
  have k13 : KeepOff [h.objs.size, 100] h₁ h₃ := fun b o hb e => s₃.extBut b o (fun q => hb (q ▸ .head _)) (k₂ b o (fun q => hb (.tail _ q)) e)
  have kg3 : Keep g h₃ := fun b o e => k03 b o (ne100 (fun q => by rw [q, hg] at e; cases e)) (kg b o e)
  have B₃ := B.keep kg3
  have X₃ := B₃.top
  have n₂ := hns.at' fun o e => k₂ _ o (ne100 hL100) e
  have ways₃ : ∀ (i : Nat) (f : Addr), fs[i]? = some f → WayAt h₃ i f := fun i f hf => by
    obtain ⟨_, o, c, md, ct, _, ho, hd, hr⟩ := hways i f hf
    exact WayAt.off ⟨o, c, md, ct, ho, hd, hr⟩ (KeepOff.of_same s₃) (fun a o fd e d => not_mem1 (fn_ne_ns e d n₂)) fun c q r => not_mem1 (rec_ne_ns r n₂)
  have T₃ : Tab h₃ cs₂ := T₂.off' (KeepOff.of_same s₃) (not_mem1 (Ne.symm hL100)) fun c q r => not_mem1 (rec_ne_ns r n₂)
  have hrl : rl ≠ 100 := list_ne100 T hrow
  have row₃ : h₃.IsList rl vs.toArray := hrow.at fun o e => k03 _ o (ne100 hrl) e
  have hcell₃ : h₃.IsCell (h.objs.size + 1) (some (.ref kc)) := by
    obtain ⟨o, ho, r⟩ := hckey
    exact ⟨o, k13 _ _ (by simp; exact fun q => absurd q (by omega)) ho, r⟩
  have hLs3 : @LT.lt Nat _ h.objs.size h₃.objs.size := by obtain ⟨_, _, _, ho, _⟩ := n₃; exact Heap.lt_size ho
  obtain ⟨N, md, cm, fm, ca, fs', f0, ta, KA, KN, _⟩ := B₃.key
  -- lying = [(key(thing), thing) for thing in enumerate(row)]
  refine wpAny_execs_cons (comp_use (cl := [(Str.ofString "key", h.objs.size + 1)]) (RPair kc ds) RPair.frame (by rfl) (by decide) (by rfl) (by decide) (by rfl) ?_)
  refine Call_ (Ev.use (ev_built X₃ (v := .type "enumerate") (by kernel_rfl) (by kernel_rfl)) fun v tk5 hv => ?_)
  subst hv
  refine PyProof.Rows.callWith_type1 (spliced_more (Ev.use (ev_loc n₃ rfl) fun v tk6 hv => ?_))
  subst hv
  refine spliced_none (enumerate_list row₃ fun h₄ he hit hsz k₄ => ?_)
  have hrl3 : @LT.lt Nat _ rl h₃.objs.size := by obtain ⟨_, ho, _⟩ := row₃; exact Heap.lt_size ho
  generalize hitE : h₃.objs.size = it at *
  have Wt := It.enum (w := w) (A := A.deeper (envR h.objs.size)) (z := z) (Draws.list (prog := prog) (w := w) (A := (A.deeper (envR h.objs.size)).in1) hh it rl (by (first | omega | (dsimp only [PySem.Addr] at *; omega))) vs.toArray) (e := it + 1) (by (first | omega | (dsimp only [PySem.Addr] at *; omega))) (by simp; (first | omega | (dsimp only [PySem.Addr] at *; omega))) (by simp)
  have S0 : EnumS h₄ (it + 1) it 0 ∧ h₄.IsListIter it rl 0 ∧ h₄.IsList rl vs.toArray := ⟨he, hit, row₃.at fun o e => k₄ _ o e⟩
  refine Wt.self 0 _ _ _ _ S0 ?_
  refine ⟨it + 1, _, _, _, _, _, h₄, _, rfl, rfl, Wt, by simp [hi.length, hn]; decide, S0, ?_, ?_, ?_⟩
  · intro b hb
    rw [hsz]
    rcases List.mem_cons.mp hb with e | hb
    · rw [e]; exact Nat.lt_succ_self (it + 1)
    · rcases List.mem_cons.mp hb with e | hb
      · rw [e]; exact Nat.lt_succ_of_lt (Nat.lt_succ_self it)
      · rw [List.mem_singleton.mp hb]; exact Nat.lt_succ_of_lt (Nat.lt_succ_of_lt hrl3)
  · rintro C i v as H tk' m' E' hi' hC ⟨Tp, t, x, rfl, rfl, hx, hTp⟩ has nC hm hkH
    have kgH : Keep g H := fun b o e => by
      have e4 := k₄ _ _ (kg3 b o e)
      exact hkH b o (above_ne (hitE ▸ lt_sz (kg3 b o e))) e4
    have k4H : KeepOff [it + 1, it] h₄ H := hkH
    have KNH := KN.keep (h' := h₄) k₄
    have KNH : KNew H kc N md f0 := by
      have hold : ∀ b o, h₃.get? b = some o → H.get? b = some o := fun b o e => hkH b o (above_ne (hitE ▸ lt_sz e)) (k₄ b o e)
      exact KN.keep hold
    have cellH : H.IsCell (h.objs.size + 1) (some (.ref kc)) := by
      obtain ⟨o, ho, r⟩ := hcell₃
      exact ⟨o, hkH _ _ (above_ne (hitE ▸ lt_sz ho)) (k₄ _ _ ho), r⟩
    refine wpAny_Tuple_spliced (spliced_more (Call_ (Ev.use (ev_cell (by rfl) cellH) fun v tk7 hv => ?_)))
    subst hv
    refine callWith_key KNH (spliced_more (Ev.use (ev_loc nC hm) fun v tk8 hv => ?_))
    subst hv
    refine spliced_none ⟨fun _ _ e => e, ?_⟩
    refine key_call (B.top.keep kgH) (show A.depth + 1 + 1 < recursionLimit by omega) KNH fun xk h₅ tk9 hxk I₅ k₅ => ?_
    refine spliced_more (Ev.use (ev_loc (nC.keeps k₅) hm) fun v tk10 hv => ?_)
    subst hv
    refine spliced_none ⟨Nat.le_of_ble_eq_true rfl, ?_⟩
    have kp : Keep h₅ (h₅.push { cls := .type "tuple", data := .seq #[.ref xk, .ref Tp] }) := fun b o e => Heap.get?_push_of_some _ e
    have hH5 : @LE.le Nat _ H.objs.size h₅.objs.size := by
      obtain ⟨_, ho, _⟩ := I₅
      exact Nat.le_of_lt (Nat.lt_of_le_of_lt hxk (Heap.lt_size ho))
    obtain ⟨tx, etx⟩ : ∃ tx, x = .int (ds.getD i 0) tx := by
      have hi4 : i < vs.length := by simpa using hi'
      obtain ⟨t', ht'⟩ := IntsAre_get hi (j := i) (by rw [← hi.length]; exact hi4)
      have hx' : vs[i]? = some x := by simpa using hx
      rw [ht'] at hx'
      exact ⟨t', (Option.some.inj hx').symm⟩
    subst etx
    refine ⟨_, tk10, [h₅.objs.size, xk, Tp], rfl, fun b o e => kp b o (k₅ b o e), ?_, h₅.objs.size, xk, Tp, _, _, rfl, rfl, ⟨_, Heap.get?_push_size _ rfl, rfl, 0, rfl⟩, I₅.keep kp, hTp.at fun o e => kp _ o (k₅ _ o e)⟩
    intro b hb
    simp at hb
    rcases hb with rfl | rfl | rfl
    · exact .inr hH5
    · exact .inr hxk
    · exact .inl (by simp)
  -- the loop
  refine ⟨_, n₃.at' fun o e => k₄ _ o e, above_ne hLs3, fun Dl h₅ tk5 ys hDl p₅ hys hyR n₅ k₅ => ?_⟩
  have hitD : @LT.lt Nat _ it Dl := Nat.lt_of_lt_of_le (Nat.lt_succ_of_lt (Nat.lt_succ_self it) : @LT.lt Nat _ it (it + 2)) (Nat.le_trans (Nat.le_of_eq hsz.symm) hDl)
  have hLDl : @LT.lt Nat _ h.objs.size Dl := Nat.lt_trans hLs3 hitD
  have hnm : vs.toArray.size = 4 := by simp [hi.length, hn]
  have k35 : KeepOff [h.objs.size] h₃ h₅ := fun b o hb e => k₅ b o (not_cons (fun q => hb (q ▸ .head _)) (above_ne (hitE ▸ lt_sz e))) (k₄ b o e)
  have kg5 : Keep g h₅ := fun b o e => k35 b o (not_mem1 (Nat.ne_of_lt (Heap.lt_size (kg b o e)))) (kg3 b o e)
  replace n₅ : h₅.Ns h.objs.size (put (put (bindL (envR h.objs.size).kindOf [(Str.ofString "row", .ref rl), (Str.ofString "network", .ref nl), (Str.ofString "key", .ref kc)] fun _ => none) (Str.ofString "ways") (.ref W)) (Str.ofString "lying") (.ref Dl)) := n₅
  have B₅ := B.keep kg5
  have X₅ := B₅.top
  have W₅ : h₅.IsList W (fs.map Value.ref).toArray := W₃.at fun o e => k35 _ o (not_mem1 (Ne.symm hLW)) e
  have ways₅ : ∀ (i : Nat) (f : Addr), fs[i]? = some f → WayAt h₅ i f := fun i f hf => (ways₃ i f hf).off k35 (fun a o fd e d => not_mem1 (fn_ne_ns e d n₃)) fun c q r => not_mem1 (rec_ne_ns r n₃)
  have T₅ : Tab h₅ cs₂ := T₃.off' k35 (not_mem1 (Ne.symm hL100)) fun c q r => not_mem1 (rec_ne_ns r n₃)
  have ly₅ : LyAt (it + 2) h₅.objs.size h₅ kc ds ys.toList := ⟨by simp [hys, hi.length], fun j y hj => by
    obtain ⟨as, has, Tq, xq, tq, uq, tt, rfl, rfl, r1, r2, r3⟩ := hyR j y (by simpa using hj)
    rw [hsz] at has
    have l1 : @LT.lt Nat _ Tq h₅.objs.size := by obtain ⟨_, ho, _⟩ := r1; exact Heap.lt_size ho
    have l2 : @LT.lt Nat _ xq h₅.objs.size := by obtain ⟨_, ho, _⟩ := r2; exact Heap.lt_size ho
    have l3 : @LT.lt Nat _ tq h₅.objs.size := by obtain ⟨_, ho, _⟩ := r3; exact Heap.lt_size ho
    exact ⟨Tq, xq, tq, uq, tt, rfl, ⟨has _ (by simp), l1⟩, ⟨has _ (by simp), l2⟩, ⟨has _ (by simp), l3⟩, r1, r2, r3⟩⟩
  have hDl5 : @LT.lt Nat _ Dl h₅.objs.size := by obtain ⟨_, ho⟩ := p₅; exact Heap.lt_size ho
  have hL5 : @LT.lt Nat _ h.objs.size h₅.objs.size := by obtain ⟨_, _, _, ho, _⟩ := n₅; exact Heap.lt_size ho
  refine wpAny_execs_cons (for_it (Ev.use (ev_loc n₅ rfl) fun v tk6 hv => ?_))
  subst hv
  obtain ⟨nvs, hnl, hnv, hjs⟩ := B₅.nat
  have hnl5 : @LT.lt Nat _ nl h₅.objs.size := by obtain ⟨_, ho, _⟩ := hnl; exact Heap.lt_size ho
  refine wpAny_pyIter_list (s := St z h₅ tk6) hnl ?_
  refine ⟨h₅.objs.size, [h₅.objs.size], [h₅.objs.size, nl], nvs.toArray.size, _, _, fun i H => KeepOff [h.objs.size, Dl] h₅ H ∧ ∃ m' ys', H.Ns h.objs.size m' ∧ m' (Str.ofString "ways") = some (.ref W) ∧ m' (Str.ofString "lying") = some (.ref Dl) ∧ H.IsList Dl ys'.toArray ∧ LyAt (it + 2) h₅.objs.size H kc (runV ds (net.take i)) ys',
    _, tk6, rfl, rfl, It.list (A := A.deeper _) hh _ nl (Nat.ne_of_lt hnl5) nvs.toArray, ⟨⟨_, Heap.get?_push_size _ rfl, rfl, rfl⟩, hnl.at fun o e => Heap.get?_push_of_some _ e⟩, ⟨fun b o _ e => Heap.get?_push_of_some _ e, _, ys.toList, n₅.push _, rfl, rfl, p₅.isList.at fun o e => Heap.get?_push_of_some _ e, ly₅.keep fun b o e => Heap.get?_push_of_some _ e⟩, ?_, ?_, ?_, ?_⟩
  · rintro i H H' ⟨kH, m', ys', n', e1, e2, l', y'⟩ kk
    have ne : ∀ {a : Addr}, @LT.lt Nat _ a h₅.objs.size → a ∉ [h₅.objs.size] := fun ha hm => Nat.lt_irrefl _ (List.mem_singleton.mp hm ▸ ha)
    exact ⟨fun b o hb e => kk b o (ne (Heap.lt_size e)) (kH b o hb e), m', ys', n'.at' fun o e => kk _ o (ne hL5) e, e1, e2, l'.at fun o e => kk _ o (ne hDl5) e, y'.above (Nat.le_refl _) kk⟩
  · rintro i v as H tk' Q' E' ⟨hv, rfl⟩ hS kk
    obtain ⟨j, hj⟩ : ∃ j, net[i]? = some j := by
      have : i < nvs.length := (List.getElem?_eq_some_iff.mp (by simpa using hv)).1
      exact ⟨net[i], by simp⟩
    obtain ⟨Tj, t1, t2, t3, rfl, _⟩ := hjs i j v hj (by simpa using hv)
    exact wpAny_letOwnedTupleGo_listiter (s := St z H tk') hS.1 (kk H ⟨hv, rfl⟩ hS fun _ _ _ e => e)
  · rintro i v as H tk' hi' ⟨hv, rfl⟩ ⟨itS, lS⟩ ⟨kH, m', ys', n', e1, e2, l', y'⟩
    have hin : i < net.length := by simpa [hnv] using hi'
    obtain ⟨j, hj⟩ : ∃ j, net[i]? = some j := ⟨net[i], by simp⟩
    obtain ⟨Tj, t1, t2, t3, rfl, hT140, hT⟩ := hjs i j v hj (by simpa using hv)
    have hTL : Tj ≠ h.objs.size := ne_tup_ns hT n₅
    have hTD : Tj ≠ Dl := by
      rintro rfl
      obtain ⟨_, ho, hc, _⟩ := hT
      obtain ⟨_, ho', hc', _⟩ := p₅.isList
      rw [ho] at ho'
      cases ho'
      exact ty_ne (hc.symm.trans hc') (by decide)
    refine unpack3 (env := envR h.objs.size) hh (hT.at fun o e => kH _ o (by simp [hTL, hTD]) e) n' fun h₆ tk7 n₆ k₆ => ?_
    replace k₆ : KeepOff [h.objs.size] H h₆ := k₆
    have k56 : KeepOff [h.objs.size, Dl] h₅ h₆ := fun b o hb e => k₆ b o (fun q => hb (by simp at q ⊢; exact .inl q)) (kH b o hb e)
    have hDL : Dl ≠ h.objs.size := ne_list_ns l' n'
    have kg6 : Keep g h₆ := fun b o e => k56 b o (not_cons (Nat.ne_of_lt (lt_sz (kg b o e))) (not_mem1 (Nat.ne_of_lt (Nat.lt_trans (lt_sz (kg b o e)) hLDl)))) (kg5 b o e)
    have B₆ := B.keep kg6
    have l₆ : h₆.IsList Dl ys'.toArray := l'.at fun o e => k₆ _ o (not_mem1 hDL) e
    have ly₆ := y'.off l' (L := h.objs.size) (by omega) fun b o hb e => k₆ b o (fun q => hb (by simp at q ⊢; exact .inl q)) e
    have hLDW : W ≠ Dl := by
      have : @LT.lt Nat _ W h₃.objs.size := by obtain ⟨_, ho, _⟩ := W₃; exact Heap.lt_size ho
      exact Nat.ne_of_lt (Nat.lt_trans (hitE ▸ this) hitD)
    have ways₆ : ∀ (i : Nat) (f : Addr), fs[i]? = some f → WayAt h₆ i f := fun i f hf => (ways₅ i f hf).off k56 (fun a o fd e d => not_cons (fn_ne_ns e d n₅) (not_mem1 (fn_ne_list e d p₅.isList))) fun c q r => not_cons (rec_ne_ns r n₅) (not_mem1 (rec_ne_list r p₅.isList))
    refine wpAny_execs_cons (run_turn (A := A.deeper _) B₆ (show A.depth + 1 + 2 < recursionLimit by omega) (show A.units + 3 + 9 < cLine by omega) hh (B.ok j (List.mem_of_getElem? hj)) n₆ ((put_ne (by decide)).trans ((put_ne (by decide)).trans ((put_ne (by decide)).trans e1))) ((put_ne (by decide)).trans ((put_ne (by decide)).trans ((put_ne (by decide)).trans e2))) ((put_ne (by decide)).trans ((put_ne (by decide)).trans (if_pos rfl))) ((put_ne (by decide)).trans (if_pos rfl)) (if_pos rfl)
      (W₅.at fun o e => k56 _ o (by simp [hLDW]; exact fun q => hLW q.symm) e) hfs ways₆ l₆ ly₆ (by rw [runV_length, hn]) (by omega) fun h₇ tk8 ys₇ k₇ l₇ y₇ => ?_)
    refine wpAny_execs_nil ⟨h₇, tk8, rfl, ?_, fun b o hb e => k₇ b o (fun q => hb (by simp at q ⊢; exact .inr q)) (k56 b o hb e), _, ys₇, n₆.at' fun o e => k₇ _ o (not_mem1 (Ne.symm hDL)) e, (put_ne (by decide)).trans ((put_ne (by decide)).trans ((put_ne (by decide)).trans e1)), (put_ne (by decide)).trans ((put_ne (by decide)).trans ((put_ne (by decide)).trans e2)), l₇, ?_⟩
    · have kI : KeepOff [h.objs.size, Dl] H h₇ := fun b o hb e => k₇ b o (fun q => hb (by simp at q ⊢; exact .inr q)) (k₆ b o (fun q => hb (by simp at q ⊢; exact .inl q)) e)
      have hnlL : nl ≠ h.objs.size := ne_list_ns hnl n₅
      refine ⟨itS.at fun o e => kI _ o (not_cons (Ne.symm (Nat.ne_of_lt hL5)) (not_mem1 (Ne.symm (Nat.ne_of_lt hDl5)))) e, lS.at fun o e => kI _ o ?_ e⟩
      have hnl3 : @LT.lt Nat _ nl h₃.objs.size := by
        obtain ⟨vs₃, hl₃, _⟩ := B₃.nat
        obtain ⟨_, ho, _⟩ := hl₃
        exact Heap.lt_size ho
      exact not_cons hnlL (not_mem1 (Nat.ne_of_lt (Nat.lt_trans (hitE ▸ hnl3) hitD)))
    · rw [runV_take hj]
      exact y₇
  · rintro H tk' ⟨kH, m', ys', n', e1, e2, l', y'⟩
    have hfull : net.take nvs.toArray.size = net := by rw [List.take_of_length_le]; simp [hnv]
    rw [hfull] at y'
    refine wpAny_execs_nil (wpAny_execs_cons (wpAny_Return_some ?_))
    refine comp_go (cl := []) (fun j y _ _ => IntV ((runV ds net).getD j 0) y) (fun _ _ _ _ _ r _ => r) (by rfl) (by decide) (by rfl) (by decide) (by rfl) ?_
    refine Ev.use (ev_loc (env := envR h.objs.size) n' e2) fun v tk7 hv => ?_
    subst hv
    have hy4 : ys'.length = 4 := y'.1.trans (by rw [runV_length, hn])
    refine comp_go_list hh l' (by simp [hy4]) ?_ ?_
    · intro C i v H₃ tk₃ m₃ E' hv' hC nC hm kC
      obtain ⟨Tq, xq, tq, uq, tt, rfl, _, _, _, r1, r2, r3⟩ := y'.2 i v (by simpa using hv')
      refine Ev.use (P := IntV ((runV ds net).getD i 0)) ?_ fun y tk₄ hy => ⟨H₃, tk₄, [], rfl, fun _ _ e => e, nofun, hy⟩
      exact (ev_tup (items := [uq, .int ((runV ds net).getD i 0) tt]) (j := 1) (ev_tup (items := [.ref xq, .ref tq]) (j := 1) (ev_loc nC hm) ev_int (r1.at fun o e => kC _ o e) (by decide) (by decide) rfl rfl) ev_int (r3.at fun o e => kC _ o e) (by decide) (by decide) rfl rfl).int
    · intro D h' tk' zs hD hp hsz' hz kk
      have kF : KeepOff [100] h h' := fun b o hb e => by
        have q1 := lt_sz e
        have q2 := lt_sz (k03 b o hb e)
        refine kk b o (kH b o (not_cons (Nat.ne_of_lt q1) (not_mem1 (Nat.ne_of_lt (Nat.lt_trans q1 hLDl)))) (k35 b o (not_mem1 (Nat.ne_of_lt q1)) (k03 b o hb e)))
      have TF : Tab H cs₂ := T₅.off' kH (not_cons (Ne.symm hL100) (not_mem1 (Ne.symm (list_ne100 T₅ p₅.isList)))) fun c q r => not_cons (rec_ne_ns r n₅) (not_mem1 (rec_ne_list r p₅.isList))
      have hHs : @LE.le Nat _ h.objs.size H.objs.size := by obtain ⟨_, _, _, ho, _⟩ := n'; exact Nat.le_of_lt (Heap.lt_size ho)
      refine k D h' tk' cs₂ kF (Nat.le_trans hHs hD) (TF.keep kk) ⟨zs.toList, by simpa using hp.isList, ?_⟩
      have := ints_of (g := fun j => (runV ds net).getD j 0) (n := (runV ds net).length) (ys := zs) (by rw [hsz', runV_length, hn]; simp [hy4]) fun j y e => by
        obtain ⟨_, _, r⟩ := hz j y e
        exact r
      rwa [range_getD] at this
end Mine
end
section
open PySem PySem.W PyProof.Rows PySem.Calls
set_option Elab.async false
set_option maxRecDepth 100000
set_option maxHeartbeats 1000000
set_option linter.unusedVariables false
namespace Mine
/-! what the network does to a set -/
def bits4 (S : Int) : List Int := [S % 2, S / 2 % 2, S / 4 % 2, S / 8 % 2]
def netF (net : List Joint) (S : Int) : Int := setZ (runV (bits4 S) net) 1
def thr (least x : Int) : Int := if least ≤ x then 1 else 0
theorem thr_min (l a b : Int) : thr l (min a b) = min (thr l a) (thr l b) := by
  unfold thr
  rcases Int.le_total a b with h | h
  · rw [Int.min_eq_left h]
    by_cases h1 : l ≤ a
    · rw [if_pos h1, if_pos (by omega)]; rfl
    · rw [if_neg h1]; split <;> rfl
  · rw [Int.min_eq_right h]
    by_cases h1 : l ≤ b
    · rw [if_pos h1, if_pos (by omega)]; rfl
    · rw [if_neg h1]; split <;> rfl
theorem thr_max (l a b : Int) : thr l (max a b) = max (thr l a) (thr l b) := by
  unfold thr
  rcases Int.le_total a b with h | h
  · rw [Int.max_eq_right h]
    by_cases h1 : l ≤ b
    · rw [if_pos h1]; split <;> rfl
    · rw [if_neg h1, if_neg (by omega)]; rfl
  · rw [Int.max_eq_left h]
    by_cases h1 : l ≤ a
    · rw [if_pos h1]; split <;> rfl
    · rw [if_neg h1, if_neg (by omega)]; rfl
theorem getD_map_thr (l : Int) (ds : List Int) (i : Nat) (h : i < ds.length) : (ds.map (thr l)).getD i 0 = thr l (ds.getD i 0) := by
  rw [List.getD_eq_getElem?_getD, List.getD_eq_getElem?_getD, List.getElem?_map, List.getElem?_eq_getElem h]
  rfl
theorem stepV_thr (l : Int) (ds : List Int) (lo hi : Nat) (h1 : lo < ds.length) (h2 : hi < ds.length) : (stepV ds lo hi).map (thr l) = stepV (ds.map (thr l)) lo hi := by
  unfold stepV
  rw [List.map_set, List.map_set, thr_min, thr_max, getD_map_thr l ds lo h1, getD_map_thr l ds hi h2]
theorem runV_thr (l : Int) (net : List Joint) : ∀ (ds : List Int), ds.length = 4 → (∀ j ∈ net, j.ok) → (runV ds net).map (thr l) = runV (ds.map (thr l)) net := by
  induction net with
  | nil => intro ds _ _; rfl
  | cons j net ih =>
    intro ds hd hj
    have jo := hj j (.head _)
    show (runV (stepV ds j.lo j.hi) net).map (thr l) = runV (stepV (ds.map (thr l)) j.lo j.hi) net
    rw [ih _ (by rw [stepV_length, hd]) fun k hk => hj k (.tail _ hk), stepV_thr l ds _ _ (by rw [hd]; exact jo.1) (by rw [hd]; exact jo.2.1)]
theorem setZ_four (a b c d l : Int) : setZ [a, b, c, d] l = thr l a + 2 * thr l b + 4 * thr l c + 8 * thr l d := by
  have e : List.range 4 = [0, 1, 2, 3] := rfl
  unfold setZ thr
  rw [e]
  simp only [List.filter_cons, List.filter_nil, List.getD_cons_zero, List.getD_cons_succ]
  by_cases h0 : l ≤ a <;> by_cases h1 : l ≤ b <;> by_cases h2 : l ≤ c <;> by_cases h3 : l ≤ d <;> simp [h0, h1, h2, h3]
theorem four_of {ds : List Int} (h : ds.length = 4) : ∃ a b c d, ds = [a, b, c, d] := by
  match ds, h with
  | [a, b, c, d], _ => exact ⟨a, b, c, d, rfl⟩
theorem thr_01 (l x : Int) : thr l x = 0 ∨ thr l x = 1 := by unfold thr; split <;> simp
theorem thr_1 {x : Int} (h : x = 0 ∨ x = 1) : thr 1 x = x := by rcases h with rfl | rfl <;> rfl
theorem setZ_thr {ds : List Int} (l : Int) (h : ds.length = 4) : setZ (ds.map (thr l)) 1 = setZ ds l := by
  obtain ⟨a, b, c, d, rfl⟩ := four_of h
  rw [List.map_cons, List.map_cons, List.map_cons, List.map_cons, List.map_nil, setZ_four, setZ_four, thr_1 (thr_01 l a), thr_1 (thr_01 l b), thr_1 (thr_01 l c), thr_1 (thr_01 l d)]
theorem bits_setZ {ds : List Int} (l : Int) (h : ds.length = 4) : bits4 (setZ ds l) = ds.map (thr l) := by
  obtain ⟨a, b, c, d, rfl⟩ := four_of h
  rw [setZ_four]
  simp only [List.map_cons, List.map_nil]
  rcases thr_01 l a with e0 | e0 <;> rcases thr_01 l b with e1 | e1 <;> rcases thr_01 l c with e2 | e2 <;> rcases thr_01 l d with e3 | e3 <;> rw [e0, e1, e2, e3] <;> decide
/-- where the things come that are not less than one of them hangs on where they lay -/
theorem net_set {net : List Joint} (hok : ∀ j ∈ net, j.ok) {ds : List Int} (h : ds.length = 4) (l : Int) : setZ (runV ds net) l = netF net (setZ ds l) := by
  unfold netF
  rw [bits_setZ l h, ← runV_thr l net ds h hok, setZ_thr l (by rw [runV_length, h])]
theorem runV_zero (net : List Joint) : runV [0, 0, 0, 0] net = [0, 0, 0, 0] := by
  induction net with
  | nil => rfl
  | cons j net ih =>
    show runV (stepV [0, 0, 0, 0] j.lo j.hi) net = _
    have z : ∀ i, ([0, 0, 0, 0] : List Int).getD i 0 = 0 := fun i => by
      match i with
      | 0 => rfl
      | 1 => rfl
      | 2 => rfl
      | 3 => rfl
      | i + 4 => rfl
    rw [stepV_same (by rw [z, z]; exact Int.le_refl _), ih]
theorem netF_zero (net : List Joint) : netF net 0 = 0 := by
  unfold netF
  rw [show bits4 0 = [0, 0, 0, 0] from rfl, runV_zero]
  rfl
/-! the table -/
def DOk (net : List Joint) (kvs : List (Int × Value)) : Prop := ∀ kv ∈ kvs, IntV (netF net kv.1) kv.2
theorem valueAt_mem {kvs : List (Int × Value)} {k : Int} {v : Value} (h : valueAt kvs k = some v) : (k, v) ∈ kvs := by
  unfold valueAt at h
  obtain ⟨kv, hf, rfl⟩ := Option.map_eq_some_iff.mp h
  have h1 := List.find?_some hf
  have h2 := List.mem_of_find?_eq_some hf
  simp at h1
  rw [← h1]
  exact h2
theorem valueAt_none {kvs : List (Int × Value)} {k : Int} (h : valueAt kvs k = none) : ∀ v, (k, v) ∉ kvs := by
  intro v hm
  unfold valueAt at h
  rw [Option.map_eq_none_iff, List.find?_eq_none] at h
  have := h _ hm
  simp at this
theorem stored_new {kvs : List (Int × Value)} {k : Int} {v : Value} (h : valueAt kvs k = none) : stored kvs k v = kvs ++ [(k, v)] := by
  unfold stored
  rw [if_neg]
  rw [List.any_eq_true]
  rintro ⟨kv, hkv, e⟩
  exact valueAt_none h kv.2 (by have := of_decide_eq_true e; rw [← this]; exact hkv)
def sixRows : List (List Int) := [[3, 2, 1, 0], [2, 0, 3, 1], [2, 1, 0, 3], [0, 3, 2, 1], [1, 3, 0, 2], [1, 0, 2, 3]]
theorem cover : ∀ S : Fin 15, ∃ r ∈ sixRows, ∃ l ∈ r, setZ r l = ((S.val + 1 : Nat) : Int) := by decide +kernel
end Mine
end
section
open PySem PySem.W PyProof.Rows PySem.Calls
set_option Elab.async false
set_option maxRecDepth 100000
set_option maxHeartbeats 1000000
set_option linter.unusedVariables false
namespace Mine
theorem fn_table {w : World} {h : Heap} (X : TopIn w h) : FnAt w h 122 121 (Str.ofString "_law_table") 34 pmL :=
  ⟨⟨_, top_get X (by kernel_rfl), by kernel_rfl⟩, cd_of (w := w) (top_get X (by kernel_rfl)) (by kernel_rfl) (by kernel_rfl)⟩
abbrev envT (L : Addr) : Env := envF 122 121 (Str.ofString "_law_table") 34 pmL L
def tabFor : Stmt := stmtAt 2 (bodyOf (top 34))
abbrev DictI (w : World) (h : Heap) (d : Addr) (kvs : List (Int × Value)) : Prop := h.DictOf (intKind prog w) d kvs
theorem DictI.at {w : World} {h h' : Heap} {d : Addr} {kvs : List (Int × Value)} (x : DictI w h d kvs) (k : ∀ o, h.get? d = some o → h'.get? d = some o) : DictI w h' d kvs := by
  obtain ⟨o, es, ep, ho, r⟩ := x
  exact ⟨o, es, ep, k _ ho, r⟩
theorem ne_list_dict {w : World} {h : Heap} {a d : Addr} {items : Array Value} {kvs : List (Int × Value)} (x : h.IsList a items) (y : DictI w h d kvs) : a ≠ d := by
  rintro rfl
  obtain ⟨_, ho, hc, n, hd⟩ := x
  obtain ⟨_, _, _, ho', _, hd', _⟩ := y
  rw [ho] at ho'
  cases ho'
  rw [hd] at hd'
  cases hd'
theorem IntList.off {h h' : Heap} {wr : List Addr} {ds : List Int} {l : Addr} (x : IntList h ds l) (k : KeepOff wr h h') (hl : l ∉ wr) : IntList h' ds l := by
  obtain ⟨vs, hl', hi⟩ := x
  exact ⟨vs, hl'.at fun o e => k _ o hl e, hi⟩
/-- the loop over a row -/
theorem tab_inner {w : World} {A : Around} {z : Shared} {H : Heap} {tk : Nat} {Q : Flow → Shared → Prop} {L d rl bl : Addr} {m : Str → Option Value} {net : List Joint} {ds : List Int} {kvs : List (Int × Value)}
    (X : TopIn w H) (hA : A.depth < recursionLimit) (hh : A.handled = none) (hok : ∀ j ∈ net, j.ok) (hL140 : @LE.le Nat _ 140 L) (hd140 : @LE.le Nat _ 140 d) (hLd : L ≠ d)
    (hns : H.Ns L m) (m1 : m (Str.ofString "row") = some (.ref rl)) (m2 : m (Str.ofString "behind") = some (.ref bl)) (m3 : m (Str.ofString "table") = some (.ref d))
    (hrow : IntList H ds rl) (h4 : ds.length = 4) (hbeh : IntList H (runV ds net) bl) (hD : DictI w H d kvs) (hDok : DOk net kvs) (hkl : kvs.length ≤ 100)
    (k : ∀ H' tk' m' kvs', H'.Ns L m' → (∀ x, x ≠ Str.ofString "least" → x ≠ Str.ofString "comes" → m' x = m x) → DictI w H' d kvs' → DOk net kvs' → (∀ l ∈ ds, setZ ds l ∈ kvs'.map (·.1)) → (∀ x ∈ kvs.map (·.1), x ∈ kvs'.map (·.1)) → kvs'.length ≤ kvs.length + 4 → KeepOff [L, d] H H' → Q .next (St z H' tk')) :
    wpAny (model prog w) A (exec (stmtAt 1 (forBody tabFor)) (envT L)) Q (fun _ _ => False) (St z H tk) := by
  obtain ⟨vs, hl, hi⟩ := id hrow
  obtain ⟨bs, hbl, hbi⟩ := id hbeh
  have hlen : vs.length = 4 := hi.length.trans h4
  have hLs : @LT.lt Nat _ L H.objs.size := by obtain ⟨_, _, _, ho, _⟩ := hns; exact Heap.lt_size ho
  have hds : @LT.lt Nat _ d H.objs.size := by obtain ⟨_, _, _, ho, _⟩ := hD; exact Heap.lt_size ho
  have hrs : @LT.lt Nat _ rl H.objs.size := by obtain ⟨_, ho, _⟩ := hl; exact Heap.lt_size ho
  have hrL : rl ≠ L := ne_list_ns hl hns
  have hbL : bl ≠ L := ne_list_ns hbl hns
  have hrd : rl ≠ d := ne_list_dict hl hD
  have hbd : bl ≠ d := ne_list_dict hbl hD
  refine for_it (Ev.use (ev_loc (env := envT L) hns m1) fun v tk1 hv => ?_)
  subst hv
  refine wpAny_pyIter_list (s := St z H tk1) hl ?_
  refine ⟨H.objs.size, [H.objs.size], [H.objs.size, rl], vs.toArray.size, _, _, fun j H' => KeepOff [L, d] H H' ∧ ∃ m' kvs', H'.Ns L m' ∧ (∀ x, x ≠ Str.ofString "least" → x ≠ Str.ofString "comes" → m' x = m x) ∧ DictI w H' d kvs' ∧ DOk net kvs' ∧ (∀ l ∈ ds.take j, setZ ds l ∈ kvs'.map (·.1)) ∧ (∀ x ∈ kvs.map (·.1), x ∈ kvs'.map (·.1)) ∧ kvs'.length ≤ kvs.length + j,
    _, tk1, rfl, rfl, It.list hh _ rl (Nat.ne_of_lt hrs) vs.toArray, ⟨⟨_, Heap.get?_push_size _ rfl, rfl, rfl⟩, hl.at fun o e => Heap.get?_push_of_some _ e⟩, ⟨fun b o _ e => Heap.get?_push_of_some _ e, m, kvs, hns.push _, fun _ _ _ => rfl, DictI.at hD fun o e => Heap.get?_push_of_some _ e, hDok, by simp, fun _ q => q, Nat.le_refl _⟩, ?_, fun i v as h tk Q E hP hS k => wpAny_pure (k h hP hS fun _ _ _ e => e), ?_, ?_⟩
  · rintro j H1 H2 ⟨kH, m', kvs', n', e1, d', r⟩ kk
    have ne : ∀ {a : Addr}, @LT.lt Nat _ a H.objs.size → a ∉ [H.objs.size] := fun ha hm => Nat.lt_irrefl _ (List.mem_singleton.mp hm ▸ ha)
    exact ⟨fun b o hb e => kk b o (ne (Heap.lt_size e)) (kH b o hb e), m', kvs', n'.at' fun o e => kk _ o (ne hLs) e, e1, DictI.at d' fun o e => kk _ o (ne hds) e, r⟩
  · rintro j v as H1 tk' hj ⟨hv, rfl⟩ ⟨itS, lS⟩ ⟨kH, m', kvs', n', e1, d', dk, cv, mo, le'⟩
    have hj4 : j < 4 := by simpa [hlen] using hj
    obtain ⟨t, ht⟩ := IntsAre_get hi (j := j) (by omega)
    have hv' : v = .int (ds.getD j 0) t := by
      have : vs[j]? = some v := by simpa using hv
      rw [ht] at this
      exact (Option.some.inj this).symm
    subst hv'
    generalize hl0 : ds.getD j 0 = least at *
    refine wpAny_assign_Name (store_loc (env := envT L) n' fun h₂ tk2 n₂ s₂ => ?_)
    replace s₂ : Heap.SameBut L H1 h₂ := s₂
    have k02 : KeepOff [L, d] H h₂ := fun b o hb e => s₂.extBut b o (fun q => hb (by rw [q]; simp)) (kH b o hb e)
    have X₂ : TopIn w h₂ := X.off k02 (by simp; exact ⟨hL140, hd140⟩)
    have f1 : put m' (Str.ofString "least") (.int least t) (Str.ofString "row") = some (.ref rl) := (put_ne (by decide)).trans ((e1 _ (by decide) (by decide)).trans m1)
    have f2 : put m' (Str.ofString "least") (.int least t) (Str.ofString "behind") = some (.ref bl) := (put_ne (by decide)).trans ((e1 _ (by decide) (by decide)).trans m2)
    have f3 : put m' (Str.ofString "least") (.int least t) (Str.ofString "table") = some (.ref d) := (put_ne (by decide)).trans ((e1 _ (by decide) (by decide)).trans m3)
    refine wpAny_execs_cons (wpAny_Assign_Name (Call_ (Ev.use (ev_glob X₂ (v := .ref 115) (by kernel_rfl)) fun v tk3 hv => ?_)))
    subst hv
    obtain ⟨of, hof, hdf⟩ := (fn_set X₂).fn
    refine PyProof.Rows.callWith_def hdf (spliced_more (Ev.use (ev_loc n₂ f2) fun v tk4 hv => ?_))
    subst hv
    refine spliced_more (Ev.use (ev_loc n₂ (if_pos rfl)) fun v tk5 hv => ?_)
    subst hv
    refine spliced_none ⟨hof, ?_⟩
    have b₂ : h₂.IsList bl bs.toArray := hbl.at fun o e => k02 _ o (by simp [hbL, hbd]) e
    refine set_call X₂ hA hh b₂ hbi (by rw [runV_length, h4]) fun h₃ tk6 t6 k₃ => ?_
    refine store_loc (n₂.keeps k₃) fun h₄ tk7 n₄ s₄ => ?_
    replace s₄ : Heap.SameBut L h₃ h₄ := s₄
    have k24 : KeepOff [L] h₂ h₄ := fun b o hb e => s₄.extBut b o (by simpa using hb) (k₃ b o e)
    have k04 : KeepOff [L, d] H h₄ := fun b o hb e => k24 b o (fun q => hb (by simp at q ⊢; exact .inl q)) (k02 b o hb e)
    have X₄ : TopIn w h₄ := X.off k04 (by simp; exact ⟨hL140, hd140⟩)
    have d₄ : DictI w h₄ d kvs' := DictI.at d' fun o e => k24 _ o (not_mem1 (Ne.symm hLd)) (s₂.extBut _ o (Ne.symm hLd) e)
    have l₄ : h₄.IsList rl vs.toArray := hl.at fun o e => k04 _ o (by simp [hrL, hrd]) e
    obtain ⟨of4, hof4, hdf4⟩ := (fn_set X₄).fn
    refine wpAny_execs_cons (wpAny_If (wpAny_isTrue_Compare1 (Call_method2 (by rfl) (by rfl) (by rfl) (Ev.use (ev_loc n₄ ((put_ne (by decide)).trans f3)) fun v tk8 hv => ?_))))
    subst hv
    refine ⟨"dict", "dict.setdefault", F.plainAttrs_dict, F.slot_dict_setdefault, F.type_dict_setdefault, Heap.DictOf.typeIs (s := St z h₄ tk8) d₄, (Heap.DictOf.mapOf d₄).noDict, ?_⟩
    refine callWith_builtin rfl (evalArgs_plain (spliced_cons (Call_ (Ev.use (ev_glob X₄ (v := .ref 115) (by kernel_rfl)) fun v tk9 hv => ?_))))
    subst hv
    refine PyProof.Rows.callWith_def hdf4 (spliced_more (Ev.use (ev_loc n₄ ((put_ne (by decide)).trans f1)) fun v tk10 hv => ?_))
    subst hv
    refine spliced_more (Ev.use (ev_loc n₄ ((put_ne (by decide)).trans (if_pos rfl))) fun v tk11 hv => ?_)
    subst hv
    refine spliced_none ⟨hof4, ?_⟩
    refine set_call X₄ hA hh l₄ hi h4 fun h₅ tk12 t12 k₅ => ?_
    refine spliced_cons (Ev.use (ev_loc (n₄.keeps k₅) (if_pos rfl)) fun v tk13 hv => spliced_nil ?_)
    subst hv
    have d₅ : DictI w h₅ d kvs' := DictI.at d₄ fun o e => k₅ _ o e
    have hkey : (intKind prog w).is (setZ ds least) (.int (setZ ds least) t12) = true := by simp [intKind, Value.isInt]
    have lo : (d == sysModules) = false := by
      simp
      have : @LT.lt Nat _ sysModules 140 := by decide
      exact fun q => by have q' : @Eq Nat d sysModules := q; omega
    have hval : setZ (runV ds net) least = netF net (setZ ds least) := net_set hok h4 least
    have fin : ∀ (h₆ : Heap) (kvs₆ : List (Int × Value)) (tk : Nat), KeepOff [d] h₅ h₆ → DictI w h₆ d kvs₆ → DOk net kvs₆ → setZ ds least ∈ kvs₆.map (·.1) → (∀ x ∈ kvs'.map (·.1), x ∈ kvs₆.map (·.1)) → kvs₆.length ≤ kvs'.length + 1 →
        ∃ h' tk', St z h₆ tk = St z h' tk' ∧ (h'.IsListIter H.objs.size rl (j + 1) ∧ h'.IsList rl vs.toArray) ∧ KeepOff [L, d] H h' ∧ ∃ m' kvs', h'.Ns L m' ∧ (∀ x, x ≠ Str.ofString "least" → x ≠ Str.ofString "comes" → m' x = m x) ∧ DictI w h' d kvs' ∧ DOk net kvs' ∧ (∀ l ∈ ds.take (j + 1), setZ ds l ∈ kvs'.map (·.1)) ∧ (∀ x ∈ kvs.map (·.1), x ∈ kvs'.map (·.1)) ∧ kvs'.length ≤ kvs.length + (j + 1) := by
      intro h₆ kvs₆ tk k₆ d₆ dk₆ hm₆ mo₆ le₆
      have kI : KeepOff [L, d] H1 h₆ := fun b o hb e => k₆ b o (fun q => hb (by simp at q ⊢; exact .inr q)) (k₅ b o (k24 b o (fun q => hb (by simp at q ⊢; exact .inl q)) (s₂.extBut b o (fun q => hb (by rw [q]; simp)) e)))
      have hIL : H.objs.size ∉ [L, d] := by
        simp
        exact ⟨fun q => Nat.lt_irrefl _ (q ▸ hLs), fun q => Nat.lt_irrefl _ (q ▸ hds)⟩
      refine ⟨h₆, tk, rfl, ⟨itS.at fun o e => kI _ o hIL e, lS.at fun o e => kI _ o (by simp [hrL, hrd]) e⟩, fun b o hb e => kI b o hb (kH b o hb e), _, kvs₆, (n₄.keeps k₅).at' fun o e => k₆ _ o (not_mem1 hLd) e, fun x h1 h2 => (put_ne h2).trans ((put_ne h1).trans (e1 x h1 h2)), d₆, dk₆, fun l hl => ?_, fun x hx => mo₆ x (mo x hx), by omega⟩
      rw [List.take_add_one] at hl
      rcases List.mem_append.mp hl with q | q
      · exact mo₆ _ (cv l q)
      · have e : ds[j]? = some least := by
          rw [← hl0, List.getD_eq_getElem?_getD, List.getElem?_eq_getElem (by omega)]
          rfl
        rw [e] at q
        simp at q
        rw [q]
        exact hm₆
    refine call_meetsIn (s := St z h₅ tk13) F.slot_dict_setdefault (Heap.DictOf.typeIs (s := St z h₅ tk13) d₅) F.entry_dict_setdefault (F.args_dict_setdefault_3 _ _ _) (kt_meets_setdefault (intKind prog w) d hkey lo _) ⟨kvs', d₅, by unfold sizeLine; omega, fun v hv => ?_, fun hn h₆ d₆ s₆ => ?_⟩
    · have hm := valueAt_mem hv
      obtain ⟨tv, rfl⟩ : IntV (netF net (setZ ds least)) v := dk (setZ ds least, v) hm
      refine Ev.use (z := z) (ev_loc (n₄.keeps k₅) (if_pos rfl)) fun v tk14 hv => ?_
      subst hv
      refine PyProof.Rows.ne_int (wpAny_truthy_bool ?_)
      rw [hval]
      simp only [bne_self_eq_false, Bool.false_eq_true, if_false]
      exact wpAny_execs_nil (wpAny_execs_nil (fin h₅ kvs' _ (fun _ _ _ e => e) d₅ dk (List.mem_map.mpr ⟨_, hm, rfl⟩) (fun _ q => q) (by omega)))
    · rw [stored_new hn] at d₆
      refine Ev.use (z := z) (ev_loc ((n₄.keeps k₅).sameBut s₆ hLd) (if_pos rfl)) fun v tk14 hv => ?_
      subst hv
      refine PyProof.Rows.ne_int (wpAny_truthy_bool ?_)
      simp only [bne_self_eq_false, Bool.false_eq_true, if_false]
      refine wpAny_execs_nil (wpAny_execs_nil (fin h₆ _ _ (KeepOff.of_same s₆) d₆ (fun kv hkv => ?_) (by simp) (fun x hx => ?_) (by simp)))
      · rcases List.mem_append.mp hkv with q | q
        · exact dk kv q
        · rw [List.mem_singleton.mp q, ← hval]
          exact ⟨_, rfl⟩
      · rw [List.map_append]
        exact List.mem_append_left _ hx
  · rintro H1 tk' ⟨kH, m', kvs', n', e1, d', dk, cv, mo, le'⟩
    refine wpAny_execs_nil (k H1 tk' m' kvs' n' e1 d' dk (fun l hl => cv l ?_) mo (by simpa [hlen] using le') kH)
    rw [List.take_of_length_le (by simp [h4, hlen])]
    exact hl
end Mine
end
section
open PySem PySem.W PyProof.Rows PySem.Calls
set_option Elab.async false
set_option maxRecDepth 100000
set_option maxHeartbeats 1000000
set_option linter.unusedVariables false
namespace Mine
section
variable {w : World} {A : Around} {z : Shared} {h : Heap} {tk : Nat} {E : Value → Shared → Prop}
theorem add_l {l b : Addr} {vs ws : List Value} {Q : Value → Shared → Prop} (hl : h.IsList l vs.toArray) (hb : h.IsList b ws.toArray) (hsz : vs.length + ws.length ≤ 1000)
    (k : Q (.ref h.objs.size) (St z (h.push { cls := .type "list", data := .seq (vs ++ ws).toArray }) tk)) :
    wpAny (model prog w) A (binaryOp .Add (.ref l) (.ref b)) Q E (St z h tk) := by
  obtain ⟨⟨cls, dd, data, sl⟩, ho, hc, n, hd⟩ := id hl
  obtain ⟨⟨cls2, dd2, data2, sl2⟩, ho2, hc2, n2, hd2⟩ := id hb
  simp only at hc hd hc2 hd2
  subst hc hd hc2 hd2
  have e : vs.toArray ++ ws.toArray = (vs ++ ws).toArray := by simp
  refine concat_meets ⟨_, ho, rfl⟩ ⟨_, ho2, rfl⟩ noFill_list_add seq_list_add PySem.F.slot_list_add PySem.F.entry_list_add (PySem.F.args_list_add_2 _ _) (list_addW l b vs.toArray ws.toArray n n2 dd dd2 sl sl2 (by unfold sizeLine; simp; omega)) ⟨ho, ho2, ?_⟩
  rw [e]
  exact k
/-- a written row -/
theorem row_eval {env : Env} {a b c d : Int} {k0 k1 k2 k3 : Nat} {p0 p1 p2 p3 pos : Pos} {Q : Value → Shared → Prop}
    (k : ∀ tk' vs, IntsAre vs [a, b, c, d] → Q (.ref h.objs.size) (St z (h.push { cls := .type "list", data := .seq vs.toArray }) tk'))
    (he : starEach [.Constant (.int a) k0 p0, .Constant (.int b) k1 p1, .Constant (.int c) k2 p2, .Constant (.int d) k3 p3] env = [(false, eval (.Constant (.int a) k0 p0) env), (false, eval (.Constant (.int b) k1 p1) env), (false, eval (.Constant (.int c) k2 p2) env), (false, eval (.Constant (.int d) k3 p3) env)] := by rfl) :
    wpAny (model prog w) A (eval (.List [.Constant (.int a) k0 p0, .Constant (.int b) k1 p1, .Constant (.int c) k2 p2, .Constant (.int d) k3 p3] pos) env) Q E (St z h tk) := by
  refine wpAny_List_spliced ?_
  rw [he]
  refine spliced_cons (Ev.use (z := z) ev_int fun v tk1 hv => ?_)
  obtain ⟨t1, rfl⟩ := hv
  refine spliced_cons (Ev.use (z := z) ev_int fun v tk2 hv => ?_)
  obtain ⟨t2, rfl⟩ := hv
  refine spliced_cons (Ev.use (z := z) ev_int fun v tk3 hv => ?_)
  obtain ⟨t3, rfl⟩ := hv
  refine spliced_cons (Ev.use (z := z) ev_int fun v tk4 hv => ?_)
  obtain ⟨t4, rfl⟩ := hv
  exact spliced_nil ⟨Nat.le_of_ble_eq_true rfl, k _ _ (.cons _ _ (.cons _ _ (.cons _ _ (.cons _ _ .nil))))⟩
end
theorem rec_ne_dict {w : World} {h : Heap} {c d : Addr} {q : Str} {kvs : List (Int × Value)} (x : h.CodeRec (.ref c) q) (y : DictI w h d kvs) : c ≠ d := by
  rintro rfl
  obtain ⟨c', oc, vs', t', e', hoc, hdc, hq⟩ := x
  cases e'
  obtain ⟨os, ess, eps, hos, _, hds, _⟩ := y
  rw [hos] at hoc; cases hoc; rw [hds] at hdc; cases hdc
theorem rec_ne_iter {h : Heap} {c I l : Addr} {i : Nat} {q : Str} (x : h.CodeRec (.ref c) q) (y : h.IsListIter I l i) : c ≠ I := by
  rintro rfl
  obtain ⟨c', oc, vs', t', e', hoc, hdc, hq⟩ := x
  cases e'
  obtain ⟨os, hos, hcs, hds⟩ := y
  rw [hos] at hoc; cases hoc; rw [hds] at hdc; cases hdc; simp at hq
theorem mem_rec {h : Heap} {cs : List Addr} {c : Addr} (T : Tab h cs) (hc : c ∈ cs) : h.CodeRec (.ref c) wq := by
  obtain ⟨j, hj⟩ := List.mem_iff_getElem?.mp hc
  exact (T.2 j c hj).2
/-- what the loop over the rows keeps -/
structure TabJ (w : World) (h : Heap) (L d I nl kc : Addr) (net : List Joint) (rls : List (Addr × List Int)) (i : Nat) (H : Heap) : Prop where
  keep : KeepOff [100] h H
  tab : ∃ cs, Tab H cs ∧ ∀ c ∈ cs, c ≠ I
  rows : ∀ p ∈ rls, IntList H p.2 p.1
  rest : ∃ m' kvs, H.Ns L m' ∧ m' (Str.ofString "network") = some (.ref nl) ∧ m' (Str.ofString "key") = some (.ref kc) ∧ m' (Str.ofString "table") = some (.ref d) ∧ DictI w H d kvs ∧ DOk net kvs ∧ (0 : Int) ∈ kvs.map (·.1) ∧ (∀ p ∈ rls.take i, ∀ l ∈ p.2, setZ p.2 l ∈ kvs.map (·.1)) ∧ kvs.length ≤ 1 + 4 * i
/-- one turn of the loop over the rows -/
theorem tab_turn {w : World} {A : Around} {z : Shared} {g h H : Heap} {tk : Nat} {Q : Flow → Shared → Prop} {E : Value → Shared → Prop} {L d I nl kc Lc : Addr} {net : List Joint} {above : Int} {rls : List (Addr × List Int)} {i : Nat} {p : Addr × List Int} {vs : Array Value}
    (B : RunB w g nl kc net above) (hg : g.get? 100 = none) (kg : Keep g h) (hA : A.depth + 3 < recursionLimit) (hu : A.units + 12 < cLine) (hh : A.handled = none) (hLh : @LE.le Nat _ h.objs.size L) (hdh : @LE.le Nat _ h.objs.size d) (hLd : L ≠ d) (hLI : @LT.lt Nat _ L I) (hdI : @LT.lt Nat _ d I) (h7 : i ≤ 6) (h4 : ∀ q ∈ rls, q.2.length = 4)
    (hp : rls[i]? = some p) (hS : H.IsListIter I Lc (i + 1) ∧ H.IsList Lc vs) (J : TabJ w h L d I nl kc net rls i H)
    (k : ∀ H' tk', (H'.IsListIter I Lc (i + 1) ∧ H'.IsList Lc vs) → TabJ w h L d I nl kc net rls (i + 1) H' → Q .next (St z H' tk')) :
    wpAny (model prog w) A (assign (.Name (Str.ofString "row") ⟨116, 8, 116, 11⟩) (envT L) (.ref p.1)) (fun _ s₂ => wpAny (model prog w) A (execs (forBody tabFor) (envT L)) Q (fun _ _ => False) s₂) E (St z H tk) := by
  have X0 := B.top.keep kg
  have h140 := X0.size
  obtain ⟨kH, ⟨cs, T, hcI⟩, hrows, m', kvs, n', e1, e2, e3, dD, dk, c0, cv, le'⟩ := J
  have hpm : p ∈ rls := List.mem_of_getElem? hp
  have hL100 : L ≠ 100 := fun q => by have q' : @Eq Nat L 100 := q; omega
  have hd100 : d ≠ 100 := fun q => by have q' : @Eq Nat d 100 := q; omega
  have ne1 : ∀ {a : Addr}, a ≠ 100 → a ∉ [(100 : Addr)] := fun q r => q (List.mem_singleton.mp r)
  refine wpAny_assign_Name (store_loc (env := envT L) n' fun h₂ tk2 n₂ s₂ => ?_)
  replace s₂ : Heap.SameBut L H h₂ := s₂
  have k02 : KeepOff [100] h h₂ := fun b o hb e => s₂.extBut b o (fun q => by have := lt_sz e; have q' : @Eq Nat b L := q; omega) (kH b o hb e)
  have kg2 : Keep g h₂ := fun b o e => k02 b o (ne1 fun q => by rw [q, hg] at e; cases e) (kg b o e)
  have T₂ : Tab h₂ cs := T.off (KeepOff.of_same s₂) (not_mem1 (Ne.symm hL100)) fun a ha c hc => by rw [List.mem_singleton.mp ha]; exact rec_ne_ns (mem_rec T hc) n'
  have rows₂ : ∀ q ∈ rls, IntList h₂ q.2 q.1 := fun q hq => (hrows q hq).off (KeepOff.of_same s₂) (not_mem1 (by obtain ⟨_, hl, _⟩ := hrows q hq; exact ne_list_ns hl n'))
  have X₂ := B.top.keep kg2
  refine wpAny_execs_cons (wpAny_Assign_Name (Call_ (Ev.use (ev_glob X₂ (v := .ref 110) (by kernel_rfl)) fun v tk3 hv => ?_)))
  subst hv
  obtain ⟨of, hof, hdf⟩ := (fn_run X₂).fn
  refine PyProof.Rows.callWith_def hdf (spliced_more (Ev.use (ev_loc n₂ (if_pos rfl)) fun v tk4 hv => ?_))
  subst hv
  refine spliced_more (Ev.use (ev_loc n₂ ((put_ne (by decide)).trans e1)) fun v tk5 hv => ?_)
  subst hv
  refine spliced_more (Ev.use (ev_loc n₂ ((put_ne (by decide)).trans e2)) fun v tk6 hv => ?_)
  subst hv
  refine spliced_none ⟨hof, ?_⟩
  obtain ⟨rs, hrl, hri⟩ := rows₂ p hpm
  refine run_call B hg kg2 T₂ hA hu hh hrl hri (h4 p hpm) fun D h₃ tk7 cs₃ k₃ hD T₃ l₃ => ?_
  have n3' : h₃.Ns L _ := n₂.at' fun o e => k₃ _ o (ne1 hL100) e
  refine store_loc n3' fun h₄ tk8 n₄ s₄ => ?_
  replace s₄ : Heap.SameBut L h₃ h₄ := s₄
  replace n₄ : h₄.Ns L _ := n₄
  have k24 : KeepOff [100, L] h₂ h₄ := fun b o hb e => s₄.extBut b o (fun q => hb (by rw [q]; simp)) (k₃ b o (fun q => hb (by simp at q ⊢; exact .inl q)) e)
  have kH4 : KeepOff [100, L] H h₄ := fun b o hb e => k24 b o hb (s₂.extBut b o (fun q => hb (by rw [q]; simp)) e)
  have k04 : KeepOff [100] h h₄ := fun b o hb e => k24 b o (by simp at hb ⊢; exact ⟨hb, fun q => by have := lt_sz e; have q' : @Eq Nat b L := q; omega⟩) (k02 b o hb e)
  have kg4 : Keep g h₄ := fun b o e => k04 b o (ne1 fun q => by rw [q, hg] at e; cases e) (kg b o e)
  have T₄ : Tab h₄ cs₃ := T₃.off (KeepOff.of_same s₄) (not_mem1 (Ne.symm hL100)) fun a ha c hc => by rw [List.mem_singleton.mp ha]; exact rec_ne_ns (mem_rec T₃ hc) n3'
  have rows₄ : ∀ q ∈ rls, IntList h₄ q.2 q.1 := fun q hq => (rows₂ q hq).off k24 (by
    obtain ⟨_, hl, _⟩ := rows₂ q hq
    simp
    exact ⟨list_ne100 T₂ hl, ne_list_ns hl n₂⟩)
  have beh₄ : IntList h₄ (runV p.2 net) D := l₃.off (KeepOff.of_same s₄) (not_mem1 (by obtain ⟨_, hl, _⟩ := l₃; exact ne_list_ns hl n3'))
  have d₄ : DictI w h₄ d kvs := DictI.at dD fun o e => kH4 _ o (by simp; exact ⟨hd100, Ne.symm hLd⟩) e
  refine wpAny_execs_cons (tab_inner (B.top.keep kg4) (by omega) hh B.ok (by omega) (by omega) hLd n₄ ((put_ne (by decide)).trans (if_pos rfl)) (if_pos rfl) ((put_ne (by decide)).trans ((put_ne (by decide)).trans e3)) (rows₄ p hpm) (h4 p hpm) beh₄ d₄ dk (by omega) fun h₅ tk9 m₅ kvs₅ n₅ f₅ d₅ dk₅ cv₅ mo₅ le₅ k₅ => ?_)
  have kI5 : KeepOff [100, L, d] H h₅ := fun b o hb e => k₅ b o (fun q => hb (by simp at q ⊢; exact .inr q)) (kH4 b o (fun q => hb (by simp at q ⊢; rcases q with q | q; exact .inl q; exact .inr (.inl q))) e)
  have hILn : I ∉ [100, L, d] := by
    simp
    exact ⟨fun q => by have q' : @Eq Nat I 100 := q; omega, fun q => by have q' : @Eq Nat I L := q; omega, fun q => by have q' : @Eq Nat I d := q; omega⟩
  have it₅ : h₅.IsListIter I Lc (i + 1) := hS.1.at fun o e => kI5 _ o hILn e
  have T₅ : Tab h₅ cs₃ := T₄.off k₅ (by simp; exact ⟨Ne.symm hL100, Ne.symm hd100⟩) fun a ha c hc => by
    rcases List.mem_cons.mp ha with q | q
    · rw [q]; exact rec_ne_ns (mem_rec T₄ hc) n₄
    · rw [List.mem_singleton.mp q]; exact rec_ne_dict (mem_rec T₄ hc) d₄
  refine wpAny_execs_nil (k h₅ tk9 ⟨it₅, hS.2.at fun o e => kI5 _ o ?_ e⟩ ⟨fun b o hb e => k₅ b o ?_ (k04 b o hb e), ⟨cs₃, T₅, fun c hc => rec_ne_iter (mem_rec T₅ hc) it₅⟩, fun q hq => (rows₄ q hq).off k₅ ?_, m₅, kvs₅, n₅, ?_, ?_, ?_, d₅, dk₅, mo₅ _ c0, ?_, by omega⟩)
  · simp
    exact ⟨list_ne100 T hS.2, ne_list_ns hS.2 n', ne_list_dict hS.2 dD⟩
  · have := lt_sz e
    simp
    exact ⟨fun q => by have q' : @Eq Nat b L := q; omega, fun q => by have q' : @Eq Nat b d := q; omega⟩
  · obtain ⟨_, hl, _⟩ := rows₄ q hq
    simp
    exact ⟨ne_list_ns hl n₄, ne_list_dict hl d₄⟩
  · exact (f₅ _ (by decide) (by decide)).trans ((put_ne (by decide)).trans ((put_ne (by decide)).trans e1))
  · exact (f₅ _ (by decide) (by decide)).trans ((put_ne (by decide)).trans ((put_ne (by decide)).trans e2))
  · exact (f₅ _ (by decide) (by decide)).trans ((put_ne (by decide)).trans ((put_ne (by decide)).trans e3))
  · intro q hq l hl
    rw [List.take_add_one, hp] at hq
    rcases List.mem_append.mp hq with r | r
    · exact mo₅ _ (cv q r l hl)
    · simp at r
      subst r
      exact cv₅ l hl
end Mine
end
section
open PySem PySem.W PyProof.Rows PySem.Calls
set_option Elab.async false
set_option maxRecDepth 100000
set_option maxHeartbeats 1000000
set_option linter.unusedVariables false
namespace Mine
theorem keep_push (h : Heap) (o : Obj) : Keep h (h.push o) := fun _ _ e => Heap.get?_push_of_some _ e
/-- {0: 0} -/
theorem dict_eval {w : World} {A : Around} {z : Shared} {h : Heap} {tk : Nat} {E : Value → Shared → Prop} {env : Env} {p0 p1 pos : Pos} {Q : Value → Shared → Prop}
    (k : ∀ tk' t h', DictI w h' h.objs.size [(0, .int 0 t)] → Keep h h' → Q (.ref h.objs.size) (St z h' tk')) :
    wpAny (model prog w) A (eval (.Dict [some (.Constant (.int 0) 0 p0)] [.Constant (.int 0) 0 p1] pos) env) Q E (St z h tk) := by
  refine wpAny_Dict_pairs (knd := intKind prog w) (pairs := [(eval (.Constant (.int 0) 0 p0) env, do let x ← eval (.Constant (.int 0) 0 p1) env; standAt pos; pure x)]) (by rfl) (by simp) (Nat.le_of_ble_eq_true rfl) (evalPairs_cons ?_)
  refine Ev.use (z := z) ev_int fun v tk1 hv => ?_
  obtain ⟨t1, rfl⟩ := hv
  refine wpAny_bind (Ev.use (z := z) ev_int fun v tk2 hv => wpAny_bind (wpAny_standAt (wpAny_pure (evalPairs_nil ?_))))
  obtain ⟨t2, rfl⟩ := hv
  refine ⟨[(0, .int 0 t2)], ⟨by simp [intKind, Value.isInt], rfl, trivial⟩, Heap.DictOf.new h, fun h₂ D₂ s₂ => ?_⟩
  exact k _ t2 h₂ D₂ fun b o e => s₂.extBut b o (Nat.ne_of_lt (Heap.lt_size e)) (Heap.get?_push_of_some _ e)
/-- _law_table(network, key, drawn) -/
theorem table_call {w : World} {A : Around} {z : Shared} {g h : Heap} {tk : Nat} {Q : Value → Shared → Prop} {E : Value → Shared → Prop} {nl kc dl : Addr} {net : List Joint} {above : Int} {cs : List Addr} {ds : List Int}
    (B : RunB w g nl kc net above) (hg : g.get? 100 = none) (kg : Keep g h) (T : Tab h cs) (hA : A.depth + 4 < recursionLimit) (hu : A.units + 15 < cLine) (hh : A.handled = none) (hdl : IntList h ds dl) (hn : ds.length = 4)
    (k : ∀ d h' tk' cs' kvs, KeepOff [100] h h' → Tab h' cs' → @LE.le Nat _ h.objs.size d → DictI w h' d kvs → DOk net kvs → (∀ S : Nat, S < 16 → (S : Int) ∈ kvs.map (·.1)) → Q (.ref d) (St z h' tk')) :
    wpAny (model prog w) A (call (.ref 122) [.ref nl, .ref kc, .ref dl]) Q E (St z h tk) := by
  have X := B.top.keep kg
  have h140 := X.size
  refine call_top X (fn_table X) (by omega) (binds := [(Str.ofString "network", .ref nl), (Str.ofString "key", .ref kc), (Str.ofString "drawn", .ref dl)]) (by rfl) (by decide) (by rfl) fun h₁ hns hk => ?_
  have hL1 : @LT.lt Nat _ h.objs.size h₁.objs.size := by obtain ⟨_, _, _, ho, _⟩ := hns; exact Heap.lt_size ho
  generalize hLe : h.objs.size = L at *
  -- table = {0: 0}
  refine wpAny_execs_cons ?_
  refine wpAny_Assign_Name ?_
  refine dict_eval ?_
  intro tk2 t2 h₂ D₂ kd2
  generalize hde : h₁.objs.size = d at *
  replace D₂ : DictI w h₂ d [(0, .int 0 t2)] := D₂
  have hLd : L ≠ d := Nat.ne_of_lt hL1
  refine store_loc (z := z) (hns.keeps kd2) fun h₃ tk3 n₃ s₃ => ?_
  replace s₃ : Heap.SameBut L h₂ h₃ := s₃
  have D₃ : DictI w h₃ d [(0, .int 0 t2)] := DictI.at D₂ fun o e => s₃.extBut _ o (Ne.symm hLd) e
  -- the six rows
  refine wpAny_execs_cons ?_
  refine wpAny_Assign_Name ?_
  refine wpAny_List_spliced ?_
  refine spliced_more ?_
  refine row_eval ?_
  intro tk4 v0 i0
  refine spliced_more ?_
  refine row_eval ?_
  intro tk5 v1 i1
  refine spliced_more ?_
  refine row_eval ?_
  intro tk6 v2 i2
  refine spliced_more ?_
  refine row_eval ?_
  intro tk7 v3 i3
  refine spliced_more ?_
  refine row_eval ?_
  intro tk8 v4 i4
  refine spliced_more ?_
  refine row_eval ?_
  intro tk9 v5 i5
  refine spliced_none ⟨Nat.le_of_ble_eq_true rfl, ?_⟩
  generalize hr0 : h₃.objs.size = r0
  generalize hg0 : h₃.push { cls := .type "list", data := .seq v0.toArray } = g0
  generalize hr1 : g0.objs.size = r1
  generalize hg1 : g0.push { cls := .type "list", data := .seq v1.toArray } = g1
  generalize hr2 : g1.objs.size = r2
  generalize hg2 : g1.push { cls := .type "list", data := .seq v2.toArray } = g2
  generalize hr3 : g2.objs.size = r3
  generalize hg3 : g2.push { cls := .type "list", data := .seq v3.toArray } = g3
  generalize hr4 : g3.objs.size = r4
  generalize hg4 : g3.push { cls := .type "list", data := .seq v4.toArray } = g4
  generalize hr5 : g4.objs.size = r5
  generalize hg5 : g4.push { cls := .type "list", data := .seq v5.toArray } = g5
  have q0 : Keep h₃ g0 := hg0 ▸ keep_push _ _
  have q1 : Keep g0 g1 := hg1 ▸ keep_push _ _
  have q2 : Keep g1 g2 := hg2 ▸ keep_push _ _
  have q3 : Keep g2 g3 := hg3 ▸ keep_push _ _
  have q4 : Keep g3 g4 := hg4 ▸ keep_push _ _
  have q5 : Keep g4 g5 := hg5 ▸ keep_push _ _
  have l0 : IntList g0 [3, 2, 1, 0] r0 := ⟨v0, ⟨_, hg0 ▸ hr0 ▸ Heap.get?_push_size _ rfl, rfl, _, rfl⟩, i0⟩
  have l1 : IntList g1 [2, 0, 3, 1] r1 := ⟨v1, ⟨_, hg1 ▸ hr1 ▸ Heap.get?_push_size _ rfl, rfl, _, rfl⟩, i1⟩
  have l2 : IntList g2 [2, 1, 0, 3] r2 := ⟨v2, ⟨_, hg2 ▸ hr2 ▸ Heap.get?_push_size _ rfl, rfl, _, rfl⟩, i2⟩
  have l3 : IntList g3 [0, 3, 2, 1] r3 := ⟨v3, ⟨_, hg3 ▸ hr3 ▸ Heap.get?_push_size _ rfl, rfl, _, rfl⟩, i3⟩
  have l4 : IntList g4 [1, 3, 0, 2] r4 := ⟨v4, ⟨_, hg4 ▸ hr4 ▸ Heap.get?_push_size _ rfl, rfl, _, rfl⟩, i4⟩
  have l5 : IntList g5 [1, 0, 2, 3] r5 := ⟨v5, ⟨_, hg5 ▸ hr5 ▸ Heap.get?_push_size _ rfl, rfl, _, rfl⟩, i5⟩
  generalize hg6 : g5.push { cls := .type "list", data := .seq [Value.ref r0, .ref r1, .ref r2, .ref r3, .ref r4, .ref r5].toArray } = g6
  generalize hr6 : g5.objs.size = ul
  have q6 : Keep g5 g6 := hg6 ▸ keep_push _ _
  have l6 : g6.IsList ul [Value.ref r0, .ref r1, .ref r2, .ref r3, .ref r4, .ref r5].toArray := ⟨_, hg6 ▸ hr6 ▸ Heap.get?_push_size _ rfl, rfl, _, rfl⟩
  have q36 : Keep h₃ g6 := fun b o e => q6 b o (q5 b o (q4 b o (q3 b o (q2 b o (q1 b o (q0 b o e))))))
  have q26 : Keep h₃ g6 := q36
  refine store_loc (z := z) (n₃.keeps q36) fun h₄ tk10 n₄ s₄ => ?_
  replace s₄ : Heap.SameBut L g6 h₄ := s₄
  have k14 : KeepOff [L] h₁ h₄ := fun b o hb e => s₄.extBut b o (by simpa using hb) (q36 b o (s₃.extBut b o (by simpa using hb) (kd2 b o e)))
  have k04 : Keep h h₄ := fun b o e => k14 b o (not_mem1 (by rw [← hLe]; exact Nat.ne_of_lt (Heap.lt_size e))) (hk b o e)
  have n36 := n₃.keeps q36
  have toH4 : ∀ {ds l}, IntList g6 ds l → IntList h₄ ds l := fun x => x.off (KeepOff.of_same s₄) (not_mem1 (by obtain ⟨_, hl, _⟩ := x; exact ne_list_ns hl n36))
  have u₄ : h₄.IsList ul [Value.ref r0, .ref r1, .ref r2, .ref r3, .ref r4, .ref r5].toArray := l6.at fun o e => s₄.extBut _ o (ne_list_ns l6 n36) e
  have D₄ : DictI w h₄ d [(0, .int 0 t2)] := DictI.at D₃ fun o e => s₄.extBut _ o (Ne.symm hLd) (q36 _ o e)
  refine wpAny_execs_cons (for_it (wpAny_BinOp (Ev.use (ev_loc n₄ (if_pos rfl)) fun v tk11 hv => ?_)))
  subst hv
  refine wpAny_List_spliced (spliced_more (Ev.use (ev_loc n₄ rfl) fun v tk12 hv => ?_))
  subst hv
  refine spliced_none ⟨Nat.le_of_ble_eq_true rfl, ?_⟩
  generalize hg7 : h₄.push { cls := .type "list", data := .seq [Value.ref dl].toArray } = g7
  have q7 : Keep h₄ g7 := hg7 ▸ keep_push _ _
  refine add_l (z := z) (vs := [.ref r0, .ref r1, .ref r2, .ref r3, .ref r4, .ref r5]) (ws := [.ref dl]) (u₄.at fun o e => q7 _ o e) ⟨_, hg7 ▸ Heap.get?_push_size _ rfl, rfl, _, rfl⟩ (Nat.le_of_ble_eq_true rfl) ?_
  have q8 : Keep g7 (g7.push { cls := .type "list", data := .seq ([Value.ref r0, .ref r1, .ref r2, .ref r3, .ref r4, .ref r5] ++ [Value.ref dl]).toArray }) := keep_push _ _
  have lc8 : (g7.push { cls := .type "list", data := .seq ([Value.ref r0, .ref r1, .ref r2, .ref r3, .ref r4, .ref r5] ++ [Value.ref dl]).toArray }).IsList g7.objs.size #[.ref r0, .ref r1, .ref r2, .ref r3, .ref r4, .ref r5, .ref dl] := ⟨_, Heap.get?_push_size _ rfl, rfl, _, rfl⟩
  generalize hg8 : g7.push { cls := .type "list", data := .seq ([Value.ref r0, .ref r1, .ref r2, .ref r3, .ref r4, .ref r5] ++ [Value.ref dl]).toArray } = g8 at q8 lc8
  generalize hlc : g7.objs.size = lc at lc8
  refine wpAny_pyIter_list (s := St z g8 tk12) lc8 ?_
  have hlcs : @LT.lt Nat _ lc g8.objs.size := by obtain ⟨_, ho, _⟩ := lc8; exact Heap.lt_size ho
  have k48 : Keep h₄ g8 := q7.trans q8
  have qi : Keep g8 (g8.push { cls := .type "list_iterator", data := .fields #[.ref lc, .int 0 0] }) := keep_push _ _
  have toI : ∀ {ds l}, IntList h₄ ds l → IntList (g8.push { cls := .type "list_iterator", data := .fields #[.ref lc, .int 0 0] }) ds l := fun x => x.keep (k48.trans qi)
  generalize hrls : [(r0, [3, 2, 1, 0]), (r1, [2, 0, 3, 1]), (r2, [2, 1, 0, 3]), (r3, [0, 3, 2, 1]), (r4, [1, 3, 0, 2]), (r5, [1, 0, 2, 3]), (dl, ds)] = rls
  have rl4 : ∀ q ∈ rls, q.2.length = 4 := by
    subst hrls
    intro q hq
    simp at hq
    rcases hq with rfl | rfl | rfl | rfl | rfl | rfl | rfl
    · rfl
    · rfl
    · rfl
    · rfl
    · rfl
    · rfl
    · exact hn
  have rowsI : ∀ q ∈ rls, IntList h₄ q.2 q.1 := by
    subst hrls
    intro q hq
    simp at hq
    rcases hq with rfl | rfl | rfl | rfl | rfl | rfl | rfl
    · exact toH4 (l0.keep fun b o e => q6 b o (q5 b o (q4 b o (q3 b o (q2 b o (q1 b o e))))))
    · exact toH4 (l1.keep fun b o e => q6 b o (q5 b o (q4 b o (q3 b o (q2 b o e)))))
    · exact toH4 (l2.keep fun b o e => q6 b o (q5 b o (q4 b o (q3 b o e))))
    · exact toH4 (l3.keep fun b o e => q6 b o (q5 b o (q4 b o e)))
    · exact toH4 (l4.keep fun b o e => q6 b o (q5 b o e))
    · exact toH4 (l5.keep q6)
    · exact hdl.keep k04
  have rowsLt : ∀ q ∈ rls, @LT.lt Nat _ q.1 g8.objs.size := fun q hq => by
    obtain ⟨_, ⟨_, ho, _⟩, _⟩ := (rowsI q hq).keep k48
    exact Heap.lt_size ho
  have hvals : ∀ (i : Nat) (v : Value), (#[Value.ref r0, .ref r1, .ref r2, .ref r3, .ref r4, .ref r5, .ref dl] : Array Value)[i]? = some v → ∃ p, rls[i]? = some p ∧ v = .ref p.1 := by
    subst hrls
    intro i v hv
    match i, hv with
    | 0, hv => exact ⟨_, rfl, (Option.some.inj hv).symm⟩
    | 1, hv => exact ⟨_, rfl, (Option.some.inj hv).symm⟩
    | 2, hv => exact ⟨_, rfl, (Option.some.inj hv).symm⟩
    | 3, hv => exact ⟨_, rfl, (Option.some.inj hv).symm⟩
    | 4, hv => exact ⟨_, rfl, (Option.some.inj hv).symm⟩
    | 5, hv => exact ⟨_, rfl, (Option.some.inj hv).symm⟩
    | 6, hv => exact ⟨_, rfl, (Option.some.inj hv).symm⟩
    | i + 7, hv => simp at hv
  have hLI : @LT.lt Nat _ L g8.objs.size := by obtain ⟨_, _, _, ho, _⟩ := n₄; exact Heap.lt_size (k48 _ _ ho)
  have hdI : @LT.lt Nat _ d g8.objs.size := by obtain ⟨_, _, _, ho, _⟩ := D₄; exact Heap.lt_size (k48 _ _ ho)
  have T4 : Tab h₄ cs := T.keep k04
  refine ⟨g8.objs.size, [g8.objs.size], [g8.objs.size, lc], 7, _, _, TabJ w h L d g8.objs.size nl kc net rls, _, tk12, rfl, rfl, It.list (A := A.deeper _) hh _ lc (Nat.ne_of_lt hlcs) #[Value.ref r0, Value.ref r1, Value.ref r2, Value.ref r3, Value.ref r4, Value.ref r5, Value.ref dl], ⟨⟨_, Heap.get?_push_size _ rfl, rfl, rfl⟩, lc8.at fun o e => qi _ o e⟩, ?_, ?_, fun i v as h tk Q E hP hS k => wpAny_pure (k h hP hS fun _ _ _ e => e), ?_, ?_⟩
  · refine ⟨fun b o _ e => qi b o (k48 b o (k04 b o e)), ⟨cs, (T4.keep k48).keep qi, fun c hc q => ?_⟩, fun p hp => toI (rowsI p hp), _, _, (n₄.keeps k48).keeps qi, rfl, rfl, rfl, DictI.at D₄ fun o e => qi _ o (k48 _ o e), ?_, by simp, by simp, by simp⟩
    · obtain ⟨c', oc, vs', t', e', hoc, _⟩ := mem_rec (T4.keep k48) hc
      cases e'
      exact Nat.lt_irrefl _ (q ▸ Heap.lt_size hoc)
    · intro kv hkv
      rw [List.mem_singleton.mp hkv]
      exact ⟨t2, by rw [netF_zero]⟩
  · rintro i H H' ⟨kH, ⟨cs', T', hc'⟩, hr', m', kvs, n', e1, e2, e3, dD, r⟩ kk
    have ne : ∀ {a : Addr}, @LT.lt Nat _ a g8.objs.size → a ∉ [g8.objs.size] := fun ha hm => Nat.lt_irrefl _ (List.mem_singleton.mp hm ▸ ha)
    refine ⟨fun b o hb e => kk b o (ne (Heap.lt_size (k48 _ _ (k04 _ _ e)))) (kH b o hb e), ⟨cs', T'.off kk (ne (by omega)) fun a ha c hc => by rw [List.mem_singleton.mp ha]; exact hc' c hc, hc'⟩, fun p hp => (hr' p hp).off kk (ne (rowsLt p hp)), m', kvs, n'.at' fun o e => kk _ o (ne hLI) e, e1, e2, e3, DictI.at dD fun o e => kk _ o (ne hdI) e, r⟩
  · rintro i v as H tk' hi ⟨hv, rfl⟩ hS J
    obtain ⟨p, hp, rfl⟩ := hvals i v hv
    exact tab_turn (A := A.deeper _) B hg kg (show A.depth + 1 + 3 < recursionLimit by omega) (show A.units + 3 + 12 < cLine by omega) hh (by omega) (by omega) hLd hLI hdI (by omega) rl4 hp hS J fun H' tk' hS' J' => ⟨H', tk', rfl, hS', J'⟩
  · rintro H tk' ⟨kH, ⟨cs', T', hc'⟩, hr', m', kvs, n', e1, e2, e3, dD, dk, c0, cv, le'⟩
    refine wpAny_execs_nil (wpAny_execs_cons (wpAny_Return_some (Ev.use (ev_loc n' e3) fun v tk13 hv => ?_)))
    subst hv
    refine k d H tk13 cs' kvs kH T' (by omega) dD dk fun S hS => ?_
    match S, hS with
    | 0, _ => exact c0
    | S + 1, hS =>
      obtain ⟨r, hr, l, hl, e⟩ := cover ⟨S, Nat.lt_of_succ_lt_succ hS⟩
      have hmem : ∃ a, (a, r) ∈ rls := by
        subst hrls
        simp [sixRows] at hr
        rcases hr with rfl | rfl | rfl | rfl | rfl | rfl
        · exact ⟨r0, by simp⟩
        · exact ⟨r1, by simp⟩
        · exact ⟨r2, by simp⟩
        · exact ⟨r3, by simp⟩
        · exact ⟨r4, by simp⟩
        · exact ⟨r5, by simp⟩
      obtain ⟨a, ha⟩ := hmem
      have := cv (a, r) (by rw [List.take_of_length_le (by subst hrls; simp)]; exact ha) l hl
      rwa [e] at this
end Mine
end
section
open PySem PySem.W PyProof.Rows PySem.Calls
set_option Elab.async false
set_option maxRecDepth 100000
set_option maxHeartbeats 1000000
set_option linter.unusedVariables false
namespace Mine
/-! the objects that cmp_to_key makes, by their places behind the size n at the call -/
def gO (get : Nat → Option Obj) (i : Nat) : Obj := (get i).getD default
def clsD (o : Obj) : ClassData := match o.data with | .cls c => c | _ => default
def fnD (o : Obj) : FuncData := match o.data with | .func f => f | _ => default
def dEs (o : Obj) : Array DictEntry := match o.data with | .dict es _ => es | _ => #[]
def dEp (o : Obj) : Nat := match o.data with | .dict _ n => n | _ => 0
def slotD (o : Obj) (i : Nat) : Option Value := (o.slots[i]?).getD none
structure MethMade (n i : Nat) (nm q : Str) (cl : List (Str × Addr)) (get : Nat → Option Obj) : Prop where
  fn : get (16 + 8 * i) = some (gO get (16 + 8 * i))
  cls : (gO get (16 + 8 * i)).cls = .type "function"
  dat : (gO get (16 + 8 * i)).data = .func (methFd i nm q cl (n + (15 + 8 * i)) (fnD (gO get (16 + 8 * i))).pyModule (fnD (gO get (16 + 8 * i))).closureTuple)
  cd : get (15 + 8 * i) = some (gO get (15 + 8 * i))
  cf : (gO get (15 + 8 * i)).data = .fields (fldsOf (gO get (15 + 8 * i)))
  cq : (fldsOf (gO get (15 + 8 * i)))[1]? = some (.str q (strTok ((fldsOf (gO get (15 + 8 * i))).getD 1 .none)))
structure KMade (n f : Nat) (get : Nat → Option Obj) : Prop where
  cls : get 60 = some (excClassObj (clsD (gO get 60)).name (clsD (gO get 60)).qualname (n + 60) (n + 59) (clsD (gO get 60)).bases [.type "object"] (clsD (gO get 60)).hasDict [Str.ofString "obj"] (clsD (gO get 60)).subclasses false (clsD (gO get 60)).collection (gO get 60).dict (slotD (gO get 60) 0) (slotD (gO get 60) 1) (slotD (gO get 60) 2) (slotD (gO get 60) 3) (slotD (gO get 60) 5) "object.__new__")
  ns : get 59 = some (gO get 59)
  nd : (gO get 59).data = .dict (dEs (gO get 59)) (dEp (gO get 59))
  nk : (dEs (gO get 59)).toList.all strKey = true
  f1 : nsFind (dEs (gO get 59)) (Str.ofString "__getattribute__") = none
  f2 : nsFind (dEs (gO get 59)) (Str.ofString "__getattr__") = none
  f3 : nsFind (dEs (gO get 59)) (Str.ofString "obj") = some (.ref (n + 61))
  f4 : nsFind (dEs (gO get 59)) (Str.ofString "__ne__") = none
  f5 : nsFind (dEs (gO get 59)) (Str.ofString "__lt__") = some (.ref (n + 24))
  f6 : nsFind (dEs (gO get 59)) (Str.ofString "__gt__") = some (.ref (n + 32))
  f7 : nsFind (dEs (gO get 59)) (Str.ofString "__eq__") = some (.ref (n + 40))
  f8 : nsFind (dEs (gO get 59)) (Str.ofString "__le__") = some (.ref (n + 48))
  f9 : nsFind (dEs (gO get 59)) (Str.ofString "__ge__") = some (.ref (n + 56))
  f10 : nsFind (dEs (gO get 59)) (Str.ofString "__init__") = some (.ref (n + 16))
  f11 : nsFind (dEs (gO get 59)) (Str.ofString "__setattr__") = none
  md : get 61 = some { cls := .type "member_descriptor", data := .fields #[.str (Str.ofString "obj") (strTok ((fldsOf (gO get 61)).getD 0 .none)), .ref (n + 60), .builtin "proto.slot", .builtin "proto.slot#set", .int 0 0] }
  m0 : MethMade n 0 (Str.ofString "__init__") (Str.ofString "cmp_to_key.<locals>.K.__init__") [] get
  m1 : MethMade n 1 (Str.ofString "__lt__") (Str.ofString "cmp_to_key.<locals>.K.__lt__") [(Str.ofString "mycmp", n + 1)] get
  m2 : MethMade n 2 (Str.ofString "__gt__") (Str.ofString "cmp_to_key.<locals>.K.__gt__") [(Str.ofString "mycmp", n + 1)] get
  m3 : MethMade n 3 (Str.ofString "__eq__") (Str.ofString "cmp_to_key.<locals>.K.__eq__") [(Str.ofString "mycmp", n + 1)] get
  m4 : MethMade n 4 (Str.ofString "__le__") (Str.ofString "cmp_to_key.<locals>.K.__le__") [(Str.ofString "mycmp", n + 1)] get
  m5 : MethMade n 5 (Str.ofString "__ge__") (Str.ofString "cmp_to_key.<locals>.K.__ge__") [(Str.ofString "mycmp", n + 1)] get
  c1 : get 1 = some (gO get 1)
  c2 : (gO get 1).data = .cell (some (.ref f))
theorem MethMade.at {n i : Nat} {nm q : Str} {cl : List (Str × Addr)} {get : Nat → Option Obj} {h : Heap} (M : MethMade n i nm q cl get) (own : ∀ i o, get i = some o → h.get? (n + i) = some o) : MethAt h i nm q cl (n + (16 + 8 * i)) :=
  ⟨_, n + (15 + 8 * i), _, _, own _ _ M.fn, M.cls, M.dat, n + (15 + 8 * i), _, _, _, rfl, own _ _ M.cd, M.cf, M.cq⟩
theorem kmade_at {n f : Nat} {get : Nat → Option Obj} {h : Heap} (K : KMade n f get) (own : ∀ i o, get i = some o → h.get? (n + i) = some o) :
    KAt h (n + 60) (n + 59) (n + 61) (n + 1) (fun i => n + (16 + 8 * i)) ∧ KNew h (n + 60) (n + 59) (n + 61) (n + 16) ∧ h.IsCell (n + 1) (some (.ref f)) := by
  have hns : h.Ns (n + 59) (nsFind (dEs (gO get 59))) := ⟨_, _, _, own _ _ K.ns, K.nd, strKeys_of K.nk, fun _ => rfl⟩
  refine ⟨⟨⟨_, _, _, _, _, _, _, _, _, _, _, _, _, _, own _ _ K.cls⟩, ⟨_, hns, K.f1, K.f2, K.f3, K.f4, K.f5, K.f6, K.f7, K.f8, K.f9⟩, ⟨_, own _ _ K.md⟩, K.m1.at own, K.m2.at own, K.m3.at own, K.m4.at own, K.m5.at own⟩,
    ⟨⟨_, _, _, _, _, _, _, _, _, _, _, _, own _ _ K.cls⟩, ⟨_, hns, K.f10, K.f11, K.f3⟩, ⟨_, own _ _ K.md⟩, K.m0.at own⟩, _, own _ _ K.c1, K.c2⟩
end Mine
end
section
open PySem PySem.W PyProof.Rows PySem.Calls
set_option Elab.async false
set_option maxRecDepth 100000
set_option maxHeartbeats 1000000
set_option linter.unusedVariables false
namespace Mine
theorem fn_law {w : World} {h : Heap} (X : TopIn w h) : FnAt w h 139 138 (Str.ofString "law") 37 pmL :=
  ⟨⟨_, top_get X (by kernel_rfl), by kernel_rfl⟩, cd_of (w := w) (top_get X (by kernel_rfl)) (by kernel_rfl) (by kernel_rfl)⟩
theorem hd_law {w : World} {h : Heap} (X : TopIn w h) : CodeHd h 138 136 :=
  hd_of (w := w) (top_get X (by kernel_rfl)) (by kernel_rfl) (by kernel_rfl) (by kernel_rfl) (by kernel_rfl) (by kernel_rfl) (by kernel_rfl) (by kernel_rfl) (by decide)
abbrev envL (L : Addr) : Env := envFC 139 138 (Str.ofString "law") 37 pmL L
/-- a code with names and a template: six objects -/
theorem newCode_sz {M : Model} {A : Around} {E : Value → Shared → Prop} {s : Shared} {ctx : CodeContext} {name qn : Str} {fl argc po kw flags : Nat} {free : List Str} {isF : Bool} {parse : Option Nat} {l : List Str × List Str} {fd : FuncData} {Q : Value → Shared → Prop}
    (hQ : ∀ h' tk, Keep s.heap h' → h'.objs.size = s.heap.objs.size + 6 → h'.CodeRec (.ref (s.heap.objs.size + 5)) qn → Q (.ref (s.heap.objs.size + 5)) { s with heap := h', toks := tk }) :
    wpAny M A (newCode ctx name qn fl argc po kw flags free isF parse (some l) (some fd)) Q E s := by
  unfold newCode
  refine wpAny_bind (wpAny_mkText (wpAny_bind (wpAny_mkText (wpAny_bind (wpAny_mkText (wpAny_bind (wpAny_mkStrs fun fs => wpAny_bind (wpAny_newObjAsIs_type (wpAny_bind (wpAny_alloc ?_))))))))))
  refine wpAny_bind (wpAny_mkStrs fun a => wpAny_bind (wpAny_newObjAsIs_type (wpAny_bind (wpAny_mkStrs fun b => wpAny_bind (wpAny_newObjAsIs_type (wpAny_bind (wpAny_bind (wpAny_alloc (wpAny_pure (wpAny_bind (wpAny_fresh (wpAny_bind (wpAny_mkText (wpAny_newObj_type ?_ (by size_fits)))))))))))))))
  have key : ∀ (X : Heap) (o : Obj) (tk : Nat), Keep s.heap X → X.objs.size = s.heap.objs.size + 5 → o.isFreed = false → (∃ vs t, o.data = .fields vs ∧ vs[1]? = some (.str qn t)) → Q (.ref X.objs.size) { s with heap := X.push o, toks := tk } := fun X o tk kX sX fo hv => by
    obtain ⟨vs, t, hd, hv⟩ := hv
    have hc : (X.push o).CodeRec (.ref X.objs.size) qn := ⟨_, _, vs, t, rfl, Heap.get?_push_size _ fo, hd, hv⟩
    rw [sX] at hc ⊢
    exact hQ _ _ (fun b o e => Heap.get?_push_of_some _ (kX b o e)) (by rw [Heap.size_push, sX]) hc
  exact key _ _ _ (fun b o e => Heap.get?_push_of_some _ (Heap.get?_push_of_some _ (Heap.get?_push_of_some _ (Heap.get?_push_of_some _ (Heap.get?_push_of_some _ e))))) (by simp only [Heap.size_push]) rfl ⟨_, _, rfl, rfl⟩
/-- the lambda of law -/
theorem lam_make {w : World} {A : Around} {z : Shared} {h : Heap} {tk : Nat} {Q : Value → Shared → Prop} {E : Value → Shared → Prop} {L : Addr} {pos : Pos} (X : TopIn w h) (hT : h.get? 136 = some (tabObj #[]))
    (k : ∀ h' tk', KeepOff [136] h h' → (∃ ps, h'.get? 136 = some (tabObj ps)) → h'.objs.size = h.objs.size + 8 → CmpAt h' (L + 4) (h.objs.size + 7) → Q (.ref (h.objs.size + 7)) (St z h' tk')) :
    wpAny (model prog w) A (eval (.Lambda keyLam.1 keyLam.2.1 keyLam.2.2 pos) (envL L)) Q E (St z h tk) := by
  refine kla_eval (by rfl) ?_
  rw [makeFunction_eq]
  simp only [List.zip_nil_right, List.filterMap_nil, List.isEmpty_nil, if_true, pure_bind]
  have hcl : closureFor keyLam.2.2 (envL L) = pure [(Str.ofString "above", L + 4)] := by rfl
  unfold makeTail
  rw [hcl]
  refine wpAny_bind (wpAny_pure ?_)
  simp only [List.isEmpty_cons, Bool.false_eq_true, if_false]
  refine wpAny_bind (wpAny_newTextTuple ?_)
  have key : ∀ (g : Heap) (ctv : Value), Keep h g → g.objs.size = h.objs.size + 1 → wpAny (model prog w) A (do
      let __do_lift ← functionCode (envL L) pos pos.line (Str.ofString "<lambda>") ((envL L).qual ++ Str.ofString "<lambda>") keyLam.1 keyLam.2.2 (.expr keyLam.2.1)
      let __do_lift_1 ← builtinsFor (envL L).globals (envL L).builtins
      let __do_lift_2 ← nsGet (envL L).globals (Str.ofString "__name__")
      let __do_lift_3 ← (pure .none : Sem Value)
      newObj (.type "function") (.func { name := Str.ofString "<lambda>", qualname := (envL L).qual ++ Str.ofString "<lambda>", params := keyLam.1, body := .expr keyLam.2.1, scope := keyLam.2.2, globals := (envL L).globals, closure := [(Str.ofString "above", L + 4)], closureTuple := ctv, code := __do_lift, builtins := __do_lift_1, defaults := .none, kwdefaults := .none, annotations := none, pyModule := __do_lift_2.getD .none, doc := __do_lift_3 })) Q E (St z g tk) := by
    intro g ctv kg sg
    have Xg := X.keep kg
    obtain ⟨o, vs, file, tf, flags, tg, inF, text, tt, ho, hcls, hd, h11', h11, h2, h7, h9, h10, hne⟩ := hd_law Xg
    have hP : g.get? 136 = some (tabObj #[]) := kg _ _ hT
    refine wpAny_bind ?_
    unfold functionCode codeAt
    rw [show (envL L).code = .ref 138 from rfl, if_neg (show ¬ ((Value.ref 138 == Value.none) = true) from Bool.false_ne_true)]
    refine wpAny_bind (wpAny_fieldsOf ho hd ?_)
    rw [h11]
    refine wpAny_bind (wpAny_fieldsOf hP rfl ?_)
    rw [show codeAmong pos (#[] : Array Value).toList = none from rfl, h2, h7, h9, h10]
    rw [show localNames keyLam.1 keyLam.2.2 (.expr keyLam.2.1) = some ((localNames keyLam.1 keyLam.2.2 (.expr keyLam.2.1)).getD ([], [])) from rfl]
    refine wpAny_bind (newCode_sz fun h₁ tk₁ k₁ s₁ r₁ => ?_)
    replace k₁ : Keep g h₁ := k₁
    replace s₁ : h₁.objs.size = g.objs.size + 6 := s₁
    replace r₁ : h₁.CodeRec (.ref (g.objs.size + 5)) (Str.ofString "law.<locals>.<lambda>") := r₁
    have hP₁ := k₁ _ _ hP
    refine wpAny_bind (wpAny_updateFieldsOfTheText hP₁ rfl ?_)
    have h140 := X.size
    have hnew : (Obj.mapFields (fun vs => if (codeAmong pos vs.toList).isSome = true then vs else vs ++ #[rawInt pos.line, rawInt pos.col, .ref (g.objs.size + 5)]) (tabObj #[])).data = .fields (#[] ++ #[rawInt pos.line, rawInt pos.col, .ref (g.objs.size + 5)]) := by
      rw [Obj.data_mapFields rfl]
      rfl
    have hget := Heap.get?_update_self (h := h₁) (fun o => Obj.mapFields (fun vs => if (codeAmong pos vs.toList).isSome = true then vs else vs ++ #[rawInt pos.line, rawInt pos.col, .ref (g.objs.size + 5)]) o) hP₁ (Obj.isFreed_of_fields hnew)
    have hsame : Heap.SameBut 136 h₁ (h₁.update 136 fun o => Obj.mapFields (fun vs => if (codeAmong pos vs.toList).isSome = true then vs else vs ++ #[rawInt pos.line, rawInt pos.col, .ref (g.objs.size + 5)]) o) := Heap.SameBut.update ..
    refine wpAny_bind (wpAny_fieldsOf hget hnew ?_)
    have hl : codeAmong pos ((#[] : Array Value) ++ #[rawInt pos.line, rawInt pos.col, Value.ref (g.objs.size + 5)]).toList = some (.ref (g.objs.size + 5)) := by simp [codeAmong, rawInt]
    rw [hl]
    have ht : ∃ ps, (h₁.update 136 fun o => Obj.mapFields (fun vs => if (codeAmong pos vs.toList).isSome = true then vs else vs ++ #[rawInt pos.line, rawInt pos.col, .ref (g.objs.size + 5)]) o).get? 136 = some (tabObj ps) := ⟨_, hget⟩
    generalize (h₁.update 136 fun o => Obj.mapFields (fun vs => if (codeAmong pos vs.toList).isSome = true then vs else vs ++ #[rawInt pos.line, rawInt pos.col, .ref (g.objs.size + 5)]) o) = h₂ at hsame ht ⊢
    have k₂ : KeepOff [136] h h₂ := fun b o hb e => hsame.extBut b o (by simpa using hb) (k₁ b o (kg b o e))
    have X₂ : TopIn w h₂ := fun a o ho => k₂ a o (fun q => (k2_off ho).1 (by rw [List.mem_singleton.mp q]; simp [Mine.tabs])) (X a o ho)
    have r₂ : h₂.CodeRec (.ref (g.objs.size + 5)) (Str.ofString "law.<locals>.<lambda>") := by
      obtain ⟨c', oc, vs', t', e, hoc, r⟩ := r₁
      cases e
      exact ⟨_, oc, vs', t', rfl, hsame.extBut _ _ (fun q => by have q' : @Eq Nat (g.objs.size + 5) 136 := q; have : @LE.le Nat _ 140 g.objs.size := Xg.size; omega) hoc, r⟩
    have s₂ : h₂.objs.size = h.objs.size + 7 := by rw [hsame.1, s₁, sg]
    refine wpAny_pure ?_
    obtain ⟨bm, ob, hbm, hne0, _, hneP, hbo, hbc, hbd, hbp⟩ := top_bm (P := 136) X₂ (by decide)
    refine wpAny_bind (wpAny_builtinsFor (s := St z h₂ tk₁) (top_g X₂) hbm hne0 hbo hbc hbd hbp ?_)
    refine wpAny_bind (wpAny_nsGet (s := St z h₂ tk₁) (top_g X₂) ?_)
    refine wpAny_bind (wpAny_pure (wpAny_newObj_type (s := St z h₂ tk₁) ?_ (by size_fits)))
    have kp : ∀ o, Keep h₂ (h₂.push o) := keep_push h₂
    rw [show (St z h₂ tk₁).heap.objs.size = h.objs.size + 7 from s₂]
    refine k _ _ (k₂.trans (Keep.off (kp _))) (ht.imp fun _ e => kp _ _ _ e) (by rw [Heap.size_push, s₂]) ⟨_, g.objs.size + 5, _, ctv, by rw [← s₂]; exact Heap.get?_push_size _ rfl, rfl, ?_⟩
    obtain ⟨c', oc, vs', t', e, hoc, r⟩ := r₂
    exact ⟨c', oc, vs', t', e, kp _ _ _ hoc, r⟩
  exact key _ _ (keep_push _ _) (Heap.size_push ..)
end Mine
end
section
open PySem PySem.W PyProof.Rows PySem.Calls
set_option Elab.async false
set_option maxRecDepth 100000
set_option maxHeartbeats 1000000
set_option linter.unusedVariables false
namespace Mine
/-- the end of a list's iterator: two objects -/
theorem next_end_sz {w : World} {A : Around} {E : Value → Shared → Prop} {s : Shared} {it l : Addr} {i : Nat} {items : Array Value} {Q : Option Value → Shared → Prop} (hh : A.handled = none)
    (hit : s.heap.IsListIter it l i) (hl : s.heap.IsList l items) (hx : items[i]? = none)
    (hQ : ∀ h', Heap.ExtBut it s.heap h' → h'.objs.size = s.heap.objs.size + 2 → Q none { s with heap := h' }) : wpAny (model prog w) A (pyNext (.ref it)) Q E s := by
  obtain ⟨o, ho, hc, hd⟩ := id hit
  obtain ⟨ol, hol, _, nl, hdl⟩ := hl
  unfold pyNext
  refine wpAny_bind (wpAny_attempt (wpAny_callSpecial?_slot (name := Str.ofString "__next__") hit.typeIs slot_listiter_next
    (wpAny_call_entry slot_listiter_next hit.typeIs entry_listiter_next ?_ (args_listiter_next _))))
  show wpAny _ _ (field (.ref it) 0 >>= _) _ _ s
  refine wpAny_bind (wpAny_field ho hd (x := .ref l) rfl ?_)
  show wpAny _ _ (if (Value.ref l == Value.none) = true then _ else _) _ _ s
  rw [if_neg (show ¬ ((Value.ref l == Value.none) = true) from Bool.false_ne_true)]
  show wpAny _ _ (field (.ref it) 1 >>= _) _ _ s
  refine wpAny_bind (wpAny_field ho hd (x := .int i 0) rfl ?_)
  show wpAny _ _ (seqItems? (.ref l) >>= _) _ _ s
  refine wpAny_bind (wpAny_seqItems hol hdl ?_)
  simp only [Int.toNat_natCast, hx]
  refine wpAny_bind (wpAny_rule (wpAny_bind (wpAny_setField ho hd (by simp) ?_)))
  show wpAny _ _ (newExc (.type "StopIteration") [] >>= _) _ _ _
  refine wpAny_bind ?_
  simp only [newExc, newTuple]
  refine wpAny_bind (wpAny_newObj_type ?_ (by size_fits))
  refine wpAny_bind (m := firstArgMember _ _) (wpAny_of_eq (a := Value.none) (by first | rfl | (simp only [firstArgMember]; rfl)) ?_)
  refine wpAny_newObj_type ?_ (by size_fits)
  simp only [raiseNew]
  refine wpAny_bind (wpAny_handled ?_)
  rw [show A.in1.handled = none from hh]
  refine wpAny_bind (wpAny_pure (wpAny_throw ?_))
  refine wpAny_bind (wpAny_isInstance (T := "StopIteration") (b := true) ⟨_, Heap.get?_push_size _ rfl, rfl⟩ isSubtype_stop ?_)
  exact wpAny_pure (hQ _ (((Heap.SameBut.update ..).extBut.push _).push _) (by simp only [Heap.size_push, Heap.size_after_update]))
theorem ItS.list {w : World} {A : Around} {z : Shared} (hh : A.handled = none) (I ax : Addr) (hne : ax ≠ I) (items : Array Value) :
    ItS w A z I [I] [I, ax] items.size (fun i v as _ => items[i]? = some v ∧ as = []) (fun i h => h.IsListIter I ax i ∧ h.IsList ax items) 2 where
  toIt := It.list hh I ax hne items
  item2 := fun i h tk Q E hi st k => wpAny_pyNext_list_item (s := St z h tk) st.1 st.2 (x := items[i]) (by simp [hi]) fun h' hit' hs' =>
    k _ [] h' tk ⟨by simp [hi], rfl⟩ ⟨hit', st.2.extBut hs'.extBut hne⟩ (by simp) (KeepOff.of_same hs') hs'.1
  done2 := fun h tk Q E st k => next_end_sz (s := St z h tk) hh st.1 st.2 (by simp) fun h' hx hz => k h' tk (fun b o hb e => hx b o (by simpa using hb) e) hz
/-- a def without cells, with the size -/
theorem call_top_sz {w : World} {A : Around} {z : Shared} {h : Heap} {tk : Nat} {Q : Value → Shared → Prop} {E : Value → Shared → Prop} {a c : Addr} {nm : Str} {i : Nat} {pm : Value} {args : List Value} {binds : List (Str × Value)}
    (X : TopIn w h) (F : FnAt w h a c nm i pm) (hA : A.depth < recursionLimit) (hb : bindArgs (fdF c nm i pm) ⟨args, []⟩ = pure binds)
    (hcell : ((scopeOf (top i)).names.all fun x => x.2 != .cell) = true) (hloc : (binds.map (·.1)).all (fun x => decide ((scopeOf (top i)).names.lookup x = some .local)) = true)
    (k : ∀ h₁ tk₁, h₁.Ns h.objs.size (fun x => binds.reverse.lookup x) → Keep h h₁ → h₁.objs.size = h.objs.size + 1 →
      wpAny (model prog w) (A.deeper (envF a c nm i pm h.objs.size)) (execs (bodyOf (top i)) (envF a c nm i pm h.objs.size)) (fun f s' => Q (match f with | .ret v => v | _ => .none) s') (fun _ _ => False) (St z h₁ tk₁))
    (hco : (scopeOf (top i)).isCoroutine = false := by rfl) (hgen : (scopeOf (top i)).isGenerator = false := by rfl) (hk : (scopeOf (top i)).kind = .function := by rfl) :
    wpAny (model prog w) A (call (.ref a) args) Q E (St z h tk) := by
  obtain ⟨o, ho, hd⟩ := F.fn
  refine wpAny_call (codeAny_call_function hA ho hd hco hgen rfl F.cd ?_)
  rw [hb]
  refine wpAny_pure (wpAny_newFunctionEnv (fun x hx => ?_) (binds_loc hloc) (fun h₁ hns hsb => ⟨(top_noLimit X).fresh _ hsb, codeAny_func ?_⟩) hk)
  · have := List.all_eq_true.mp hcell x hx
    simpa using this
  · exact wpAny_mono (k h₁ _ hns (fun b o e => hsb.extBut b o (Nat.ne_of_lt (Heap.lt_size e)) (Heap.get?_push_of_some _ e)) (by rw [hsb.1, Heap.size_push])) (fun _ _ q => q) fun _ _ q => q.elim
/-- _law_joint(x), with the size -/
theorem joint_sz {w : World} {A : Around} {z : Shared} {h : Heap} {tk : Nat} {Q : Value → Shared → Prop} {E : Value → Shared → Prop} (X : TopIn w h) (hA : A.depth < recursionLimit) {x : Int} {t : Tok}
    (k : ∀ h' tk' t1 t2 t3, Keep h h' → h'.objs.size = h.objs.size + 2 → h'.IsTuple (h.objs.size + 1) #[.int (x.fmod 4) t1, .int ((x.fmod 4 + 1 + (x.fdiv 4).fmod 3).fmod 4) t2, .int ((x.fdiv 12).fmod 10) t3] → Q (.ref (h.objs.size + 1)) (St z h' tk')) :
    wpAny (model prog w) A (call (.ref 91) [.int x t]) Q E (St z h tk) := by
  refine call_top_sz X (fn_joint' X) hA (binds := [(Str.ofString "x", .int x t)]) (by rfl) (by decide) (by rfl) fun h₁ tk₁ hns hk hz => ?_
  refine wpAny_execs_cons (wpAny_Assign_Name (Ev.use (ev_mod (ev_locI hns rfl) ev_int (by decide)) fun v tk1 hv => ?_))
  obtain ⟨t1, rfl⟩ := hv
  refine wpAny_storeName_local rfl hns fun h₂ hns₂ hs₂ => ?_
  refine wpAny_execs_cons (wpAny_Return_some (wpAny_Tuple_spliced ?_))
  refine spliced_more (Ev.use (z := z) (ev_locI hns₂ rfl) fun v tk2 hv => ?_)
  obtain ⟨t2, rfl⟩ := hv
  refine spliced_more (Ev.use (ev_mod (ev_add (ev_add (ev_locI hns₂ rfl) ev_int) (ev_mod (ev_fdiv (ev_locI hns₂ rfl) ev_int (by decide) (pylong_small (by decide))) ev_int (by decide))) ev_int (by decide)) fun v tk3 hv => ?_)
  obtain ⟨t3, rfl⟩ := hv
  refine spliced_more (Ev.use (ev_mod (ev_fdiv (ev_locI hns₂ rfl) ev_int (by decide) (pylong_small (by decide))) ev_int (by decide)) fun v tk4 hv => ?_)
  obtain ⟨t4, rfl⟩ := hv
  refine spliced_none ⟨Nat.le_of_ble_eq_true rfl, ?_⟩
  have up : Keep h h₂ := fun b o e => (hs₂.2 b (Nat.ne_of_lt (Heap.lt_size e))).trans (hk b o e)
  have z2 : h₂.objs.size = h.objs.size + 1 := by
    have : h₂.objs.size = h₁.objs.size := hs₂.1
    rw [this, hz]
  show Q (.ref h₂.objs.size) _
  have hT : (h₂.push { cls := .type "tuple", data := .seq [Value.int (x.fmod 4) t2, .int ((x.fmod 4 + 1 + (x.fdiv 4).fmod 3).fmod 4) t3, .int ((x.fdiv 12).fmod 10) t4].toArray }).IsTuple h₂.objs.size #[.int (x.fmod 4) t2, .int ((x.fmod 4 + 1 + (x.fdiv 4).fmod 3).fmod 4) t3, .int ((x.fdiv 12).fmod 10) t4] := ⟨_, Heap.get?_push_size _ rfl, rfl, 0, rfl⟩
  rw [z2] at hT ⊢
  exact k _ _ t2 t3 t4 (fun b o e => Heap.get?_push_of_some _ (up b o e)) (by rw [Heap.size_push, z2]) hT
end Mine
end
section
open PySem PySem.W PyProof.Rows PySem.Calls
set_option Elab.async false
set_option maxRecDepth 100000
set_option maxHeartbeats 1000000
set_option linter.unusedVariables false
namespace Mine
theorem law_names : ∀ (h : Heap), (pushCells h (scopeOf (top 37)).names) = (((h.push { cls := .type "cell", data := .cell none }).push { cls := .type "cell", data := .cell none }).push { cls := .type "cell", data := .cell none }).push { cls := .type "cell", data := .cell none } := fun h => by rfl
/-- law's frame and its four cells -/
theorem law_enter {w : World} {A : Around} {z : Shared} {h : Heap} {tk : Nat} {Q : Value → Shared → Prop} {E : Value → Shared → Prop} (X : TopIn w h) (hz : h.objs.size = 141) (hA : A.depth < recursionLimit)
    (k : ∀ h₁ tk₁, h₁.Ns 141 (put (fun _ => none) (Str.ofString "script") (.ref 140)) → Keep h h₁ → h₁.objs.size = 146 → h₁.IsCell 142 none → h₁.IsCell 143 none → h₁.IsCell 144 none → h₁.IsCell 145 none →
      wpAny (model prog w) (A.deeper (envL 141)) (execs (bodyOf (top 37)) (envL 141)) (fun f s' => Q (match f with | .ret v => v | _ => .none) s') (fun _ _ => False) (St z h₁ tk₁)) :
    wpAny (model prog w) A (call (.ref 139) [.ref 140]) Q E (St z h tk) := by
  obtain ⟨o, ho, hd⟩ := (fn_law X).fn
  refine wpAny_call (codeAny_call_function hA ho hd rfl rfl rfl (fn_law X).cd ?_)
  rw [show bindArgs (fdF 138 (Str.ofString "law") 37 pmL) ⟨[.ref 140], []⟩ = pure [(Str.ofString "script", .ref 140)] from rfl]
  refine wpAny_pure ?_
  simp only [newFunctionEnv, Option.isSome_none, Bool.false_eq_true, if_false]
  refine wpAny_bind (wpAny_alloc ?_)
  refine wpAny_bind (wpAny_layCells _ (fun name kind cells => by cases hkc : kind == NameKind.cell <;> simp [hkc]) _ _ _ _ ?_)
  rw [show (St z h tk).heap = h from rfl]
  have zF : (h.push { cls := .type "frame", data := .dict #[] }).objs.size = 142 := by rw [Heap.size_push, hz]
  have nF : (h.push { cls := .type "frame", data := .dict #[] }).Ns 141 (fun _ => none) := hz ▸ Heap.Ns.new h (.type "frame")
  have kF : Keep h (h.push { cls := .type "frame", data := .dict #[] }) := keep_push _ _
  show wpAny _ _ _ _ _ (St z (pushCells (h.push { cls := .type "frame", data := .dict #[] }) (scopeOf (top 37)).names) tk)
  rw [law_names, show (h.push { cls := .type "frame", data := .dict #[] }).objs.size = 142 from zF, hz]
  generalize h.push { cls := .type "frame", data := .dict #[] } = H0 at zF nF kF ⊢
  have z1 : (H0.push { cls := .type "cell", data := .cell none }).objs.size = 143 := by rw [Heap.size_push, zF]
  have z2 : ((H0.push { cls := .type "cell", data := .cell none }).push { cls := .type "cell", data := .cell none }).objs.size = 144 := by rw [Heap.size_push, z1]
  have z3 : (((H0.push { cls := .type "cell", data := .cell none }).push { cls := .type "cell", data := .cell none }).push { cls := .type "cell", data := .cell none }).objs.size = 145 := by rw [Heap.size_push, z2]
  have z4 : ((((H0.push { cls := .type "cell", data := .cell none }).push { cls := .type "cell", data := .cell none }).push { cls := .type "cell", data := .cell none }).push { cls := .type "cell", data := .cell none }).objs.size = 146 := by rw [Heap.size_push, z3]
  have c1 : ((((H0.push { cls := .type "cell", data := .cell none }).push { cls := .type "cell", data := .cell none }).push { cls := .type "cell", data := .cell none }).push { cls := .type "cell", data := .cell none }).IsCell 142 none := ⟨_, keep_push _ _ _ _ (keep_push _ _ _ _ (keep_push _ _ _ _ (zF ▸ Heap.get?_push_size _ rfl))), rfl⟩
  have c2 : ((((H0.push { cls := .type "cell", data := .cell none }).push { cls := .type "cell", data := .cell none }).push { cls := .type "cell", data := .cell none }).push { cls := .type "cell", data := .cell none }).IsCell 143 none := ⟨_, keep_push _ _ _ _ (keep_push _ _ _ _ (z1 ▸ Heap.get?_push_size _ rfl)), rfl⟩
  have c3 : ((((H0.push { cls := .type "cell", data := .cell none }).push { cls := .type "cell", data := .cell none }).push { cls := .type "cell", data := .cell none }).push { cls := .type "cell", data := .cell none }).IsCell 144 none := ⟨_, keep_push _ _ _ _ (z2 ▸ Heap.get?_push_size _ rfl), rfl⟩
  have c4 : ((((H0.push { cls := .type "cell", data := .cell none }).push { cls := .type "cell", data := .cell none }).push { cls := .type "cell", data := .cell none }).push { cls := .type "cell", data := .cell none }).IsCell 145 none := ⟨_, z3 ▸ Heap.get?_push_size _ rfl, rfl⟩
  have n4 : ((((H0.push { cls := .type "cell", data := .cell none }).push { cls := .type "cell", data := .cell none }).push { cls := .type "cell", data := .cell none }).push { cls := .type "cell", data := .cell none }).Ns 141 (fun _ => none) := (((nF.push _).push _).push _).push _
  have k4 : Keep H0 ((((H0.push { cls := .type "cell", data := .cell none }).push { cls := .type "cell", data := .cell none }).push { cls := .type "cell", data := .cell none }).push { cls := .type "cell", data := .cell none }) := fun b o e => keep_push _ _ _ _ (keep_push _ _ _ _ (keep_push _ _ _ _ (keep_push _ _ _ _ e)))
  generalize (((H0.push { cls := .type "cell", data := .cell none }).push { cls := .type "cell", data := .cell none }).push { cls := .type "cell", data := .cell none }).push { cls := .type "cell", data := .cell none } = H4 at z4 c1 c2 c3 c4 n4 k4 ⊢
  refine wpAny_bind ?_
  rw [List.forIn_cons]
  refine wpAny_bind (wpAny_bind (wpAny_storeName_local (env := envL 141) (by rfl) n4 (fun h₁ n₁ s₁ => wpAny_pure ?_) (by rfl)))
  dsimp only
  rw [List.forIn_nil]
  refine wpAny_pure (wpAny_pure ?_)
  have k1 : Keep h h₁ := fun b o e => s₁.extBut b o (fun q => by have := lt_sz e; have q' : @Eq Nat b 141 := q; omega) (k4 b o (kF b o e))
  have up : ∀ {c : Addr} {v}, c ≠ 141 → H4.IsCell c v → h₁.IsCell c v := fun hc x => x.sameBut s₁ hc
  refine ⟨(top_noLimit X).keeps k1, codeAny_func ?_⟩
  exact wpAny_mono (k h₁ _ n₁ k1 (by have : h₁.objs.size = H4.objs.size := s₁.1; rw [this, z4]) (up (by decide) c1) (up (by decide) c2) (up (by decide) c3) (up (by decide) c4)) (fun _ _ q => q) fun _ _ q => q.elim
end Mine
end
section
open PySem PySem.W PyProof.Rows PySem.Calls
set_option Elab.async false
set_option maxRecDepth 100000
set_option maxHeartbeats 1000000
set_option linter.unusedVariables false
namespace Mine
theorem comp_use_sz {w : World} {A : Around} {z : Shared} {env : Env} {c : Nat} {h : Heap} {tk : Nat} {elt iter : Expr} {x y : Str} {px py : Pos} {scope : Scope} {cl : List (Str × Addr)} {pos spos : Pos} {Q : Flow → Shared → Prop} {E : Value → Shared → Prop} (R : Nat → Value → List Addr → Heap → Prop)
    (hR : ∀ j y as h h', R j y as h → (∀ a ∈ as, ∀ o, h.get? a = some o → h'.get? a = some o) → R j y as h') (hh : A.handled = none)
    (hclos : closureFor scope env = pure cl) (hcell : ∀ y ∈ scope.names, y.2 ≠ .cell) (hkind : scope.kind = .function)
    (hnames : ∀ y ∈ scope.names, y.2 = .local → scope.names.lookup y.1 = some .local) (hx : scope.names.lookup x = some .local)
    (hit : wpAny (model prog w) A (eval iter env) (fun xv s₁ => ∃ l items h₂ tk₂ m, xv = .ref l ∧ s₁ = St z h₂ tk₂ ∧ h₂.IsList l items ∧ items.size ≤ 1000 ∧ h₂.Ns env.locals m ∧
      (∀ C i v h₃ tk₃ m₃ E', items[i]? = some v → @LT.lt Nat instLTNat (h₂.objs.size) (C) → h₃.Ns C m₃ → m₃ x = some v → Keep h₂ h₃ →
        wpAny (model prog w) A (eval elt (compEnvC scope cl C env)) (fun y s₄ => ∃ h₄ tk₄ bs, s₄ = St z h₄ tk₄ ∧ Keep h₃ h₄ ∧ (∀ b ∈ bs, @LE.le Nat instLENat (h₃.objs.size) (b)) ∧ R i y bs h₄ ∧ h₄.objs.size = h₃.objs.size + c) E' (St z h₃ tk₃)) ∧
      (∀ D h' tk ys, @LT.lt Nat instLTNat (h₂.objs.size) (D) → h'.PlainList D ys → ys.size = items.size → (∀ j y, ys[j]? = some y → ∃ as, (∀ a ∈ as, @LE.le Nat instLENat (h₂.objs.size) (a)) ∧ R j y as h') → h'.Ns env.locals (put m y (.ref D)) → KeepOff [env.locals] h₂ h' → h'.objs.size = h₂.objs.size + 5 + c * items.size → Q .next (St z h' tk))) E (St z h tk))
    (hs : ∀ x, foldedSetIterable iter env x = pure x := by intro _; rfl)
    (hsw : swapsWith (.ListComp elt [⟨.Name x px, iter, [], 0⟩] scope pos) (some (.Name y py)) spos.line env = pure true := by rfl)
    (hy : env.kindOf y = some .local := by rfl) (hp : (env.scope.kind == .class || (env.scope.kind == .module && env.locals != env.globals)) = false := by rfl) :
    wpAny (model prog w) A (exec (.Assign [.Name y py] (.ListComp elt [⟨.Name x px, iter, [], 0⟩] scope pos) spos) env) Q E (St z h tk) := by
  rw [exec_Assign_Name_used _ _ _ _ hsw]
  refine wpAny_bind (wpAny_standAt (wpAny_bind ?_))
  show wpAny _ A (do let _ ← comprehension (.ListComp elt [⟨.Name x px, iter, [], 0⟩] scope pos) scope env _ (newList []) false (eval iter env) (some (assign (.Name y py) env))) _ _ _
  refine wpAny_bind (wpAny_mono (comp_gen (c := c) (ex := some 2) (Q := fun _ s' => Q .next s') R hR hclos hcell hkind hnames hx (wpAny_mono hit (fun xv s₁ h₁ => ?_) fun _ _ e => e) hs) (fun _ s' hq => wpAny_pure (wpAny_pure hq)) fun _ _ e => e)
  obtain ⟨l, items, h₂, tk₂, m, rfl, rfl, hl, hn, hm, helt, hQ⟩ := h₁
  have hll : @LT.lt Nat instLTNat (l) (h₂.objs.size) := by obtain ⟨o, ho, _⟩ := hl; exact Heap.lt_size ho
  have hL : @LT.lt Nat instLTNat (env.locals) (h₂.objs.size) := by obtain ⟨_, _, _, ho, _⟩ := hm; exact Heap.lt_size ho
  have kp : Keep h₂ (h₂.push { cls := .type "list_iterator", data := .fields #[.ref l, .int 0 0] }) := keep_push _ _
  have zp : (h₂.push { cls := .type "list_iterator", data := .fields #[.ref l, .int 0 0] }).objs.size = h₂.objs.size + 1 := Heap.size_push ..
  have iI : (h₂.push { cls := .type "list_iterator", data := .fields #[.ref l, .int 0 0] }).IsListIter h₂.objs.size l 0 := ⟨_, Heap.get?_push_size _ rfl, rfl, rfl⟩
  have fr : ∀ {C : Addr}, @LE.le Nat instLENat (h₂.objs.size + 1) (C) → ∀ {h₃ : Heap}, KeepOff [h₂.objs.size] (h₂.push { cls := .type "list_iterator", data := .fields #[.ref l, .int 0 0] }) h₃ → Keep h₂ h₃ := fun _ _ k => k.push1
  refine wpAny_pyIter_list (s := St z h₂ tk₂) hl ?_
  show ∃ I wr fp n P S h₂' tk₂', Value.ref h₂.objs.size = .ref I ∧ St z (h₂.push { cls := .type "list_iterator", data := .fields #[.ref l, .int 0 0] }) tk₂ = St z h₂' tk₂' ∧ _
  generalize h₂.push { cls := .type "list_iterator", data := .fields #[.ref l, .int 0 0] } = g at kp zp iI fr
  refine ⟨h₂.objs.size, [h₂.objs.size], [h₂.objs.size, l], items.size, _, _, g, tk₂, rfl, rfl, It.list hh _ l (Nat.ne_of_lt hll) items, fun e he => by cases he; exact ItS.list hh _ l (Nat.ne_of_lt hll) items, Nat.le_trans hn (by decide), ⟨iI, hl.at fun o e => kp _ o e⟩, ?_, ?_, ?_⟩
  · intro b hb
    rw [zp]
    rcases List.mem_cons.mp hb with rfl | hb
    · exact Nat.lt_succ_self _
    · rw [List.mem_singleton.mp hb]; exact Nat.lt_succ_of_lt hll
  · intro C i v as h₃ tk₃ m₃ E' hi hC hP has hns hm hk
    obtain ⟨hv, rfl⟩ := hP
    rw [zp] at hC
    refine wpAny_mono (helt C i v h₃ tk₃ m₃ E' hv hC hns hm (fr hC hk)) (fun y s₄ h₄ => ?_) fun _ _ e => e
    obtain ⟨h₄, tk₄, bs, e, hk₄, hb, hr, hz⟩ := h₄
    exact ⟨h₄, tk₄, bs, e, hk₄, fun b q => .inr (hb b q), hr, fun _ _ => hz⟩
  · intro D C h' tk' ys m' hD hC hp' hn' hys hyR hk hz
    have k2 : KeepOff [] h₂ h' := fun b o _ e => fr (by rw [← zp]; exact hD) hk b o e
    have hz := hz 2 rfl
    rw [zp] at hD hz
    refine store_fin hR hm (by simp) (Nat.le_of_lt hD) hC hp' hn' hyR k2 (fun h₅ tk₃ q1 q2 q3 q4 q5 => hQ D h₅ tk₃ ys hD q1 hys q2 q3 q4 ?_) hy hp
    rw [q5, hz, Nat.add_assoc, Nat.add_assoc, Nat.add_comm (c * _) 2, ← Nat.add_assoc, ← Nat.add_assoc, Nat.add_assoc h₂.objs.size, Nat.add_assoc h₂.objs.size]
/-! what law reckons of its script -/
def nOf (ns : List Int) : Int := match ns with | [] => 0 | x :: _ => x.fmod (2 ^ 20)
def someOf (ns : List Int) : List Int := (ns.drop 1).take 12
def xsOf (ns : List Int) : List Int := if someOf ns = [] then [0, 2, 4, 5, 1] else someOf ns
def jointOf (x : Int) : Joint := ⟨((x.fmod 120).fmod 4).toNat, (((x.fmod 120).fmod 4 + 1 + ((x.fmod 120).fdiv 4).fmod 3).fmod 4).toNat, (((x.fmod 120).fdiv 12).fmod 10).toNat⟩
def netOf (ns : List Int) : List Joint := (xsOf ns).map jointOf
theorem fm (x : Int) {k : Int} (h : 0 < k) : x.fmod k = x % k := Int.fmod_eq_emod_of_nonneg x (Int.le_of_lt h)
theorem fd (x : Int) {k : Int} (h : 0 < k) : x.fdiv k = x / k := Int.fdiv_eq_ediv_of_nonneg x (Int.le_of_lt h)
theorem joint_arith {l d m : Int} (h0 : 0 ≤ l) (h1 : l < 4) (h2 : 0 ≤ d) (h3 : d < 3) (h4 : 0 ≤ m) (h5 : m < 10) : l.toNat < 4 ∧ ((l + 1 + d) % 4).toNat < 4 ∧ l.toNat ≠ ((l + 1 + d) % 4).toNat ∧ m.toNat < 10 := by omega
theorem jointOf_ok (x : Int) : (jointOf x).ok := by
  unfold jointOf Joint.ok
  simp only [fm x (k := 120) (by decide), fm _ (k := 4) (by decide), fm _ (k := 3) (by decide), fm _ (k := 10) (by decide), fd _ (k := 4) (by decide), fd _ (k := 12) (by decide)]
  exact joint_arith (Int.emod_nonneg _ (by decide)) (Int.emod_lt_of_pos _ (by decide)) (Int.emod_nonneg _ (by decide)) (Int.emod_lt_of_pos _ (by decide)) (Int.emod_nonneg _ (by decide)) (Int.emod_lt_of_pos _ (by decide))
theorem jointOf_vals (x : Int) : ((jointOf x).lo : Int) = (x.fmod 120).fmod 4 ∧ ((jointOf x).hi : Int) = ((x.fmod 120).fmod 4 + 1 + ((x.fmod 120).fdiv 4).fmod 3).fmod 4 ∧ ((jointOf x).way : Int) = ((x.fmod 120).fdiv 12).fmod 10 := by
  have nn : ∀ (y : Int) {k : Int}, 0 < k → ((y.fmod k).toNat : Int) = y.fmod k := fun y k h => Int.toNat_of_nonneg (by rw [fm y h]; exact Int.emod_nonneg y (Ne.symm (Int.ne_of_lt h)))
  exact ⟨nn _ (by decide), nn _ (by decide), nn _ (by decide)⟩
theorem netOf_ok (ns : List Int) : ∀ j ∈ netOf ns, j.ok := fun j hj => by
  obtain ⟨x, _, rfl⟩ := List.mem_map.mp hj
  exact jointOf_ok x
theorem nOf_range (ns : List Int) : 0 ≤ nOf ns ∧ nOf ns < 2 ^ 20 := by
  unfold nOf
  split
  · decide
  · rw [fm _ (by decide)]
    omega
theorem xsOf_len (ns : List Int) : 1 ≤ (xsOf ns).length ∧ (xsOf ns).length ≤ 12 := by
  unfold xsOf
  split
  · decide
  · rename_i h
    refine ⟨?_, ?_⟩
    · rcases e : someOf ns with _ | ⟨a, l⟩
      · exact absurd e h
      · simp
    · unfold someOf
      rw [List.length_take]
      exact Nat.min_le_left _ _
end Mine
end
section
open PySem PySem.W PyProof.Rows PySem.Calls
set_option Elab.async false
set_option maxRecDepth 100000
set_option maxHeartbeats 1000000
set_option linter.unusedVariables false
namespace Mine
def valOf : Stmt → Expr
  | .Assign _ e _ => e
  | _ => .Constant .none 0 default
def iterOf : Expr → Expr
  | .ListComp _ [⟨_, it, _, _⟩] _ _ => it
  | _ => .Constant .none 0 default
def nExpr : Expr := valOf (stmtAt 0 (bodyOf (top 37)))
def xsExpr : Expr := iterOf (valOf (stmtAt 1 (bodyOf (top 37))))
theorem pick_run (items : Array Value) {a b : Nat} (hab : a ≤ b) : slicePick items (some (a : Int)) (some (b : Int)) none = ((items.toList.drop a).take (b - a)).toArray := by
  rw [slicePick_plain]
  simp only [Option.elim, clipAt_nat]
  have e : (items.toList.drop (min a items.size)).take (min b items.size - min a items.size) = (items.toList.drop a).take (b - a) := by
    rcases Nat.le_total a items.size with q | q
    · rw [Nat.min_eq_left q]
      rcases Nat.le_total b items.size with q' | q'
      · rw [Nat.min_eq_left q']
      · rw [Nat.min_eq_right q', List.take_of_length_le (by simp), List.take_of_length_le (by simp; omega)]
    · rw [Nat.min_eq_right q, List.drop_of_length_le (by simp), List.drop_of_length_le (by simpa using q)]
      simp
  rw [e]
section
variable {w : World} {A : Around} {z : Shared} {h : Heap} {tk : Nat} {E : Value → Shared → Prop} {vs : List Value} {ns : List Int} {m : Str → Option Value} {Q : Value → Shared → Prop}
/-- script[0] % 2 ** 20 if script != [] else 0 -/
theorem n_eval (hl : h.IsList 140 vs.toArray) (hi : IntsAre vs ns) (hns : h.Ns 141 m) (hm : m (Str.ofString "script") = some (.ref 140)) (hu : A.units + 64 < cLine)
    (k : ∀ tk' t, Q (.int (nOf ns) t) (St z (h.push { cls := .type "list", data := .seq #[] }) tk')) :
    wpAny (model prog w) A (eval nExpr (envL 141)) Q E (St z h tk) := by
  refine wpAny_IfExp ?_
  refine wpAny_isTrue_Compare1 ?_
  refine Ev.use (ev_loc (env := envL 141) hns hm) fun v tk1 hv => ?_
  subst hv
  refine wpAny_List_spliced (spliced_none ⟨Nat.le_of_ble_eq_true rfl, ?_⟩)
  have kp : Keep h (h.push { cls := .type "list", data := .seq #[] }) := keep_push _ _
  have l2 : (h.push { cls := .type "list", data := .seq #[] }).IsList h.objs.size ([] : List Value).toArray := ⟨_, Heap.get?_push_size _ rfl, rfl, _, rfl⟩
  have l1 : (h.push { cls := .type "list", data := .seq #[] }).IsList 140 vs.toArray := hl.at fun o e => kp _ o e
  have n2 := hns.keeps kp
  refine ne_intsK (s := St z (h.push { cls := .type "list", data := .seq #[] }) tk1) l1 hi l2 .nil hu (wpAny_truthy_bool ?_)
  cases hi with
  | nil =>
    simp only [decide_true, Bool.not_true, Bool.false_eq_true, if_false]
    exact Ev.use (z := z) ev_int fun v tk2 hv => by
      obtain ⟨t, rfl⟩ := hv
      exact k _ _
  | cons a t hr =>
    rename_i vs' ns'
    rw [show (!decide (a :: ns' = [])) = true by simp]
    simp only [if_true]
    refine Ev.use (z := z) (ev_mod (ev_item (lst := 140) (k := 0) (items := (Value.int a t :: vs').toArray) (y := .int a t) (ev_loc (env := envL 141) n2 hm) ev_int l1 (by decide) (by decide) (by simp)).int (ev_pow (a := 2) (n := 20) ev_int ev_int (by decide) (by decide)) (by decide)) fun v tk2 hv => ?_
    obtain ⟨t, rfl⟩ := hv
    exact k _ _
/-- script[1:13] or [0, 2, 4, 5, 1] -/
theorem xs_eval (hl : h.IsList 140 vs.toArray) (hi : IntsAre vs ns) (hn : ns.length ≤ 63) (hns : h.Ns 141 m) (hm : m (Str.ofString "script") = some (.ref 140))
    (k : ∀ h' tk' D vs', Keep h h' → h'.IsList D vs'.toArray → IntsAre vs' (xsOf ns) → h'.objs.size = h.objs.size + (if someOf ns = [] then 3 else 2) → Q (.ref D) (St z h' tk')) :
    wpAny (model prog w) A (eval xsExpr (envL 141)) Q E (St z h tk) := by
  refine BoolOp_or ?_
  refine wpAny_Subscript_Slice slot_list_getitem.lookup (Ev.use (ev_loc (env := envL 141) hns hm) fun v tk1 hv => ?_) (by intro _ _; rfl)
  subst hv
  refine wpAny_Slice (wpAny_Constant_int (k := 0) (pos := ⟨133, 51, 133, 52⟩) (wpAny_Constant_int (k := 0) (pos := ⟨133, 53, 133, 55⟩) (wpAny_pure ?_)))
  refine ⟨Heap.IsList.typeIs (s := { heap := h.push _, gens := z.gens, drawn := z.drawn, toks := _, os := z.os }) (hl.push _), ?_⟩
  refine wpAny_getItem_list_slice (s := St z (h.push _) _) (lo := some ((1 : Nat) : Int)) (hi := some ((13 : Nat) : Int)) (st := none) (hl.push _) (Heap.IsSliceOf.new ..) (.int _ _) (.int _ _) .none (by simp) ?_ (by unfold sizeLine; simp [hi.length]; omega)
  rw [pick_run _ (by decide)]
  have kp1 : ∀ o, Keep h (h.push o) := keep_push h
  generalize hg : h.push _ = g
  have kg : Keep h g := hg ▸ kp1 _
  have zg : g.objs.size = h.objs.size + 1 := by rw [← hg, Heap.size_push]
  have it : IntsAre ((vs.drop 1).take 12) (someOf ns) := IntsAre_take (IntsAre_drop hi 1) 12
  have l2 : (g.push { cls := .type "list", data := .seq ((vs.toArray.toList.drop 1).take (13 - 1)).toArray }).IsList g.objs.size ((vs.drop 1).take 12).toArray := ⟨_, Heap.get?_push_size _ rfl, rfl, _, rfl⟩
  have k2 : Keep h (g.push { cls := .type "list", data := .seq ((vs.toArray.toList.drop 1).take (13 - 1)).toArray }) := fun b o e => keep_push _ _ b o (kg b o e)
  have z2 : (g.push { cls := .type "list", data := .seq ((vs.toArray.toList.drop 1).take (13 - 1)).toArray }).objs.size = h.objs.size + 2 := by rw [Heap.size_push, zg]
  show wpAny _ _ (truthy (.ref g.objs.size)) _ _ (St z (g.push { cls := .type "list", data := .seq ((vs.toArray.toList.drop 1).take (13 - 1)).toArray }) _)
  generalize g.push { cls := .type "list", data := .seq ((vs.toArray.toList.drop 1).take (13 - 1)).toArray } = g2 at l2 k2 z2 ⊢
  refine wpAny_truthy_list (s := St z g2 _) l2 (by simp; omega) ?_
  have hlen := it.length
  by_cases h0 : someOf ns = []
  · have e0 : (vs.drop 1).take 12 = [] := by rw [h0] at hlen; exact List.eq_nil_of_length_eq_zero hlen
    rw [e0]
    simp only [List.isEmpty_toArray, List.isEmpty_nil, Bool.not_true, Bool.false_eq_true, if_false]
    refine BoolOp_one ?_
    refine wpAny_List_spliced (spliced_more (Ev.use (z := z) ev_int fun v tk1 hv => ?_))
    obtain ⟨t1, rfl⟩ := hv
    refine spliced_more (Ev.use (z := z) ev_int fun v tk2 hv => ?_)
    obtain ⟨t2, rfl⟩ := hv
    refine spliced_more (Ev.use (z := z) ev_int fun v tk3 hv => ?_)
    obtain ⟨t3, rfl⟩ := hv
    refine spliced_more (Ev.use (z := z) ev_int fun v tk4 hv => ?_)
    obtain ⟨t4, rfl⟩ := hv
    refine spliced_more (Ev.use (z := z) ev_int fun v tk5 hv => ?_)
    obtain ⟨t5, rfl⟩ := hv
    refine spliced_none ⟨Nat.le_of_ble_eq_true rfl, ?_⟩
    refine k _ _ _ [.int 0 t1, .int 2 t2, .int 4 t3, .int 5 t4, .int 1 t5] (fun b o e => keep_push _ _ b o (k2 b o e)) ⟨_, Heap.get?_push_size _ rfl, rfl, _, rfl⟩ ?_ (by rw [if_pos h0, Heap.size_push]; show g2.objs.size + 1 = _; rw [z2])
    unfold xsOf
    rw [if_pos h0]
    exact .cons _ _ (.cons _ _ (.cons _ _ (.cons _ _ (.cons _ _ .nil))))
  · have e0 : ((vs.drop 1).take 12).toArray.isEmpty = false := by
      rw [List.isEmpty_toArray]
      cases e : (vs.drop 1).take 12 with
      | nil => rw [e] at hlen; exact absurd (List.eq_nil_of_length_eq_zero hlen.symm) h0
      | cons a l => rfl
    rw [e0]
    simp only [Bool.not_false, if_true]
    refine k _ _ _ ((vs.drop 1).take 12) k2 l2 ?_ (by rw [if_neg h0, z2])
    unfold xsOf
    rw [if_neg h0]
    exact it
end
end Mine
end
section
open PySem PySem.W PyProof.Rows PySem.Calls
set_option Elab.async false
set_option maxRecDepth 100000
set_option maxHeartbeats 1000000
set_option linter.unusedVariables false
namespace Mine
def sizeOf (ns : List Int) : Nat := 162 + 2 * (netOf ns).length + (if someOf ns = [] then 1 else 0)
def RJoint (xs : List Int) (j : Nat) (y : Value) (as : List Addr) (h : Heap) : Prop :=
  ∃ T t1 t2 t3, as = [T] ∧ y = .ref T ∧ h.IsTuple T #[.int (jointOf (xs.getD j 0)).lo t1, .int (jointOf (xs.getD j 0)).hi t2, .int (jointOf (xs.getD j 0)).way t3]
theorem RJoint.frame {xs : List Int} : ∀ j y as h h', RJoint xs j y as h → (∀ a ∈ as, ∀ o, h.get? a = some o → h'.get? a = some o) → RJoint xs j y as h' := by
  rintro j y as h h' ⟨T, t1, t2, t3, rfl, rfl, hT⟩ k
  exact ⟨T, t1, t2, t3, rfl, rfl, hT.at fun o q => k T (by simp) o q⟩
theorem fn_ctk {w : World} {h : Heap} (X : TopIn w h) : ∃ o fd, h.get? 21 = some o ∧ o.data = .func fd := ⟨_, fnD (topObj w.params 21), top_get X (by kernel_rfl), by kernel_rfl⟩
theorem cell_off {h h' : Heap} {wr : List Addr} {c : Addr} {v : Option Value} (x : h.IsCell c v) (k : KeepOff wr h h') (hc : c ∉ wr) : h'.IsCell c v := by
  obtain ⟨o, ho, r⟩ := x
  exact ⟨o, k _ _ hc ho, r⟩
theorem low_ne {h : Heap} {b c : Addr} {o : Obj} (hz : h.objs.size = 141) (e : h.get? b = some o) (hc : @LE.le Nat _ 141 c) : b ∉ [c] := fun q => by
  have h1 : @LT.lt Nat _ b 141 := hz ▸ lt_sz e
  exact Nat.not_le.mpr h1 (List.mem_singleton.mp q ▸ hc)
theorem big_ne {a b c : Nat} (h1 : @LT.lt Nat _ a b) (h2 : @LE.le Nat _ c a) : b ≠ c := fun q => Nat.not_le.mpr (q ▸ h1) h2
/-- law up to the call of cmp_to_key -/
theorem law_pre {w : World} {A : Around} {z : Shared} {h : Heap} {tk : Nat} {Q : Value → Shared → Prop} {E : Value → Shared → Prop} {vs : List Value} {ns : List Int} (X : TopIn w h) (hz : h.objs.size = 141) (hT : h.get? 136 = some (tabObj #[])) (hA : A.depth + 1 < recursionLimit) (hu : A.units + 67 < cLine) (hh : A.handled = none)
    (hl : h.IsList 140 vs.toArray) (hi : IntsAre vs ns) (hn : ns.length ≤ 63)
    (k : ∀ h' tk' m nl t t', h'.objs.size = sizeOf ns → KeepOff [136] h h' → h'.Ns 141 m → m (Str.ofString "network") = some (.ref nl) → @LE.le Nat _ 146 nl → NetAt h' (netOf ns) nl → h'.IsCell 142 (some (.int (nOf ns) t)) → h'.IsCell 143 none → h'.IsCell 144 none → h'.IsCell 145 (some (.int ((nOf ns).fdiv 16) t')) → CmpAt h' 145 (sizeOf ns - 1) → (∃ ps, h'.get? 136 = some (tabObj ps)) →
      wpAny (model prog w) (A.deeper (envL 141)) (call (.ref 21) [.ref (sizeOf ns - 1)]) (fun v s₁ => wpAny (model prog w) (A.deeper (envL 141)) (storeName (envL 141) (Str.ofString "key") v) (fun _ s₂ =>
        wpAny (model prog w) (A.deeper (envL 141)) (execs ((bodyOf (top 37)).drop 4) (envL 141)) (fun f s' => Q (match f with | .ret v => v | _ => .none) s') (fun _ _ => False) s₂) (fun _ _ => False) s₁) (fun _ _ => False) (St z h' tk')) :
    wpAny (model prog w) A (call (.ref 139) [.ref 140]) Q E (St z h tk) := by
  refine law_enter X hz (by omega) fun h₁ tk₁ n₁ k₁ z₁ c1 c2 c3 c4 => ?_
  have hl₁ : h₁.IsList 140 vs.toArray := hl.at fun o e => k₁ _ o e
  -- n
  refine wpAny_execs_cons ?_
  refine wpAny_Assign_Name ?_
  refine n_eval hl₁ hi n₁ (if_pos rfl) (show A.units + 3 + 64 < cLine by omega) fun tk2 t2 => ?_
  have kp := keep_push h₁ { cls := .type "list", data := .seq #[] }
  have zp : (h₁.push { cls := .type "list", data := .seq #[] }).objs.size = 147 := by rw [Heap.size_push, z₁]
  generalize h₁.push { cls := .type "list", data := .seq #[] } = g₁ at kp zp ⊢
  refine wpAny_storeName_cell (s := St z g₁ tk2) rfl rfl (c := 142) (by rfl) (cell_keep c1 kp) fun h₂ c1' s₂ => ?_
  have k12 : KeepOff [142] h₁ h₂ := fun b o hb e => s₂.extBut b o (by simpa using hb) (kp b o e)
  have z2 : h₂.objs.size = 147 := by have : h₂.objs.size = g₁.objs.size := s₂.1; rw [this, zp]
  have n₂ : h₂.Ns 141 _ := n₁.at' fun o e => k12 _ o (by simp) e
  have hl₂ : h₂.IsList 140 vs.toArray := hl₁.at fun o e => k12 _ o (by simp) e
  have c2₂ : h₂.IsCell 143 none := cell_off c2 k12 (by simp)
  have c3₂ : h₂.IsCell 144 none := cell_off c3 k12 (by simp)
  have c4₂ : h₂.IsCell 145 none := cell_off c4 k12 (by simp)
  have k02 : Keep h h₂ := fun b o e => k12 b o (low_ne hz e (by decide)) (k₁ b o e)
  -- network
  refine wpAny_execs_cons ?_
  refine comp_use_sz (z := z) (c := 2) (cl := []) (RJoint (xsOf ns)) RJoint.frame hh (by rfl) (by decide) (by rfl) (by decide) (by rfl) ?_
  refine xs_eval hl₂ hi hn n₂ (if_pos rfl) fun h₃ tk3 D xv k₃ l₃ i₃ z₃ => ?_
  have k03 : Keep h h₃ := k02.trans k₃
  have X₃ := X.keep k03
  have hxl := xsOf_len ns
  have hxv : xv.length = (xsOf ns).length := i₃.length
  refine ⟨D, xv.toArray, h₃, tk3, _, rfl, rfl, l₃, by simp; omega, n₂.keeps k₃, ?_, ?_⟩
  · intro C i v h₄ tk4 m₄ E' hv hC nC hm k₄
    have X₄ := X₃.keep k₄
    have hlt : i < (xsOf ns).length := by
      have := (List.getElem?_eq_some_iff.mp (by simpa using hv : xv[i]? = some v)).1
      omega
    obtain ⟨tv, ev⟩ := IntsAre_get i₃ hlt
    have hv' : v = .int ((xsOf ns).getD i 0) tv := by
      have : xv[i]? = some v := by simpa using hv
      rw [ev] at this
      exact (Option.some.inj this).symm
    subst hv'
    refine Call_ (Ev.use (ev_glob X₄ (v := .ref 91) (by kernel_rfl)) fun v tk5 hv => ?_)
    subst hv
    obtain ⟨of, hof, hdf⟩ := (fn_joint' X₄).fn
    refine PyProof.Rows.callWith_def hdf (spliced_more (Ev.use (ev_mod (ev_locI nC hm) ev_int (by decide)) fun v tk6 hv => ?_))
    obtain ⟨t6, rfl⟩ := hv
    refine spliced_none ⟨hof, ?_⟩
    refine joint_sz (z := z) (A := A.deeper _) X₄ (show A.depth + 1 < recursionLimit by omega) fun h₅ tk7 t1 t2 t3 k₅ z₅ hT₅ => ?_
    obtain ⟨e1, e2, e3⟩ := jointOf_vals ((xsOf ns).getD i 0)
    refine ⟨h₅, tk7, [h₄.objs.size + 1], rfl, k₅, by simp, ⟨_, t1, t2, t3, rfl, rfl, ?_⟩, z₅⟩
    rw [e1, e2, e3]
    exact hT₅
  · intro Dn h₄ tk4 ys hDn p₄ hys hyR n₄ k₄ z₄
    replace n₄ : h₄.Ns 141 _ := n₄
    replace k₄ : KeepOff [141] h₃ h₄ := k₄
    have h3s : @LE.le Nat _ 147 h₃.objs.size := by rw [z₃, z2]; split <;> omega
    have z4' : h₄.objs.size + 8 = sizeOf ns := by
      have hs : xv.toArray.size = (netOf ns).length := by simp [hxv, netOf]
      rw [z₄, z₃, z2, hs]
      unfold sizeOf
      split <;> omega
    have k24 : KeepOff [141] h₂ h₄ := fun b o hb e => k₄ b o hb (k₃ b o e)
    have c1₄ : h₄.IsCell 142 (some (.int (nOf ns) t2)) := cell_off c1' k24 (by simp)
    have c2₄ : h₄.IsCell 143 none := cell_off c2₂ k24 (by simp)
    have c3₄ : h₄.IsCell 144 none := cell_off c3₂ k24 (by simp)
    have c4₄ : h₄.IsCell 145 none := cell_off c4₂ k24 (by simp)
    have k04 : Keep h h₄ := fun b o e => k24 b o (low_ne hz e (by decide)) (k02 b o e)
    have net₄ : NetAt h₄ (netOf ns) Dn := by
      refine ⟨ys.toList, by simpa using p₄.isList, by simp [hys, hxv, netOf], fun i j v hj hv => ?_⟩
      obtain ⟨as, has, T, t1, t2, t3, rfl, rfl, hT⟩ := hyR i v (by simpa using hv)
      have : j = jointOf ((xsOf ns).getD i 0) := by
        unfold netOf at hj
        rw [List.getElem?_map] at hj
        obtain ⟨x, hx, rfl⟩ := Option.map_eq_some_iff.mp hj
        rw [List.getD_eq_getElem?_getD, hx]
        rfl
      subst this
      have hb := has T (by simp)
      exact ⟨T, t1, t2, t3, rfl, Nat.le_trans (Nat.le_trans (by decide) h3s) hb, hT⟩
    -- above
    refine wpAny_execs_cons ?_
    refine wpAny_Assign_Name ?_
    refine Ev.use (z := z) (ev_fdiv (ev_cell (c := 142) (by rfl) c1₄).int ev_int (by decide) (pylong_small (by decide))) fun v tk5 hv => ?_
    obtain ⟨t5, rfl⟩ := hv
    refine wpAny_storeName_cell (s := St z h₄ tk5) rfl rfl (c := 145) (by rfl) c4₄ fun h₅ c4' s₅ => ?_
    replace s₅ : Heap.SameBut 145 h₄ h₅ := s₅
    have z₅ : h₅.objs.size = h₄.objs.size := s₅.1
    have k45 : KeepOff [145] h₄ h₅ := KeepOff.of_same s₅
    have k05 : Keep h h₅ := fun b o e => k45 b o (low_ne hz e (by decide)) (k04 b o e)
    have X₅ := X.keep k05
    -- key
    refine wpAny_execs_cons ?_
    refine wpAny_Assign_Name ?_
    refine Call_ (Ev.use (z := z) (ev_glob X₅ (v := .ref 21) (by kernel_rfl)) fun v tk6 hv => ?_)
    subst hv
    obtain ⟨of, fdc, hof, hdf⟩ := fn_ctk X₅
    refine PyProof.Rows.callWith_def hdf (spliced_more ?_)
    refine lam_make (L := 141) X₅ (k05 _ _ hT) fun h₆ tk7 k₆ t₆ z₆ cm₆ => ?_
    have hne : (21 : Addr) ∉ [(136 : Addr)] := by simp
    refine spliced_none ⟨k₆ _ _ hne hof, ?_⟩
    have eN : h₅.objs.size + 7 = sizeOf ns - 1 := by rw [← z4', z₅]; rfl
    have n₆ : h₆.Ns 141 _ := (n₄.sameBut s₅ (by decide)).at' fun o e => k₆ _ o (by simp) e
    rw [eN] at cm₆ ⊢
    have net₅ : NetAt h₅ (netOf ns) Dn := by
      obtain ⟨vs', hl', hn', hj'⟩ := net₄
      have hDs : Dn ≠ 145 := big_ne hDn (Nat.le_trans (by decide) h3s)
      refine ⟨vs', hl'.at fun o e => k45 _ o (not_mem1 hDs) e, hn', fun i j v a b => ?_⟩
      obtain ⟨T, t1, t2, t3, e, b', hT'⟩ := hj' i j v a b
      refine ⟨T, t1, t2, t3, e, b', hT'.at fun o e => k45 _ o (not_mem1 ?_) e⟩
      rintro rfl
      obtain ⟨_, ho, _, n, hd⟩ := hT'
      obtain ⟨_, ho', hd'⟩ := c4₄
      rw [ho] at ho'; cases ho'; rw [hd] at hd'; cases hd'
    have net₆ : NetAt h₆ (netOf ns) Dn := by
      obtain ⟨vs', hl', hn', hj'⟩ := net₅
      have hDs : Dn ≠ 136 := big_ne hDn (Nat.le_trans (by decide) h3s)
      refine ⟨vs', hl'.at fun o e => k₆ _ o (not_mem1 hDs) e, hn', fun i j v a b => ?_⟩
      obtain ⟨T, t1, t2, t3, e, b', hT'⟩ := hj' i j v a b
      exact ⟨T, t1, t2, t3, e, b', hT'.at fun o e => k₆ _ o (not_mem1 fun q => absurd (q ▸ b' : @LE.le Nat _ 140 136) (by decide)) e⟩
    refine k h₆ tk7 _ Dn t2 t5 (by rw [z₆, z₅, z4']) (fun b o hb e => k₆ b o hb (k05 b o e)) n₆ (if_pos rfl) ?_ net₆ (cell_off (cell_off c1₄ k45 (by simp)) k₆ (by simp)) (cell_off (cell_off c2₄ k45 (by simp)) k₆ (by simp)) (cell_off (cell_off c3₄ k45 (by simp)) k₆ (by simp)) (cell_off c4' k₆ (by simp)) cm₆ t₆
    exact Nat.le_of_lt (Nat.lt_of_le_of_lt (Nat.le_trans (by decide) h3s) hDn)
end Mine
end
section
open PySem PySem.W PyProof.Rows PySem.W.X PySem.W.ZRun
set_option Elab.async false
set_option maxRecDepth 100000
set_option maxHeartbeats 0
namespace Mine
def rowK : OpenRow := { PySem.Challenge.rw_mr0185_01.row with name := (PySem.Str.ofString "cmp_to_key") }
section
set_option hygiene false in
local macro_rules | `(tactic| refine $_) => `(tactic| exact H)
theorem hdK (H : rowK.Holds) : rowK.Holds := by z_head
end
abbrev A60 : Around := { handled := none, depth := 400, frames := none, guards := none, units := 60 }
def CtkAt (n : Nat) : Prop := ∀ (w : World) (s : Shared), KT.Holds s.heap 1 0 (hdK.ktop_43 w.params) → s.heap.objs.size = n → s.gens = #[] → ∀ (P : Value → Shared → Prop),
    (∀ (h' : Heap) (t' : Nat) (get : Nat → Option Obj), KMade n (n - 1) get → (∀ i o, get i = some o → h'.get? (n + i) = some o) → (∃ vs, h'.get? 16 = some (tableObj vs)) → (∀ b o, s.heap.get? b = some o → (∀ vs, chLook [(16, vs)] b = none) → h'.get? b = some o) → P (.ref (n + 60)) ⟨h', #[], s.drawn, t', s.os⟩) →
    wpAny (model prog w) A60 (call (.ref 21) [.ref (n - 1)]) P (fun _ _ => False) s
section
set_option hygiene false in
local macro_rules | `(tactic| refine $_) => `(tactic| (rename_i R; exact k _ _ _ (KMade.mk (by kernel_rfl) (by kernel_rfl) (by kernel_rfl) (by kernel_rfl) (by kernel_rfl) (by kernel_rfl) (by kernel_rfl) (by kernel_rfl) (by kernel_rfl) (by kernel_rfl) (by kernel_rfl) (by kernel_rfl) (by kernel_rfl) (by kernel_rfl) (by kernel_rfl) (by kernel_rfl)
  (MethMade.mk (by kernel_rfl) (by kernel_rfl) (by kernel_rfl) (by kernel_rfl) (by kernel_rfl) (by kernel_rfl)) (MethMade.mk (by kernel_rfl) (by kernel_rfl) (by kernel_rfl) (by kernel_rfl) (by kernel_rfl) (by kernel_rfl)) (MethMade.mk (by kernel_rfl) (by kernel_rfl) (by kernel_rfl) (by kernel_rfl) (by kernel_rfl) (by kernel_rfl)) (MethMade.mk (by kernel_rfl) (by kernel_rfl) (by kernel_rfl) (by kernel_rfl) (by kernel_rfl) (by kernel_rfl)) (MethMade.mk (by kernel_rfl) (by kernel_rfl) (by kernel_rfl) (by kernel_rfl) (by kernel_rfl) (by kernel_rfl)) (MethMade.mk (by kernel_rfl) (by kernel_rfl) (by kernel_rfl) (by kernel_rfl) (by kernel_rfl) (by kernel_rfl)) (by kernel_rfl) (by kernel_rfl)) (fun i o e => (R.own i o e).2) ⟨_, (R.ch 16 _ rfl).1⟩ (fun b o e hb => R.keep b o e (hb _))))
local macro_rules | `(tactic| rfl) => `(tactic| skip)
theorem ctk164 (w : World) (s : Shared) (ZH : KT.Holds s.heap 1 0 (hdK.ktop_43 w.params)) (ZN : s.heap.objs.size = 164) (hg : s.gens = #[]) (P : Value → Shared → Prop)
    (k : ∀ (h' : Heap) (t' : Nat) (get : Nat → Option Obj), KMade 164 163 get → (∀ i o, get i = some o → h'.get? (164 + i) = some o) → (∃ vs, h'.get? 16 = some (tableObj vs)) → (∀ b o, s.heap.get? b = some o → (∀ vs, chLook [(16, vs)] b = none) → h'.get? b = some o) → P (.ref 224) ⟨h', #[], s.drawn, t', s.os⟩) :
    wpAny (model prog w) { handled := none, depth := 400, frames := none, guards := none, units := 60 } (call (.ref 21) [.ref 163]) (fun v s' => P v s') (fun _ _ => False) s := by
  z_run
theorem ctk166 (w : World) (s : Shared) (ZH : KT.Holds s.heap 1 0 (hdK.ktop_43 w.params)) (ZN : s.heap.objs.size = 166) (hg : s.gens = #[]) (P : Value → Shared → Prop)
    (k : ∀ (h' : Heap) (t' : Nat) (get : Nat → Option Obj), KMade 166 165 get → (∀ i o, get i = some o → h'.get? (166 + i) = some o) → (∃ vs, h'.get? 16 = some (tableObj vs)) → (∀ b o, s.heap.get? b = some o → (∀ vs, chLook [(16, vs)] b = none) → h'.get? b = some o) → P (.ref 226) ⟨h', #[], s.drawn, t', s.os⟩) :
    wpAny (model prog w) { handled := none, depth := 400, frames := none, guards := none, units := 60 } (call (.ref 21) [.ref 165]) (fun v s' => P v s') (fun _ _ => False) s := by
  z_run
theorem ctk168 (w : World) (s : Shared) (ZH : KT.Holds s.heap 1 0 (hdK.ktop_43 w.params)) (ZN : s.heap.objs.size = 168) (hg : s.gens = #[]) (P : Value → Shared → Prop)
    (k : ∀ (h' : Heap) (t' : Nat) (get : Nat → Option Obj), KMade 168 167 get → (∀ i o, get i = some o → h'.get? (168 + i) = some o) → (∃ vs, h'.get? 16 = some (tableObj vs)) → (∀ b o, s.heap.get? b = some o → (∀ vs, chLook [(16, vs)] b = none) → h'.get? b = some o) → P (.ref 228) ⟨h', #[], s.drawn, t', s.os⟩) :
    wpAny (model prog w) { handled := none, depth := 400, frames := none, guards := none, units := 60 } (call (.ref 21) [.ref 167]) (fun v s' => P v s') (fun _ _ => False) s := by
  z_run
theorem ctk170 (w : World) (s : Shared) (ZH : KT.Holds s.heap 1 0 (hdK.ktop_43 w.params)) (ZN : s.heap.objs.size = 170) (hg : s.gens = #[]) (P : Value → Shared → Prop)
    (k : ∀ (h' : Heap) (t' : Nat) (get : Nat → Option Obj), KMade 170 169 get → (∀ i o, get i = some o → h'.get? (170 + i) = some o) → (∃ vs, h'.get? 16 = some (tableObj vs)) → (∀ b o, s.heap.get? b = some o → (∀ vs, chLook [(16, vs)] b = none) → h'.get? b = some o) → P (.ref 230) ⟨h', #[], s.drawn, t', s.os⟩) :
    wpAny (model prog w) { handled := none, depth := 400, frames := none, guards := none, units := 60 } (call (.ref 21) [.ref 169]) (fun v s' => P v s') (fun _ _ => False) s := by
  z_run
theorem ctk172 (w : World) (s : Shared) (ZH : KT.Holds s.heap 1 0 (hdK.ktop_43 w.params)) (ZN : s.heap.objs.size = 172) (hg : s.gens = #[]) (P : Value → Shared → Prop)
    (k : ∀ (h' : Heap) (t' : Nat) (get : Nat → Option Obj), KMade 172 171 get → (∀ i o, get i = some o → h'.get? (172 + i) = some o) → (∃ vs, h'.get? 16 = some (tableObj vs)) → (∀ b o, s.heap.get? b = some o → (∀ vs, chLook [(16, vs)] b = none) → h'.get? b = some o) → P (.ref 232) ⟨h', #[], s.drawn, t', s.os⟩) :
    wpAny (model prog w) { handled := none, depth := 400, frames := none, guards := none, units := 60 } (call (.ref 21) [.ref 171]) (fun v s' => P v s') (fun _ _ => False) s := by
  z_run
theorem ctk173 (w : World) (s : Shared) (ZH : KT.Holds s.heap 1 0 (hdK.ktop_43 w.params)) (ZN : s.heap.objs.size = 173) (hg : s.gens = #[]) (P : Value → Shared → Prop)
    (k : ∀ (h' : Heap) (t' : Nat) (get : Nat → Option Obj), KMade 173 172 get → (∀ i o, get i = some o → h'.get? (173 + i) = some o) → (∃ vs, h'.get? 16 = some (tableObj vs)) → (∀ b o, s.heap.get? b = some o → (∀ vs, chLook [(16, vs)] b = none) → h'.get? b = some o) → P (.ref 233) ⟨h', #[], s.drawn, t', s.os⟩) :
    wpAny (model prog w) { handled := none, depth := 400, frames := none, guards := none, units := 60 } (call (.ref 21) [.ref 172]) (fun v s' => P v s') (fun _ _ => False) s := by
  z_run
theorem ctk174 (w : World) (s : Shared) (ZH : KT.Holds s.heap 1 0 (hdK.ktop_43 w.params)) (ZN : s.heap.objs.size = 174) (hg : s.gens = #[]) (P : Value → Shared → Prop)
    (k : ∀ (h' : Heap) (t' : Nat) (get : Nat → Option Obj), KMade 174 173 get → (∀ i o, get i = some o → h'.get? (174 + i) = some o) → (∃ vs, h'.get? 16 = some (tableObj vs)) → (∀ b o, s.heap.get? b = some o → (∀ vs, chLook [(16, vs)] b = none) → h'.get? b = some o) → P (.ref 234) ⟨h', #[], s.drawn, t', s.os⟩) :
    wpAny (model prog w) { handled := none, depth := 400, frames := none, guards := none, units := 60 } (call (.ref 21) [.ref 173]) (fun v s' => P v s') (fun _ _ => False) s := by
  z_run
theorem ctk176 (w : World) (s : Shared) (ZH : KT.Holds s.heap 1 0 (hdK.ktop_43 w.params)) (ZN : s.heap.objs.size = 176) (hg : s.gens = #[]) (P : Value → Shared → Prop)
    (k : ∀ (h' : Heap) (t' : Nat) (get : Nat → Option Obj), KMade 176 175 get → (∀ i o, get i = some o → h'.get? (176 + i) = some o) → (∃ vs, h'.get? 16 = some (tableObj vs)) → (∀ b o, s.heap.get? b = some o → (∀ vs, chLook [(16, vs)] b = none) → h'.get? b = some o) → P (.ref 236) ⟨h', #[], s.drawn, t', s.os⟩) :
    wpAny (model prog w) { handled := none, depth := 400, frames := none, guards := none, units := 60 } (call (.ref 21) [.ref 175]) (fun v s' => P v s') (fun _ _ => False) s := by
  z_run
theorem ctk178 (w : World) (s : Shared) (ZH : KT.Holds s.heap 1 0 (hdK.ktop_43 w.params)) (ZN : s.heap.objs.size = 178) (hg : s.gens = #[]) (P : Value → Shared → Prop)
    (k : ∀ (h' : Heap) (t' : Nat) (get : Nat → Option Obj), KMade 178 177 get → (∀ i o, get i = some o → h'.get? (178 + i) = some o) → (∃ vs, h'.get? 16 = some (tableObj vs)) → (∀ b o, s.heap.get? b = some o → (∀ vs, chLook [(16, vs)] b = none) → h'.get? b = some o) → P (.ref 238) ⟨h', #[], s.drawn, t', s.os⟩) :
    wpAny (model prog w) { handled := none, depth := 400, frames := none, guards := none, units := 60 } (call (.ref 21) [.ref 177]) (fun v s' => P v s') (fun _ _ => False) s := by
  z_run
theorem ctk180 (w : World) (s : Shared) (ZH : KT.Holds s.heap 1 0 (hdK.ktop_43 w.params)) (ZN : s.heap.objs.size = 180) (hg : s.gens = #[]) (P : Value → Shared → Prop)
    (k : ∀ (h' : Heap) (t' : Nat) (get : Nat → Option Obj), KMade 180 179 get → (∀ i o, get i = some o → h'.get? (180 + i) = some o) → (∃ vs, h'.get? 16 = some (tableObj vs)) → (∀ b o, s.heap.get? b = some o → (∀ vs, chLook [(16, vs)] b = none) → h'.get? b = some o) → P (.ref 240) ⟨h', #[], s.drawn, t', s.os⟩) :
    wpAny (model prog w) { handled := none, depth := 400, frames := none, guards := none, units := 60 } (call (.ref 21) [.ref 179]) (fun v s' => P v s') (fun _ _ => False) s := by
  z_run
theorem ctk182 (w : World) (s : Shared) (ZH : KT.Holds s.heap 1 0 (hdK.ktop_43 w.params)) (ZN : s.heap.objs.size = 182) (hg : s.gens = #[]) (P : Value → Shared → Prop)
    (k : ∀ (h' : Heap) (t' : Nat) (get : Nat → Option Obj), KMade 182 181 get → (∀ i o, get i = some o → h'.get? (182 + i) = some o) → (∃ vs, h'.get? 16 = some (tableObj vs)) → (∀ b o, s.heap.get? b = some o → (∀ vs, chLook [(16, vs)] b = none) → h'.get? b = some o) → P (.ref 242) ⟨h', #[], s.drawn, t', s.os⟩) :
    wpAny (model prog w) { handled := none, depth := 400, frames := none, guards := none, units := 60 } (call (.ref 21) [.ref 181]) (fun v s' => P v s') (fun _ _ => False) s := by
  z_run
theorem ctk184 (w : World) (s : Shared) (ZH : KT.Holds s.heap 1 0 (hdK.ktop_43 w.params)) (ZN : s.heap.objs.size = 184) (hg : s.gens = #[]) (P : Value → Shared → Prop)
    (k : ∀ (h' : Heap) (t' : Nat) (get : Nat → Option Obj), KMade 184 183 get → (∀ i o, get i = some o → h'.get? (184 + i) = some o) → (∃ vs, h'.get? 16 = some (tableObj vs)) → (∀ b o, s.heap.get? b = some o → (∀ vs, chLook [(16, vs)] b = none) → h'.get? b = some o) → P (.ref 244) ⟨h', #[], s.drawn, t', s.os⟩) :
    wpAny (model prog w) { handled := none, depth := 400, frames := none, guards := none, units := 60 } (call (.ref 21) [.ref 183]) (fun v s' => P v s') (fun _ _ => False) s := by
  z_run
theorem ctk186 (w : World) (s : Shared) (ZH : KT.Holds s.heap 1 0 (hdK.ktop_43 w.params)) (ZN : s.heap.objs.size = 186) (hg : s.gens = #[]) (P : Value → Shared → Prop)
    (k : ∀ (h' : Heap) (t' : Nat) (get : Nat → Option Obj), KMade 186 185 get → (∀ i o, get i = some o → h'.get? (186 + i) = some o) → (∃ vs, h'.get? 16 = some (tableObj vs)) → (∀ b o, s.heap.get? b = some o → (∀ vs, chLook [(16, vs)] b = none) → h'.get? b = some o) → P (.ref 246) ⟨h', #[], s.drawn, t', s.os⟩) :
    wpAny (model prog w) { handled := none, depth := 400, frames := none, guards := none, units := 60 } (call (.ref 21) [.ref 185]) (fun v s' => P v s') (fun _ _ => False) s := by
  z_run
end
theorem ctk_all (ns : List Int) : CtkAt (sizeOf ns) := by
  have hl := xsOf_len ns
  have e : (netOf ns).length = (xsOf ns).length := by simp [netOf]
  unfold sizeOf
  by_cases h0 : someOf ns = []
  · have e5 : (xsOf ns).length = 5 := by unfold xsOf; rw [if_pos h0]; rfl
    rw [e, e5, if_pos h0]
    exact ctk173
  · rw [e, if_neg h0]
    match h : (xsOf ns).length, hl with
    | 0, hl => exact absurd hl.1 (by decide)
    | 1, _ => exact ctk164
    | 2, _ => exact ctk166
    | 3, _ => exact ctk168
    | 4, _ => exact ctk170
    | 5, _ => exact ctk172
    | 6, _ => exact ctk174
    | 7, _ => exact ctk176
    | 8, _ => exact ctk178
    | 9, _ => exact ctk180
    | 10, _ => exact ctk182
    | 11, _ => exact ctk184
    | 12, _ => exact ctk186
    | m + 13, hl => exact absurd hl.2 (Nat.not_le.mpr (Nat.lt_of_lt_of_le (by decide) (Nat.le_add_left 13 m)))
theorem k22 (P : Params) : hdK.heap_22 P = (List.range 22).map fun a => (a, topObj P a) := by kernel_rfl
theorem kt22 (P : Params) : hdK.ktop_43 P = KT.of (hdK.heap_22 P) := by kernel_rfl
theorem allIn_map {h : Heap} {f : Nat → Obj} : ∀ (l : List Nat), (∀ a ∈ l, h.get? a = some (f a)) → AllIn h (l.map fun a => (a, f a))
  | [], _ => trivial
  | a :: l, k => ⟨k a (.head _), allIn_map l fun b hb => k b (.tail _ hb)⟩
theorem holds_gen {h : Heap} {T : KT} {K : Frag} {f : Nat → Obj} {n : Nat} (e1 : T = KT.of K) (e2 : K = (List.range n).map fun a => (a, f a)) (k : ∀ a, a < n → h.get? a = some (f a)) : KT.Holds h 1 0 T := by
  subst e1
  subst e2
  exact holds_of (allIn_map _ fun a ha => k a (List.mem_range.mp ha))
theorem kt_holds {w : World} {h : Heap} (k : ∀ a, a < 22 → h.get? a = some (topObj w.params a)) : KT.Holds h 1 0 (hdK.ktop_43 w.params) := by
  have e1 := kt22 w.params
  have e2 := k22 w.params
  generalize hdK.ktop_43 w.params = T at e1 ⊢
  generalize hdK.heap_22 w.params = K at e1 e2
  exact holds_gen (f := topObj w.params) (n := 22) e1 e2 k
end Mine
end
section
open PySem PySem.W PyProof.Rows PySem.Calls
set_option Elab.async false
set_option maxRecDepth 100000
set_option maxHeartbeats 1000000
set_option linter.unusedVariables false
namespace Mine
theorem wpAny_max {α : Type} {M : Model} {A B : Around} {t : Sem α} {Q : α → Shared → Prop} {E : Value → Shared → Prop} {s : Shared} (h : wpAny M B t Q E s) (h1 : A.handled = B.handled) (h2 : A.depth ≤ B.depth) (h3 : B.frames = none) (h4 : B.guards = none) (h5 : A.units ≤ B.units) : wpAny M A t Q E s :=
  fun Γ p hΓ => h Γ p ⟨hΓ.1.trans h1, Nat.le_trans hΓ.2.1 h2, fun l hl => (by rw [h3] at hl; cases hl), fun g hg => (by rw [h4] at hg; cases hg), Nat.le_trans hΓ.2.2.2.2 h5⟩
/-- the places that law and _law_ways turn -/
abbrev own5 : List Addr := [100, 141, 142, 143, 144]
theorem rec_ne_tab {h : Heap} {c : Addr} {q : Str} (x : h.CodeRec (.ref c) q) (y : h.get? 100 = some (tabObj #[])) : c ≠ 100 := by
  rintro rfl
  obtain ⟨c', oc, vs', t', e', hoc, hdc, hq⟩ := x
  cases e'
  rw [y] at hoc; cases hoc; cases hdc; simp at hq
/-- cmp_to_key in law, and what stands behind it -/
theorem ctk_law {w : World} {A : Around} {z : Shared} {h : Heap} {tk : Nat} {Q : Value → Shared → Prop} {ns : List Int} {nl : Addr} {t' : Tok} (X : TopIn w h) (h16 : h.get? 16 = some (topObj w.params 16)) (h100 : h.get? 100 = some (tabObj #[])) (hz : h.objs.size = sizeOf ns) (hg : z.gens = #[]) (hh : A.handled = none) (hd : A.depth ≤ 400) (hu : A.units ≤ 60)
    (hnl : @LE.le Nat _ 146 nl) (h141 : ∃ m, h.Ns 141 m) (h142 : ∃ v, h.IsCell 142 v) (h143 : ∃ v, h.IsCell 143 v) (h144 : ∃ v, h.IsCell 144 v) (net : NetAt h (netOf ns) nl) (hca : h.IsCell 145 (some (.int ((nOf ns).fdiv 16) t'))) (cm : CmpAt h 145 (sizeOf ns - 1))
    (k : ∀ h' tk', KeepOff [16] h h' → (∃ ps, h'.get? 16 = some (tabObj ps)) → RunB w (hideAll h' own5) nl (sizeOf ns + 60) (netOf ns) ((nOf ns).fdiv 16) → Q (.ref (sizeOf ns + 60)) (St z h' tk')) :
    wpAny (model prog w) A (call (.ref 21) [.ref (sizeOf ns - 1)]) Q (fun _ _ => False) (St z h tk) := by
  have hsz : 162 ≤ sizeOf ns := by unfold sizeOf; omega
  refine wpAny_max (B := A60) (ctk_all ns w (St z h tk) (kt_holds fun a ha => ?_) hz hg Q fun h' tk' get K own t16 keep => ?_) hh hd rfl rfl hu
  · match a, ha with
    | 0, _ => exact top_get X (by kernel_rfl)
    | 1, _ => exact top_get X (by kernel_rfl)
    | 2, _ => exact top_get X (by kernel_rfl)
    | 3, _ => exact top_get X (by kernel_rfl)
    | 4, _ => exact top_get X (by kernel_rfl)
    | 5, _ => exact top_get X (by kernel_rfl)
    | 6, _ => exact top_get X (by kernel_rfl)
    | 7, _ => exact top_get X (by kernel_rfl)
    | 8, _ => exact top_get X (by kernel_rfl)
    | 9, _ => exact top_get X (by kernel_rfl)
    | 10, _ => exact top_get X (by kernel_rfl)
    | 11, _ => exact top_get X (by kernel_rfl)
    | 12, _ => exact top_get X (by kernel_rfl)
    | 13, _ => exact top_get X (by kernel_rfl)
    | 14, _ => exact top_get X (by kernel_rfl)
    | 15, _ => exact top_get X (by kernel_rfl)
    | 16, _ => exact h16
    | 17, _ => exact top_get X (by kernel_rfl)
    | 18, _ => exact top_get X (by kernel_rfl)
    | 19, _ => exact top_get X (by kernel_rfl)
    | 20, _ => exact top_get X (by kernel_rfl)
    | 21, _ => exact top_get X (by kernel_rfl)
    | a + 22, ha => exact absurd ha (Nat.not_lt.mpr (Nat.le_add_left 22 a))
  · have k16 : KeepOff [16] h h' := fun b o hb e => keep b o e fun vs => by
      have hb' : Nat.beq 16 b = false := by
        cases q : Nat.beq 16 b with
        | false => rfl
        | true => exact absurd (Nat.eq_of_beq_eq_true q).symm (by simpa using hb)
      simp [PySem.W.X.chLook, hb']
    have hgK : ∀ b o, b ≠ 16 → b ∉ own5 → h.get? b = some o → (hideAll h' own5).get? b = some o := fun b o h1 h2 e => hideAll_get _ (k16 b o (not_mem1 h1) e) h2
    have kind : ∀ b o, b ≠ 100 → h.get? b = some o → (∀ es n, o.data ≠ .dict es n) → (∀ v, o.data ≠ .cell v) → b ∉ own5 := fun b o hb e h1 h2 hm => by
      obtain ⟨m, o1, es, ep, e1, d1, _⟩ := h141
      obtain ⟨v2, o2, e2, d2⟩ := h142
      obtain ⟨v3, o3, e3, d3⟩ := h143
      obtain ⟨v4, o4, e4, d4⟩ := h144
      simp only [own5, List.mem_cons, List.not_mem_nil, or_false] at hm
      rcases hm with q | q | q | q | q
      · exact hb q
      · rw [q, e1] at e; cases e; exact h1 _ _ d1
      · rw [q, e2] at e; cases e; exact h2 _ d2
      · rw [q, e3] at e; cases e; exact h2 _ d3
      · rw [q, e4] at e; cases e; exact h2 _ d4
    have big : ∀ {b : Nat}, 145 ≤ b → b ∉ own5 := fun {b} hb hm => by
      simp only [own5, List.mem_cons, List.not_mem_nil, or_false] at hm
      rcases hm with q | q | q | q | q
      all_goals (have q' : @Eq Nat b _ := q; omega)
    have own' : ∀ i o, get i = some o → (hideAll h' own5).get? (sizeOf ns + i) = some o := fun i o e => hideAll_get _ (own i o e) (fun hm => by
      simp only [own5, List.mem_cons, List.not_mem_nil, or_false] at hm
      rcases hm with q | q | q | q | q
      all_goals (have q' : @Eq Nat (sizeOf ns + i) _ := q; omega))
    obtain ⟨KA, KN, kc⟩ := kmade_at K own'
    have hst : (⟨h', #[], (St z h tk).drawn, tk', (St z h tk).os⟩ : Shared) = St z h' tk' := by rw [← hg]
    rw [hst]
    refine k h' tk' k16 t16 ⟨fun a o ho => ?_, ?_, netOf_ok ns, ?_, ⟨_, _, _, _, 145, _, _, t', KA, KN, kc, ?_, ?_⟩, ?_, ?_⟩
    · have hoff := (k2_off ho).1
      simp only [Mine.tabs, List.mem_cons, List.not_mem_nil, or_false, not_or] at hoff
      have hlt : @LT.lt Nat _ a 140 := (k2_off ho).2
      refine hgK a o hoff.1 (fun hm => ?_) (X a o ho)
      simp only [own5, List.mem_cons, List.not_mem_nil, or_false] at hm
      rcases hm with q | q | q | q | q
      · exact hoff.2.1 q
      all_goals (have q' : @Eq Nat a _ := q; omega)
    · obtain ⟨vs, hl, hn, hj⟩ := net
      have ne : ∀ {a b : Nat}, 140 ≤ a → b < 140 → a ≠ b := fun h1 h2 q => by omega
      refine ⟨vs, hl.at fun o e => hgK _ o (ne (b := 16) (by omega) (by decide)) (big (by omega)) e, hn, fun i j v a b => ?_⟩
      obtain ⟨T, t1, t2, t3, e, b', hT⟩ := hj i j v a b
      obtain ⟨oT, hoT, hcT, nT, hdT⟩ := id hT
      exact ⟨T, t1, t2, t3, e, b', hT.at fun o e => hgK _ o (ne (b := 16) b' (by decide)) (kind T oT (ne (b := 100) b' (by decide)) hoT (by rw [hdT]; intro _ _ q; cases q) (by rw [hdT]; intro _ q; cases q)) e⟩
    · have := xsOf_len ns
      show ((xsOf ns).map jointOf).length ≤ 1000
      rw [List.length_map]; omega
    · obtain ⟨o, c, md, ct, ho, hd, hr⟩ := cm
      have hc := rec_ne_tab hr h100
      obtain ⟨c', oc, vs', tt, e', hoc, r⟩ := hr
      cases e'
      have hc16 : c ≠ 16 := by
        rintro rfl
        rw [h16] at hoc
        cases hoc
        have : (topObj w.params 16).data = .fields #[] := by kernel_rfl
        rw [this] at r
        obtain ⟨r1, r2⟩ := r
        cases r1
        simp at r2
      exact ⟨o, c, md, ct, hgK _ o (fun q => by have q' : @Eq Nat (sizeOf ns - 1) 16 := q; omega) (big (by omega)) ho, hd, c, oc, vs', tt, rfl, hgK _ oc hc16 (kind c oc hc hoc (by rw [r.1]; intro _ _ q; cases q) (by rw [r.1]; intro _ q; cases q)) hoc, r⟩
    · obtain ⟨o, ho, r⟩ := hca
      exact ⟨o, hgK _ o (by decide) (by simp [own5]) ho, r⟩
    · have := nOf_range ns
      rw [fd _ (by decide)]
      omega
    · have := nOf_range ns
      rw [fd _ (by decide)]
      omega
end Mine
end
section
open PySem PySem.W PyProof.Rows PySem.Calls
set_option Elab.async false
set_option maxRecDepth 100000
set_option maxHeartbeats 1000000
set_option linter.unusedVariables false
namespace Mine
/-! the plain law: modes as columns of bits -/
theorem bitAnd_nat (a b : Nat) : Builtin.bitAnd (a : Int) (b : Int) = ((a &&& b : Nat) : Int) := by rfl
theorem bitOr_nat (a b : Nat) : Builtin.bitOr (a : Int) (b : Int) = ((a ||| b : Nat) : Int) := by
  have h1 : ∀ c : Nat, decide (0 ≤ Builtin.bitNot (c : Int)) = false := fun c => decide_eq_false (by unfold Builtin.bitNot; omega)
  have e : ∀ c : Nat, (Builtin.bitNot (Builtin.bitNot (c : Int))).toNat = c := fun c => by unfold Builtin.bitNot; omega
  unfold Builtin.bitOr Builtin.bitAnd
  rw [h1, h1]
  show Builtin.bitNot (Builtin.bitNot (((Builtin.bitNot (Builtin.bitNot (a : Int))).toNat ||| (Builtin.bitNot (Builtin.bitNot (b : Int))).toNat : Nat) : Int)) = _
  rw [e, e]
  unfold Builtin.bitNot
  omega
def b2i (b : Bool) : Int := if b then 1 else 0
def colN (q : Nat) (ms : List Nat) : List Int := ms.map fun m => b2i (m.testBit q)
def stepN (ms : List Nat) (lo hi : Nat) : List Nat := (ms.set lo (ms.getD lo 0 &&& ms.getD hi 0)).set hi (ms.getD lo 0 ||| ms.getD hi 0)
def runN (ms : List Nat) (net : List Joint) : List Nat := net.foldl (fun ms j => stepN ms j.lo j.hi) ms
abbrev natI (ms : List Nat) : List Int := ms.map fun (m : Nat) => (m : Int)
theorem getD_ints (ms : List Nat) (i : Nat) : (natI ms).getD i 0 = ((ms.getD i 0 : Nat) : Int) := by
  rw [List.getD_eq_getElem?_getD, List.getD_eq_getElem?_getD, List.getElem?_map]
  cases ms[i]? <;> rfl
theorem step_ints (ms : List Nat) (lo hi : Nat) : stepZ (natI ms) lo hi = natI (stepN ms lo hi) := by
  unfold stepZ stepN
  rw [getD_ints, getD_ints, bitAnd_nat, bitOr_nat]
  unfold natI
  rw [List.map_set, List.map_set]
theorem run_ints (net : List Joint) : ∀ ms : List Nat, runZ (natI ms) net = natI (runN ms net) := by
  unfold runZ runN
  induction net with
  | nil => intro ms; rfl
  | cons j net ih => intro ms; rw [List.foldl_cons, List.foldl_cons, step_ints, ih]
theorem b2i_and (a b : Bool) : b2i (a && b) = min (b2i a) (b2i b) := by cases a <;> cases b <;> rfl
theorem b2i_or (a b : Bool) : b2i (a || b) = max (b2i a) (b2i b) := by cases a <;> cases b <;> rfl
theorem getD_col (q : Nat) (ms : List Nat) (i : Nat) : (colN q ms).getD i 0 = b2i ((ms.getD i 0).testBit q) := by
  unfold colN
  rw [List.getD_eq_getElem?_getD, List.getD_eq_getElem?_getD, List.getElem?_map]
  cases ms[i]? with
  | none => simp [b2i]
  | some m => rfl
theorem col_step (q : Nat) (ms : List Nat) (lo hi : Nat) : colN q (stepN ms lo hi) = stepV (colN q ms) lo hi := by
  unfold stepV stepN
  rw [getD_col, getD_col, ← b2i_and, ← b2i_or, ← Nat.testBit_and, ← Nat.testBit_or]
  unfold colN
  rw [List.map_set, List.map_set]
theorem col_run (q : Nat) (net : List Joint) : ∀ ms : List Nat, colN q (runN ms net) = runV (colN q ms) net := by
  unfold runN runV
  induction net with
  | nil => intro ms; rfl
  | cons j net ih => intro ms; rw [List.foldl_cons, List.foldl_cons, ih, col_step]
theorem runN_length (net : List Joint) : ∀ ms : List Nat, (runN ms net).length = ms.length := by
  unfold runN
  induction net with
  | nil => intro ms; rfl
  | cons j net ih => intro ms; rw [List.foldl_cons, ih]; simp [stepN]
/-- a row of like things stays -/
theorem runV_same (x : Int) (net : List Joint) (hok : ∀ j ∈ net, j.ok) : runV [x, x, x, x] net = [x, x, x, x] := by
  induction net with
  | nil => rfl
  | cons j net ih =>
    have jo := hok j (.head _)
    show runV (stepV [x, x, x, x] j.lo j.hi) net = _
    have e : ∀ i, i < 4 → ([x, x, x, x] : List Int).getD i 0 = x := fun i hi => by
      match i, hi with
      | 0, _ => rfl
      | 1, _ => rfl
      | 2, _ => rfl
      | 3, _ => rfl
    rw [stepV_same (by rw [e _ jo.1, e _ jo.2.1]; exact Int.le_refl _), ih fun k hk => hok k (.tail _ hk)]
/-! numbers of bits -/
def numN : List Bool → Nat
  | [] => 0
  | b :: l => (if b then 1 else 0) + 2 * numN l
theorem numN_lt : ∀ l : List Bool, numN l < 2 ^ l.length
  | [] => by decide
  | b :: l => by
    have := numN_lt l
    rw [List.length_cons, Nat.pow_succ]
    have e : numN (b :: l) = (if b then 1 else 0) + 2 * numN l := rfl
    rw [e]
    split <;> omega
theorem numN_bit : ∀ (l : List Bool) (q : Nat), (numN l).testBit q = l.getD q false
  | [], q => by simp [numN]
  | b :: l, 0 => by
    have e : numN (b :: l) = (if b then 1 else 0) + 2 * numN l := rfl
    rw [e]
    cases b <;> simp [Nat.testBit_zero] <;> omega
  | b :: l, q + 1 => by
    have := numN_bit l q
    rw [List.getD_cons_succ, ← this, Nat.testBit_succ]
    have e : numN (b :: l) = (if b then 1 else 0) + 2 * numN l := rfl
    rw [e]
    congr 1
    split <;> omega
end Mine
end
section
open PySem PySem.W PyProof.Rows PySem.Calls
set_option Elab.async false
set_option maxRecDepth 100000
set_option maxHeartbeats 1000000
set_option linter.unusedVariables false
namespace Mine
theorem numZ_cons (d : Int) (ds : List Int) : numZ (d :: ds) = d + 2 * numZ ds := by
  unfold numZ
  rw [List.length_cons, List.range_succ_eq_map, List.map_cons, List.sum_cons, List.map_map]
  have e : ((List.range ds.length).map ((fun k => (2 : Int) ^ k * (d :: ds).getD k 0) ∘ Nat.succ)).sum = 2 * ((List.range ds.length).map fun k => (2 : Int) ^ k * ds.getD k 0).sum := by
    generalize List.range ds.length = l
    induction l with
    | nil => rfl
    | cons a l ih =>
      simp only [List.map_cons, List.sum_cons, ih, Function.comp, List.getD_cons_succ, Int.pow_succ]
      rw [Int.mul_add]
      congr 1
      rw [Int.mul_comm ((2 : Int) ^ a) 2, Int.mul_assoc]
  rw [e]
  simp
theorem numZ_bits : ∀ l : List Bool, numZ (l.map b2i) = (numN l : Int)
  | [] => rfl
  | b :: l => by
    rw [List.map_cons, numZ_cons, numZ_bits l]
    have e : numN (b :: l) = (if b then 1 else 0) + 2 * numN l := rfl
    rw [e]
    cases b <;> simp [b2i]
/-- a bit of a mode -/
theorem mode_bit (above : Nat) (l : List Bool) (hl : l.length = 16) (q : Nat) : (above * 65536 + numN l).testBit q = if q < 16 then l.getD q false else above.testBit (q - 16) := by
  have h := numN_lt l
  rw [hl] at h
  have e : above * 65536 + numN l = 2 ^ 16 * above + numN l := by rw [Nat.mul_comm]
  rw [e, Nat.testBit_two_pow_mul_add _ h, numN_bit]
def lieB (n k : Nat) : List Bool := (List.range 16).map fun q => decide ((q + n) % 16 / 2 ^ k % 2 = 1)
def comeB (net : List Joint) (n k : Nat) : List Bool := (List.range 16).map fun q => decide (netF net (((q + n) % 16 : Nat) : Int) / 2 ^ k % 2 = 1)
def modeN (above : Nat) (l : List Bool) : Nat := above * 65536 + numN l
theorem zero_one_step {ds : List Int} (h : ∀ d ∈ ds, d = 0 ∨ d = 1) (lo hi : Nat) : ∀ d ∈ stepV ds lo hi, d = 0 ∨ d = 1 := by
  have g : ∀ i, ds.getD i 0 = 0 ∨ ds.getD i 0 = 1 := fun i => by
    rw [List.getD_eq_getElem?_getD]
    cases e : ds[i]? with
    | none => exact .inl rfl
    | some d => exact h d (List.mem_of_getElem? e)
  intro d hd
  unfold stepV at hd
  rcases List.mem_or_eq_of_mem_set hd with hd | rfl
  · rcases List.mem_or_eq_of_mem_set hd with hd | rfl
    · exact h d hd
    · rcases g lo with a | a <;> rcases g hi with b | b <;> rw [a, b] <;> decide
  · rcases g lo with a | a <;> rcases g hi with b | b <;> rw [a, b] <;> decide
theorem zero_one_run (net : List Joint) : ∀ {ds : List Int}, (∀ d ∈ ds, d = 0 ∨ d = 1) → ∀ d ∈ runV ds net, d = 0 ∨ d = 1 := by
  unfold runV
  induction net with
  | nil => intro ds h; exact h
  | cons j net ih => intro ds h; rw [List.foldl_cons]; exact ih (zero_one_step h j.lo j.hi)
theorem bits_run_four (net : List Joint) (S : Int) : ∃ a b c d, runV (bits4 S) net = [a, b, c, d] ∧ (a = 0 ∨ a = 1) ∧ (b = 0 ∨ b = 1) ∧ (c = 0 ∨ c = 1) ∧ (d = 0 ∨ d = 1) := by
  have hl : (runV (bits4 S) net).length = 4 := by rw [runV_length]; rfl
  obtain ⟨a, b, c, d, e⟩ := four_of hl
  have h01 : ∀ x ∈ bits4 S, x = 0 ∨ x = 1 := by
    intro x hx
    simp only [bits4, List.mem_cons, List.not_mem_nil, or_false] at hx
    rcases hx with e | e | e | e <;> rw [e] <;> exact Int.emod_two_eq _
  have h := zero_one_run net h01
  rw [e] at h
  exact ⟨a, b, c, d, e, h a (by simp), h b (by simp), h c (by simp), h d (by simp)⟩
theorem bitZ (x : Int) : x % 2 = b2i (decide (x % 2 = 1)) := by rcases Int.emod_two_eq x with h | h <;> rw [h] <;> rfl
theorem bitNZ (m : Nat) : ((m % 2 : Nat) : Int) = b2i (decide (m % 2 = 1)) := by rcases Nat.mod_two_eq_zero_or_one m with h | h <;> rw [h] <;> rfl
theorem bitNE (a k : Nat) : (a : Int) / 2 ^ k % 2 = b2i (decide (a / 2 ^ k % 2 = 1)) := by
  rw [← bitNZ, Int.natCast_emod, Int.natCast_ediv, Int.natCast_pow]
  rfl
theorem bit_low {a m : Int} (h : a = 0 ∨ a = 1) : (a + 2 * m) % 2 = a := by omega
theorem bit_up {a m : Int} (h : a = 0 ∨ a = 1) : (a + 2 * m) / 2 = m := by omega
/-- a set's number, wire by wire -/
theorem netF_bit (net : List Joint) (S : Int) (k : Nat) (hk : k < 4) : netF net S / 2 ^ k % 2 = (runV (bits4 S) net).getD k 0 := by
  obtain ⟨a, b, c, d, e, ha, hb, hc, hd⟩ := bits_run_four net S
  unfold netF
  have f : a + 2 * b + 4 * c + 8 * d = a + 2 * (b + 2 * (c + 2 * (d + 2 * 0))) := by omega
  rw [e, setZ_four, thr_1 ha, thr_1 hb, thr_1 hc, thr_1 hd, f]
  match k, hk with
  | 0, _ => exact (congrArg (· % 2) (Int.ediv_one _)).trans (bit_low ha)
  | 1, _ => exact (congrArg (· % 2) (bit_up ha)).trans (bit_low hb)
  | 2, _ =>
    show _ / (2 * 2) % 2 = c
    rw [← Int.ediv_ediv_of_nonneg (by decide), bit_up ha, bit_up hb, bit_low hc]
  | 3, _ =>
    show _ / (2 * 2 * 2) % 2 = d
    rw [← Int.ediv_ediv_of_nonneg (by decide), ← Int.ediv_ediv_of_nonneg (by decide), bit_up ha, bit_up hb, bit_up hc, bit_low hd]
theorem b2i_decide {x : Int} (h : x = 0 ∨ x = 1) : b2i (decide (x = 1)) = x := by rcases h with rfl | rfl <;> rfl
theorem b2i_inj {a b : Bool} (h : b2i a = b2i b) : a = b := by cases a <;> cases b <;> first | rfl | cases h
theorem come_bit (net : List Joint) (S : Int) (k : Nat) (hk : k < 4) : (runV (bits4 S) net).getD k 0 = b2i (decide (netF net S / 2 ^ k % 2 = 1)) := by
  rw [netF_bit net S k hk]
  refine (b2i_decide ?_).symm
  obtain ⟨a, b, c, d, e, ha, hb, hc, hd⟩ := bits_run_four net S
  rw [e]
  match k, hk with
  | 0, _ => exact ha
  | 1, _ => exact hb
  | 2, _ => exact hc
  | 3, _ => exact hd
theorem getD_four (x : Int) (k : Nat) (hk : k < 4) : ([x, x, x, x] : List Int).getD k 0 = x := by
  match k, hk with
  | 0, _ => rfl
  | 1, _ => rfl
  | 2, _ => rfl
  | 3, _ => rfl
/-- what reduce tells -/
theorem told_eq (net : List Joint) (hok : ∀ j ∈ net, j.ok) (n above : Nat) :
    runN ((List.range 4).map fun k => modeN above (lieB n k)) net = (List.range 4).map fun k => modeN above (comeB net n k) := by
  have hlen : (runN ((List.range 4).map fun k => modeN above (lieB n k)) net).length = 4 := by rw [runN_length]; rfl
  apply List.ext_getElem?
  intro k
  by_cases hk : k < 4
  · have e1 : (runN ((List.range 4).map fun k => modeN above (lieB n k)) net)[k]? = some ((runN ((List.range 4).map fun k => modeN above (lieB n k)) net).getD k 0) := by
      rw [List.getD_eq_getElem?_getD, List.getElem?_eq_getElem (by omega)]; rfl
    have e2 : ((List.range 4).map fun k => modeN above (comeB net n k))[k]? = some (modeN above (comeB net n k)) := by simp [hk]
    rw [e1, e2]
    refine congrArg some ?_
    apply Nat.eq_of_testBit_eq
    intro q
    apply b2i_inj
    rw [← getD_col, col_run]
    have lens : ∀ k, (lieB n k).length = 16 := fun k => by simp [lieB]
    have lenc : (comeB net n k).length = 16 := by simp [comeB]
    unfold modeN
    rw [mode_bit above _ lenc]
    have hcol : colN q ((List.range 4).map fun k => above * 65536 + numN (lieB n k)) = [b2i (if q < 16 then (lieB n 0).getD q false else above.testBit (q - 16)), b2i (if q < 16 then (lieB n 1).getD q false else above.testBit (q - 16)), b2i (if q < 16 then (lieB n 2).getD q false else above.testBit (q - 16)), b2i (if q < 16 then (lieB n 3).getD q false else above.testBit (q - 16))] := by
      show [b2i _, b2i _, b2i _, b2i _] = _
      rw [mode_bit above _ (lens 0), mode_bit above _ (lens 1), mode_bit above _ (lens 2), mode_bit above _ (lens 3)]
    rw [hcol]
    by_cases hq : q < 16
    · simp only [if_pos hq]
      have gl : ∀ j, j < 4 → b2i ((lieB n j).getD q false) = ((((q + n) % 16 : Nat) : Int) / 2 ^ j % 2) := fun j hj => by
        have : (lieB n j).getD q false = decide ((q + n) % 16 / 2 ^ j % 2 = 1) := by simp [lieB, List.getD_eq_getElem?_getD, hq]
        rw [this]
        exact (bitNE _ j).symm
      have hb4 : [b2i ((lieB n 0).getD q false), b2i ((lieB n 1).getD q false), b2i ((lieB n 2).getD q false), b2i ((lieB n 3).getD q false)] = bits4 (((q + n) % 16 : Nat) : Int) := by
        rw [gl 0 (by decide), gl 1 (by decide), gl 2 (by decide), gl 3 (by decide)]
        unfold bits4
        rw [show (2 : Int) ^ 0 = 1 from rfl, show (2 : Int) ^ 1 = 2 from rfl, show (2 : Int) ^ 2 = 4 from rfl, show (2 : Int) ^ 3 = 8 from rfl, Int.ediv_one]
      rw [hb4]
      have : (comeB net n k).getD q false = decide (netF net (((q + n) % 16 : Nat) : Int) / 2 ^ k % 2 = 1) := by simp [comeB, List.getD_eq_getElem?_getD, hq]
      rw [this]
      exact come_bit net _ k hk
    · simp only [if_neg hq]
      rw [runV_same _ net hok]
      exact getD_four _ k hk
  · rw [List.getElem?_eq_none (by omega), List.getElem?_eq_none (by simp; omega)]
end Mine
end
section
open PySem PySem.W PyProof.Rows PySem.Calls
set_option Elab.async false
set_option maxRecDepth 100000
set_option maxHeartbeats 1000000
set_option linter.unusedVariables false
namespace Mine
theorem numN_append : ∀ a b : List Bool, numN (a ++ b) = numN a + 2 ^ a.length * numN b
  | [], b => by simp [numN]
  | x :: a, b => by
    have e1 : numN (x :: (a ++ b)) = (if x then 1 else 0) + 2 * numN (a ++ b) := rfl
    have e2 : numN (x :: a) = (if x then 1 else 0) + 2 * numN a := rfl
    rw [List.cons_append, e1, e2, numN_append a b, List.length_cons, Nat.pow_succ, Nat.mul_add, ← Nat.mul_assoc, Nat.mul_comm 2 (2 ^ a.length), Nat.add_assoc]
theorem mode_split (above : Nat) (l : List Bool) (hl : l.length = 16) : modeN above l = above * 65536 + (numN (l.take 12) + 4096 * numN (l.drop 12)) := by
  have e := numN_append (l.take 12) (l.drop 12)
  rw [List.take_append_drop, List.length_take, hl] at e
  unfold modeN
  rw [e]
  rfl
theorem num_take (l : List Bool) (hl : l.length = 16) : numN (l.take 12) < 4096 := by
  have := numN_lt (l.take 12)
  rw [List.length_take, hl] at this
  exact this
theorem num_drop (l : List Bool) (hl : l.length = 16) : numN (l.drop 12) < 16 := by
  have := numN_lt (l.drop 12)
  rw [List.length_drop, hl] at this
  exact this
theorem mode_low (above : Nat) (l : List Bool) (hl : l.length = 16) : Builtin.bitAnd (modeN above l : Nat) 4095 = (numN (l.take 12) : Int) := by
  have h := bitAnd_nat (modeN above l) 4095
  have h2 : modeN above l &&& 4095 = modeN above l % 4096 := Nat.and_two_pow_sub_one_eq_mod (modeN above l) 12
  have h3 := mode_split above l hl
  have h4 := num_take l hl
  refine h.trans ?_
  rw [h2, h3]
  congr 1
  omega
theorem mode_high (above : Nat) (l : List Bool) (hl : l.length = 16) : Builtin.bitAnd (modeN above l : Nat) 61440 = (numN (l.drop 12) : Int) * 4096 := by
  have h := bitAnd_nat (modeN above l) 61440
  have h3 := mode_split above l hl
  have h4 := num_take l hl
  have h5 := num_drop l hl
  have key : modeN above l &&& 61440 = 2 ^ 12 * numN (l.drop 12) := by
    apply Nat.eq_of_testBit_eq
    intro q
    rw [Nat.testBit_and]
    have e : modeN above l = 2 ^ 12 * (2 ^ 4 * above + numN (l.drop 12)) + numN (l.take 12) := by rw [h3]; omega
    rw [e, Nat.testBit_two_pow_mul_add _ h4]
    have e2 : (2 ^ 12 * numN (l.drop 12)).testBit q = if q < 12 then false else (numN (l.drop 12)).testBit (q - 12) := by
      have := Nat.testBit_two_pow_mul_add (numN (l.drop 12)) (b := 0) (i := 12) (by decide) q
      simpa using this
    have e3 : (61440 : Nat).testBit q = if q < 12 then false else (15 : Nat).testBit (q - 12) := by
      have := Nat.testBit_two_pow_mul_add 15 (b := 0) (i := 12) (by decide) q
      simpa using this
    rw [e2, e3]
    by_cases hq : q < 12
    · simp [hq]
    · simp only [if_neg hq]
      rw [Nat.testBit_two_pow_mul_add _ h5]
      by_cases h16 : q - 12 < 4
      · have : (15 : Nat).testBit (q - 12) = true := by
          have e15 : (15 : Nat) = 2 ^ 4 - 1 := rfl
          rw [e15, Nat.testBit_two_pow_sub_one]
          simp [h16]
        rw [this]
        simp [h16]
      · have hz : (numN (l.drop 12)).testBit (q - 12) = false := Nat.testBit_lt_two_pow (Nat.lt_of_lt_of_le h5 (Nat.pow_le_pow_right (n := 2) (i := 4) (by decide) (Nat.not_lt.mp h16)))
        have : (15 : Nat).testBit (q - 12) = false := by
          have e15 : (15 : Nat) = 2 ^ 4 - 1 := rfl
          rw [e15, Nat.testBit_two_pow_sub_one]
          simp [h16]
        rw [this, hz]
        simp
  refine h.trans ?_
  rw [key]
  omega
end Mine
end
section
open PySem PySem.W PyProof.Rows PySem.Calls
set_option Elab.async false
set_option maxRecDepth 100000
set_option maxHeartbeats 1000000
set_option linter.unusedVariables false
namespace Mine
/-- one bit asked -/
theorem hit_bit (above : Nat) (l : List Bool) (hl : l.length = 16) (i : Nat) (hi : i < 16) : (Builtin.bitAnd (modeN above l : Nat) ((2 ^ i : Nat) : Int) == ((2 ^ i : Nat) : Int)) = l.getD i false := by
  rw [bitAnd_nat]
  have hb := mode_bit above l hl i
  rw [if_pos hi] at hb
  have e : modeN above l &&& 2 ^ i = if l.getD i false then 2 ^ i else 0 := by
    apply Nat.eq_of_testBit_eq
    intro q
    rw [Nat.testBit_and, Nat.testBit_two_pow]
    by_cases hq : i = q
    · subst hq
      have : (modeN above l).testBit i = l.getD i false := hb
      rw [this]
      cases l.getD i false <;> simp
    · cases l.getD i false <;> simp [hq, Nat.testBit_two_pow]
  rw [e]
  cases l.getD i false
  · have : (0 : Nat) ≠ 2 ^ i := Nat.ne_of_lt (Nat.pow_pos (by decide))
    simp only [Bool.false_eq_true, if_false]
    rw [beq_eq_false_iff_ne]
    intro q
    exact this (by exact_mod_cast q)
  · simp
/-- two bits asked -/
theorem hit_two (above : Nat) (l : List Bool) (hl : l.length = 16) (i j : Nat) (hi : i < 16) (hj : j < 16) (h1 : (2 ^ i : Nat) ≠ 2 ^ i ||| 2 ^ j) (h2 : (2 ^ j : Nat) ≠ 2 ^ i ||| 2 ^ j) (h0 : (0 : Nat) ≠ 2 ^ i ||| 2 ^ j) :
    (Builtin.bitAnd (modeN above l : Nat) ((2 ^ i ||| 2 ^ j : Nat) : Int) == ((2 ^ i ||| 2 ^ j : Nat) : Int)) = (l.getD i false && l.getD j false) := by
  rw [bitAnd_nat]
  have hb := mode_bit above l hl i
  rw [if_pos hi] at hb
  have hc := mode_bit above l hl j
  rw [if_pos hj] at hc
  have e : modeN above l &&& (2 ^ i ||| 2 ^ j) = (if l.getD i false then 2 ^ i else 0) ||| (if l.getD j false then 2 ^ j else 0) := by
    apply Nat.eq_of_testBit_eq
    intro q
    rw [Nat.testBit_and, Nat.testBit_or, Nat.testBit_or, Nat.testBit_two_pow, Nat.testBit_two_pow]
    have e1 : ∀ (b : Bool) (k : Nat), (if b = true then 2 ^ k else 0 : Nat).testBit q = (b && decide (k = q)) := fun b k => by
      cases b <;> simp [Nat.testBit_two_pow]
    rw [e1, e1]
    have k1 : i = q → (modeN above l).testBit q = l.getD i false := fun h => h ▸ hb
    have k2 : j = q → (modeN above l).testBit q = l.getD j false := fun h => h ▸ hc
    by_cases hq : i = q
    · rw [k1 hq]
      by_cases hq2 : j = q
      · have : l.getD i false = l.getD j false := (k1 hq).symm.trans (k2 hq2)
        rw [this]
        cases l.getD j false <;> simp [hq, hq2]
      · cases l.getD i false <;> cases l.getD j false <;> simp [hq, hq2]
    · by_cases hq2 : j = q
      · rw [k2 hq2]
        cases l.getD i false <;> cases l.getD j false <;> simp [hq, hq2]
      · simp [hq, hq2]
  rw [e]
  have ne : ∀ {a b : Nat}, a ≠ b → ((a : Int) == (b : Int)) = false := fun h => by
    rw [beq_eq_false_iff_ne]
    intro q
    exact h (by exact_mod_cast q)
  cases l.getD i false <;> cases l.getD j false
  · simp only [Bool.false_eq_true, if_false, Nat.zero_or, Bool.and_self]; exact ne h0
  · simp only [Bool.false_eq_true, if_false, if_true, Nat.zero_or, Bool.false_and]; exact ne h2
  · simp only [Bool.false_eq_true, if_false, if_true, Nat.or_zero, Bool.and_false]; exact ne h1
  · simp
end Mine
end
section
open PySem PySem.W PyProof.Rows PySem.Calls
set_option Elab.async false
set_option maxRecDepth 100000
set_option maxHeartbeats 1000000
set_option linter.unusedVariables false
namespace Mine
section
variable (above : Nat) (l : List Bool) (hl : l.length = 16)
theorem fmHit_pos (m : Int) (i : Nat) (b : Int) (hi : i ≠ 0) : fmHit m i b = (Builtin.bitAnd m b == b) := if_neg hi
include hl
theorem ch_one (i k : Nat) (hi : i ≠ 0) (hk : k < 16) (c : Str) (b : Int) (hb : b = ((2 ^ k : Nat) : Int)) : fmChar (modeN above l : Nat) i [(b, c)] = if l.getD k false then c else Str.ofString "-" := by
  unfold fmChar
  rw [List.find?_cons, fmHit_pos _ _ _ hi, hb, hit_bit above l hl k hk]
  cases l.getD k false <;> simp [hi]
theorem ch_three (i k s : Nat) (hi : i ≠ 0) (hk : k < 16) (hs : s < 16) (c1 c2 c3 : Str) (b1 b2 b3 : Int) (hb1 : b1 = ((2 ^ k ||| 2 ^ s : Nat) : Int)) (hb2 : b2 = ((2 ^ s : Nat) : Int)) (hb3 : b3 = ((2 ^ k : Nat) : Int)) (h1 : (2 ^ k : Nat) ≠ 2 ^ k ||| 2 ^ s) (h2 : (2 ^ s : Nat) ≠ 2 ^ k ||| 2 ^ s) (h0 : (0 : Nat) ≠ 2 ^ k ||| 2 ^ s) :
    fmChar (modeN above l : Nat) i [(b1, c1), (b2, c2), (b3, c3)] = if l.getD s false then (if l.getD k false then c1 else c2) else (if l.getD k false then c3 else Str.ofString "-") := by
  unfold fmChar
  rw [List.find?_cons, List.find?_cons, List.find?_cons, fmHit_pos _ _ _ hi, fmHit_pos _ _ _ hi, fmHit_pos _ _ _ hi, hb1, hb2, hb3, hit_two above l hl k s hk hs h1 h2 h0, hit_bit above l hl k hk, hit_bit above l hl s hs]
  cases l.getD k false <;> cases l.getD s false <;> simp [hi]
theorem ch_zero : fmChar (modeN above l : Nat) 0 (fmRow (fmRows.getD 0 (0, []))) = at1 (Str.ofString "?pc?d?b?-?l?s???") (numN (l.drop 12)) := by
  have h := mode_high above l hl
  have h16 := num_drop l hl
  unfold fmChar
  have e : (fun q : Int × Str => fmHit (modeN above l : Nat) 0 q.1) = fun q => ((numN (l.drop 12) : Int) * 4096 == q.1) := by
    funext q
    show (Builtin.bitAnd (modeN above l : Nat) 61440 == q.1) = _
    rw [h]
  rw [e]
  generalize numN (l.drop 12) = d at h16
  have key : ∀ d : Fin 16, (match (fmRow (fmRows.getD 0 (0, []))).find? (fun q => (((d.val : Nat) : Int) * 4096 == q.1)) with | some q => q.2 | none => if (0 : Nat) = 0 then Str.ofString "?" else Str.ofString "-") = at1 (Str.ofString "?pc?d?b?-?l?s???") d.val := by decide +kernel
  exact key ⟨d, h16⟩
end
end Mine
end
section
open PySem PySem.W PyProof.Rows PySem.Calls
set_option Elab.async false
set_option maxRecDepth 100000
set_option maxHeartbeats 1000000
set_option linter.unusedVariables false
namespace Mine
theorem bitN_bits (l : List Bool) (i : Nat) : bitN (l.map b2i) i = if l.getD i false then 1 else 0 := by
  unfold bitN
  rw [List.getD_eq_getElem?_getD, List.getD_eq_getElem?_getD, List.getElem?_map]
  cases l[i]? with
  | none => rfl
  | some b => cases b <;> rfl
theorem join_ten (c0 c1 c2 c3 c4 c5 c6 c7 c8 c9 : Str) : Txt.join (Str.ofString "") [c0, c1, c2, c3, c4, c5, c6, c7, c8, c9] = ((((((((c0 ++ c1) ++ c2) ++ c3) ++ c4) ++ c5) ++ c6) ++ c7) ++ c8) ++ c9 := by
  have e : (Str.ofString "").cps = #[] := by decide +kernel
  show (⟨_⟩ : Str) = ⟨_⟩
  simp only [List.drop, List.headD, List.foldl, e, Array.append_empty]
  rfl
/-- filemode's signs -/
theorem file_text (above : Nat) (l : List Bool) (hl : l.length = 16) : fileZ (modeN above l : Nat) = textZ (l.map b2i) := by
  have p : ∀ b : Bool, at1 (Str.ofString "-r") (if b = true then 1 else 0) = if b then Str.ofString "r" else Str.ofString "-" := by decide +kernel
  have pw : ∀ b : Bool, at1 (Str.ofString "-w") (if b = true then 1 else 0) = if b then Str.ofString "w" else Str.ofString "-" := by decide +kernel
  have px : ∀ a b : Bool, at1 (Str.ofString "-xSs") ((if a = true then 1 else 0) + 2 * (if b = true then 1 else 0)) = if b then (if a then Str.ofString "s" else Str.ofString "S") else (if a then Str.ofString "x" else Str.ofString "-") := by decide +kernel
  have pt : ∀ a b : Bool, at1 (Str.ofString "-xTt") ((if a = true then 1 else 0) + 2 * (if b = true then 1 else 0)) = if b then (if a then Str.ofString "t" else Str.ofString "T") else (if a then Str.ofString "x" else Str.ofString "-") := by decide +kernel
  have hd : (numZ ((l.map b2i).drop 12)).toNat = numN (l.drop 12) := by
    rw [← List.map_drop, numZ_bits]
    exact Int.toNat_natCast _
  have hc : fmChars (modeN above l : Nat) = [fmChar (modeN above l : Nat) 0 (fmRow (fmRows.getD 0 (0, []))), fmChar (modeN above l : Nat) 1 [(256, Str.ofString "r")], fmChar (modeN above l : Nat) 2 [(128, Str.ofString "w")], fmChar (modeN above l : Nat) 3 [(2112, Str.ofString "s"), (2048, Str.ofString "S"), (64, Str.ofString "x")], fmChar (modeN above l : Nat) 4 [(32, Str.ofString "r")], fmChar (modeN above l : Nat) 5 [(16, Str.ofString "w")], fmChar (modeN above l : Nat) 6 [(1032, Str.ofString "s"), (1024, Str.ofString "S"), (8, Str.ofString "x")], fmChar (modeN above l : Nat) 7 [(4, Str.ofString "r")], fmChar (modeN above l : Nat) 8 [(2, Str.ofString "w")], fmChar (modeN above l : Nat) 9 [(513, Str.ofString "t"), (512, Str.ofString "T"), (1, Str.ofString "x")]] := rfl
  unfold fileZ
  rw [hc, join_ten, ch_zero above l hl, ch_one above l hl 1 8 (by decide) (by decide) _ 256 rfl, ch_one above l hl 2 7 (by decide) (by decide) _ 128 rfl, ch_three above l hl 3 6 11 (by decide) (by decide) (by decide) _ _ _ 2112 2048 64 rfl rfl rfl (by decide) (by decide) (by decide),
    ch_one above l hl 4 5 (by decide) (by decide) _ 32 rfl, ch_one above l hl 5 4 (by decide) (by decide) _ 16 rfl, ch_three above l hl 6 3 10 (by decide) (by decide) (by decide) _ _ _ 1032 1024 8 rfl rfl rfl (by decide) (by decide) (by decide),
    ch_one above l hl 7 2 (by decide) (by decide) _ 4 rfl, ch_one above l hl 8 1 (by decide) (by decide) _ 2 rfl, ch_three above l hl 9 0 9 (by decide) (by decide) (by decide) _ _ _ 513 512 1 rfl rfl rfl (by decide) (by decide) (by decide)]
  unfold textZ
  rw [hd, show List.range 3 = [0, 1, 2] from rfl]
  simp only [List.foldl]
  unfold textStep
  simp only [bitN_bits]
  rw [if_neg (by decide : ¬ (0 : Nat) = 2), if_neg (by decide : ¬ (1 : Nat) = 2)]
  simp only [if_true, p, pw, px, pt]
end Mine
end
section
open PySem PySem.W PyProof.Rows PySem.Calls
set_option Elab.async false
set_option maxRecDepth 100000
set_option maxHeartbeats 1000000
set_option linter.unusedVariables false
namespace Mine
section
variable {w : World} {A : Around} {z : Shared} {env : Env} {h : Heap} {tk : Nat} {E : Value → Shared → Prop}
theorem ev_dict {l r : Expr} {pos : Pos} {d : Addr} {kvs : List (Int × Value)} {k : Int} {y : Value} (x : Ev w A env z h l (· = .ref d)) (i : Ev w A env z h r (IntV k)) (hd : DictI w h d kvs) (hv : valueAt kvs k = some y)
    (hs : ∀ t, subscripted r false (.ref d) (.int k t) = operate [.ref d, .int k t] (getItem (.ref d) (.int k t)) := by intro _; with_unfolding_all rfl) :
    Ev w A env z h (.Subscript l r pos) (· = y) := fun tk Q E q =>
  Subscript_ (x tk _ E fun v tk1 hv' => i tk1 _ E fun v2 tk2 hv2 => by
    subst hv'
    obtain ⟨t, rfl⟩ := hv2
    exact tail_any (Heap.DictOf.typeIs (s := St z h tk2) hd) slot_dict_getitem.lookup (wpAny_getItem_of (s := St z h tk2) (intKind_is _ _ _ _) (Heap.DictOf.mapOf hd) hv (q _ _ rfl)) (hs t))
theorem valueAt_in {kvs : List (Int × Value)} {k : Int} (h : k ∈ kvs.map (·.1)) : ∃ v, valueAt kvs k = some v := by
  cases e : valueAt kvs k with
  | some v => exact ⟨v, rfl⟩
  | none =>
    obtain ⟨kv, hkv, rfl⟩ := List.mem_map.mp h
    exact absurd hkv (valueAt_none e kv.2)
theorem compF_go_range {elt : Expr} {x y : Str} {scope : Scope} {cl : List (Str × Addr)} {R : Nat → Value → List Addr → Heap → Prop} {Q : Flow → Shared → Prop} {r : Addr} {a b : Int} {n : Nat} {t u v : Tok} {m : Str → Option Value} (hh : A.handled = none) (hr : IsRange h r a b 1 t u v) (hn : b = a + n) (ha : -(2 ^ 60) ≤ a) (ha' : a < 2 ^ 60) (hn' : n ≤ 1000) (hm : h.Ns env.locals m)
    (helt : ∀ C i v t h₃ tk₃ m₃ E', i < n → @LT.lt Nat instLTNat (h.objs.size) (C) → v = Value.int (a + (i : Nat)) t → h₃.Ns C m₃ → m₃ x = some v → Keep h h₃ →
        wpAny (model prog w) A (eval elt (compEnvC scope cl C env)) (fun y s₄ => ∃ h₄ tk₄ bs, s₄ = St z h₄ tk₄ ∧ Keep h₃ h₄ ∧ (∀ b ∈ bs, @LE.le Nat instLENat (h₃.objs.size) (b)) ∧ R i y bs h₄) E' (St z h₃ tk₃))
    (hQ : ∀ D h' tk ys, @LE.le Nat instLENat (h.objs.size) (D) → h'.PlainList D ys → ys.size = n → (∀ j y, ys[j]? = some y → ∃ as, (∀ a ∈ as, @LE.le Nat instLENat (h.objs.size) (a)) ∧ R j y as h') → h'.Ns env.locals (put m y (.ref D)) → KeepOff [env.locals] h h' → Q .next (St z h' tk)) :
    wpAny (model prog w) A (pyIter (.ref r)) (CompGoF w A z env elt x scope cl R (StoreFin z env y R Q)) E (St z h tk) := by
  have hz := range_len hn
  have hL : @LT.lt Nat instLTNat (env.locals) (h.objs.size) := by obtain ⟨_, _, _, ho, _⟩ := hm; exact Heap.lt_size ho
  refine wpAny_pyIter_range (s := St z h tk) hr (range_small hn ha ha' hn') ?_
  refine ⟨h.objs.size, [h.objs.size], [h.objs.size], n, _, _, _, tk, rfl, rfl, It.range hh _ a 1 n, (by unfold sizeLine; omega), ?_, ?_, ?_, m, hm.push _, not_mem1 (Nat.ne_of_lt hL), ?_⟩
  · show IsRangeIter _ _ _ _ _
    rw [hz]
    simpa using Heap.get?_push_size _ rfl
  · intro b hb
    rw [List.mem_singleton.mp hb, Heap.size_push]
    exact Nat.lt_succ_self _
  · intro C i v as h₃ tk₃ m₃ E' hi hC hP has hns hm hk
    obtain ⟨⟨t, rfl⟩, rfl⟩ := hP
    rw [Heap.size_push] at hC
    refine wpAny_mono (helt C i _ t h₃ tk₃ m₃ E' hi hC (by rw [Int.mul_one]) hns hm hk.push1) (fun y s₄ h₄ => ?_) fun _ _ e => e
    obtain ⟨h₄, tk₄, bs, e, hk₄, hb, hr⟩ := h₄
    exact ⟨h₄, tk₄, bs, e, hk₄, fun b q => .inr (hb b q), hr⟩
  · intro D h' tk' ys hD hp hs hy hn' hk
    rw [Heap.size_push] at hD
    refine hQ D h' tk' ys (Nat.le_of_succ_le hD) hp hs (fun j y e => ?_) hn' fun b o hb e => ?_
    · obtain ⟨as, ha, r⟩ := hy j y e
      exact ⟨as, fun a q => by have := ha a q; rw [Heap.size_push] at this; exact Nat.le_of_succ_le this, r⟩
    · refine hk b o (fun q => ?_) (Heap.get?_push_of_some _ e)
      rcases List.mem_cons.mp q with q | q
      · exact hb (q ▸ .head _)
      · exact absurd (List.mem_singleton.mp q) (Nat.ne_of_lt (Heap.lt_size e))
end
def bodyFor : Stmt → List Stmt
  | .For _ _ b .. => b
  | _ => []
def lawFor : List Stmt := bodyFor (stmtAt 8 (bodyOf (top 37)))
def argOf : Nat → Expr → Expr
  | n, .Call _ as _ _ => (as.drop n).headD (.Constant .none 0 default)
  | _, _ => .Constant .none 0 default
def drawnExpr : Expr := argOf 2 (valOf (stmtAt 4 (bodyOf (top 37))))
section
variable {w : World} {A : Around} {z : Shared} {h : Heap} {tk : Nat} {E : Value → Shared → Prop}
theorem pow_small {k : Nat} (hk : k < 8) (b : Nat) (hb : b < 16) : (Builtin.Int.intBits (b : Int) : Int) * (k : Int) ≤ 2 ^ 27 := by
  have : Builtin.Int.intBits (b : Int) ≤ 64 := intBits_le_64 (by omega) (by omega)
  have h2 : (Builtin.Int.intBits (b : Int) : Int) * (k : Int) ≤ 64 * 64 := by
    refine Int.le_trans (Int.mul_le_mul_of_nonneg_right (Int.ofNat_le.mpr this) (by omega)) ?_
    omega
  exact Int.le_trans h2 (by decide)
/-- [n // 4 ** k % 4 for k in range(2, 6)] -/
theorem drawn_eval {Q : Value → Shared → Prop} {n : Int} {t : Tok} (X : TopIn w h) (hh : A.handled = none) (c1 : h.IsCell 142 (some (.int n t)))
    (k : ∀ D h' tk' ds, Keep h h' → IntList h' ds D → ds.length = 4 → Q (.ref D) (St z h' tk')) :
    wpAny (model prog w) A (eval drawnExpr (envL 141)) Q E (St z h tk) := by
  refine comp_go (cl := [(Str.ofString "n", 142)]) (fun j y _ _ => IntV ((n.fdiv (4 ^ (2 + j))).fmod 4) y) (fun _ _ _ _ _ r _ => r) (by rfl) (by decide) (by rfl) (by decide) (by rfl) ?_
  refine Call_ (Ev.use (ev_built X (v := .type "range") (by kernel_rfl) (by kernel_rfl)) fun v tk3 hv => ?_)
  subst hv
  refine PyProof.Rows.callWith_type1 (spliced_more (Ev.use ev_int fun v tk4 hv => ?_))
  obtain ⟨t4, rfl⟩ := hv
  refine spliced_more (Ev.use ev_int fun v tk5 hv => ?_)
  obtain ⟨t5, rfl⟩ := hv
  refine spliced_none (range2 fun r h₂ tk7 _ _ _ hr hk₂ => ?_)
  refine comp_go_range hh hr (n := 4) (by decide) (by decide) (by decide) (by decide) ?_ ?_
  · intro C i v t' h₃ tk₃ m₃ E' hi' hC hv hns₃ hm hk₃
    subst hv
    have c3 := cell_keep (cell_keep c1 hk₂) hk₃
    have e1 : (2 + (i : Int)).toNat = 2 + i := by omega
    refine Ev.use (P := IntV ((n.fdiv (4 ^ (2 + (i : Int)).toNat)).fmod 4)) ?_ fun y tk₄ hy => ⟨h₃, tk₄, [], rfl, fun _ _ e => e, nofun, by rw [e1] at hy; exact hy⟩
    have hp : (4 : Int) ^ (2 + (i : Int)).toNat = 16 * 4 ^ i := by rw [e1, Int.pow_add]; rfl
    have hb : 0 < (4 : Int) ^ (2 + (i : Int)).toNat ∧ (4 : Int) ^ (2 + (i : Int)).toNat < 2 ^ 20 := by
      rw [hp]
      match i, hi' with
      | 0, _ => decide
      | 1, _ => decide
      | 2, _ => decide
      | 3, _ => decide
    refine ev_mod (ev_fdiv (ev_cell (c := 142) (by rfl) c3).int (ev_pow ev_int (ev_locI hns₃ hm) (by omega) ?_) (by omega) (pylong_small (by omega))) ev_int (by decide)
    have := pow_small (k := 2 + i) (by omega) 4 (by decide)
    simpa using this
  · intro D h' tk' ys hD hp hsz hy hk'
    refine k D h' tk' _ (hk₂.trans hk') ⟨ys.toList, by simpa using hp.isList, ints_of (g := fun j => (n.fdiv (4 ^ (2 + j))).fmod 4) hsz fun j y e => ?_⟩ (by simp)
    obtain ⟨_, _, r⟩ := hy j y e
    exact r
theorem map_range_bits (f : Nat → Bool) (n : Nat) : (List.range n).map (fun j => b2i (f j)) = ((List.range n).map f).map b2i := by rw [List.map_map]; rfl
theorem two_pow {k : Nat} (hk : k < 4) : 0 < (2 : Int) ^ ((k : Int)).toNat ∧ (2 : Int) ^ ((k : Int)).toNat < 2 ^ 20 := by
  match k, hk with
  | 0, _ => decide
  | 1, _ => decide
  | 2, _ => decide
  | 3, _ => decide
theorem lie_val {i n k : Nat} (hk : k < 4) : ((((0 + (i : Int)) + n).fmod 16).fdiv (2 ^ ((k : Int)).toNat)).fmod 2 = b2i (decide ((i + n) % 16 / 2 ^ k % 2 = 1)) := by
  rw [fm _ (by decide), fm _ (by decide), fd _ (two_pow hk).1, Int.zero_add, Int.toNat_natCast]
  exact bitNE ((i + n) % 16) k
/-- lies = [(q + n) % 16 // 2 ** k % 2 for q in range(16)] -/
theorem lies_exec {Q : Flow → Shared → Prop} {n k : Nat} {t u : Tok} {m : Str → Option Value} (X : TopIn w h) (hh : A.handled = none) (hns : h.Ns 141 m) (c1 : h.IsCell 142 (some (.int n t))) (c2 : h.IsCell 143 (some (.int k u))) (hk4 : k < 4)
    (kk : ∀ D h' tk', (∀ b o, h.get? b = some o → @LT.lt Nat instLTNat (b) (D)) → IntList h' ((lieB n k).map b2i) D → h'.Ns 141 (put m (Str.ofString "lies") (.ref D)) → KeepOff [141] h h' → Q .next (St z h' tk')) :
    wpAny (model prog w) A (exec (stmtAt 0 lawFor) (envL 141)) Q E (St z h tk) := by
  refine comp_use (cl := [(Str.ofString "n", 142), (Str.ofString "k", 143)]) (fun j y _ _ => IntV (b2i (decide ((j + n) % 16 / 2 ^ k % 2 = 1))) y) (fun _ _ _ _ _ r _ => r) (by rfl) (by decide) (by rfl) (by decide) (by rfl) ?_
  refine Call_ (Ev.use (ev_built X (v := .type "range") (by kernel_rfl) (by kernel_rfl)) fun v tk3 hv => ?_)
  subst hv
  refine PyProof.Rows.callWith_type1 (spliced_more (Ev.use ev_int fun v tk4 hv => ?_))
  obtain ⟨t4, rfl⟩ := hv
  refine spliced_none (range1 fun r h₂ tk7 _ _ _ hr hk₂ => ?_)
  refine compF_go_range hh hr (n := 16) (by decide) (by decide) (by decide) (by decide) (hns.keeps hk₂) ?_ ?_
  · intro C i v t' h₃ tk₃ m₃ E' hi' hC hv hns₃ hm hk₃
    subst hv
    have c1' := cell_keep (cell_keep c1 hk₂) hk₃
    have c2' := cell_keep (cell_keep c2 hk₂) hk₃
    have hb := two_pow hk4
    refine Ev.use (P := IntV (((((0 + (i : Int)) + n).fmod 16).fdiv (2 ^ ((k : Int)).toNat)).fmod 2)) ?_ fun y tk₄ hy => ⟨h₃, tk₄, [], rfl, fun _ _ e => e, nofun, by rw [lie_val hk4] at hy; exact hy⟩
    refine ev_mod (ev_fdiv (ev_mod (ev_add (ev_locI hns₃ hm) (ev_cell (c := 142) (by rfl) c1').int) ev_int (by decide)) (ev_pow ev_int (ev_cell (c := 143) (by rfl) c2').int (by omega) ?_) (by omega) (pylong_small (by omega))) ev_int (by decide)
    exact pow_small (k := k) (by omega) 2 (by decide)
  · intro D h' tk' ys hD hp hsz hy hn' hk'
    refine kk D h' tk' (fun b o e => Nat.lt_of_lt_of_le (Heap.lt_size (hk₂ b o e)) hD) ⟨ys.toList, by simpa using hp.isList, ?_⟩ hn' fun b o hb e => hk' b o hb (hk₂ b o e)
    have := ints_of (g := fun j => b2i (decide ((j + n) % 16 / 2 ^ k % 2 = 1))) hsz fun j y e => by
      obtain ⟨_, _, r⟩ := hy j y e
      exact r
    rw [map_range_bits] at this
    exact this
theorem come_val {x : Int} {k : Nat} (hk : k < 4) : (x.fdiv (2 ^ ((k : Int)).toNat)).fmod 2 = b2i (decide (x / 2 ^ k % 2 = 1)) := by
  rw [fm _ (by decide), fd _ (two_pow hk).1, Int.toNat_natCast]
  exact bitZ _
/-- comes = [table[(q + n) % 16] // 2 ** k % 2 for q in range(16)] -/
theorem comes_exec {Q : Flow → Shared → Prop} {n k : Nat} {t u : Tok} {m : Str → Option Value} {d : Addr} {kvs : List (Int × Value)} {net : List Joint} (X : TopIn w h) (hh : A.handled = none) (hns : h.Ns 141 m) (c1 : h.IsCell 142 (some (.int n t))) (c2 : h.IsCell 143 (some (.int k u))) (hk4 : k < 4)
    (c3 : h.IsCell 144 (some (.ref d))) (hD : DictI w h d kvs) (hok : DOk net kvs) (hall : ∀ S : Nat, S < 16 → (S : Int) ∈ kvs.map (·.1))
    (kk : ∀ D h' tk', (∀ b o, h.get? b = some o → @LT.lt Nat instLTNat (b) (D)) → IntList h' ((comeB net n k).map b2i) D → h'.Ns 141 (put m (Str.ofString "comes") (.ref D)) → KeepOff [141] h h' → Q .next (St z h' tk')) :
    wpAny (model prog w) A (exec (stmtAt 1 lawFor) (envL 141)) Q E (St z h tk) := by
  refine comp_use (cl := [(Str.ofString "table", 144), (Str.ofString "n", 142), (Str.ofString "k", 143)]) (fun j y _ _ => IntV (b2i (decide (netF net (((j + n) % 16 : Nat) : Int) / 2 ^ k % 2 = 1))) y) (fun _ _ _ _ _ r _ => r) (by rfl) (by decide) (by rfl) (by decide) (by rfl) ?_
  refine Call_ (Ev.use (ev_built X (v := .type "range") (by kernel_rfl) (by kernel_rfl)) fun v tk3 hv => ?_)
  subst hv
  refine PyProof.Rows.callWith_type1 (spliced_more (Ev.use ev_int fun v tk4 hv => ?_))
  obtain ⟨t4, rfl⟩ := hv
  refine spliced_none (range1 fun r h₂ tk7 _ _ _ hr hk₂ => ?_)
  refine compF_go_range hh hr (n := 16) (by decide) (by decide) (by decide) (by decide) (hns.keeps hk₂) ?_ ?_
  · intro C i v t' h₃ tk₃ m₃ E' hi' hC hv hns₃ hm hk₃
    subst hv
    have c1' := cell_keep (cell_keep c1 hk₂) hk₃
    have c2' := cell_keep (cell_keep c2 hk₂) hk₃
    have c3' := cell_keep (cell_keep c3 hk₂) hk₃
    have hD' : DictI w h₃ d kvs := DictI.at hD fun o e => hk₃ _ o (hk₂ _ o e)
    have hb := two_pow hk4
    have eS : ((0 + (i : Int)) + n).fmod 16 = (((i + n) % 16 : Nat) : Int) := by rw [fm _ (by decide), Int.zero_add]; rfl
    obtain ⟨v, hv⟩ := valueAt_in (hall ((i + n) % 16) (Nat.mod_lt _ (by decide)))
    have hvi : IntV (netF net (((i + n) % 16 : Nat) : Int)) v := hok _ (valueAt_mem hv)
    obtain ⟨tv, rfl⟩ := hvi
    refine Ev.use (P := IntV (((netF net (((i + n) % 16 : Nat) : Int)).fdiv (2 ^ ((k : Int)).toNat)).fmod 2)) ?_ fun y tk₄ hy => ⟨h₃, tk₄, [], rfl, fun _ _ e => e, nofun, by rw [come_val hk4] at hy; exact hy⟩
    refine ev_mod (ev_fdiv (ev_dict (d := d) (ev_cell (c := 144) (by rfl) c3') (ev_mod (ev_add (ev_locI hns₃ hm) (ev_cell (c := 142) (by rfl) c1').int) ev_int (by decide)) hD' (by rw [eS]; exact hv)).int (ev_pow ev_int (ev_cell (c := 143) (by rfl) c2').int (by omega) ?_) (by omega) (pylong_small (by omega))) ev_int (by decide)
    exact pow_small (k := k) (by omega) 2 (by decide)
  · intro D h' tk' ys hD hp hsz hy hn' hk'
    refine kk D h' tk' (fun b o e => Nat.lt_of_lt_of_le (Heap.lt_size (hk₂ b o e)) hD) ⟨ys.toList, by simpa using hp.isList, ?_⟩ hn' fun b o hb e => hk' b o hb (hk₂ b o e)
    have := ints_of (g := fun j => b2i (decide (netF net (((j + n) % 16 : Nat) : Int) / 2 ^ k % 2 = 1))) hsz fun j y e => by
      obtain ⟨_, _, r⟩ := hy j y e
      exact r
    rw [map_range_bits (fun j => decide (netF net (((j + n) % 16 : Nat) : Int) / 2 ^ k % 2 = 1))] at this
    exact this
end
end Mine
end
section
open PySem PySem.W PyProof.Rows PySem.Calls
set_option Elab.async false
set_option maxRecDepth 100000
set_option maxHeartbeats 1000000
set_option linter.unusedVariables false
namespace Mine
/-- the three things that are told of a mode with the bits l -/
def Told (h : Heap) (l : List Bool) (T : Addr) : Prop :=
  ∃ t1 t2 t3, h.IsTuple T #[.int ((numN (l.drop 12) : Int) * 4096) t1, .int (numN (l.take 12) : Nat) t2, .str (textZ (l.map b2i)) t3]
theorem Told.at {h h' : Heap} {l : List Bool} {T : Addr} (x : Told h l T) (k : ∀ o, h.get? T = some o → h'.get? T = some o) : Told h' l T := by
  obtain ⟨t1, t2, t3, hT⟩ := x
  exact ⟨t1, t2, t3, hT.at k⟩
theorem bits_01 (l : List Bool) : ∀ d ∈ l.map b2i, 0 ≤ d ∧ d ≤ 1 := fun d hd => by
  obtain ⟨b, _, rfl⟩ := List.mem_map.mp hd
  cases b <;> decide
section
variable {w : World} {A : Around} {z : Shared} {h : Heap} {tk : Nat} {E : Value → Shared → Prop} {m : Str → Option Value}
/-- modes.append(above * 65536 + _law_number(lies)) -/
theorem modes_exec {Q : Flow → Shared → Prop} {above : Nat} {l : List Bool} {t : Tok} {ml D : Addr} {ys : Array Value} (X : TopIn w h) (hA : A.depth < recursionLimit) (hh : A.handled = none) (hns : h.Ns 141 m) (m1 : m (Str.ofString "modes") = some (.ref ml)) (m2 : m (Str.ofString "lies") = some (.ref D))
    (c4 : h.IsCell 145 (some (.int above t))) (hl : IntList h (l.map b2i) D) (hlen : l.length = 16) (hp : h.PlainList ml ys) (hn : ys.size ≤ 1000)
    (kk : ∀ h' tk' t', h'.PlainList ml (ys.push (.int (modeN above l : Nat) t')) → KeepOff [ml] h h' → Q .next (St z h' tk')) :
    wpAny (model prog w) A (exec (stmtAt 2 lawFor) (envL 141)) Q E (St z h tk) := by
  refine exec_append (ev_loc (env := envL 141) hns m1) hp hn fun tk1 => ?_
  refine wpAny_BinOp ?_
  refine Ev.use (ev_mul (a := above) (ev_cell (c := 145) (by rfl) c4).int ev_int (mulOk_right (by decide) (by decide))) fun v tk2 hv => ?_
  obtain ⟨t2, rfl⟩ := hv
  refine Call_ (Ev.use (ev_glob X (v := .ref 127) (by kernel_rfl)) fun v tk3 hv => ?_)
  subst hv
  obtain ⟨of, hof, hdf⟩ := (fn_number X).fn
  refine PyProof.Rows.callWith_def hdf (spliced_more (Ev.use (ev_loc (env := envL 141) hns m2) fun v tk4 hv => ?_))
  subst hv
  obtain ⟨vs, hv, hi⟩ := hl
  refine spliced_none ⟨hof, ?_⟩
  refine number_call X hA hh hv hi (by simp [hlen]) (bits_01 l) fun h₂ tk5 t5 k₂ => ?_
  refine PyProof.Rows.add_int ?_
  refine ⟨h₂, _, rfl, hp.at fun o e => k₂ _ o e, fun h₃ p₃ s₃ => ?_⟩
  have e : (above : Int) * 65536 + numZ (l.map b2i) = (modeN above l : Nat) := by
    rw [numZ_bits]
    unfold modeN
    omega
  rw [e] at p₃
  exact kk h₃ _ _ p₃ fun b o hb e => s₃.extBut b o (by simpa using hb) (k₂ b o e)
/-- due.append((_law_number(comes[12:]) * 4096, _law_number(comes[:12]), _law_text(comes))) -/
theorem due_exec {Q : Flow → Shared → Prop} {l : List Bool} {dl D : Addr} {ys : Array Value} (X : TopIn w h) (hA : A.depth + 1 < recursionLimit) (hh : A.handled = none) (hns : h.Ns 141 m) (m1 : m (Str.ofString "due") = some (.ref dl)) (m2 : m (Str.ofString "comes") = some (.ref D))
    (hl : IntList h (l.map b2i) D) (hlen : l.length = 16) (hp : h.PlainList dl ys) (hn : ys.size ≤ 1000)
    (kk : ∀ h' tk' T, h'.PlainList dl (ys.push (.ref T)) → (∀ b o, h.get? b = some o → @LT.lt Nat instLTNat (b) (T)) → Told h' l T → KeepOff [dl] h h' → Q .next (St z h' tk')) :
    wpAny (model prog w) A (exec (stmtAt 3 lawFor) (envL 141)) Q E (St z h tk) := by
  obtain ⟨vs, hv, hi⟩ := hl
  have hvl : vs.length = 16 := by rw [hi.length]; simp [hlen]
  obtain ⟨of, hof, hdf⟩ := (fn_number X).fn
  obtain ⟨ot, hot, hdt⟩ := (fn_text X).fn
  refine exec_append (ev_loc (env := envL 141) hns m1) hp hn fun tk1 => ?_
  refine wpAny_Tuple_spliced (spliced_more ?_)
  -- _law_number(comes[12:]) * 4096
  refine wpAny_BinOp ?_
  refine Call_ (Ev.use (ev_glob X (v := .ref 127) (by kernel_rfl)) fun v tk3 hv' => ?_)
  subst hv'
  refine PyProof.Rows.callWith_def hdf (spliced_more ?_)
  refine slice_from (a := 12) (ev_loc (env := envL 141) hns m2) hv (by simp; omega) fun h₂ tk4 D2 k₂ _ p₂ => ?_
  refine spliced_none ⟨k₂ _ _ hof, ?_⟩
  refine number_call (X.keep k₂) (by omega) hh p₂.isList (ds := (l.map b2i).drop 12) (by simpa using IntsAre_drop hi 12) (by simp [hlen]) (fun d hd => bits_01 l d (List.mem_of_mem_drop hd)) fun h₃ tk5 t5 k₃ => ?_
  have k03 : Keep h h₃ := k₂.trans k₃
  refine Ev.use ev_int fun v tk6 hv' => ?_
  obtain ⟨t6, rfl⟩ := hv'
  refine PyProof.Rows.mul_int ?_ (mulOk_right (by decide) (by decide))
  -- _law_number(comes[:12])
  refine spliced_more ?_
  have X₃ := X.keep k03
  have n₃ := hns.keeps k03
  refine Call_ (Ev.use (z := z) (ev_glob X₃ (v := .ref 127) (by kernel_rfl)) fun v tk7 hv' => ?_)
  subst hv'
  refine PyProof.Rows.callWith_def hdf (spliced_more ?_)
  refine slice_upto (a := 12) (ev_loc (env := envL 141) n₃ m2) (hv.at fun o e => k03 _ o e) (by simp; omega) fun h₄ tk8 D4 k₄ _ p₄ => ?_
  refine spliced_none ⟨k₄ _ _ (k03 _ _ hof), ?_⟩
  refine number_call (X₃.keep k₄) (by omega) hh p₄.isList (ds := (l.map b2i).take 12) (by simpa using IntsAre_take hi 12) (by simp [hlen]) (fun d hd => bits_01 l d (List.mem_of_mem_take hd)) fun h₅ tk9 t9 k₅ => ?_
  have k05 : Keep h h₅ := k03.trans (k₄.trans k₅)
  have X₅ := X.keep k05
  -- _law_text(comes)
  refine spliced_more ?_
  refine Call_ (Ev.use (z := z) (ev_glob X₅ (v := .ref 134) (by kernel_rfl)) fun v tk10 hv' => ?_)
  subst hv'
  refine PyProof.Rows.callWith_def hdt (spliced_more (Ev.use (ev_loc (env := envL 141) (hns.keeps k05) m2) fun v tk11 hv' => ?_))
  subst hv'
  refine spliced_none ⟨k05 _ _ hot, ?_⟩
  refine text_call X₅ hA hh (hv.at fun o e => k05 _ o e) hi (by simp [hlen]) (bits_01 l) fun h₆ tk12 t12 k₆ => ?_
  have k06 : Keep h h₆ := k05.trans k₆
  refine spliced_none ⟨Nat.le_of_ble_eq_true rfl, ?_⟩
  have kp := keep_push h₆ { cls := .type "tuple", data := .seq #[.int (numZ ((l.map b2i).drop 12) * 4096) t6, .int (numZ ((l.map b2i).take 12)) t9, .str (textZ (l.map b2i)) t12] }
  refine ⟨_, _, rfl, hp.at fun o e => keep_push _ _ _ o (k06 _ o e), fun h₇ p₇ s₇ => ?_⟩
  have hdl : @LT.lt Nat instLTNat (dl) (h₆.objs.size) := by obtain ⟨c, ho⟩ := hp; exact Heap.lt_size (k06 _ _ ho)
  refine kk h₇ _ h₆.objs.size p₇ (fun b o e => Heap.lt_size (k06 _ _ e)) ?_ fun b o hb e => s₇.extBut b o (by simpa using hb) (keep_push _ _ _ o (k06 b o e))
  rw [← List.map_drop, numZ_bits, ← List.map_take, numZ_bits] at s₇
  exact ⟨_, _, _, ⟨_, s₇.extBut _ _ (Ne.symm (Nat.ne_of_lt hdl)) (Heap.get?_push_size _ rfl), rfl, _, rfl⟩⟩
end
end Mine
end
section
open PySem PySem.W PyProof.Rows PySem.Calls
set_option Elab.async false
set_option maxRecDepth 100000
set_option maxHeartbeats 1000000
set_option linter.unusedVariables false
namespace Mine
/-- what the loop over the wires keeps -/
structure LawJ (h : Heap) (I ml dl nl : Addr) (above n : Nat) (net : List Joint) (i : Nat) (H : Heap) : Prop where
  keep : KeepOff [141, 143, ml, dl] h H
  ns : ∃ m, H.Ns 141 m ∧ m (Str.ofString "modes") = some (.ref ml) ∧ m (Str.ofString "due") = some (.ref dl) ∧ m (Str.ofString "network") = some (.ref nl)
  ck : ∃ v, H.IsCell 143 v
  modes : ∃ ys, H.PlainList ml ys ∧ ys.size = i ∧ IntsAre ys.toList ((List.range i).map fun k => ((modeN above (lieB n k) : Nat) : Int))
  due : ∃ ys, H.PlainList dl ys ∧ ys.size = i ∧ ∀ (j : Nat) (y : Value), ys[j]? = some y → ∃ T, y = .ref T ∧ @LT.lt Nat instLTNat (I) (T) ∧ Told H (comeB net n j) T
theorem IntsAre_snoc {vs : List Value} {ds : List Int} (h : IntsAre vs ds) (a : Int) (t : Tok) : IntsAre (vs ++ [.int a t]) (ds ++ [a]) := by
  induction h with
  | nil => exact .cons _ _ .nil
  | cons b u hr ih => exact .cons _ _ ih
theorem mem4 {a b c d e : Addr} (h1 : e ≠ a) (h2 : e ≠ b) (h3 : e ≠ c) (h4 : e ≠ d) : e ∉ [a, b, c, d] := by
  simp only [List.mem_cons, List.not_mem_nil, or_false, not_or]
  exact ⟨h1, h2, h3, h4⟩
/-- the loop over the wires -/
theorem law_loop {w : World} {A : Around} {z : Shared} {h : Heap} {tk : Nat} {m : Str → Option Value} {Q : Flow → Shared → Prop} {n above : Nat} {t t4 : Tok} {ml dl nl d : Addr} {kvs : List (Int × Value)} {net : List Joint}
    (X : TopIn w h) (hA : A.depth + 1 < recursionLimit) (hh : A.handled = none) (hns : h.Ns 141 m) (m1 : m (Str.ofString "modes") = some (.ref ml)) (m2 : m (Str.ofString "due") = some (.ref dl)) (m3 : m (Str.ofString "network") = some (.ref nl))
    (c1 : h.IsCell 142 (some (.int n t))) (ck : ∃ v, h.IsCell 143 v) (c3 : h.IsCell 144 (some (.ref d))) (c4 : h.IsCell 145 (some (.int above t4))) (hD : DictI w h d kvs) (hok : DOk net kvs) (hall : ∀ S : Nat, S < 16 → (S : Int) ∈ kvs.map (·.1))
    (pm : h.PlainList ml #[]) (pd : h.PlainList dl #[]) (hne : ml ≠ dl) (hd : @LT.lt Nat instLTNat (145) (d)) (hml : @LT.lt Nat instLTNat (145) (ml)) (hdl : @LT.lt Nat instLTNat (145) (dl))
    (k : ∀ H tk' I, @LT.lt Nat _ 145 I → LawJ h I ml dl nl above n net 4 H → Q .next (St z H tk')) :
    wpAny (model prog w) A (exec (stmtAt 8 (bodyOf (top 37))) (envL 141)) Q (fun _ _ => False) (St z h tk) := by
  refine for_it (Call_ (Ev.use (ev_built X (v := .type "range") (by kernel_rfl) (by kernel_rfl)) fun v tk1 hv => ?_))
  subst hv
  refine PyProof.Rows.callWith_type1 (spliced_more (Ev.use ev_int fun v tk2 hv => ?_))
  obtain ⟨t2, rfl⟩ := hv
  refine spliced_none (range1 fun r h₂ tk3 _ _ _ hr k₂ => ?_)
  have lt : ∀ b o, h.get? b = some o → @LT.lt Nat instLTNat (b) (h₂.objs.size) := fun b o e => Heap.lt_size (k₂ b o e)
  have l141 : @LT.lt Nat instLTNat (141) (h₂.objs.size) := by obtain ⟨_, _, _, ho, _⟩ := hns; exact lt _ _ ho
  have l143 : @LT.lt Nat instLTNat (143) (h₂.objs.size) := by obtain ⟨_, o, ho, _⟩ := ck; exact lt _ _ ho
  have l145 : @LT.lt Nat instLTNat (145) (h₂.objs.size) := by obtain ⟨o, ho, _⟩ := c4; exact lt _ _ ho
  have lml : @LT.lt Nat instLTNat (ml) (h₂.objs.size) := by obtain ⟨_, ho⟩ := pm; exact lt _ _ ho
  have ldl : @LT.lt Nat instLTNat (dl) (h₂.objs.size) := by obtain ⟨_, ho⟩ := pd; exact lt _ _ ho
  have hdm : d ≠ ml := fun q => ne_list_dict pm.isList hD q.symm
  have hdd : d ≠ dl := fun q => ne_list_dict pd.isList hD q.symm
  have big : ∀ {a b : Nat}, @LT.lt Nat instLTNat (b) (a) → a ≠ b := fun h1 h2 => by omega
  have big' : ∀ {a b : Nat}, @LT.lt Nat instLTNat (a) (b) → a ≠ b := fun h1 h2 => by omega
  generalize hI : h₂.objs.size = I at *
  refine for_go_range (A := A) (LawJ h I ml dl nl above n net) hh hr (n := 4) (by decide) (by decide) (by decide) (by decide) ?_ ?_ ?_ ?_
  · exact ⟨fun b o _ e => k₂ b o e, ⟨m, hns.keeps k₂, m1, m2, m3⟩, ⟨_, cell_keep ck.choose_spec k₂⟩, ⟨#[], pm.at fun o e => k₂ _ o e, rfl, .nil⟩, ⟨#[], pd.at fun o e => k₂ _ o e, rfl, fun j y hj => by simp at hj⟩⟩
  · rintro i H H' ⟨kH, ⟨m', n', e1, e2, e3⟩, ⟨v, cv⟩, ⟨ys, p1, s1, i1⟩, ⟨us, p2, s2, i2⟩⟩ kk
    rw [hI] at kk
    have ne : ∀ {a : Nat}, @LT.lt Nat instLTNat (a) (I) → a ∉ [I] := fun ha => not_mem1 (big' ha)
    refine ⟨fun b o hb e => kk b o (ne (lt b o e)) (kH b o hb e), ⟨m', n'.at' fun o e => kk _ o (ne l141) e, e1, e2, e3⟩, ⟨v, cell_off cv kk (ne l143)⟩, ⟨ys, p1.at fun o e => kk _ o (ne lml) e, s1, i1⟩, ⟨us, p2.at fun o e => kk _ o (ne ldl) e, s2, fun j y hj => ?_⟩⟩
    obtain ⟨T, e, hT, tT⟩ := i2 j y hj
    exact ⟨T, e, hT, tT.at fun o e => kk _ o (not_mem1 (big hT)) e⟩
  · rintro i ti H tk' hi ⟨oI, hoI⟩ ⟨kH, ⟨m', n', e1, e2, e3⟩, ⟨v, cv⟩, ⟨ys, p1, s1, i1⟩, ⟨us, p2, s2, i2⟩⟩
    rw [hI] at hoI ⊢
    have XH : TopIn w H := X.off kH (by
      intro a ha
      simp only [List.mem_cons, List.not_mem_nil, or_false] at ha
      rcases ha with rfl | rfl | rfl | rfl
      · decide
      · decide
      · omega
      · omega)
    have c1H : H.IsCell 142 (some (.int n t)) := cell_off c1 kH (mem4 (by decide) (by decide) (big' (by omega)) (big' (by omega)))
    have c3H : H.IsCell 144 (some (.ref d)) := cell_off c3 kH (mem4 (by decide) (by decide) (big' (by omega)) (big' (by omega)))
    have c4H : H.IsCell 145 (some (.int above t4)) := cell_off c4 kH (mem4 (by decide) (by decide) (big' (by omega)) (big' (by omega)))
    have dH : DictI w H d kvs := DictI.at hD fun o e => kH _ o (mem4 (big (by omega)) (big (by omega)) hdm hdd) e
    -- k
    refine wpAny_storeName_cell (s := St z H tk') rfl rfl (c := 143) (by rfl) cv fun h₃ c2 s₃ => ?_
    rw [Int.zero_add] at c2
    have k₃ : KeepOff [143] H h₃ := KeepOff.of_same s₃
    have X₃ : TopIn w h₃ := XH.off k₃ (by intro a ha; rw [List.mem_singleton.mp ha]; decide)
    have n₃ : h₃.Ns 141 m' := n'.at' fun o e => k₃ _ o (not_mem1 (by decide)) e
    have c1₃ := cell_off c1H k₃ (not_mem1 (by decide))
    have c3₃ := cell_off c3H k₃ (not_mem1 (by decide))
    have c4₃ := cell_off c4H k₃ (not_mem1 (by decide))
    have d₃ : DictI w h₃ d kvs := DictI.at dH fun o e => k₃ _ o (not_mem1 (big (by omega))) e
    have p1₃ : h₃.PlainList ml ys := p1.at fun o e => k₃ _ o (not_mem1 (big (by omega))) e
    have p2₃ : h₃.PlainList dl us := p2.at fun o e => k₃ _ o (not_mem1 (big (by omega))) e
    -- lies
    refine wpAny_execs_cons ?_
    refine lies_exec X₃ hh n₃ c1₃ c2 hi fun D1 h₄ tk4 f₄ l₄ n₄ k₄ => ?_
    have h140 : ∀ a ∈ [(141 : Addr)], @LE.le Nat instLENat (140) (a) := by intro a ha; rw [List.mem_singleton.mp ha]; decide
    have X₄ : TopIn w h₄ := X₃.off k₄ h140
    have nm : ∀ {a : Nat}, @LT.lt Nat instLTNat (141) (a) → a ∉ [(141 : Addr)] := fun ha => not_mem1 (big ha)
    have c1₄ := cell_off c1₃ k₄ (nm (by decide))
    have c2₄ := cell_off c2 k₄ (nm (by decide))
    have c3₄ := cell_off c3₃ k₄ (nm (by decide))
    have c4₄ := cell_off c4₃ k₄ (nm (by decide))
    have d₄ : DictI w h₄ d kvs := DictI.at d₃ fun o e => k₄ _ o (nm (by omega)) e
    have p1₄ : h₄.PlainList ml ys := p1₃.at fun o e => k₄ _ o (nm (by omega)) e
    have p2₄ : h₄.PlainList dl us := p2₃.at fun o e => k₄ _ o (nm (by omega)) e
    -- comes
    refine wpAny_execs_cons ?_
    refine comes_exec X₄ hh n₄ c1₄ c2₄ hi c3₄ d₄ hok hall fun D2 h₅ tk5 f₅ l₅ n₅ k₅ => ?_
    have X₅ : TopIn w h₅ := X₄.off k₅ h140
    have c2₅ := cell_off c2₄ k₅ (nm (by decide))
    have c4₅ := cell_off c4₄ k₅ (nm (by decide))
    have p1₅ : h₅.PlainList ml ys := p1₄.at fun o e => k₅ _ o (nm (by omega)) e
    have p2₅ : h₅.PlainList dl us := p2₄.at fun o e => k₅ _ o (nm (by omega)) e
    have l1₅ : IntList h₅ ((lieB n i).map b2i) D1 := l₄.off k₅ (not_mem1 (by obtain ⟨_, hl', _⟩ := l₄; exact ne_list_ns hl' n₄))
    have D2ml : D2 ≠ ml := big (by obtain ⟨_, ho⟩ := p1₄; exact f₅ _ _ ho)
    have D2dl : D2 ≠ dl := big (by obtain ⟨_, ho⟩ := p2₄; exact f₅ _ _ ho)
    -- modes
    refine wpAny_execs_cons ?_
    refine modes_exec X₅ (by omega) hh n₅ ((put_ne (by decide)).trans ((put_ne (by decide)).trans e1)) ((put_ne (by decide)).trans (if_pos rfl)) c4₅ l1₅ (by simp [lieB]) p1₅ (by omega) fun h₆ tk6 t6 p1₆ k₆ => ?_
    have X₆ : TopIn w h₆ := X₅.off k₆ (by intro a ha; rw [List.mem_singleton.mp ha]; omega)
    have n₆ := n₅.at' fun o e => k₆ _ o (not_mem1 (big' (by omega))) e
    have c2₆ := cell_off c2₅ k₆ (not_mem1 (big' (by omega)))
    have p2₆ : h₆.PlainList dl us := p2₅.at fun o e => k₆ _ o (not_mem1 (Ne.symm hne)) e
    have l2₆ : IntList h₆ ((comeB net n i).map b2i) D2 := l₅.off k₆ (not_mem1 D2ml)
    -- due
    refine wpAny_execs_cons ?_
    refine due_exec X₆ hA hh n₆ ((put_ne (by decide)).trans ((put_ne (by decide)).trans e2)) (if_pos rfl) l2₆ (by simp [comeB]) p2₆ (by omega) fun h₇ tk7 T p2₇ fT tT k₇ => ?_
    refine wpAny_execs_nil ?_
    have n₇ := n₆.at' fun o e => k₇ _ o (not_mem1 (big' (by omega))) e
    have c2₇ := cell_off c2₆ k₇ (not_mem1 (big' (by omega)))
    have p1₇ := p1₆.at fun o e => k₇ _ o (not_mem1 hne) e
    have kH7 : KeepOff [141, 143, ml, dl] H h₇ := fun b o hb e => by
      simp only [List.mem_cons, List.not_mem_nil, or_false, not_or] at hb
      exact k₇ _ _ (not_mem1 hb.2.2.2) (k₆ _ _ (not_mem1 hb.2.2.1) (k₅ _ _ (not_mem1 hb.1) (k₄ _ _ (not_mem1 hb.1) (k₃ _ _ (not_mem1 hb.2.1) e))))
    have mI : ∀ {a : Nat}, @LE.le Nat instLENat (I) (a) → a ∉ [141, 143, ml, dl] := fun ha => mem4 (big (by omega)) (big (by omega)) (big (by omega)) (big (by omega))
    have hIT : @LT.lt Nat instLTNat (I) (T) := by
      refine fT I oI (k₆ _ _ (not_mem1 (big lml)) (k₅ _ _ (nm (by omega)) (k₄ _ _ (nm (by omega)) (k₃ _ _ (not_mem1 (big l143)) hoI))))
    refine ⟨h₇, _, rfl, fun o e => kH7 _ o (mI (Nat.le_refl _)) e, fun b o hb e => kH7 b o hb (kH b o hb e), ⟨_, n₇, (put_ne (by decide)).trans ((put_ne (by decide)).trans e1), (put_ne (by decide)).trans ((put_ne (by decide)).trans e2), (put_ne (by decide)).trans ((put_ne (by decide)).trans e3)⟩, ⟨_, c2₇⟩, ⟨_, p1₇, by simp [s1], ?_⟩, ⟨_, p2₇, by simp [s2], fun j y hj => ?_⟩⟩
    · rw [Array.toList_push, List.range_succ, List.map_append]
      exact IntsAre_snoc i1 _ _
    · rw [Array.getElem?_push] at hj
      split at hj
      · rename_i e
        cases hj
        rw [e, s2]
        exact ⟨T, rfl, hIT, tT⟩
      · obtain ⟨T', e, hT', tT'⟩ := i2 j y hj
        exact ⟨T', e, hT', tT'.at fun o e => kH7 _ o (mI (Nat.le_of_lt hT')) e⟩
  · intro H tk' J
    exact wpAny_execs_nil (k H tk' I l145 J)
end Mine
end
section
open PySem PySem.W PyProof.Rows PySem.Calls
set_option Elab.async false
set_option maxRecDepth 100000
set_option maxHeartbeats 1000000
set_option linter.unusedVariables false
namespace Mine
/-! what is told, as data -/
def toldD (l : List Bool) : PyData := .tuple [.int ((numN (l.drop 12) : Int) * 4096), .int (numN (l.take 12) : Nat), .str (textZ (l.map b2i))]
theorem reads_told {h : Heap} {l : List Bool} {T : Addr} (x : Told h l T) : Reads h (.ref T) (toldD l) [] := by
  obtain ⟨t1, t2, t3, o, ho, hc, n, hd⟩ := x
  exact Reads.tuple ho hc hd (ReadsAll.cons (as := []) (.int _ _) (ReadsAll.cons (as := []) (.int _ _) (ReadsAll.cons (as := []) (bs := []) (.str _ _) .nil)))
theorem reads_tolds {h : Heap} : ∀ (ls : List (List Bool)) (vs : List Value), vs.length = ls.length → (∀ (j : Nat) (v : Value) (l : List Bool), vs[j]? = some v → ls[j]? = some l → ∃ T, v = .ref T ∧ Told h l T) → ReadsAll h vs (ls.map toldD) []
  | [], [], _, _ => .nil
  | l :: ls, v :: vs, hl, hv => by
    obtain ⟨T, rfl, tT⟩ := hv 0 v l rfl rfl
    exact ReadsAll.cons (as := []) (bs := []) (reads_told tT) (reads_tolds ls vs (by simpa using hl) fun j v' l' h1 h2 => hv (j + 1) v' l' (by simpa using h1) (by simpa using h2))
theorem strOk_append {a b : Str} (ha : PyData.strOk a = true) (hb : PyData.strOk b = true) : PyData.strOk (a ++ b) = true := by
  unfold PyData.strOk at *
  show (a.cps ++ b.cps).all _ = true
  rw [Array.all_append, ha, hb]
  rfl
theorem strOk_at1 {x : Str} (hx : PyData.strOk x = true) (i : Nat) : PyData.strOk (at1 x i) = true := by
  unfold PyData.strOk at *
  show (#[x.cps.getD i 0] : Array _).all _ = true
  rw [Array.all_eq_true] at hx
  have : decide (x.cps.getD i 0 < 0x110000) = true := by
    by_cases h : i < x.cps.size
    · have := hx i h
      simpa [Array.getD, h] using this
    · simp [Array.getD, h]
  simpa using this
theorem strOk_text (ds : List Int) : PyData.strOk (textZ ds) = true := by
  have s : ∀ (x : Str) (k : Nat), PyData.strOk x = true → PyData.strOk (textStep ds x k) = true := fun x k hx => by
    unfold textStep
    refine strOk_append (strOk_append (strOk_append hx (strOk_at1 (by decide +kernel) _)) (strOk_at1 (by decide +kernel) _)) (strOk_at1 ?_ _)
    split
    · decide +kernel
    · decide +kernel
  unfold textZ
  rw [show List.range 3 = [0, 1, 2] from rfl]
  exact s _ _ (s _ _ (s _ _ (strOk_at1 (by decide +kernel) _)))
theorem canLay_tolds : ∀ ls : List (List Bool), PyData.canLayAll0 (ls.map toldD) = true
  | [] => by simp [PyData.canLayAll0]
  | l :: r => by simp [PyData.canLayAll0, PyData.canLay0, canLay_tolds r, toldD, strOk_text]
theorem depth_tolds : ∀ ls : List (List Bool), PyData.depthAll (ls.map toldD) ≤ 1
  | [] => by simp [PyData.depthAll]
  | l :: r => by
    have := depth_tolds r
    simp only [List.map_cons, PyData.depthAll, PyData.depth, toldD]
    omega
theorem shaped_tolds (ls : List (List Bool)) : SeqAt.shaped (.list (ls.map toldD)) = true := by
  have h1 := depth_tolds ls
  have h2 : PyData.depth (.list (ls.map toldD)) ≤ 64 := by simp only [PyData.depth]; omega
  show (PyData.canLay0 (.list (ls.map toldD)) && decide (PyData.depth (.list (ls.map toldD)) ≤ 64)) = true
  rw [Bool.and_eq_true]
  exact ⟨by simp only [PyData.canLay0]; exact canLay_tolds ls, decide_eq_true h2⟩
theorem noMix_tolds : ∀ ls : List (List Bool), SeqAt.noMixAll (ls.map toldD) (ls.map toldD) = true
  | [] => by simp [SeqAt.noMixAll]
  | l :: r => by simp [SeqAt.noMixAll, SeqAt.noMix, noMix_tolds r, toldD]
def RTold (net : List Joint) (n : Nat) (j : Nat) (y : Value) (as : List Addr) (h : Heap) : Prop := ∃ T, as = [T] ∧ y = .ref T ∧ Told h (comeB net n j) T
theorem RTold.frame {net : List Joint} {n : Nat} : ∀ j y as h h', RTold net n j y as h → (∀ a ∈ as, ∀ o, h.get? a = some o → h'.get? a = some o) → RTold net n j y as h' := by
  rintro j y as h h' ⟨T, rfl, rfl, hT⟩ k
  exact ⟨T, rfl, rfl, hT.at fun o q => k T (by simp) o q⟩
theorem told_ints (net : List Joint) (hok : ∀ j ∈ net, j.ok) (n above : Nat) :
    runZ ((List.range 4).map fun k => ((modeN above (lieB n k) : Nat) : Int)) net = (List.range 4).map fun k => ((modeN above (comeB net n k) : Nat) : Int) := by
  have e : ∀ f : Nat → Nat, ((List.range 4).map fun k => ((f k : Nat) : Int)) = natI ((List.range 4).map f) := fun f => by unfold natI; rw [List.map_map]; rfl
  rw [e fun k => modeN above (lieB n k), run_ints, told_eq net hok n above, ← e fun k => modeN above (comeB net n k)]
/-- told = reduce(..) and the comparison -/
theorem law_end {w : World} {A : Around} {z : Shared} {h H : Heap} {tk : Nat} {Q : Flow → Shared → Prop} {n above : Nat} {I ml dl nl : Addr} {net : List Joint}
    (X : TopIn w H) (hA : A.depth + 1 < recursionLimit) (hu : A.units + 64 < cLine) (hh : A.handled = none) (hI : @LT.lt Nat instLTNat (145) (I)) (hdl : @LT.lt Nat instLTNat (145) (dl)) (J : LawJ h I ml dl nl above n net 4 H) (hnet : NetAt H net nl) (hok : ∀ j ∈ net, j.ok) (hlen : net.length ≤ 1000)
    (k : ∀ h' tk', KeepOff [141] H h' → Q (.ret (.bool true)) (St z h' tk')) :
    wpAny (model prog w) A (execs ((bodyOf (top 37)).drop 9) (envL 141)) Q (fun _ _ => False) (St z H tk) := by
  obtain ⟨kH, ⟨m', n', e1, e2, e3⟩, ⟨v, cv⟩, ⟨ys, p1, s1, i1⟩, ⟨us, p2, s2, i2⟩⟩ := J
  refine wpAny_execs_cons ?_
  refine wpAny_Assign_Name ?_
  refine Call_ (Ev.use (ev_glob X (v := .ref 30) (by kernel_rfl)) fun v tk1 hv => ?_)
  subst hv
  obtain ⟨⟨of, hof, hdf⟩, _⟩ := fn_reduce X
  refine PyProof.Rows.callWith_def hdf ?_
  refine spliced_more (Ev.use (ev_glob X (v := .ref 98) (by kernel_rfl)) fun v tk2 hv => ?_)
  subst hv
  refine spliced_more (Ev.use (ev_loc (env := envL 141) n' e3) fun v tk3 hv => ?_)
  subst hv
  refine spliced_more (Ev.use (ev_loc (env := envL 141) n' e1) fun v tk4 hv => ?_)
  subst hv
  refine spliced_none ⟨hof, ?_⟩
  refine reduce_call X hA hh hnet hok hlen (ms := (List.range 4).map fun k => ((modeN above (lieB n k) : Nat) : Int)) ⟨ys.toList, by simpa using p1.isList, i1⟩ (by simp) fun D h₂ tk5 k₂ l₂ => ?_
  rw [told_ints net hok n above] at l₂
  refine store_loc (env := envL 141) (n'.keeps k₂) fun h₃ tk6 n₃ s₃ => ?_
  have kn : KeepOff [141] H h₃ := fun b o hb e => KeepOff.of_same s₃ b o hb (k₂ b o e)
  have X₃ : TopIn w h₃ := X.off kn (by intro a ha; rw [List.mem_singleton.mp ha]; decide)
  have l₃ : IntList h₃ _ D := l₂.off (KeepOff.of_same s₃) (not_mem1 (by obtain ⟨_, hl', _⟩ := l₂; exact ne_list_ns hl' (n'.keeps k₂)))
  obtain ⟨vs, hv, hi⟩ := l₃
  have hvl : vs.length = 4 := by rw [hi.length]; simp
  refine wpAny_execs_cons ?_
  refine wpAny_Return_some ?_
  refine wpAny_Compare1 ?_
  refine comp_go (cl := []) (RTold net n) RTold.frame (by rfl) (by decide) (by rfl) (by decide) (by rfl) ?_
  refine Ev.use (ev_loc (env := envL 141) n₃ (if_pos rfl)) fun v tk7 hv' => ?_
  subst hv'
  refine comp_go_list hh hv (by simp; omega) ?_ ?_
  · intro C i v h₄ tk8 m₄ E' hvi hC nC hm k₄
    have hi4 : i < 4 := by
      have := (List.getElem?_eq_some_iff.mp (by simpa using hvi : vs[i]? = some v)).1
      omega
    obtain ⟨tv, ev⟩ := IntsAre_get hi (j := i) (by simpa using hi4)
    have hv' : v = .int (modeN above (comeB net n i) : Nat) tv := by
      have h1 : vs[i]? = some v := by simpa using hvi
      rw [ev] at h1
      have h2 := (Option.some.inj h1).symm
      rw [h2]
      congr 1
      simp [List.getD_eq_getElem?_getD, hi4]
    subst hv'
    have X₄ := X₃.keep k₄
    have hl16 : (comeB net n i).length = 16 := by simp [comeB]
    obtain ⟨of1, hof1, hdf1⟩ := (fn_ifmt X₄).fn
    obtain ⟨of2, hof2, hdf2⟩ := (fn_imode X₄).fn
    obtain ⟨of3, hof3, hdf3⟩ := (fn_filemode X₄).fn
    refine wpAny_Tuple_spliced (spliced_more ?_)
    refine Call_ (Ev.use (ev_glob X₄ (v := .ref 44) (by kernel_rfl)) fun v tk9 hv => ?_)
    subst hv
    refine PyProof.Rows.callWith_def hdf1 (spliced_more (Ev.use (ev_loc nC hm) fun v tk10 hv => ?_))
    subst hv
    refine spliced_none ⟨hof1, ?_⟩
    refine ifmt_call X₄ (by omega) fun h₅ tk11 t11 k₅ z₅ => ?_
    have X₅ := X₄.keep k₅
    refine spliced_more ?_
    refine Call_ (Ev.use (ev_glob X₅ (v := .ref 37) (by kernel_rfl)) fun v tk12 hv => ?_)
    subst hv
    refine PyProof.Rows.callWith_def hdf2 (spliced_more (Ev.use (ev_loc (nC.keeps k₅) hm) fun v tk13 hv => ?_))
    subst hv
    refine spliced_none ⟨k₅ _ _ hof2, ?_⟩
    refine imode_call X₅ (by omega) fun h₆ tk14 t14 k₆ z₆ => ?_
    have k46 : Keep h₄ h₆ := k₅.trans k₆
    have X₆ := X₄.keep k46
    refine spliced_more ?_
    refine Call_ (Ev.use (ev_glob X₆ (v := .ref 84) (by kernel_rfl)) fun v tk15 hv => ?_)
    subst hv
    refine PyProof.Rows.callWith_def hdf3 (spliced_more (Ev.use (ev_loc (nC.keeps k46) hm) fun v tk16 hv => ?_))
    subst hv
    refine spliced_none ⟨k46 _ _ hof3, ?_⟩
    refine filemode_call X₆ hA hh fun h₇ tk17 t17 k₇ z₇ => ?_
    refine spliced_none ⟨Nat.le_of_ble_eq_true rfl, ?_⟩
    rw [mode_high above _ hl16, mode_low above _ hl16, file_text above _ hl16]
    refine ⟨_, _, [h₇.objs.size], rfl, fun b o e => keep_push _ _ _ o (k₇ _ _ (k46 _ _ e)), fun b hb => ?_, h₇.objs.size, rfl, rfl, _, _, _, ⟨_, Heap.get?_push_size _ rfl, rfl, _, rfl⟩⟩
    rw [List.mem_singleton.mp hb]
    exact Nat.le_trans z₅ (Nat.le_trans z₆ z₇)
  · intro D' h₄ tk8 xs hD' pD hxs hx k₄
    refine Ev.use (ev_loc (env := envL 141) (n₃.keeps k₄) ((put_ne (by decide)).trans e2)) fun v tk9 hv' => ?_
    subst hv'
    have hk : ∀ {a : Nat}, @LT.lt Nat instLTNat (145) (a) → ∀ o, H.get? a = some o → h₄.get? a = some o := fun {a} ha o e => k₄ _ o (kn _ o (not_mem1 (fun q => by have q' : @Eq Nat a 141 := q; omega)) e)
    have r1 : Reads h₄ (.ref D') (.list (((List.range 4).map (comeB net n)).map toldD)) [D'] := by
      obtain ⟨o, ho, hc, n1, hd⟩ := pD.isList
      refine Reads.list ho hc hd (reads_tolds _ _ (by simp [hxs, hvl]) fun j v l h1 h2 => ?_)
      obtain ⟨as, _, T, _, rfl, tT⟩ := hx j v (by simpa using h1)
      have hj : j < 4 := by
        have := (List.getElem?_eq_some_iff.mp h2).1
        simpa using this
      have : l = comeB net n j := by simpa [hj] using h2.symm
      subst this
      exact ⟨T, rfl, tT⟩
    have r2 : Reads h₄ (.ref dl) (.list (((List.range 4).map (comeB net n)).map toldD)) [dl] := by
      obtain ⟨o, ho, hc, n1, hd⟩ := (p2.at fun o e => hk hdl o e).isList
      refine Reads.list ho hc hd (reads_tolds _ _ (by simp [s2]) fun j v l h1 h2 => ?_)
      obtain ⟨T, rfl, hT, tT⟩ := i2 j v (by simpa using h1)
      have hj : j < 4 := by
        have := (List.getElem?_eq_some_iff.mp h2).1
        simpa using this
      have : l = comeB net n j := by simpa [hj] using h2.symm
      subst this
      exact ⟨T, rfl, tT.at fun o e => hk (by omega) o e⟩
    refine eq_dataH_same (s := St z h₄ tk9) r1 r2 (shaped_tolds _) (shaped_tolds _) hu (by simp only [SeqAt.noMix]; exact noMix_tolds _) ?_
    rw [Spec.same_self]
    exact k h₄ tk9 fun b o hb e => k₄ b o (kn b o hb e)
end Mine
end
section
open PySem PySem.W PyProof.Rows PySem.Calls
set_option Elab.async false
set_option maxRecDepth 100000
set_option maxHeartbeats 1000000
set_option linter.unusedVariables false
namespace Mine
/-- what stood stands, but at the places of own5 -/
theorem hide_keep {h h' : Heap} (k : KeepOff own5 h h') : Keep (hideAll h own5) h' := fun b o e => k b o (fun hm => by rw [hideAll_none own5 hm] at e; cases e) (of_hideAll own5 e)
theorem size_lt {a b c : Nat} (h1 : @LE.le Nat _ a b) (h2 : @LT.lt Nat _ c a) : @LT.lt Nat _ c b := Nat.lt_of_lt_of_le h2 h1
theorem own_of1 {a : Addr} (ha : a ∈ own5) : ∀ b ∈ [a], b ∈ own5 := fun b hb => List.mem_singleton.mp hb ▸ ha
/-- law behind the call of cmp_to_key -/
theorem law_rest {w : World} {A : Around} {z : Shared} {h : Heap} {tk : Nat} {Q : Flow → Shared → Prop} {nl kc : Addr} {m : Str → Option Value} {t t' : Tok} {above n : Nat} {net : List Joint}
    (h100 : h.get? 100 = some (tabObj #[])) (B : RunB w (hideAll h own5) nl kc net above) (hA : A.depth + 5 < recursionLimit) (hu : A.units + 64 < cLine) (hh : A.handled = none)
    (hns : h.Ns 141 m) (m3 : m (Str.ofString "network") = some (.ref nl)) (c1 : h.IsCell 142 (some (.int n t))) (c2 : h.IsCell 143 none) (c3 : h.IsCell 144 none) (c4 : h.IsCell 145 (some (.int above t')))
    (k : ∀ h' tk', KeepOff own5 h h' → (∃ ps, h'.get? 100 = some (tabObj ps)) → Q (.ret (.bool true)) (St z h' tk')) :
    wpAny (model prog w) A (storeName (envL 141) (Str.ofString "key") (.ref kc)) (fun _ s₂ => wpAny (model prog w) A (execs ((bodyOf (top 37)).drop 4) (envL 141)) Q (fun _ _ => False) s₂) (fun _ _ => False) (St z h tk) := by
  refine store_loc (env := envL 141) hns fun h₁ tk1 n₁ s₁ => ?_
  replace s₁ : Heap.SameBut 141 h h₁ := s₁
  have k₁ : KeepOff own5 h h₁ := KeepOff.mono (KeepOff.of_same s₁) (own_of1 (by simp [own5]))
  have X₁ : TopIn w h₁ := B.top.keep (hide_keep k₁)
  have n₁' : h₁.Ns 141 _ := n₁
  have of141 : KeepOff [141] h h₁ := KeepOff.of_same s₁
  have c1₁ := cell_off c1 of141 (by simp)
  have c2₁ := cell_off c2 of141 (by simp)
  have c3₁ := cell_off c3 of141 (by simp)
  have c4₁ := cell_off c4 of141 (by simp)
  -- table
  refine wpAny_execs_cons ?_
  refine wpAny_Assign_Name ?_
  refine Call_ (Ev.use (ev_glob X₁ (v := .ref 122) (by kernel_rfl)) fun v tk2 hv => ?_)
  subst hv
  obtain ⟨of, hof, hdf⟩ := (fn_table X₁).fn
  refine PyProof.Rows.callWith_def hdf (spliced_more (Ev.use (ev_loc (env := envL 141) n₁' ((put_ne (by decide)).trans m3)) fun v tk3 hv => ?_))
  subst hv
  refine spliced_more (Ev.use (ev_loc (env := envL 141) n₁' (if_pos rfl)) fun v tk4 hv => ?_)
  subst hv
  refine spliced_more ?_
  refine drawn_eval (z := z) X₁ hh c1₁ fun D h₂ tk5 ds k₂ l₂ hd => ?_
  refine spliced_none ⟨k₂ _ _ hof, ?_⟩
  have k02 : KeepOff own5 h h₂ := fun b o hb e => k₂ b o (k₁ b o hb e)
  have T₂ : Tab h₂ [] := ⟨k₂ _ _ (of141 _ _ (by simp) h100), fun j c hj => by simp at hj⟩
  refine table_call B (hideAll_none own5 (by simp [own5])) (hide_keep k02) T₂ (Nat.lt_of_succ_lt hA) (Nat.lt_of_le_of_lt (Nat.add_le_add_left (by decide) _) hu) hh l₂ hd fun d h₃ tk6 cs kvs k₃ T₃ hd3 D₃ ok₃ all₃ => ?_
  have c4₂ := cell_keep c4₁ k₂
  have l145 : @LT.lt Nat _ 145 h₂.objs.size := by obtain ⟨o, ho, _⟩ := c4₂; exact Heap.lt_size ho
  have hd145 : @LT.lt Nat _ 145 d := size_lt hd3 l145
  have k03 : KeepOff own5 h h₃ := fun b o hb e => k₃ b o (not_mem1 fun q => hb (q ▸ .head _)) (k02 b o hb e)
  have n₃ : h₃.Ns 141 _ := (n₁'.keeps k₂).at' fun o e => k₃ _ o (by simp) e
  refine wpAny_storeName_cell (s := St z h₃ tk6) rfl rfl (c := 144) (by rfl) (cell_off (cell_keep c3₁ k₂) k₃ (by simp)) fun h₄ c3₄ s₄ => ?_
  replace s₄ : Heap.SameBut 144 h₃ h₄ := s₄
  have of144 : KeepOff [144] h₃ h₄ := KeepOff.of_same s₄
  have k04 : KeepOff own5 h h₄ := fun b o hb e => of144 b o (not_mem1 fun q => hb (by rw [q]; simp [own5])) (k03 b o hb e)
  have n₄ : h₄.Ns 141 _ := n₃.at' fun o e => of144 _ o (by simp) e
  have c1₄ := cell_off (cell_off (cell_keep c1₁ k₂) k₃ (by simp)) of144 (by simp)
  have c2₄ := cell_off (cell_off (cell_keep c2₁ k₂) k₃ (by simp)) of144 (by simp)
  have c4₄ := cell_off (cell_off c4₂ k₃ (by simp)) of144 (by simp)
  have t₄ : h₄.get? 100 = some (tabObj _) := of144 _ _ (by simp) T₃.1
  have D₄ : DictI w h₄ d kvs := DictI.at D₃ fun o e => of144 _ o (not_mem1 (Ne.symm (Nat.ne_of_lt (Nat.lt_trans (by decide : (144 : Nat) < 145) hd145)))) e
  -- if table is None
  refine wpAny_execs_cons (wpAny_If (wpAny_isTrue_Compare1 (Ev.use (ev_cell (c := 144) (by rfl) c3₄) fun v tk7 hv => ?_)))
  subst hv
  refine wpAny_Constant_none (PyProof.Rows.is_ref_none (wpAny_truthy_bool ?_))
  simp only [Bool.false_eq_true, if_false]
  refine wpAny_execs_nil ?_
  -- modes = [], due = []
  refine wpAny_execs_cons (wpAny_Assign_Name (wpAny_List_spliced (spliced_none ⟨Nat.le_of_ble_eq_true rfl, ?_⟩)))
  have kp₅ := keep_push h₄ { cls := .type "list", data := .seq #[] }
  have p₅ : (h₄.push { cls := .type "list", data := .seq #[] }).PlainList h₄.objs.size #[] := ⟨_, Heap.get?_push_size _ rfl⟩
  have l4 : @LT.lt Nat _ 145 h₄.objs.size := by obtain ⟨o, ho, _⟩ := c4₄; exact Heap.lt_size ho
  have ml0 : h.get? h₄.objs.size = none → True := fun _ => trivial
  generalize hml : h₄.objs.size = ml at *
  generalize hg5 : h₄.push { cls := .type "list", data := .seq #[] } = h₅ at *
  refine store_loc (env := envL 141) (n₄.keeps kp₅) fun h₆ tk8 n₆ s₆ => ?_
  replace s₆ : Heap.SameBut 141 h₅ h₆ := s₆
  have of6 : KeepOff [141] h₅ h₆ := KeepOff.of_same s₆
  have ne141 : ∀ {a : Nat}, 145 < a → a ∉ [(141 : Addr)] := fun ha => not_mem1 fun q => by have q' : @Eq Nat _ 141 := q; omega
  have p₆ : h₆.PlainList ml #[] := p₅.at fun o e => of6 _ o (ne141 l4) e
  refine wpAny_execs_cons (wpAny_Assign_Name (wpAny_List_spliced (spliced_none ⟨Nat.le_of_ble_eq_true rfl, ?_⟩)))
  have kp₇ := keep_push h₆ { cls := .type "list", data := .seq #[] }
  have p₇ : (h₆.push { cls := .type "list", data := .seq #[] }).PlainList h₆.objs.size #[] := ⟨_, Heap.get?_push_size _ rfl⟩
  have lmd : @LT.lt Nat _ ml h₆.objs.size := by obtain ⟨_, ho⟩ := p₆; exact Heap.lt_size ho
  have l6 : @LT.lt Nat _ 145 h₆.objs.size := Nat.lt_trans l4 lmd
  generalize hdl : h₆.objs.size = dl at *
  generalize hg7 : h₆.push { cls := .type "list", data := .seq #[] } = h₇ at *
  refine store_loc (env := envL 141) (n₆.keeps kp₇) fun h₈ tk9 n₈ s₈ => ?_
  replace s₈ : Heap.SameBut 141 h₇ h₈ := s₈
  have of8 : KeepOff [141] h₇ h₈ := KeepOff.of_same s₈
  have k48 : KeepOff [141] h₄ h₈ := fun b o hb e => of8 b o hb (kp₇ b o (of6 b o hb (kp₅ b o e)))
  have k08 : KeepOff own5 h h₈ := fun b o hb e => k48 b o (not_mem1 fun q => hb (by rw [q]; simp [own5])) (k04 b o hb e)
  have X₈ : TopIn w h₈ := B.top.keep (hide_keep k08)
  -- the loop, and what stands behind it
  refine wpAny_execs_cons ?_
  refine law_loop X₈ (by omega) hh n₈ ((put_ne (by decide)).trans (if_pos rfl)) (if_pos rfl) ((put_ne (by decide)).trans ((put_ne (by decide)).trans ((put_ne (by decide)).trans m3))) (cell_off c1₄ k48 (by simp)) ⟨_, cell_off c2₄ k48 (by simp)⟩ (cell_off c3₄ k48 (by simp)) (cell_off c4₄ k48 (by simp)) (DictI.at D₄ fun o e => k48 _ o (ne141 hd145) e) ok₃ all₃ (p₆.at fun o e => of8 _ o (ne141 l4) (kp₇ _ o e)) (p₇.at fun o e => of8 _ o (ne141 l6) e) (Nat.ne_of_lt lmd) hd145 l4 l6 fun H tk10 I hI J => ?_
  have lt4 : ∀ b o, h.get? b = some o → b ∉ own5 → @LT.lt Nat _ b ml := fun b o e hb => hml ▸ Heap.lt_size (k04 b o hb e)
  have kH : KeepOff own5 h H := fun b o hb e => by
    have hb4 := lt4 b o e hb
    refine J.keep b o (mem4 ?_ ?_ ?_ ?_) (k08 b o hb e)
    · exact fun q => hb (by rw [q]; simp [own5])
    · exact fun q => hb (by rw [q]; simp [own5])
    · exact Nat.ne_of_lt hb4
    · exact Nat.ne_of_lt (Nat.lt_trans hb4 lmd)
  have BH := B.keep (hide_keep kH)
  have tH : H.get? 100 = some (tabObj _) := J.keep _ _ (mem4 (by decide) (by decide) (Nat.ne_of_lt (Nat.lt_trans (by decide : (100 : Nat) < 145) l4)) (Nat.ne_of_lt (Nat.lt_trans (by decide : (100 : Nat) < 145) l6))) (k48 _ _ (by simp) t₄)
  refine law_end BH.top (by omega) hu hh hI l6 J BH.nat BH.ok BH.len fun h' tk11 k' => ?_
  exact k h' tk11 (fun b o hb e => k' b o (not_mem1 fun q => hb (by rw [q]; simp [own5])) (kH b o hb e)) ⟨_, k' _ _ (by simp) tH⟩
end Mine
end
section
open PySem PySem.W PyProof.Rows PySem.Calls
set_option Elab.async false
set_option maxRecDepth 100000
set_option maxHeartbeats 1000000
set_option linter.unusedVariables false
namespace Mine
theorem said : PySem.Challenge.rw_mr0185_01.wellSaid = true := (congrFun PySem.W.Fast.te9446332074065402090 _).trans (by kernel_rfl)
def defL : DefRec := { name := Str.ofString "law", params := argsOf (top 37), body := bodyOf (top 37), scope := scopeOf (top 37), pos := { line := 131, col := 0, endLine := 147, endCol := 82 } }
theorem ns_det {h : Heap} {L : Addr} {m m' : Str → Option Value} (x : h.Ns L m) (y : h.Ns L m') (s : Str) : m s = m' s := by
  obtain ⟨o, es, n, e, hd, _, hm⟩ := x
  obtain ⟨o', es', n', e', hd', _, hm'⟩ := y
  rw [e] at e'
  cases e'
  rw [hd] at hd'
  cases hd'
  rw [← hm, ← hm']
theorem allIn_mem {h : Heap} : ∀ (K : Frag), X.AllIn h K → ∀ p, p ∈ K → h.get? p.1 = some p.2 := by
  intro K
  induction K with
  | nil => intro _ p m; cases m
  | cons q K ih =>
    intro A p m
    rcases List.mem_cons.mp m with e | m
    · rw [e]; exact A.1
    · exact ih A.2 p m
/-- the top's objects, and the three tables -/
theorem top_of {w : World} {h : Heap} (A : X.AllIn h (hdX.heap_140 w.params)) : TopIn w h ∧ h.get? 16 = some (topObj w.params 16) ∧ h.get? 100 = some (tabObj #[]) ∧ h.get? 136 = some (tabObj #[]) :=
  ⟨fun a o ho => allIn_mem _ A _ (List.mem_filter.mp (lookup_mem ho)).1, allIn_mem _ A _ (lookup_mem (a := 16) (by kernel_rfl)), allIn_mem _ A _ (lookup_mem (a := 100) (by kernel_rfl)), allIn_mem _ A _ (lookup_mem (a := 136) (by kernel_rfl))⟩
theorem table_of {w : World} {h : Heap} (X : TopIn w h) : isCodeTable h 16 ∧ isCodeTable h 100 ∧ isCodeTable h 136 :=
  ⟨⟨20, _, fldsOf (topObj w.params 20), top_get X (by kernel_rfl), by kernel_rfl, by kernel_rfl, by kernel_rfl⟩, ⟨104, _, fldsOf (topObj w.params 104), top_get X (by kernel_rfl), by kernel_rfl, by kernel_rfl, by kernel_rfl⟩, ⟨138, _, fldsOf (topObj w.params 138), top_get X (by kernel_rfl), by kernel_rfl, by kernel_rfl, by kernel_rfl⟩⟩
/-- what was laid stands, but the three tables, which have grown -/
theorem old_kept {h h' : Heap} (k : ∀ b o, b ∉ tabs → h.get? b = some o → h'.get? b = some o) (t : ∀ b ∈ tabs, isCodeTable h b ∧ h.get? b = some (tabObj #[]) ∧ ∃ ps, h'.get? b = some (tabObj ps)) : OldK h h' := by
  refine ⟨fun b o e => ?_, fun b o e => ?_⟩
  · by_cases hb : b ∈ tabs
    · obtain ⟨h1, h2, ps, h3⟩ := t b hb
      rw [h2] at e
      cases e
      exact .inr (.inl ⟨h1, rfl, #[], ps, rfl, by rw [h3, Array.empty_append]⟩)
    · exact .inl (k b o hb e)
  · by_cases hb : b ∈ tabs
    · obtain ⟨_, _, ps, h3⟩ := t b hb
      exact ⟨_, h3⟩
    · exact ⟨o, k b o hb e⟩
theorem low_own5 {b : Nat} (h1 : @LT.lt Nat _ b 141) (h2 : b ∉ tabs) : b ∉ own5 := fun hm => by
  simp only [own5, List.mem_cons, List.not_mem_nil, or_false] at hm
  rcases hm with q | q | q | q | q
  · exact h2 (by rw [q]; simp [tabs])
  all_goals (have q' : @Eq Nat b _ := q; omega)
theorem law_walk : WalkX viewL looseL (XL viewL []) (X.obsZ (List.range 140)) (X.valZ hdX.heap_140 140 379) rwL defL [] (fun f vs => call f vs) := by
  intro w s₀ s₁ mg mb G y fa o pm cd doc dV kV ho hd hcd hD hmg hg args vals as L hpre hlay hrd hwl hlo
  clear ho hd hcd hD
  wrow_args hpre hlay hrd hwl hlo
  rename_i ns _ _ _ _ _ _ _ a vs _ hL _ _ _ hI _ hc _
  obtain ⟨hat, hsz⟩ := X.script_at L
  obtain ⟨hA, _, hz, _⟩ := X.z_facts (fun P => (heap_keys P).symm) y
  have keeps : Keep s₀.heap s₁.heap := L.keeps
  rw [hz] at hat hsz
  subst hat
  obtain ⟨X₀, t16, t100, t136⟩ := top_of hA
  have X := X₀.keep keeps
  obtain ⟨ct16, ct100, ct136⟩ := table_of X
  have h16 := keeps _ _ t16
  have h100 := keeps _ _ t100
  have h136 := keeps _ _ t136
  have hfa : some (Value.ref fa) = some (.ref 139) := hmg.symm.trans ((ns_det G.T.g (top_g X) _).trans (by kernel_rfl))
  cases hfa
  have e16 : topObj w.params 16 = tabObj #[] := by kernel_rfl
  have hn : ns.length ≤ 63 := by omega
  have hr := nOf_range ns
  refine law_pre (A := callerA) (z := s₁) (tk := s₁.toks) X hsz h136 (by decide) (by decide) rfl hL hI hn fun h' tk' m nl t t' hz' kO n' m3 hnl net c1 c2 c3 c4 cm tb136 => ?_
  have X' : TopIn w h' := fun a o ho => kO a o (fun q => (k2_off ho).1 (by rw [List.mem_singleton.mp q]; simp [Mine.tabs])) (X a o ho)
  refine ctk_law (A := callerA.deeper (envL 141)) X' (kO _ _ (by simp) h16) (kO _ _ (by simp) h100) hz' hg rfl (by decide) (by decide) hnl ⟨_, n'⟩ ⟨_, c1⟩ ⟨_, c2⟩ ⟨_, c3⟩ net c4 cm fun h₂ tk₂ k16 tb16 B => ?_
  have en : nOf ns = ((nOf ns).toNat : Nat) := (Int.toNat_of_nonneg hr.1).symm
  have ha0 : 0 ≤ (nOf ns).fdiv 16 := by rw [fd _ (by decide)]; omega
  have ea : (nOf ns).fdiv 16 = (((nOf ns).fdiv 16).toNat : Nat) := (Int.toNat_of_nonneg ha0).symm
  have c1₂ := cell_off c1 k16 (by simp)
  have c4₂ := cell_off c4 k16 (by simp)
  rw [ea] at B c4₂
  rw [en] at c1₂
  refine law_rest (A := callerA.deeper (envL 141)) (k16 _ _ (by simp) (kO _ _ (by simp) h100)) B (by decide) (by decide) rfl (n'.at' fun o e => k16 _ o (by simp) e) m3 c1₂ (cell_off c2 k16 (by simp)) (cell_off c3 k16 (by simp)) c4₂ fun h₃ tk₃ k5 tb100 => ?_
  refine ⟨.inl ⟨_, _, [], rfl, fun _ => rfl, ReadsW.bool true, by kernel_rfl, fun _ => ⟨List.nodup_nil, fun _ hm => (nomatch hm)⟩⟩, old_kept (fun b o hb e => ?_) (fun b hb => ?_), rfl, ?_⟩
  · have hlt : @LT.lt Nat _ b 141 := Nat.lt_of_lt_of_eq (Heap.lt_size e) hsz
    simp only [Mine.tabs, List.mem_cons, List.not_mem_nil, or_false, not_or] at hb
    exact k5 b o (low_own5 hlt (by simpa [Mine.tabs] using hb)) (k16 b o (not_mem1 hb.1) (kO b o (not_mem1 hb.2.2) e))
  · simp only [Mine.tabs, List.mem_cons, List.not_mem_nil, or_false] at hb
    rcases hb with rfl | rfl | rfl
    · exact ⟨ct16, e16 ▸ h16, tb16.imp fun _ e => k5 _ _ (by simp [own5]) e⟩
    · exact ⟨ct100, h100, tb100⟩
    · exact ⟨ct136, h136, tb136.imp fun _ e => k5 _ _ (by simp [own5]) (k16 _ _ (by simp) e)⟩
  · show AllBare s₁.gens
    rw [hg]
    exact AllBare.empty
end Mine
theorem PySem.Challenge.cw_mr0185_01_holds : PySem.Challenge.rw_mr0185_01.Holds := by
  refine holds_law Mine.said fun hs => holds_openX (d := Mine.defL) (q := Mine.viewL) (loose := Mine.looseL) (Xt := fun s => xlAt Mine.viewL [] s && recOk (RowW.records Mine.rwL) s) (XP := XL Mine.viewL []) (Yf := X.obsZ (List.range 140)) (Ya := X.valZ Mine.hdX.heap_140 140 379) (N := 1744) Mine.leftL (fun s e => xl_of s (Bool.and_eq_true_iff.mp e).1) XL.keeps (by rfl) (by rfl) (by rfl) (fun s e => recFacts_of (Bool.and_eq_true_iff.mp e).2) (by rfl) hs (by decide +kernel) ⟨rfl, rfl, rfl, rfl, rfl, by decide +kernel⟩ ?hw Mine.law_walk
  case hw => w_witness2
end
