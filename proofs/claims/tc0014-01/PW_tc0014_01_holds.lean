import PyProof.Rows.All
import Wide.All
import Wide.FinOn
import KE.KSortTup
import KE.KUnpack
import PySem.Challenge.RW_tc0014_01
set_option Elab.async false
set_option linter.unusedVariables false
noncomputable section
open PySem PySem.W PyProof.Rows
set_option maxRecDepth 100000
set_option maxHeartbeats 0
set_option autoImplicit false
namespace Mine
/-! the head: the text's top, run by the kernel, a side of the world's row at a time -/
noncomputable def kept : List Nat := [1, 2, 3, 4, 5, 7, 8, 9] ++ (List.range 54).map (· + 11) ++ (List.range 9).map (· + 66)
noncomputable def Q : Program := view Challenge.pw_tc0014_01 kept
noncomputable def LO : List Str := ["COMPILER_FLAG_NAMES", "EXACT_TOKEN_TYPES"]
noncomputable def isRef (a : Addr) : Option Value → Bool | some (.ref b) => b == a | _ => false
theorem isRef_eq {a : Addr} {v : Option Value} (h : isRef a v = true) : v = some (.ref a) := by
  unfold isRef at h
  split at h
  · rw [eq_of_beq h]
  · cases h
noncomputable def dict? (o : Obj) : Option (List DictEntry) := match o with
  | ⟨.type c, none, .dict es _, sl⟩ => if c == "dict" && sl.size == 0 then some es.toList else none
  | _ => none
noncomputable def eS (e : DictEntry) : Option (Int × Str × Int) := match e.key, e.val with | .str k _, .int n _ => some (e.hash, k, n) | _, _ => none
noncomputable def eI (e : DictEntry) : Option (Int × Int × Str) := match e.key, e.val with | .int k _, .str n _ => some (e.hash, k, n) | _, _ => none
noncomputable def tabAt (k : Nat) : List (Expr × Expr) := match Challenge.pw_tc0014_01.main.body.getD k (.Pass ⟨0, 0, 0, 0⟩) with
  | .Assign _ (.Dict ks vs _) _ => (ks.zip vs).filterMap fun q => q.1.map fun k => (k, q.2)
  | _ => []
noncomputable def strE : Expr → Str | .Constant (.str s) _ _ => s | _ => ""
noncomputable def intE : Expr → Int | .Constant (.int i) _ _ => i | _ => 0
noncomputable def nameE : Expr → Int | .Name x _ => (match valOf Q x with | some (.int i) => i | _ => 0) | _ => 0
noncomputable def exTab : List (Str × Int) := (tabAt 61).map fun q => (strE q.1, nameE q.2)
noncomputable def flTab : List (Int × Str) := (tabAt 7).map fun q => (intE q.1, strE q.2)
noncomputable def valS (w : World) : List (Option (Int × Str × Int)) := exTab.map fun q => some (PyData.keyHash w.params q.1, q.1, q.2)
noncomputable def valI : List (Option (Int × Int × Str)) := flTab.map fun q => some (hashInt q.1, q.1, q.2)
noncomputable def seeS (h : Heap) : Option (List (Option (Int × Str × Int))) := ((h.get? 58).bind dict?).map fun es => es.map eS
noncomputable def seeI (h : Heap) : Option (List (Option (Int × Int × Str))) := ((h.get? 43).bind dict?).map fun es => es.map eI
theorem see_keeps {α : Type} {h h' : Heap} {a : Addr} {f : List DictEntry → α} {x : α} (e : ((h.get? a).bind dict?).map f = some x) (k : ∀ b o, h.get? b = some o → h'.get? b = some o) : ((h'.get? a).bind dict?).map f = some x := by
  cases g : h.get? a with
  | none => rw [g] at e; cases e
  | some o => rw [k _ _ g]; rw [g] at e; exact e
noncomputable def HK : Hook := ⟨Option (List (Option (Int × Str × Int))) × Option (List (Option (Int × Int × Str))), fun s => (seeS s.heap, seeI s.heap), fun w => (some (valS w), some valI),
  fun w h => seeS h = some (valS w) ∧ seeI h = some valI, fun _ _ e => ⟨congrArg Prod.fst e, congrArg Prod.snd e⟩, fun _ _ _ x k => ⟨see_keeps x.1 k, see_keeps x.2 k⟩⟩
noncomputable def named (mg : Str → Option Value) : Bool := isRef 58 (mg "EXACT_TOKEN_TYPES") && isRef 43 (mg "COMPILER_FLAG_NAMES")
noncomputable def Xt (s : Shared) : Bool := named (s.heap.nsMap mainGlobals)
noncomputable abbrev XP (mg : Str → Option Value) (_ : Heap) : Prop := named mg = true
noncomputable def steps : Nat := 4454

noncomputable def sPos : Stmt → Pos | .FunctionDef _ _ _ _ _ _ _ _ _ p => p | _ => ⟨0, 0, 0, 0⟩
noncomputable def stm (k : Nat) : Stmt := Challenge.pw_tc0014_01.main.body.getD k (.Pass ⟨0, 0, 0, 0⟩)
noncomputable def sName : Stmt → Str | .FunctionDef n .. => n | _ => ""
noncomputable def sParams : Stmt → Arguments | .FunctionDef _ a .. => a | _ => ⟨[], [], none, [], [], none, []⟩
noncomputable def sBody : Stmt → List Stmt | .FunctionDef _ _ b .. => b | _ => []
noncomputable def sScope : Stmt → Scope | .FunctionDef _ _ _ _ _ _ s .. => s | _ => default
noncomputable abbrev rec9 (k : Nat) : DefRec := ⟨sName (stm k), sParams (stm k), sBody (stm k), sScope (stm k), sPos (stm k)⟩
/-! the run of the top, told in parts: each part is one run of the kernel's, and none holds all -/
noncomputable def endW (w : World) : Option Shared := openEnds treeTable Challenge.pw_tc0014_01 w steps
noncomputable abbrev rw0 (b : Bool) (w : World) : World := w.withFollow "special-get-raises" b
noncomputable def seeA (s : Shared) := (seen ((recsOf Q).map (·.name)) (ownsOf Q) [] { s with gens := #[] }, s.heap.bltView, tabsOk Q s, wideSeen Q s)
noncomputable def goodA := (expectedOf Q, bltViewBooted, true, wideGood Q)
noncomputable def seeB (s : Shared) := (tablesOk Q s.heap && Xt s && s.gens.size == 0, pinSeenD Q (drecsOf Q) s, plainSeenE Q (looseW Q LO) s, plainSeenD Q LO s, clsSeenW Q LO s, HK.obs s)
noncomputable def goodB (w : World) := (true, pinGoodD (drecsOf Q), plainGoodE Q (looseW Q LO), plainGoodD Q LO, clsGoodW Q LO, HK.val w)
noncomputable def seeC (s : Shared) : Bool := s.heap.keysOk (looseW Q LO) ((recsOf Q).map (·.name)) ((litsOf Q).map (·.1)) ((clssOf Q (looseW Q LO)).map (·.name)) && s.heap.accountedOkI (importedModules Challenge.pw_tc0014_01.main.body) && s.heap.isNs mainGlobals && s.heap.isNs builtinsNs
theorem fA (w : World) : (endW (rw0 false w)).map seeA = some goodA := by kernel_rfl
theorem fB (w : World) : (endW (rw0 false w)).map seeB = some (goodB (rw0 false w)) := by kernel_rfl
theorem fC (w : World) : (endW (rw0 false w)).map seeC = some true := by kernel_rfl
theorem tA (w : World) : (endW (rw0 true w)).map seeA = some goodA := by kernel_rfl
theorem tB (w : World) : (endW (rw0 true w)).map seeB = some (goodB (rw0 true w)) := by kernel_rfl
theorem tC (w : World) : (endW (rw0 true w)).map seeC = some true := by kernel_rfl
noncomputable abbrev sideW (w : World) : Prop := (openEnds treeTable Challenge.pw_tc0014_01 w steps).map (fun s => (openSeen Q LO (importedModules Challenge.pw_tc0014_01.main.body) Xt true s, HK.obs s)) = some (openGood Q LO, HK.val w)
theorem side_of {w : World} (a : (endW w).map seeA = some goodA) (b : (endW w).map seeB = some (goodB w)) (c : (endW w).map seeC = some true) : sideW w := by
  obtain ⟨s, e, a⟩ := Option.map_eq_some_iff.mp a
  rw [e] at b c
  have b := Option.some.inj b
  have c : seeC s = true := Option.some.inj c
  have b1 : (tablesOk Q s.heap && Xt s && s.gens.size == 0) = true := congrArg Prod.fst b
  have a1 : seen ((recsOf Q).map (·.name)) (ownsOf Q) [] { s with gens := #[] } = expectedOf Q := congrArg Prod.fst a
  have a2 : s.heap.bltView = bltViewBooted := congrArg (fun x => x.2.1) a
  have a3 : tabsOk Q s = true := congrArg (fun x => x.2.2.1) a
  have a4 : wideSeen Q s = wideGood Q := congrArg (fun x => x.2.2.2) a
  have b2 : pinSeenD Q (drecsOf Q) s = pinGoodD (drecsOf Q) := congrArg (fun x => x.2.1) b
  have b3 : plainSeenE Q (looseW Q LO) s = plainGoodE Q (looseW Q LO) := congrArg (fun x => x.2.2.1) b
  have b4 : plainSeenD Q LO s = plainGoodD Q LO := congrArg (fun x => x.2.2.2.1) b
  have b5 : clsSeenW Q LO s = clsGoodW Q LO := congrArg (fun x => x.2.2.2.2.1) b
  have b6 : HK.obs s = HK.val w := congrArg (fun x => x.2.2.2.2.2) b
  have d : (seeC s && tablesOk Q s.heap && Xt s && s.gens.size == 0) = true := by
    rw [Bool.and_assoc (seeC s), Bool.and_assoc (seeC s), c, b1]; rfl
  unfold sideW
  rw [show openEnds treeTable Challenge.pw_tc0014_01 w steps = some s from e]
  show some (openSeen Q LO (importedModules Challenge.pw_tc0014_01.main.body) Xt true s, HK.obs s) = _
  rw [b6]
  show some ((seen ((recsOf Q).map (·.name)) (ownsOf Q) [] { s with gens := #[] }, s.heap.bltView, (seeC s && tablesOk Q s.heap && Xt s && s.gens.size == 0), tabsOk Q s, pinSeenD Q (drecsOf Q) s, plainSeenE Q (looseW Q LO) s, plainSeenD Q LO s, wideSeen Q s, clsSeenW Q LO s), HK.val w) = _
  rw [a1, a2, d, a3, b2, b3, b4, a4, b5]
  rfl
theorem side_f (w : World) : sideW (rw0 false w) := side_of (fA w) (fB w) (fC w)
theorem side_t (w : World) : sideW (rw0 true w) := side_of (tA w) (tB w) (tC w)
end Mine

end
noncomputable section
open PySem PySem.W PyProof.Rows
set_option maxRecDepth 100000
set_option maxHeartbeats 0
set_option autoImplicit false
namespace Mine
theorem left : LeftO Challenge.pw_tc0014_01 Q LO Xt HK.obs HK.val steps := byRow2 (P := sideW) "special-get-raises" side_f side_t
theorem ok1 : (chainsOk Q && opensWell Challenge.pw_tc0014_01 && (frees Challenge.rw_tc0014_01.row.toRowW && Challenge.rw_tc0014_01.row.within.isEmpty)) = true := by kernel_rfl
theorem df : defOf Q Challenge.rw_tc0014_01.row.name = some (rec9 74, []) := by kernel_rfl
theorem said : Challenge.rw_tc0014_01.wellSaid = true := by kernel_rfl
theorem wit : Challenge.rw_tc0014_01.row.toRowW.promised := ⟨[.list []], by kernel_rfl, by kernel_rfl⟩
theorem isbare : Challenge.rw_tc0014_01.row.prog.bare := ⟨rfl, rfl, rfl, rfl, rfl, by decide +kernel⟩
theorem dfp : Challenge.rw_tc0014_01.row.prog.theDef Challenge.rw_tc0014_01.row.name = some (sParams (stm 74), sBody (stm 74), sScope (stm 74)) := by kernel_rfl
theorem dfk : kwWritten? (sParams (stm 74)).kwonlyargs (sParams (stm 74)).kw_defaults = some [] := by kernel_rfl
theorem norec : Challenge.rw_tc0014_01.row.toRowW.records = [] := by kernel_rfl
theorem nowr : (!Challenge.rw_tc0014_01.row.writes || Challenge.rw_tc0014_01.row.records.isEmpty) = true := by kernel_rfl
theorem hd (call : WalkO Q LO XP HK.says Challenge.rw_tc0014_01.row.toRowW (rec9 74) [] fun f vs => PySem.call f vs) : Challenge.rw_tc0014_01.Holds :=
  holds_law said fun s => _root_.PySem.W.holds_open (q := Q) (loose := LO) (Xt := Xt) (XP := XP) (Yf := HK.obs) (Ya := HK.val) (YP := HK.says) (N := steps) (d := rec9 74) (kwd := []) left (Hook.of HK) (Hook.keeps HK) (fun _ e => e) (fun _ _ _ x _ => x) df dfp dfk (fun _ _ => recFacts_nil norec) nowr s ok1 isbare wit call
end Mine

end
noncomputable section
open PySem PySem.W PyProof.Rows
set_option maxRecDepth 100000
set_option autoImplicit false
namespace Mine

/-! ## values that read as data, off a set of forbidden addresses -/
mutual
inductive Rd (h : Heap) (F : Addr → Prop) : Value → PyData → Prop
  | none : Rd h F .none .none
  | bool (b : Bool) : Rd h F (.bool b) (.bool b)
  | int (i : Int) (t : Tok) : Rd h F (.int i t) (.int i)
  | str (x : Str) (t : Tok) : Rd h F (.str x t) (.str x)
  | list {a : Addr} {o : Obj} {vs : Array Value} {n : Nat} {ds : List PyData} : ¬ F a → h.get? a = some o → o.cls = .type "list" → o.data = .seq vs n → RdL h F vs.toList ds → Rd h F (.ref a) (.list ds)
  | tuple {a : Addr} {o : Obj} {vs : Array Value} {n : Nat} {ds : List PyData} : ¬ F a → h.get? a = some o → o.cls = .type "tuple" → o.data = .seq vs n → RdL h F vs.toList ds → Rd h F (.ref a) (.tuple ds)
inductive RdL (h : Heap) (F : Addr → Prop) : List Value → List PyData → Prop
  | nil : RdL h F [] []
  | cons {v : Value} {vs : List Value} {d : PyData} {ds : List PyData} : Rd h F v d → RdL h F vs ds → RdL h F (v :: vs) (d :: ds)
end

/-- what stays: everything alive off F stays; what is newly forbidden was forbidden or not alive -/
structure Stay (F F' : Addr → Prop) (h h' : Heap) : Prop where
  keep : ∀ a o, ¬ F a → h.get? a = some o → h'.get? a = some o
  new : ∀ a, F' a → F a ∨ h.get? a = none

section
variable {F F' : Addr → Prop} {h h' : Heap}
theorem Rd.stay (k : Stay F F' h h') {v : Value} {d : PyData} (x : Rd h F v d) : Rd h' F' v d :=
  have n : ∀ {a o}, ¬ F a → h.get? a = some o → ¬ F' a := fun hn ho q => (k.new _ q).elim hn fun e => by rw [e] at ho; cases ho
  Rd.rec (motive_1 := fun v d _ => Rd h' F' v d) (motive_2 := fun vs ds _ => RdL h' F' vs ds) .none (fun b => .bool b) (fun i t => .int i t) (fun x t => .str x t)
    (fun hn ho hc hd _ r => .list (n hn ho) (k.keep _ _ hn ho) hc hd r) (fun hn ho hc hd _ r => .tuple (n hn ho) (k.keep _ _ hn ho) hc hd r) .nil (fun _ _ x r => .cons x r) x
theorem RdL.stay (k : Stay F F' h h') {vs : List Value} {ds : List PyData} (x : RdL h F vs ds) : RdL h' F' vs ds := by
  induction vs generalizing ds with
  | nil => cases x; exact .nil
  | cons v vs ih => cases x with | cons q r => exact .cons (q.stay k) (ih r)
end
section
variable {h h' : Heap} {F F' : Addr → Prop} {v : Value} {d : PyData} {vs ws : List Value} {ds es : List PyData}
theorem RdL.length (x : RdL h F vs ds) : vs.length = ds.length := by
  induction vs generalizing ds with
  | nil => cases x; rfl
  | cons v vs ih => cases x with | cons _ r => rw [List.length_cons, List.length_cons, ih r]
theorem RdL.append (x : RdL h F vs ds) (y : RdL h F ws es) : RdL h F (vs ++ ws) (ds ++ es) := by
  induction vs generalizing ds with
  | nil => cases x; exact y
  | cons v vs ih => cases x with | cons q r => exact .cons q (ih r)
theorem RdL.one (x : Rd h F v d) : RdL h F [v] [d] := .cons x .nil
theorem RdL.get (x : RdL h F vs ds) {k : Nat} {d : PyData} (hk : ds[k]? = some d) : ∃ v, vs[k]? = some v ∧ Rd h F v d := by
  induction vs generalizing ds k with
  | nil => cases x; simp at hk
  | cons v vs ih =>
    cases x with
    | cons q r =>
      cases k with
      | zero => simp at hk; subst hk; exact ⟨v, rfl, q⟩
      | succ k => exact ih r (by simpa using hk)
theorem RdL.get' (x : RdL h F vs ds) {k : Nat} {v : Value} (hk : vs[k]? = some v) : ∃ d, ds[k]? = some d ∧ Rd h F v d := by
  induction vs generalizing ds k with
  | nil => simp at hk
  | cons u vs ih =>
    cases x with
    | cons q r =>
      cases k with
      | zero => simp at hk; subst hk; exact ⟨_, rfl, q⟩
      | succ k => exact ih r (by simpa using hk)
theorem Rd.reads {v : Value} {d : PyData} (x : Rd h F v d) : ∃ as, Reads h v d as :=
  Rd.rec (motive_1 := fun v d _ => ∃ as, Reads h v d as) (motive_2 := fun vs ds _ => ∃ as, ReadsAll h vs ds as) ⟨_, .none⟩ (fun b => ⟨_, .bool b⟩) (fun i t => ⟨_, .int i t⟩) (fun x t => ⟨_, .str x t⟩)
    (fun _ ho hc hd _ r => r.elim fun _ q => ⟨_, .list ho hc hd q⟩) (fun _ ho hc hd _ r => r.elim fun _ q => ⟨_, .tuple ho hc hd q⟩) ⟨_, .nil⟩ (fun _ _ x r => x.elim fun _ q => r.elim fun _ p => ⟨_, .cons q p⟩) x
end

/-! what a value is, by what it reads as -/
inductive SeqV (h : Heap) (F : Addr → Prop) (T : String) (v : Value) (ds : List PyData) : Prop
  | mk (a : Addr) (o : Obj) (vs : Array Value) (n : Nat) (hv : v = .ref a) (na : ¬ F a) (ho : h.get? a = some o) (hc : o.cls = .type T) (hd : o.data = .seq vs n) (r : RdL h F vs.toList ds)
inductive ConsV (h : Heap) (F : Addr → Prop) (vs : List Value) (d : PyData) (ds : List PyData) : Prop
  | mk (u : Value) (us : List Value) (hv : vs = u :: us) (q : Rd h F u d) (r : RdL h F us ds)
noncomputable def RdV (h : Heap) (F : Addr → Prop) (v : Value) : PyData → Prop
  | .none => v = .none
  | .bool b => v = .bool b
  | .int i => ∃ t, v = .int i t
  | .str x => ∃ t, v = .str x t
  | .list ds => SeqV h F "list" v ds
  | .tuple ds => SeqV h F "tuple" v ds
  | _ => True
noncomputable def RdLV (h : Heap) (F : Addr → Prop) (vs : List Value) : List PyData → Prop
  | [] => vs = []
  | d :: ds => ConsV h F vs d ds
section
variable {h : Heap} {F : Addr → Prop} {v : Value} {d : PyData} {vs : List Value} {ds : List PyData}
theorem Rd.inv (x : Rd h F v d) : RdV h F v d := by
  cases x with
  | none => exact rfl
  | bool b => exact rfl
  | int i t => exact ⟨t, rfl⟩
  | str x t => exact ⟨t, rfl⟩
  | list na ho hc hd r => exact ⟨_, _, _, _, rfl, na, ho, hc, hd, r⟩
  | tuple na ho hc hd r => exact ⟨_, _, _, _, rfl, na, ho, hc, hd, r⟩
theorem RdL.inv (x : RdL h F vs ds) : RdLV h F vs ds := by
  cases x with
  | nil => exact rfl
  | cons q r => exact ⟨_, _, rfl, q, r⟩
end

/-! ## slots and the state of a frame -/
inductive Slot where
  | un
  | val (d : PyData)
  | own (ds : List PyData)
  | io (ds : List PyData)
  | itr (p : Bool) (ds : List PyData)
  | dic (kvs : List (Str × PyData))
  | rdc (kvs : List (Str × PyData))
noncomputable def Slot.isOwn : Slot → Bool
  | .un => false
  | .val _ => false
  | .rdc _ => false
  | _ => true
noncomputable def Slot.isPar : Slot → Bool
  | .io _ => true
  | .itr p _ => p
  | _ => false
theorem Slot.isPar_own {sl : Slot} (h : sl.isPar = true) : sl.isOwn = true := by cases sl <;> first | rfl | cases h
structure Ent where
  nm : Str
  loc : Bool
  sl : Slot
noncomputable abbrev Lo (x : Str) (sl : Slot) : Ent := ⟨x, true, sl⟩
noncomputable abbrev Ce (x : Str) (sl : Slot) : Ent := ⟨x, false, sl⟩

structure Cx where
  env : Env
  A : Around
  n : Nat
  mine : List Addr
  fr : Bool
  gl : List Str
  par : Str → Addr
structure Cx.Ok (C : Cx) : Prop where
  kind : C.env.scope.kind = .function
  glob : C.env.globals = mainGlobals
  blt : C.env.builtins = builtinsNs
  hh : C.A.handled = none
  room : C.A.depth + C.n < recursionLimit
  units : C.A.units + 8 * C.n + 200 < cLine
  co : C.env.scope.isCoroutine = false
  glk : ∀ x ∈ C.gl, C.env.kindOf x = some .globalImplicit ∧ (x == ("__debug__" : Str)) = false

noncomputable def Mut (C : Cx) (σ : List Ent) (ad : Str → Addr) (a : Addr) : Prop := a = C.env.locals ∨ a ∈ C.mine ∨ ∃ e ∈ σ, e.sl.isOwn = true ∧ ad e.nm = a

/-- what an iterator over a list still has to give -/
noncomputable def ItOk (h : Heap) (F : Addr → Prop) (a : Addr) (ds : List PyData) : Prop :=
  ∃ l items i, h.IsListIter a l i ∧ ¬ F l ∧ h.IsList l items ∧ RdL h F (items.toList.drop i) ds ∧ i ≤ items.size
noncomputable def DicOk (prog : Program) (w : World) (h : Heap) (F : Addr → Prop) (a : Addr) (kvs : List (Str × PyData)) : Prop :=
  ∃ vs ep, h.DictAt (PySem.strKind prog w) a vs ep ∧ vs.map (·.1) = kvs.map (·.1) ∧ RdL h F (vs.map (·.2)) (kvs.map (·.2)) ∧ (a == sysModules) = false

/-- from one state to a later one: W may be written, W' may be written from there on -/
structure Go (W W' : Addr → Prop) (s s' : Shared) : Prop where
  keep : ∀ a o, ¬ W a → s.heap.get? a = some o → s'.heap.get? a = some o
  alive : ∀ a o, s.heap.get? a = some o → ∃ o', s'.heap.get? a = some o'
  new : ∀ a, W' a → W a ∨ s.heap.get? a = none
  gens : ∀ (g : Nat) (x : GenState), s.gens[g]? = some x → s'.gens[g]? = some x
  os : s'.os = s.os
theorem Go.refl {W : Addr → Prop} {s : Shared} : Go W W s s := ⟨fun _ _ _ e => e, fun _ o e => ⟨o, e⟩, fun _ x => .inl x, fun _ _ e => e, rfl⟩
theorem Go.trans {W W' W'' : Addr → Prop} {s s' s'' : Shared} (x : Go W W' s s') (y : Go W' W'' s' s'') : Go W W'' s s'' where
  keep a o hn e := y.keep a o (fun q => (x.new a q).elim hn fun z => by rw [z] at e; cases e) (x.keep a o hn e)
  alive a o e := let ⟨o', e'⟩ := x.alive a o e; y.alive a o' e'
  new a q := (y.new a q).elim (x.new a) fun z => .inr (by
    cases e : s.heap.get? a with
    | none => rfl
    | some o => obtain ⟨o', e'⟩ := x.alive a o e; rw [e'] at z; cases z)
  gens g z e := y.gens g z (x.gens g z e)
  os := y.os.trans x.os
/-- nothing alive is written -/
structure Kp (s s' : Shared) : Prop where
  heap : ∀ a o, s.heap.get? a = some o → s'.heap.get? a = some o
  gens : ∀ (g : Nat) (x : GenState), s.gens[g]? = some x → s'.gens[g]? = some x
  bare : AllBare s.gens → AllBare s'.gens
  os : s'.os = s.os
theorem Kp.refl {s : Shared} : Kp s s := ⟨fun _ _ e => e, fun _ _ e => e, id, rfl⟩
theorem Kp.of {s : Shared} {h' : Heap} {tk : Nat} (k : ∀ a o, s.heap.get? a = some o → h'.get? a = some o) : Kp s { s with heap := h', toks := tk } := ⟨k, fun _ _ e => e, id, rfl⟩
theorem Kp.toks {s : Shared} {tk : Nat} : Kp s { s with toks := tk } := ⟨fun _ _ e => e, fun _ _ e => e, id, rfl⟩
theorem Kp.push {s : Shared} {o : Obj} {tk : Nat} : Kp s { s with heap := s.heap.push o, toks := tk } := .of fun _ _ e => Heap.get?_push_of_some _ e
theorem Kp.go {s s' : Shared} (x : Kp s s') {W : Addr → Prop} : Go W W s s' := ⟨fun a o _ e => x.heap a o e, fun a o e => ⟨o, x.heap a o e⟩, fun _ q => .inl q, x.gens, x.os⟩

noncomputable def At (C : Cx) (h : Heap) (m : Str → Option Value) (e : Ent) (v : Value) : Prop :=
  if e.loc = true then m e.nm = some v else ∃ c, C.env.cells.lookup e.nm = some c ∧ h.IsCell c (some v)
noncomputable def SlotOk (prog : Program) (w : World) (C : Cx) (h : Heap) (F X : Addr → Prop) (m : Str → Option Value) (a : Addr) (e : Ent) : Prop := match e.sl with
  | .un => True
  | .val d => ∃ v, At C h m e v ∧ Rd h X v d
  | .own ds => At C h m e (.ref a) ∧ ¬ F a ∧ ∃ vs, h.PlainList a vs ∧ RdL h X vs.toList ds
  | .io ds => At C h m e (.ref a) ∧ ∃ vs, h.PlainList a vs ∧ RdL h X vs.toList ds
  | .itr _ ds => At C h m e (.ref a) ∧ ItOk h X a ds
  | .dic kvs => At C h m e (.ref a) ∧ ¬ F a ∧ DicOk prog w h X a kvs
  | .rdc kvs => ∃ b, At C h m e (.ref b) ∧ ¬ X b ∧ DicOk prog w h X b kvs
structure EntOk (prog : Program) (w : World) (C : Cx) (h : Heap) (F X : Addr → Prop) (m : Str → Option Value) (a : Addr) (e : Ent) : Prop where
  kind : C.env.kindOf e.nm = some (if e.loc = true then .local else .cell)
  cell : e.loc = false → ∃ c, C.env.cells.lookup e.nm = some c
  nodebug : (e.nm == ("__debug__" : Str)) = false
  slot : SlotOk prog w C h F X m a e

noncomputable abbrev Or2 (F G : Addr → Prop) : Addr → Prop := fun a => F a ∨ G a

structure Rep (prog : Program) (w : World) (H : Heap) (C : Cx) (F : Addr → Prop) (ad : Str → Addr) (σ : List Ent) (s : Shared) : Prop where
  ok : C.Ok
  top : ∀ b o, H.get? b = some o → s.heap.get? b = some o
  bare : AllBare s.gens
  nd : (σ.map (·.nm)).Nodup
  ns : ∃ m, s.heap.Ns C.env.locals m ∧ ∀ e ∈ σ, EntOk prog w C s.heap F (Or2 F (Mut C σ ad)) m (ad e.nm) e
  cells : ∀ c ∈ C.mine, ∃ v, s.heap.IsCell c v
  dl : C.env.locals ∉ C.env.cells.map (·.2)
  dn : ∀ n n' c, (n, c) ∈ C.env.cells → (n', c) ∈ C.env.cells → n = n'
  mc : ∀ c ∈ C.mine, c ∈ C.env.cells.map (·.2)
  ow : ∀ e ∈ σ, e.sl.isOwn = true → ad e.nm ≠ C.env.locals ∧ ad e.nm ∉ C.env.cells.map (·.2)
  dd : ∀ e ∈ σ, ∀ e' ∈ σ, e.sl.isOwn = true → e'.sl.isOwn = true → ad e.nm = ad e'.nm → e.nm = e'.nm
  fresh : ∀ a, Mut C σ ad a → H.get? a = none
  aliveF : ∀ a, F a → ∃ o, s.heap.get? a = some o
  cellF : ∀ c ∈ C.env.cells.map (·.2), c ∈ C.mine ∨ F c
  fl : C.fr = true → C.mine = C.env.cells.map (·.2)
  pa : ∀ e ∈ σ, e.sl.isPar = true → ad e.nm = C.par e.nm

section
variable {prog : Program} {w : World} {H : Heap} {C : Cx} {F : Addr → Prop} {ad : Str → Addr} {σ : List Ent} {s s' : Shared}

theorem At.keep {h h' : Heap} {m : Str → Option Value} {e : Ent} {v : Value} (x : At C h m e v) (k : ∀ c ∈ C.env.cells.map (·.2), ∀ o, h.get? c = some o → h'.get? c = some o) : At C h' m e v := by
  unfold At at *
  split
  · rename_i q; rw [if_pos q] at x; exact x
  · rename_i q
    rw [if_neg q] at x
    obtain ⟨c, hc, o, ho, hd⟩ := x
    exact ⟨c, hc, o, k c (List.mem_map.mpr ⟨_, mem_of_lookup hc, rfl⟩) o ho, hd⟩
theorem ItOk.stay {h h' : Heap} {X X' : Addr → Prop} {a : Addr} {ds : List PyData} (k : Stay X X' h h') (ka : ∀ o, h.get? a = some o → h'.get? a = some o) (x : ItOk h X a ds) : ItOk h' X' a ds := by
  obtain ⟨l, items, i, hi, hn, hl, hr, hz⟩ := x
  obtain ⟨o, ho, q⟩ := hl
  exact ⟨l, items, i, hi.at fun o e => ka o e, fun q => (k.new _ q).elim hn fun e => (by rw [e] at ho; cases ho), ⟨o, k.keep _ _ hn ho, q⟩, hr.stay k, hz⟩
theorem DicOk.alive {h : Heap} {X : Addr → Prop} {a : Addr} {kvs : List (Str × PyData)} (x : DicOk prog w h X a kvs) : ∃ o, h.get? a = some o := let ⟨_, _, ⟨o, _, ho, _⟩, _⟩ := x; ⟨o, ho⟩
theorem DicOk.stay {h h' : Heap} {X X' : Addr → Prop} {a : Addr} {kvs : List (Str × PyData)} (k : Stay X X' h h') (ka : ∀ o, h.get? a = some o → h'.get? a = some o) (x : DicOk prog w h X a kvs) : DicOk prog w h' X' a kvs := by
  obtain ⟨vs, ep, ⟨o, es, ho, q⟩, he, hr, hs⟩ := x
  exact ⟨vs, ep, ⟨o, es, ka o ho, q⟩, he, hr.stay k, hs⟩

/-- the slots stay, where what they stand on stays -/
theorem SlotOk.stay {h h' : Heap} {F F' X X' : Addr → Prop} {m : Str → Option Value} {a : Addr} {e : Ent} (k : Stay X X' h h') (kc : ∀ c ∈ C.env.cells.map (·.2), ∀ o, h.get? c = some o → h'.get? c = some o)
    (ka : e.sl.isOwn = true → ∀ o, h.get? a = some o → h'.get? a = some o) (kf : e.sl.isOwn = true → ¬ F a → ∀ o, h.get? a = some o → ¬ F' a) (x : SlotOk prog w C h F X m a e) : SlotOk prog w C h' F' X' m a e := by
  obtain ⟨n, l, sl⟩ := e
  cases sl with
  | un => trivial
  | val d => obtain ⟨v, q, r⟩ := x; exact ⟨v, q.keep kc, r.stay k⟩
  | own ds => obtain ⟨q, nf, vs, ⟨n, hn⟩, r⟩ := x; exact ⟨q.keep kc, kf rfl nf _ hn, vs, ⟨n, ka rfl _ hn⟩, r.stay k⟩
  | io ds => obtain ⟨q, vs, ⟨n, hn⟩, r⟩ := x; exact ⟨q.keep kc, vs, ⟨n, ka rfl _ hn⟩, r.stay k⟩
  | itr p ds => obtain ⟨q, r⟩ := x; exact ⟨q.keep kc, r.stay k (ka rfl)⟩
  | dic kvs => obtain ⟨q, nf, r⟩ := x; obtain ⟨o, ho⟩ := r.alive; exact ⟨q.keep kc, kf rfl nf o ho, r.stay k (ka rfl)⟩
  | rdc kvs => obtain ⟨b, q, nx, r⟩ := x; obtain ⟨o, ho⟩ := r.alive; exact ⟨b, q.keep kc, fun z => (k.new b z).elim nx fun e => (by rw [e] at ho; cases ho), r.stay k fun o e => k.keep b o nx e⟩

theorem Rep.aliveMut (R : Rep prog w H C F ad σ s) {a : Addr} (q : Mut C σ ad a) : ∃ o, s.heap.get? a = some o := by
  rcases q with rfl | q | ⟨e, he, ho, rfl⟩
  · obtain ⟨m, ⟨o, _, _, e, _⟩, _⟩ := R.ns; exact ⟨o, e⟩
  · obtain ⟨v, o, e, _⟩ := R.cells a q; exact ⟨o, e⟩
  · obtain ⟨m, _, q⟩ := R.ns
    have z := (q e he).slot
    obtain ⟨n, l, sl⟩ := e
    cases sl with
    | un => cases ho
    | val d => cases ho
    | own ds => obtain ⟨_, _, vs, ⟨n, hn⟩, _⟩ := z; exact ⟨_, hn⟩
    | io ds => obtain ⟨_, vs, ⟨n, hn⟩, _⟩ := z; exact ⟨_, hn⟩
    | itr p ds => obtain ⟨_, l, items, i, ⟨o, ho, _⟩, _⟩ := z; exact ⟨_, ho⟩
    | dic kvs => exact z.2.2.alive
    | rdc kvs => cases ho

/-- nothing alive is written, more may be forbidden: what was not alive -/
theorem Rep.ext {F' : Addr → Prop} (R : Rep prog w H C F ad σ s) (k : Kp s s') (hF : ∀ a, F' a → F a ∨ s.heap.get? a = none) (hF2 : ∀ a, F a → F' a) (hA : ∀ a, F' a → ∃ o, s'.heap.get? a = some o) : Rep prog w H C F' ad σ s' where
  ok := R.ok
  top b o e := k.heap _ _ (R.top b o e)
  bare := k.bare R.bare
  nd := R.nd
  ns := by
    obtain ⟨m, hm, q⟩ := R.ns
    refine ⟨m, hm.keeps k.heap, fun e he => ⟨(q e he).kind, (q e he).cell, (q e he).nodebug, (q e he).slot.stay ⟨fun a o _ z => k.heap a o z, fun a z => ?_⟩ (fun c _ o z => k.heap c o z) (fun _ o z => k.heap _ o z) fun _ nf o z f => ?_⟩⟩
    · rcases z with z | z
      · exact (hF a z).imp .inl id
      · exact .inl (.inr z)
    · rcases hF _ f with f | f
      · exact nf f
      · rw [f] at z; cases z
  cells c hc := let ⟨v, x⟩ := R.cells c hc; ⟨v, x.keeps k.heap⟩
  dl := R.dl
  dn := R.dn
  mc := R.mc
  ow := R.ow
  dd := R.dd
  fresh := R.fresh
  aliveF := hA
  cellF c hc := (R.cellF c hc).imp id (hF2 c)
  fl := R.fl
  pa := R.pa
theorem Rep.kp (R : Rep prog w H C F ad σ s) (k : Kp s s') : Rep prog w H C F ad σ s' :=
  R.ext k (fun _ q => .inl q) (fun _ q => q) fun a q => let ⟨o, e⟩ := R.aliveF a q; ⟨o, k.heap a o e⟩
end
end Mine

end
noncomputable section
open PySem PySem.W PyProof.Rows
set_option maxRecDepth 100000
set_option autoImplicit false
namespace Mine

inductive Upd (x : Str) (l : Bool) (sl : Slot) : List Ent → List Ent → Prop
  | here {sl₀ : Slot} {σ : List Ent} : Upd x l sl (⟨x, l, sl₀⟩ :: σ) (⟨x, l, sl⟩ :: σ)
  | there {e : Ent} {σ σ' : List Ent} : Upd x l sl σ σ' → Upd x l sl (e :: σ) (e :: σ')
inductive Look (x : Str) (sl : Slot) : List Ent → Prop
  | here {l : Bool} {σ : List Ent} : Look x sl (⟨x, l, sl⟩ :: σ)
  | there {e : Ent} {σ : List Ent} : Look x sl σ → Look x sl (e :: σ)
theorem Look.mem {x : Str} {sl : Slot} {σ : List Ent} (h : Look x sl σ) : ∃ l, (⟨x, l, sl⟩ : Ent) ∈ σ := by
  induction h with
  | here => exact ⟨_, .head _⟩
  | there _ ih => exact let ⟨l, q⟩ := ih; ⟨l, .tail _ q⟩
section
variable {x : Str} {l : Bool} {sl : Slot} {σ σ' : List Ent}
theorem Upd.names (h : Upd x l sl σ σ') : σ'.map (·.nm) = σ.map (·.nm) := by
  induction h with
  | here => rfl
  | there _ ih => simp only [List.map_cons, ih]
theorem Upd.old (h : Upd x l sl σ σ') : ∃ sl₀, (⟨x, l, sl₀⟩ : Ent) ∈ σ := by
  induction h with
  | here => exact ⟨_, .head _⟩
  | there _ ih => exact let ⟨q, r⟩ := ih; ⟨q, .tail _ r⟩
theorem Upd.mem (h : Upd x l sl σ σ') (nd : (σ.map (·.nm)).Nodup) : ∀ e ∈ σ', e = ⟨x, l, sl⟩ ∨ (e ∈ σ ∧ e.nm ≠ x) := by
  induction h with
  | here =>
    intro e he
    rw [List.map_cons, List.nodup_cons] at nd
    rcases List.mem_cons.mp he with rfl | he
    · exact .inl rfl
    · exact .inr ⟨.tail _ he, fun q => nd.1 (List.mem_map.mpr ⟨e, he, q⟩)⟩
  | @there e₀ σ σ' hu ih =>
    intro e he
    rw [List.map_cons, List.nodup_cons] at nd
    rcases List.mem_cons.mp he with rfl | he
    · refine .inr ⟨.head _, fun q => nd.1 ?_⟩
      obtain ⟨sl₀, r⟩ := hu.old
      exact List.mem_map.mpr ⟨_, r, q.symm⟩
    · exact (ih nd.2 e he).imp id fun q => ⟨.tail _ q.1, q.2⟩
end

section
variable {prog : Program} {w : World} {H : Heap} {C : Cx} {F : Addr → Prop} {ad : Str → Addr} {σ σ' : List Ent} {s s' : Shared}

theorem Rep.notX (R : Rep prog w H C F ad σ s) {a : Addr} (e : s.heap.get? a = none) : ¬ Or2 F (Mut C σ ad) a := fun q => by
  rcases q with q | q
  · obtain ⟨o, z⟩ := R.aliveF a q; rw [z] at e; cases e
  · obtain ⟨o, z⟩ := R.aliveMut q; rw [z] at e; cases e
theorem size_none (h : Heap) : h.get? h.objs.size = none := by
  cases e : h.get? h.objs.size with
  | none => rfl
  | some o => exact absurd (Heap.lt_size e) (Nat.lt_irrefl _)

/-- the state after a step, with what is said of the forbidden addresses then -/
noncomputable def Aft (prog : Program) (w : World) (H : Heap) (C : Cx) (F : Addr → Prop) (ad : Str → Addr) (σ : List Ent) (s : Shared) (σ' : List Ent) (s' : Shared) (P : (Addr → Prop) → Prop) : Prop :=
  Rep prog w H C F ad σ' s' ∧ Go (Mut C σ ad) (Mut C σ' ad) s s' ∧ P (Or2 F (Mut C σ' ad))
theorem Go.stay {W W' : Addr → Prop} (g : Go W W' s s') : Stay (Or2 F W) (Or2 F W') s.heap s'.heap :=
  ⟨fun a o n e => g.keep a o (fun q => n (.inr q)) e, fun a q => q.elim (fun q => .inl (.inl q)) fun q => (g.new a q).imp .inr id⟩
theorem Aft.kp (R : Rep prog w H C F ad σ s) (k : Kp s s') {P : (Addr → Prop) → Prop} (h : P (Or2 F (Mut C σ ad))) : Aft prog w H C F ad σ s σ s' P := ⟨R.kp k, k.go, h⟩
theorem Aft.here (R : Rep prog w H C F ad σ s) {P : (Addr → Prop) → Prop} (h : P (Or2 F (Mut C σ ad))) : Aft prog w H C F ad σ s σ s P := Aft.kp R .refl h
theorem Aft.mono {P Q : (Addr → Prop) → Prop} (x : Aft prog w H C F ad σ s σ' s' P) (h : ∀ X, P X → Q X) : Aft prog w H C F ad σ s σ' s' Q := ⟨x.1, x.2.1, h _ x.2.2⟩

structure Box (p : Prop) : Prop where
  of ::
  out : p

/-- one expression, evaluated -/
noncomputable def Tri (prog : Program) (w : World) (H : Heap) (C : Cx) (σ : List Ent) (e : Expr) (d : PyData) (σ' : List Ent) : Prop :=
  Box (∀ F ad s, Rep prog w H C F ad σ s → wpAny (model prog w) C.A (eval e C.env) (fun v s' => Aft prog w H C F ad σ s σ' s' fun X => Rd s'.heap X v d) (fun _ _ => False) s)

theorem Rep.at_of (R : Rep prog w H C F ad σ s) {x : Str} {sl : Slot} (hl : Look x sl σ) : ∃ l m, (⟨x, l, sl⟩ : Ent) ∈ σ ∧ s.heap.Ns C.env.locals m ∧ EntOk prog w C s.heap F (Or2 F (Mut C σ ad)) m (ad x) ⟨x, l, sl⟩ := by
  obtain ⟨l, hm⟩ := hl.mem
  obtain ⟨m, hn, q⟩ := R.ns
  exact ⟨l, m, hm, hn, q _ hm⟩
theorem eval_at (R : Rep prog w H C F ad σ s) {m : Str → Option Value} {e : Ent} {v : Value} {pos : Pos} {Q : Value → Shared → Prop} {E : Value → Shared → Prop} (hn : s.heap.Ns C.env.locals m)
    (hk : C.env.kindOf e.nm = some (if e.loc = true then .local else .cell)) (hd : (e.nm == ("__debug__" : Str)) = false) (ha : At C s.heap m e v) (h : Q v s) : wpAny (model prog w) C.A (eval (.Name e.nm pos) C.env) Q E s := by
  unfold At at ha
  refine wpAny_Name ?_ hd
  split at ha
  · rename_i q
    rw [if_pos q] at hk
    exact wpAny_loadName_local R.ok.kind hk hn ha h
  · rename_i q
    rw [if_neg q] at hk
    obtain ⟨c, hc, hv⟩ := ha
    exact wpAny_loadName_cell R.ok.kind hk hc hv h
theorem Tri.name {x : Str} {pos : Pos} {d : PyData} (hl : Look x (.val d) σ) : Tri prog w H C σ (.Name x pos) d σ := by
  refine Box.of fun F ad s R => ?_
  obtain ⟨l, m, hm, hn, q⟩ := R.at_of hl
  obtain ⟨v, ha, hr⟩ := q.slot
  exact eval_at R hn q.kind q.nodebug ha (Aft.here R hr)
theorem Tri.int {i : Int} {k pos} : Tri prog w H C σ (.Constant (.int i) k pos) (.int i) σ := Box.of fun _ _ _ R => wpAny_Constant_int (Aft.kp R .toks (.int _ _))
theorem Tri.str {x : Str} {k pos} : Tri prog w H C σ (.Constant (.str x) k pos) (.str x) σ := Box.of fun _ _ _ R => Calls.Constant_str (Aft.kp R .toks (.str _ _))
theorem Tri.bool {b : Bool} {k pos} : Tri prog w H C σ (.Constant (.bool b) k pos) (.bool b) σ := Box.of fun F ad s R => (wpAny_pure (Aft.here R (.bool b)) : wpAny (model prog w) C.A (pure (Value.bool b)) _ _ s)
theorem Tri.cNone {k pos} : Tri prog w H C σ (.Constant .none k pos) .none σ := Box.of fun F ad s R => (wpAny_pure (Aft.here R .none) : wpAny (model prog w) C.A (pure Value.none) _ _ s)

/-- storing a value under a name, whatever its slot -/
theorem store_gen {F' : Addr → Prop} {ad' : Str → Addr} (R : Rep prog w H C F' ad σ s) {x : Str} {l : Bool} {sl : Slot} {v : Value} (hu : Upd x l sl σ σ') (hl : l = true ∨ C.fr = true) (hpar : sl.isPar = false) (hF : ∀ a, F a → F' a) (hF' : ∀ a, F' a → F a ∨ (sl.isOwn = true ∧ a = ad' x))
    (had : ∀ y, y ≠ x → ad' y = ad y) (hown : sl.isOwn = true → ad' x ≠ C.env.locals ∧ ad' x ∉ C.env.cells.map (·.2) ∧ H.get? (ad' x) = none ∧ ¬ Mut C σ ad (ad' x) ∧ F' (ad' x))
    (hslot : ∀ h' m', Stay (Or2 F' (Mut C σ ad)) (Or2 F (Mut C σ' ad')) s.heap h' → (sl.isOwn = true → ∀ o, s.heap.get? (ad' x) = some o → h'.get? (ad' x) = some o) → At C h' m' ⟨x, l, sl⟩ v → SlotOk prog w C h' F (Or2 F (Mut C σ' ad')) m' (ad' x) ⟨x, l, sl⟩)
    {E : Value → Shared → Prop} : wpAny (model prog w) C.A (storeName C.env x v) (fun _ s' => ∃ k, (∀ a o, ¬ Mut C σ ad a → s.heap.get? a = some o → s'.heap.get? a = some o) ∧ (∀ a o, s.heap.get? a = some o → ∃ o', s'.heap.get? a = some o') ∧ s' = { s with heap := s'.heap, toks := k } ∧ Rep prog w H C F ad' σ' s') E s := by
  obtain ⟨m, hn, q⟩ := R.ns
  obtain ⟨sl₀, hold⟩ := hu.old
  have q₀ := q _ hold
  have sub : ∀ a, Mut C σ' ad' a → Mut C σ ad a ∨ (sl.isOwn = true ∧ a = ad' x) := by
    rintro a (rfl | z | ⟨e, he, ho, rfl⟩)
    · exact .inl (.inl rfl)
    · exact .inl (.inr (.inl z))
    · rcases hu.mem R.nd e he with rfl | ⟨he, hne⟩
      · exact .inr ⟨ho, rfl⟩
      · exact .inl (.inr (.inr ⟨e, he, ho, (had _ hne).symm⟩))
  have fin : ∀ (b : Addr) (h' : Heap) (m' : Str → Option Value) (tk : Nat), (b = C.env.locals ∨ b ∈ C.mine) → Heap.SameBut b s.heap h' → (∃ o, h'.get? b = some o) → h'.Ns C.env.locals m' → At C h' m' ⟨x, l, sl⟩ v →
      (∀ e ∈ σ, e.nm ≠ x → ∀ u, At C s.heap m e u → At C h' m' e u) → (∀ c ∈ C.mine, ∃ v, h'.IsCell c v) →
      ∃ k, (∀ a o, ¬ Mut C σ ad a → s.heap.get? a = some o → h'.get? a = some o) ∧ (∀ a o, s.heap.get? a = some o → ∃ o', h'.get? a = some o') ∧ ({ s with heap := h', toks := tk } : Shared) = { s with heap := h', toks := k } ∧ Rep prog w H C F ad' σ' { s with heap := h', toks := tk } := by
    intro b h' m' tk hb hs hob hn' hx hother hcells
    have hbM : Mut C σ ad b := hb.imp id .inl
    have keep : ∀ a o, a ≠ b → s.heap.get? a = some o → h'.get? a = some o := fun a o hab e => (hs.2 a hab).trans e
    have st : Stay (Or2 F' (Mut C σ ad)) (Or2 F (Mut C σ' ad')) s.heap h' := ⟨fun a o z e => keep a o (fun q => z (.inr (q ▸ hbM))) e, fun a z => .inl (z.elim (fun z => .inl (hF a z)) fun z => (sub a z).elim .inr fun z => .inl (z.2 ▸ (hown z.1).2.2.2.2))⟩
    have apart : ∀ e ∈ σ, e.sl.isOwn = true → ad e.nm ≠ b := fun e he ho z => by
      have w := R.ow e he ho
      rcases hb with hb | hb
      · exact w.1 (z.trans hb)
      · exact w.2 (R.mc _ (z ▸ hb))
    have newb : sl.isOwn = true → ad' x ≠ b := fun ho z => (hown ho).2.2.2.1 (z ▸ hbM)
    have hal : ∀ a o, s.heap.get? a = some o → ∃ o', h'.get? a = some o' := fun a o e => by
      by_cases hab : a = b
      · subst hab; exact hob
      · exact ⟨o, keep a o hab e⟩
    refine ⟨tk, fun a o z e => keep a o (fun q => z (q ▸ hbM)) e, hal, rfl, ?_⟩
    refine { ok := R.ok, top := fun a o e => keep a o (fun z => ?_) (R.top a o e), bare := R.bare, nd := hu.names ▸ R.nd, ns := ⟨m', hn', fun e he => ?_⟩, cells := hcells, dl := R.dl, dn := R.dn, mc := R.mc, ow := fun e he ho => ?_, dd := fun e he e' he' ho ho' z => ?_, fresh := fun a z => ?_, aliveF := fun a z => ?_, cellF := fun c hc => ?_, fl := R.fl, pa := fun e he hp => (hu.mem R.nd e he).elim (fun z => by rw [z] at hp; rw [show (⟨x, l, sl⟩ : Ent).sl.isPar = false from hpar] at hp; cases hp) fun z => (had _ z.2).trans (R.pa e z.1 hp) }
    · rw [z, R.fresh b hbM] at e; cases e
    · rcases hu.mem R.nd e he with rfl | ⟨he, hne⟩
      · exact ⟨q₀.kind, q₀.cell, q₀.nodebug, hslot h' m' st (fun ho o e => keep _ o (newb ho) e) hx⟩
      · have qe := q e he
        refine ⟨qe.kind, qe.cell, qe.nodebug, ?_⟩
        have z := qe.slot
        have ap := apart e he
        have ho := hother e he hne
        have ea := had _ hne
        obtain ⟨n, l', sl'⟩ := e
        dsimp only at ea
        rw [ea]
        cases sl' with
        | un => trivial
        | val d => obtain ⟨u, hu', hr⟩ := z; exact ⟨u, ho u hu', hr.stay st⟩
        | own ds => obtain ⟨hu', nf, vs, ⟨k, hk⟩, hr⟩ := z; exact ⟨ho _ hu', fun f => nf (hF _ f), vs, ⟨k, keep _ _ (ap rfl) hk⟩, hr.stay st⟩
        | io ds => obtain ⟨hu', vs, ⟨k, hk⟩, hr⟩ := z; exact ⟨ho _ hu', vs, ⟨k, keep _ _ (ap rfl) hk⟩, hr.stay st⟩
        | itr p ds => obtain ⟨hu', hr⟩ := z; exact ⟨ho _ hu', hr.stay st fun o e => keep _ o (ap rfl) e⟩
        | dic kvs => obtain ⟨hu', nf, hr⟩ := z; exact ⟨ho _ hu', fun f => nf (hF _ f), hr.stay st fun o e => keep _ o (ap rfl) e⟩
        | rdc kvs =>
          obtain ⟨b', hu', nx, hr⟩ := z
          obtain ⟨o', ho'⟩ := hr.alive
          exact ⟨b', ho _ hu', fun z => (st.new b' z).elim nx fun e => (by rw [e] at ho'; cases ho'), hr.stay st fun o e => st.keep b' o nx e⟩
    · rcases hu.mem R.nd e he with rfl | ⟨he, hne⟩
      · exact ⟨(hown ho).1, (hown ho).2.1⟩
      · rw [had _ hne]; exact R.ow e he ho
    · rcases hu.mem R.nd e he with rfl | ⟨he, hne⟩
      · rcases hu.mem R.nd e' he' with rfl | ⟨he', hne'⟩
        · rfl
        · rw [had _ hne'] at z
          exact absurd (.inr (.inr ⟨e', he', ho', z.symm⟩)) (hown ho).2.2.2.1
      · rcases hu.mem R.nd e' he' with rfl | ⟨he', hne'⟩
        · rw [had _ hne] at z
          exact absurd (.inr (.inr ⟨e, he, ho, z⟩)) (hown ho').2.2.2.1
        · rw [had _ hne, had _ hne'] at z
          exact R.dd e he e' he' ho ho' z
    · exact (sub a z).elim (R.fresh a) fun z => z.2 ▸ (hown z.1).2.2.1
    · obtain ⟨o, e⟩ := R.aliveF a (hF a z)
      exact hal a o e
    · refine (R.cellF c hc).imp id fun z => (hF' c z).elim id fun z => ?_
      exact absurd hc (z.2 ▸ (hown z.1).2.1)
  have kd := q₀.kind
  cases l with
  | true =>
    refine wpAny_storeName_local kd hn (fun h' hn' hs => ?_) (by rw [R.ok.kind]; rfl)
    have hcl : ∀ c v, c ∈ C.env.cells.map (·.2) → s.heap.IsCell c v → h'.IsCell c v := fun c v hc hv => hv.sameBut hs fun z => R.dl (z ▸ hc)
    refine fin C.env.locals h' _ _ (.inl rfl) hs (let ⟨o, _, _, e, _⟩ := hn'; ⟨o, e⟩) hn' (by unfold At; simp) (fun e he hne u ha => ?_) (fun c hc => let ⟨v, z⟩ := R.cells c hc; ⟨v, hcl c v (R.mc c hc) z⟩)
    unfold At at ha ⊢
    split at ha
    · rename_i z; rw [if_pos z]; show (if e.nm = x then some v else m e.nm) = _; rw [if_neg hne]; exact ha
    · rename_i z; rw [if_neg z]; exact let ⟨c, hc, hv⟩ := ha; ⟨c, hc, hcl c _ (List.mem_map.mpr ⟨_, mem_of_lookup hc, rfl⟩) hv⟩
  | false =>
    have hfr : C.fr = true := hl.resolve_left (by simp)
    obtain ⟨c, hc⟩ := q₀.cell rfl
    have hcm : (x, c) ∈ C.env.cells := mem_of_lookup hc
    have hmine : c ∈ C.mine := by rw [R.fl hfr]; exact List.mem_map.mpr ⟨_, hcm, rfl⟩
    obtain ⟨v₀, hv₀⟩ := R.cells c hmine
    refine wpAny_storeName_cell R.ok.kind kd hc hv₀ fun h' hv' hs => ?_
    have hLc : C.env.locals ≠ c := fun z => R.dl (z ▸ List.mem_map.mpr ⟨_, hcm, rfl⟩)
    refine fin c h' m _ (.inr hmine) hs (let ⟨o, e, _⟩ := hv'; ⟨o, e⟩) (hn.sameBut hs hLc) (by unfold At; rw [if_neg (by simp)]; exact ⟨c, hc, hv'⟩) (fun e he hne u ha => ?_) (fun c' hc' => ?_)
    · unfold At at ha ⊢
      split at ha
      · rename_i z; rw [if_pos z]; exact ha
      · rename_i z
        rw [if_neg z]
        obtain ⟨c', hc', hv''⟩ := ha
        exact ⟨c', hc', hv''.sameBut hs fun z => hne (R.dn _ _ c' (mem_of_lookup hc') (z ▸ hcm))⟩
    · by_cases z : c' = c
      · subst z; exact ⟨_, hv'⟩
      · obtain ⟨v, hv⟩ := R.cells c' hc'
        exact ⟨v, hv.sameBut hs z⟩
/-- storing a value under a name -/
theorem store_val (R : Rep prog w H C F ad σ s) {x : Str} {l : Bool} {v : Value} {d : PyData} (hu : Upd x l (.val d) σ σ') (hl : l = true ∨ C.fr = true) (hv : Rd s.heap (Or2 F (Mut C σ ad)) v d) {E : Value → Shared → Prop} :
    wpAny (model prog w) C.A (storeName C.env x v) (fun _ s' => Aft prog w H C F ad σ s σ' s' fun _ => True) E s := by
  refine wpAny_mono (store_gen (F := F) (ad' := ad) R hu hl rfl (fun _ z => z) (fun _ z => .inl z) (fun _ _ => rfl) (fun z => nomatch z) fun h' m' st _ ha => ⟨v, ha, hv.stay st⟩) (fun _ s' z => ?_) fun _ _ z => z
  obtain ⟨k, hk, hal, e, R'⟩ := z
  refine ⟨R', ⟨hk, hal, fun a z => ?_, fun g x z => by rw [e]; exact z, by rw [e]⟩, trivial⟩
  rcases z with rfl | z | ⟨e, he, ho, rfl⟩
  · exact .inl (.inl rfl)
  · exact .inl (.inr (.inl z))
  · rcases hu.mem R.nd e he with rfl | ⟨he, _⟩
    · cases ho
    · exact .inl (.inr (.inr ⟨e, he, ho, rfl⟩))
/-- storing what is the frame's own from there on: it was forbidden until now -/
theorem store_own {a : Addr} (R : Rep prog w H C (Or2 F (· = a)) ad σ s) {x : Str} {l : Bool} {sl : Slot} (hu : Upd x l sl σ σ') (hl : l = true ∨ C.fr = true) (ho : sl.isOwn = true) (hpar : sl.isPar = false) (hH : H.get? a = none) (hM : ¬ Mut C σ ad a) (hc : a ∉ C.env.cells.map (·.2))
    (hslot : ∀ h' m' X, Stay (Or2 (Or2 F (· = a)) (Mut C σ ad)) X s.heap h' → (∀ o, s.heap.get? a = some o → h'.get? a = some o) → At C h' m' ⟨x, l, sl⟩ (.ref a) → SlotOk prog w C h' F X m' a ⟨x, l, sl⟩) {E : Value → Shared → Prop} :
    wpAny (model prog w) C.A (storeName C.env x (.ref a)) (fun _ s' => ∃ ad', Rep prog w H C F ad' σ' s' ∧ (∀ b, Mut C σ' ad' b → Mut C σ ad b ∨ b = a) ∧ (∀ b o, ¬ Mut C σ ad b → s.heap.get? b = some o → s'.heap.get? b = some o) ∧ (∀ b o, s.heap.get? b = some o → ∃ o', s'.heap.get? b = some o') ∧ s'.gens = s.gens ∧ s'.os = s.os) E s := by
  refine wpAny_mono (store_gen (F := F) (ad' := fun y => if y = x then a else ad y) R hu hl hpar (fun _ z => .inl z) (fun b z => z.imp id fun z => ⟨ho, by simp [z]⟩) (fun y hy => by simp [hy]) (fun _ => ?_) fun h' m' st hk ha => ?_) (fun _ s' z => ?_) fun _ _ z => z
  · simp only [if_true]
    exact ⟨fun z => hM (.inl z), hc, hH, hM, .inr rfl⟩
  · simp only [if_true] at hk ⊢
    exact hslot h' m' _ st (hk ho) ha
  · obtain ⟨k, hk, hal, e, R'⟩ := z
    refine ⟨_, R', fun b z => ?_, hk, hal, by rw [e], by rw [e]⟩
    rcases z with rfl | z | ⟨e, he, ho, rfl⟩
    · exact .inl (.inl rfl)
    · exact .inl (.inr (.inl z))
    · rcases hu.mem R.nd e he with rfl | ⟨he, hne⟩
      · exact .inr (by simp)
      · refine .inl (.inr (.inr ⟨e, he, ho, by simp [hne]⟩))
end
end Mine

end
noncomputable section
open PySem PySem.W PyProof.Rows
set_option maxRecDepth 100000
set_option autoImplicit false
namespace Mine

/-- what a step that writes nothing gives back -/
noncomputable abbrev OpR (prog : Program) (w : World) (A : Around) (X : Addr → Prop) (s : Shared) (t : Sem Value) (d : PyData) : Prop :=
  wpAny (model prog w) A t (fun r s' => Kp s s' ∧ Rd s'.heap X r d) (fun _ _ => False) s
structure AOk (A : Around) : Prop where
  hh : A.handled = none
  room : A.depth < recursionLimit
  units : A.units + 200 < cLine
noncomputable abbrev New (X : Addr → Prop) (s : Shared) : Prop := ∀ a, s.heap.get? a = none → ¬ X a
/-- a rule of two values -/
noncomputable def R2 (prog : Program) (w : World) (f : Value → Value → Sem Value) (da db d : PyData) : Prop :=
  ∀ A X s v u, AOk A → New X s → Rd s.heap X v da → Rd s.heap X u db → OpR prog w A X s (f v u) d
noncomputable def R1 (prog : Program) (w : World) (f : Value → Sem Value) (da d : PyData) : Prop :=
  ∀ A X s v, AOk A → New X s → Rd s.heap X v da → OpR prog w A X s (f v) d
noncomputable def R1b (prog : Program) (w : World) (f : Value → Sem Bool) (da : PyData) (b : Bool) : Prop :=
  ∀ A X s v, AOk A → New X s → Rd s.heap X v da → wpAny (model prog w) A (f v) (fun r s' => Kp s s' ∧ r = b) (fun _ _ => False) s

section
variable {prog : Program} {w : World} {H : Heap} {C : Cx} {F : Addr → Prop} {ad : Str → Addr} {σ σ₁ σ₂ σ' : List Ent} {s s' : Shared}

theorem Cx.Ok.a (h : C.Ok) : AOk C.A := ⟨h.hh, by have := h.room; lia, by have := h.units; lia⟩
theorem Rep.new (R : Rep prog w H C F ad σ s) : New (Or2 F (Mut C σ ad)) s := fun _ e => R.notX e
theorem Kp.stay {X : Addr → Prop} (k : Kp s s') : Stay X X s.heap s'.heap := ⟨fun a o _ e => k.heap a o e, fun _ q => .inl q⟩

/-- after a step, a step more -/
theorem Aft.then {P : (Addr → Prop) → Prop} {s₁ : Shared} (g : Go (Mut C σ ad) (Mut C σ₁ ad) s s₁) (x : Aft prog w H C F ad σ₁ s₁ σ' s' P) : Aft prog w H C F ad σ s σ' s' P :=
  ⟨x.1, g.trans x.2.1, x.2.2⟩
theorem Tri.bin {l r : Expr} {op : Operator} {pos : Pos} {da db d : PyData} (hl : Tri prog w H C σ l da σ₁) (hr : Tri prog w H C σ₁ r db σ₂) (h : R2 prog w (binaryOp op) da db d) : Tri prog w H C σ (.BinOp l op r pos) d σ₂ := by
  refine Box.of fun F ad s R => ?_
  refine wpAny_BinOp (wpAny_mono (hl.out F ad s R) (fun v s₁ x => ?_) fun _ _ z => z)
  obtain ⟨R₁, g₁, hv⟩ := x
  refine wpAny_mono (hr.out F ad s₁ R₁) (fun u s₂ y => ?_) fun _ _ z => z
  obtain ⟨R₂, g₂, hu⟩ := y
  refine wpAny_mono (h C.A _ s₂ v u R₂.ok.a R₂.new (hv.stay g₂.stay) hu) (fun q s₃ z => ?_) fun _ _ z => z
  exact Aft.then g₁ (Aft.then g₂ (Aft.kp R₂ z.1 z.2))
theorem Tri.cmp {l r : Expr} {op : CmpOp} {pos : Pos} {da db d : PyData} (hl : Tri prog w H C σ l da σ₁) (hr : Tri prog w H C σ₁ r db σ₂) (h : R2 prog w (compareOp op) da db d) (hm : behindInMarks op r = false := by rfl) :
    Tri prog w H C σ (.Compare l [op] [r] pos) d σ₂ := by
  refine Box.of fun F ad s R => ?_
  refine wpAny_Compare1 (wpAny_mono (hl.out F ad s R) (fun v s₁ x => ?_) fun _ _ z => z) hm
  obtain ⟨R₁, g₁, hv⟩ := x
  refine wpAny_mono (hr.out F ad s₁ R₁) (fun u s₂ y => ?_) fun _ _ z => z
  obtain ⟨R₂, g₂, hu⟩ := y
  refine wpAny_mono (h C.A _ s₂ v u R₂.ok.a R₂.new (hv.stay g₂.stay) hu) (fun q s₃ z => ?_) fun _ _ z => z
  exact Aft.then g₁ (Aft.then g₂ (Aft.kp R₂ z.1 z.2))
theorem Tri.una {x : Expr} {op : UnaryOp} {pos : Pos} {da d : PyData} (hl : Tri prog w H C σ x da σ₁) (h : R1 prog w (unaryOp op) da d) : Tri prog w H C σ (.UnaryOp op x pos) d σ₁ := by
  refine Box.of fun F ad s R => ?_
  refine wpAny_UnaryOp (wpAny_mono (hl.out F ad s R) (fun v s₁ x => ?_) fun _ _ z => z)
  obtain ⟨R₁, g₁, hv⟩ := x
  refine wpAny_mono (h C.A _ s₁ v R₁.ok.a R₁.new hv) (fun q s₃ z => ?_) fun _ _ z => z
  exact Aft.then g₁ (Aft.kp R₁ z.1 z.2)

/-! tests -/
noncomputable def TriT (prog : Program) (w : World) (H : Heap) (C : Cx) (σ : List Ent) (e : Expr) (b : Bool) (σ' : List Ent) : Prop :=
  Box (∀ F ad s, Rep prog w H C F ad σ s → wpAny (model prog w) C.A (isTrue e C.env (eval e C.env)) (fun r s' => r = b ∧ Aft prog w H C F ad σ s σ' s' fun _ => True) (fun _ _ => False) s)
theorem TriT.cmp {l r : Expr} {op : CmpOp} {pos : Pos} {da db : PyData} {b : Bool} (hl : Tri prog w H C σ l da σ₁) (hr : Tri prog w H C σ₁ r db σ₂) (h : R2 prog w (compareOp op) da db (.bool b)) (hm : behindInMarks op r = false := by rfl) :
    TriT prog w H C σ (.Compare l [op] [r] pos) b σ₂ := by
  refine Box.of fun F ad s R => ?_
  refine wpAny_isTrue_Compare1 (wpAny_mono (hl.out F ad s R) (fun v s₁ x => ?_) fun _ _ z => z) hm
  obtain ⟨R₁, g₁, hv⟩ := x
  refine wpAny_mono (hr.out F ad s₁ R₁) (fun u s₂ y => ?_) fun _ _ z => z
  obtain ⟨R₂, g₂, hu⟩ := y
  refine wpAny_mono (h C.A _ s₂ v u R₂.ok.a R₂.new (hv.stay g₂.stay) hu) (fun q s₃ z => ?_) fun _ _ z => z
  obtain ⟨k, hq⟩ := z
  cases hq
  exact wpAny_truthy_bool ⟨rfl, Aft.then g₁ (Aft.then g₂ (Aft.kp R₂ k trivial))⟩
theorem TriT.not {x : Expr} {pos : Pos} {b : Bool} (h : TriT prog w H C σ x b σ₁) : TriT prog w H C σ (.UnaryOp .Not x pos) (!b) σ₁ := by
  refine Box.of fun F ad s R => ?_
  exact isTrue_not (wpAny_mono (h.out F ad s R) (fun r s' z => ⟨by rw [z.1], z.2⟩) fun _ _ z => z)
theorem TriT.val {e : Expr} {d : PyData} {b : Bool} (he : Tri prog w H C σ e d σ₁) (h : R1b prog w truthy d b)
    (hp : isTrue e C.env (eval e C.env) = (do let v ← eval e C.env; standAt e.pos; holding [v] (truthy v)) := by rfl) : TriT prog w H C σ e b σ₁ := by
  refine Box.of fun F ad s R => ?_
  refine isTrue_plain (wpAny_mono (he.out F ad s R) (fun v s₁ x => ?_) fun _ _ z => z) hp
  obtain ⟨R₁, g₁, hv⟩ := x
  exact wpAny_mono (h C.A _ s₁ v R₁.ok.a R₁.new hv) (fun r s₂ z => ⟨z.2, Aft.then g₁ (Aft.kp R₁ z.1 trivial)⟩) fun _ _ z => z
theorem wpAny_allTrue_nil {M : Model} {A : Around} {E : Value → Shared → Prop} {op : BoolOp} {env : Env} {Q : Bool → Shared → Prop} (h : Q (op == .And) s) : wpAny M A (allTrue op [] env) Q E s := wpAny_pure h
theorem TriT.or2 {x y : Expr} {pos : Pos} {a b : Bool} (hx : TriT prog w H C σ x a σ₁) (hy : a = false → TriT prog w H C σ₁ y b σ₂) (hn : a = true → σ₁ = σ₂) : TriT prog w H C σ (.BoolOp .Or [x, y] pos) (a || b) σ₂ := by
  refine Box.of fun F ad s R => ?_
  rw [arm_isTrue_BoolOp, arm_allTrue_cons]
  refine wpAny_bind (wpAny_mono (hx.out F ad s R) (fun r s₁ z => ?_) fun _ _ z => z)
  obtain ⟨rfl, R₁, g₁, _⟩ := z
  cases r with
  | true => exact wpAny_pure ⟨rfl, by rw [← hn rfl]; exact ⟨R₁, g₁, trivial⟩⟩
  | false =>
    show wpAny _ _ (allTrue .Or [y] C.env) _ _ _
    rw [arm_allTrue_cons]
    refine wpAny_bind (wpAny_mono ((hy rfl).out F ad s₁ R₁) (fun r s₂ z => ?_) fun _ _ z => z)
    obtain ⟨rfl, q⟩ := z
    cases r with
    | true => exact wpAny_pure ⟨rfl, Aft.then g₁ q⟩
    | false => exact wpAny_allTrue_nil ⟨rfl, Aft.then g₁ q⟩

/-! if expressions -/
theorem Tri.ite {t b o : Expr} {pos : Pos} {c : Bool} {d : PyData} (ht : TriT prog w H C σ t c σ₁) (hb : c = true → Tri prog w H C σ₁ b d σ₂) (ho : c = false → Tri prog w H C σ₁ o d σ₂) : Tri prog w H C σ (.IfExp t b o pos) d σ₂ := by
  refine Box.of fun F ad s R => ?_
  rw [arm_eval_IfExp]
  refine wpAny_bind (wpAny_mono (ht.out F ad s R) (fun r s₁ z => ?_) fun _ _ z => z)
  obtain ⟨rfl, R₁, g₁, _⟩ := z
  cases r with
  | true => exact wpAny_mono ((hb rfl).out F ad s₁ R₁) (fun v s₂ z => Aft.then g₁ z) fun _ _ z => z
  | false => exact wpAny_mono ((ho rfl).out F ad s₁ R₁) (fun v s₂ z => Aft.then g₁ z) fun _ _ z => z

/-! several expressions, one after the other -/
noncomputable def TriL (prog : Program) (w : World) (H : Heap) (C : Cx) (σ : List Ent) (es : List Expr) (ds : List PyData) (σ' : List Ent) : Prop :=
  Box (∀ F ad s pos, Rep prog w H C F ad σ s → wpAny (model prog w) C.A (spliced (backTo pos (starEach es C.env))) (fun vs s' => Aft prog w H C F ad σ s σ' s' fun X => RdL s'.heap X vs ds) (fun _ _ => False) s)
theorem TriL.nil : TriL prog w H C σ [] [] σ := Box.of fun _ _ _ _ R => Calls.spliced_nil (Aft.here R .nil)
theorem TriL.cons {e : Expr} {es : List Expr} {d : PyData} {ds : List PyData} (he : Tri prog w H C σ e d σ₁) (hs : TriL prog w H C σ₁ es ds σ₂) (hx : starEach (e :: es) C.env = (false, eval e C.env) :: starEach es C.env := by rfl) :
    TriL prog w H C σ (e :: es) (d :: ds) σ₂ := by
  refine Box.of fun F ad s pos R => ?_
  rw [hx]
  show wpAny _ _ (spliced ((false, eval e C.env) :: backTo pos (starEach es C.env))) _ _ _
  refine Calls.spliced_cons (wpAny_mono (he.out F ad s R) (fun v s₁ x => ?_) fun _ _ z => z)
  obtain ⟨R₁, g₁, hv⟩ := x
  refine wpAny_mono (hs.out F ad s₁ pos R₁) (fun vs s₂ y => ?_) fun _ _ z => z
  obtain ⟨R₂, g₂, hvs⟩ := y
  exact ⟨R₂, g₁.trans g₂, .cons (hv.stay g₂.stay) hvs⟩
theorem rd_tuple {A : Around} {X : Addr → Prop} {vs : List Value} {ds : List PyData} (hn : New X s) (h : RdL s.heap X vs ds) (hz : ds.length ≤ sizeLine) : OpR prog w A X s (newTuple vs) (.tuple ds) :=
  wpAny_newObj_type ⟨.push, .tuple (hn _ (size_none _)) (Heap.get?_push_size _ rfl) rfl rfl (by rw [List.toList_toArray]; exact h.stay (Kp.push (tk := s.toks)).stay)⟩ (by show vs.toArray.size ≤ sizeLine; rw [List.size_toArray, h.length]; exact hz)
theorem rd_list {A : Around} {X : Addr → Prop} {vs : List Value} {ds : List PyData} (hn : New X s) (h : RdL s.heap X vs ds) (hz : ds.length ≤ sizeLine) : OpR prog w A X s (newList vs) (.list ds) :=
  wpAny_newObj_type ⟨.push, .list (hn _ (size_none _)) (Heap.get?_push_size _ rfl) rfl rfl (by rw [List.toList_toArray]; exact h.stay (Kp.push (tk := s.toks)).stay)⟩ (by show vs.toArray.size ≤ sizeLine; rw [List.size_toArray, h.length]; exact hz)
theorem Tri.tuple {es : List Expr} {k : Nat} {pos : Pos} {ds : List PyData} (h : TriL prog w H C σ es ds σ₁) (hz : ds.length ≤ sizeLine := by decide) : Tri prog w H C σ (.Tuple es k pos) (.tuple ds) σ₁ := by
  refine Box.of fun F ad s R => ?_
  refine Tuple_ (wpAny_mono (h.out F ad s pos R) (fun vs s₁ x => ?_) fun _ _ z => z)
  obtain ⟨R₁, g₁, hv⟩ := x
  exact wpAny_mono (rd_tuple R₁.new hv hz) (fun r s₂ z => Aft.then g₁ (Aft.kp R₁ z.1 z.2)) fun _ _ z => z
theorem Tri.list {es : List Expr} {pos : Pos} {ds : List PyData} (h : TriL prog w H C σ es ds σ₁) (hz : ds.length ≤ sizeLine := by decide) : Tri prog w H C σ (.List es pos) (.list ds) σ₁ := by
  refine Box.of fun F ad s R => ?_
  refine List_ (wpAny_mono (h.out F ad s pos R) (fun vs s₁ x => ?_) fun _ _ z => z)
  obtain ⟨R₁, g₁, hv⟩ := x
  exact wpAny_mono (rd_list R₁.new hv hz) (fun r s₂ z => Aft.then g₁ (Aft.kp R₁ z.1 z.2)) fun _ _ z => z

/-! ### the operators -/
theorem add_ii {a b : Int} : R2 prog w (binaryOp .Add) (.int a) (.int b) (.int (a + b)) := by
  intro A X s v u hA hn hv hu; (first | obtain ⟨_, rfl⟩ := hv.inv | obtain rfl := hv.inv); (first | obtain ⟨_, rfl⟩ := hu.inv | obtain rfl := hu.inv); exact add_int ⟨.toks, .int _ _⟩
theorem sub_ii {a b : Int} : R2 prog w (binaryOp .Sub) (.int a) (.int b) (.int (a - b)) := by
  intro A X s v u hA hn hv hu; (first | obtain ⟨_, rfl⟩ := hv.inv | obtain rfl := hv.inv); (first | obtain ⟨_, rfl⟩ := hu.inv | obtain rfl := hu.inv); exact sub_int ⟨.toks, .int _ _⟩
theorem mul_ii {a b : Int} (h : Builtin.Int.intBits a ≤ 64 ∨ Builtin.Int.intBits b ≤ 64) : R2 prog w (binaryOp .Mult) (.int a) (.int b) (.int (a * b)) := by
  intro A X s v u hA hn hv hu; (first | obtain ⟨_, rfl⟩ := hv.inv | obtain rfl := hv.inv); (first | obtain ⟨_, rfl⟩ := hu.inv | obtain rfl := hu.inv); exact mul_int ⟨.toks, .int _ _⟩ (h.elim .of_left .of_right)
theorem fdiv_ii {a b : Int} (hb : b ≠ 0) (hp : Builtin.divisionGoesByPylong a b = false) : R2 prog w (binaryOp .FloorDiv) (.int a) (.int b) (.int (a.fdiv b)) := by
  intro A X s v u hA hn hv hu; (first | obtain ⟨_, rfl⟩ := hv.inv | obtain rfl := hv.inv); (first | obtain ⟨_, rfl⟩ := hu.inv | obtain rfl := hu.inv); exact floordiv_int hb ⟨.toks, .int _ _⟩ (.inl hp)
theorem mod_ii {a b : Int} (hb : b ≠ 0) : R2 prog w (binaryOp .Mod) (.int a) (.int b) (.int (a.fmod b)) := by
  intro A X s v u hA hn hv hu; (first | obtain ⟨_, rfl⟩ := hv.inv | obtain rfl := hv.inv); (first | obtain ⟨_, rfl⟩ := hu.inv | obtain rfl := hu.inv); exact mod_int' hb ⟨.toks, .int _ _⟩
theorem lsh_ii {a n : Int} (h0 : 0 ≤ n) (h1 : n ≤ 1000000) (h2 : a.natAbs < 2 ^ 64) : R2 prog w (binaryOp .LShift) (.int a) (.int n) (.int (a * 2 ^ n.toNat)) := by
  intro A X s v u hA hn hv hu; (first | obtain ⟨_, rfl⟩ := hv.inv | obtain rfl := hv.inv); (first | obtain ⟨_, rfl⟩ := hu.inv | obtain rfl := hu.inv); exact lshift_int_small h0 h1 h2 ⟨.toks, .int _ _⟩
theorem and_ii {a b : Int} : R2 prog w (binaryOp .BitAnd) (.int a) (.int b) (.int (Builtin.bitAnd a b)) := by
  intro A X s v u hA hn hv hu; (first | obtain ⟨_, rfl⟩ := hv.inv | obtain rfl := hv.inv); (first | obtain ⟨_, rfl⟩ := hu.inv | obtain rfl := hu.inv); exact and_int ⟨.toks, .int _ _⟩
theorem pow_ii {a n : Int} (h0 : 0 ≤ n) (h1 : (Builtin.Int.intBits a : Int) * n ≤ 2 ^ 27) : R2 prog w (binaryOp .Pow) (.int a) (.int n) (.int (a ^ n.toNat)) := by
  intro A X s v u hA hn hv hu; (first | obtain ⟨_, rfl⟩ := hv.inv | obtain rfl := hv.inv); (first | obtain ⟨_, rfl⟩ := hu.inv | obtain rfl := hu.inv); exact pow_int h0 h1 ⟨.toks, .int _ _⟩
theorem add_ss {x y : Str} (h : x.length + y.length ≤ sizeLine) : R2 prog w (binaryOp .Add) (.str x) (.str y) (.str (x ++ y)) := by
  intro A X s v u hA hn hv hu; (first | obtain ⟨_, rfl⟩ := hv.inv | obtain rfl := hv.inv); (first | obtain ⟨_, rfl⟩ := hu.inv | obtain rfl := hu.inv); exact add_str (fun t' tk => ⟨.toks, .str _ _⟩) h
theorem add_ll {xs ys : List PyData} (h : xs.length + ys.length ≤ sizeLine) : R2 prog w (binaryOp .Add) (.list xs) (.list ys) (.list (xs ++ ys)) := by
  intro A X s v u hA hn hv hu
  obtain ⟨a, o, vs, n, rfl, na, ho, hc, hd, hr⟩ := hv.inv
  obtain ⟨b, o', ws, n', rfl, nb, ho', hc', hd', hr'⟩ := hu.inv
  obtain ⟨cls, dd, data, sl⟩ := o
  obtain ⟨cls2, dd2, data2, sl2⟩ := o'
  simp only at hc hd hc' hd'
  subst hc hd hc' hd'
  refine concat_meets ⟨_, ho, rfl⟩ ⟨_, ho', rfl⟩ noFill_list_add seq_list_add PySem.F.slot_list_add PySem.F.entry_list_add (PySem.F.args_list_add_2 _ _) (list_addW a b vs ws n n' dd dd2 sl sl2 ?_) ⟨ho, ho', ?_⟩
  · have e1 := hr.length; have e2 := hr'.length
    simp only [Array.length_toList] at e1 e2
    lia
  · refine ⟨.push, .list (hn _ (size_none _)) (Heap.get?_push_size _ rfl) rfl rfl ?_⟩
    rw [Array.toList_append]
    exact (hr.append hr').stay (Kp.push (tk := s.toks)).stay
theorem RdL.rep {h : Heap} {X : Addr → Prop} {vs : List Value} {ds : List PyData} (x : RdL h X vs ds) : ∀ n, RdL h X (List.replicate n vs).flatten (List.replicate n ds).flatten
  | 0 => .nil
  | n + 1 => by rw [List.replicate_succ, List.replicate_succ, List.flatten_cons, List.flatten_cons]; exact x.append (x.rep n)
theorem neg_i {a : Int} : R1 prog w (unaryOp .USub) (.int a) (.int (-a)) := by
  intro A X s v hA hn hv; (first | obtain ⟨_, rfl⟩ := hv.inv | obtain rfl := hv.inv); exact neg_int ⟨.toks, .int _ _⟩

theorem lt_ii {a b : Int} : R2 prog w (compareOp .Lt) (.int a) (.int b) (.bool (decide (a < b))) := by
  intro A X s v u hA hn hv hu; (first | obtain ⟨_, rfl⟩ := hv.inv | obtain rfl := hv.inv); (first | obtain ⟨_, rfl⟩ := hu.inv | obtain rfl := hu.inv); exact lt_int ⟨.refl, .bool _⟩
theorem gt_ii {a b : Int} : R2 prog w (compareOp .Gt) (.int a) (.int b) (.bool (decide (b < a))) := by
  intro A X s v u hA hn hv hu; (first | obtain ⟨_, rfl⟩ := hv.inv | obtain rfl := hv.inv); (first | obtain ⟨_, rfl⟩ := hu.inv | obtain rfl := hu.inv); exact gt_int ⟨.refl, .bool _⟩
theorem le_ii {a b : Int} : R2 prog w (compareOp .LtE) (.int a) (.int b) (.bool (decide (a ≤ b))) := by
  intro A X s v u hA hn hv hu; (first | obtain ⟨_, rfl⟩ := hv.inv | obtain rfl := hv.inv); (first | obtain ⟨_, rfl⟩ := hu.inv | obtain rfl := hu.inv); exact le_int ⟨.refl, .bool _⟩
theorem ge_ii {a b : Int} : R2 prog w (compareOp .GtE) (.int a) (.int b) (.bool (decide (b ≤ a))) := by
  intro A X s v u hA hn hv hu; (first | obtain ⟨_, rfl⟩ := hv.inv | obtain rfl := hv.inv); (first | obtain ⟨_, rfl⟩ := hu.inv | obtain rfl := hu.inv); exact ge_int ⟨.refl, .bool _⟩
theorem eq_ii {a b : Int} : R2 prog w (compareOp .Eq) (.int a) (.int b) (.bool (a == b)) := by
  intro A X s v u hA hn hv hu; (first | obtain ⟨_, rfl⟩ := hv.inv | obtain rfl := hv.inv); (first | obtain ⟨_, rfl⟩ := hu.inv | obtain rfl := hu.inv); exact eq_int ⟨.refl, .bool _⟩
theorem ne_ii {a b : Int} : R2 prog w (compareOp .NotEq) (.int a) (.int b) (.bool (a != b)) := by
  intro A X s v u hA hn hv hu; (first | obtain ⟨_, rfl⟩ := hv.inv | obtain rfl := hv.inv); (first | obtain ⟨_, rfl⟩ := hu.inv | obtain rfl := hu.inv); exact ne_int ⟨.refl, .bool _⟩
theorem eq_ss {a b : Str} : R2 prog w (compareOp .Eq) (.str a) (.str b) (.bool (a == b)) := by
  intro A X s v u hA hn hv hu; (first | obtain ⟨_, rfl⟩ := hv.inv | obtain rfl := hv.inv); (first | obtain ⟨_, rfl⟩ := hu.inv | obtain rfl := hu.inv); exact eq_str ⟨.refl, .bool _⟩
theorem is_bb {a b : Bool} : R2 prog w (compareOp .Is) (.bool a) (.bool b) (.bool (a == b)) := by
  intro A X s v u hA hn hv hu; (first | obtain ⟨_, rfl⟩ := hv.inv | obtain rfl := hv.inv); (first | obtain ⟨_, rfl⟩ := hu.inv | obtain rfl := hu.inv); exact is_bool ⟨.refl, .bool _⟩
theorem is_nn : R2 prog w (compareOp .Is) .none .none (.bool true) := by
  intro A X s v u hA hn hv hu; (first | obtain ⟨_, rfl⟩ := hv.inv | obtain rfl := hv.inv); (first | obtain ⟨_, rfl⟩ := hu.inv | obtain rfl := hu.inv); exact is_none_none ⟨.refl, .bool _⟩
theorem is_in {a : Int} : R2 prog w (compareOp .Is) (.int a) .none (.bool false) := by
  intro A X s v u hA hn hv hu; (first | obtain ⟨_, rfl⟩ := hv.inv | obtain rfl := hv.inv); (first | obtain ⟨_, rfl⟩ := hu.inv | obtain rfl := hu.inv); exact is_int_none ⟨.refl, .bool _⟩
theorem eq_dd {a b : PyData} (ha : SeqAt.shaped a = true) (hb : SeqAt.shaped b = true) : R2 prog w (compareOp .Eq) a b (.bool (a.eqv b)) := by
  intro A X s v u hA hn hv hu
  obtain ⟨_, ra⟩ := hv.reads
  obtain ⟨_, rb⟩ := hu.reads
  exact eq_dataH ra rb ha hb (by have := hA.units; lia) ⟨.refl, .bool _⟩
theorem ne_dd {a b : PyData} (ha : SeqAt.shaped a = true) (hb : SeqAt.shaped b = true) : R2 prog w (compareOp .NotEq) a b (.bool (!a.eqv b)) := by
  intro A X s v u hA hn hv hu
  obtain ⟨_, ra⟩ := hv.reads
  obtain ⟨_, rb⟩ := hu.reads
  exact ne_dataH ra rb ha hb (by have := hA.units; lia) ⟨.refl, .bool _⟩
theorem truthy_i {a : Int} : R1b prog w truthy (.int a) (a != 0) := by
  intro A X s v hA hn hv; (first | obtain ⟨_, rfl⟩ := hv.inv | obtain rfl := hv.inv); exact truthy_int ⟨.refl, rfl⟩
theorem truthy_b {a : Bool} : R1b prog w truthy (.bool a) a := by
  intro A X s v hA hn hv; (first | obtain ⟨_, rfl⟩ := hv.inv | obtain rfl := hv.inv); exact wpAny_truthy_bool ⟨.refl, rfl⟩
end
end Mine

end
noncomputable section
open PySem PySem.W PyProof.Rows
set_option maxRecDepth 100000
set_option autoImplicit false
namespace Mine

noncomputable def pickL {α : Type} (lo hi st : Option Int) (ds : List α) : List α :=
  (sliceRange (sliceBounds lo hi st ds.length).1 (sliceBounds lo hi st ds.length).2.1 (sliceBounds lo hi st ds.length).2.2).filterMap (ds[·]?)
theorem RdL.filterMap {h : Heap} {X : Addr → Prop} {vs : List Value} {ds : List PyData} (x : RdL h X vs ds) : ∀ is : List Nat, RdL h X (is.filterMap (vs[·]?)) (is.filterMap (ds[·]?))
  | [] => .nil
  | i :: is => by
    rw [List.filterMap_cons, List.filterMap_cons]
    cases e : ds[i]? with
    | none =>
      have : vs[i]? = none := by
        rw [List.getElem?_eq_none_iff] at e ⊢; rw [x.length]; exact e
      rw [this]; exact x.filterMap is
    | some d =>
      obtain ⟨v, hv, hr⟩ := x.get e
      rw [hv]; exact .cons hr (x.filterMap is)
theorem RdL.pick {h : Heap} {X : Addr → Prop} {vs : Array Value} {ds : List PyData} (x : RdL h X vs.toList ds) (lo hi st : Option Int) : RdL h X (slicePick vs lo hi st).toList (pickL lo hi st ds) := by
  unfold slicePick pickL
  have e : vs.size = ds.length := by have := x.length; simpa using this
  rw [List.toList_toArray, e]
  have : (fun i : Nat => vs[i]?) = fun i => vs.toList[i]? := by funext i; simp
  rw [this]
  exact x.filterMap _

section
variable {prog : Program} {w : World} {H : Heap} {C : Cx} {F : Addr → Prop} {ad : Str → Addr} {σ σ₁ σ₂ σ₃ σ' : List Ent} {s s' : Shared}

/-- a rule for an item -/
noncomputable def RI (prog : Program) (w : World) (da db d : PyData) : Prop :=
  ∀ A X s v u, AOk A → New X s → Rd s.heap X v da → Rd s.heap X u db → (∃ T id, typeLookup (.type T) (Str.ofString "__getitem__") = pure (some (.builtin id)) ∧ s.TypeIs v T) ∧ OpR prog w A X s (getItem v u) d
theorem Tri.item {value slice : Expr} {pos : Pos} {da db d : PyData} (hv : Tri prog w H C σ value da σ₁) (hi : Tri prog w H C σ₁ slice db σ₂) (h : RI prog w da db d)
    (hs : ∀ o i, subscripted slice false o i = operate [o, i] (getItem o i) := by intro _ _; rfl) : Tri prog w H C σ (.Subscript value slice pos) d σ₂ := by
  refine Box.of fun F ad s R => ?_
  refine Subscript_ (wpAny_mono (hv.out F ad s R) (fun v s₁ x => ?_) fun _ _ z => z)
  obtain ⟨R₁, g₁, hv⟩ := x
  refine wpAny_mono (hi.out F ad s₁ R₁) (fun u s₂ y => ?_) fun _ _ z => z
  obtain ⟨R₂, g₂, hu⟩ := y
  obtain ⟨⟨T, id, hl, hT⟩, h⟩ := h C.A _ s₂ v u R₂.ok.a R₂.new (hv.stay g₂.stay) hu
  exact tail_any hT hl (wpAny_mono h (fun q s₃ z => Aft.then g₁ (Aft.then g₂ (Aft.kp R₂ z.1 z.2))) fun _ _ z => z) (hs v u)
theorem seqIndex_of {k : Int} {n : Nat} (h0 : 0 ≤ k) (h : k.toNat < n) : seqIndex? k n = some k.toNat := by
  unfold seqIndex?
  simp
  lia
theorem item_li {ds : List PyData} {k : Int} {d : PyData} (h0 : 0 ≤ k) (h1 : k < 2 ^ 63) (h : ds[k.toNat]? = some d) : RI prog w (.list ds) (.int k) d := by
  intro A X s v u hA hn hv hu
  obtain ⟨a, o, vs, n, rfl, na, ho, hc, hd, hr⟩ := hv.inv
  cases hu
  obtain ⟨x, hx, hr⟩ := hr.get h
  have hl : s.heap.IsList a vs := ⟨o, ho, hc, n, hd⟩
  exact ⟨⟨_, _, slot_list_getitem.lookup, hl.typeIs⟩, wpAny_getItem_list hl h0 h1 (by simpa using hx) ⟨.refl, hr⟩⟩
theorem item_ti {ds : List PyData} {k : Int} {d : PyData} (h0 : 0 ≤ k) (h1 : k < 2 ^ 63) (h : ds[k.toNat]? = some d) : RI prog w (.tuple ds) (.int k) d := by
  intro A X s v u hA hn hv hu
  obtain ⟨a, o, vs, n, rfl, na, ho, hc, hd, hr⟩ := hv.inv
  cases hu
  obtain ⟨x, hx, hr⟩ := hr.get h
  have hl : IsTup s.heap a vs := ⟨o, ho, hc, n, hd⟩
  have hlt : k.toNat < vs.size := by
    have := (List.getElem?_eq_some_iff.mp hx).1
    simpa using this
  exact ⟨⟨_, _, slot_tuple_getitem.lookup, hl.typeIs⟩, getItem_tuple (j := k.toNat) hl (by lia) h1 (seqIndex_of h0 (by lia)) (by simpa using hx) ⟨.refl, hr⟩⟩
theorem item_si {x : Str} {k : Int} {c : Nat} (h0 : 0 ≤ k) (h1 : k < 2 ^ 63) (h : x.cps[k.toNat]? = some c) : RI prog w (.str x) (.int k) (.str ⟨#[c]⟩) := by
  intro A X s v u hA hn hv hu
  cases hv
  cases hu
  rename_i t u
  have hlt : k.toNat < x.cps.size := (Array.getElem?_eq_some_iff.mp h).1
  have hc : Txt.charAt x k = some c := by
    unfold Txt.charAt
    rw [seqIndex_of h0 (show k.toNat < x.length from hlt)]
    exact h
  have hi : ItemOn (model prog w) A (fun _ _ => False) (.str x t) (.int k u) (fun r s' => Kp s s' ∧ Rd s'.heap X r (.str ⟨#[c]⟩)) s :=
    SB.item (by unfold fitsSsize; simp; lia) (by rw [hc]; rfl) (by unfold Txt.item; rw [hc]; exact ⟨.toks, .str _ _⟩)
  obtain ⟨T, id, hl, hT, hg⟩ := hi
  exact ⟨⟨T, id, hl, hT⟩, hg⟩

/-! slices -/
noncomputable def TriP (prog : Program) (w : World) (H : Heap) (C : Cx) (σ : List Ent) : Option Expr → Option Int → List Ent → Prop
  | none, p, σ' => p = none ∧ σ' = σ
  | some e, p, σ' => ∃ i, p = some i ∧ Tri prog w H C σ e (.int i) σ'
theorem TriP.run {e : Option Expr} {p : Option Int} (h : TriP prog w H C σ e p σ₁) (R : Rep prog w H C F ad σ s) :
    wpAny (model prog w) C.A (valueOrNone (evalOpt e C.env)) (fun v s' => Aft prog w H C F ad σ s σ₁ s' fun _ => ∃ q : Option (Int × Tok), q.map (·.1) = p ∧ v = partValue q) (fun _ _ => False) s := by
  cases e with
  | none =>
    obtain ⟨rfl, rfl⟩ := h
    exact wpAny_pure (Aft.here R ⟨none, rfl, rfl⟩)
  | some e =>
    obtain ⟨i, rfl, h⟩ := h
    refine wpAny_mono (h.out F ad s R) (fun v s' x => x.mono fun X hx => ?_) fun _ _ z => z
    cases hx
    exact ⟨some (i, _), rfl, rfl⟩
theorem isPart_of (q : Option (Int × Tok)) : IsPart (partValue q) (q.map (·.1)) := by
  cases q with
  | none => exact .none
  | some q => exact .int _ _
theorem slice_run {lo hi st : Option Expr} {pl pu ps : Option Int} {pos : Pos} (hl : TriP prog w H C σ lo pl σ₁) (hu : TriP prog w H C σ₁ hi pu σ₂) (hst : TriP prog w H C σ₂ st ps σ₃) (R : Rep prog w H C F ad σ s) :
    wpAny (model prog w) C.A (eval (.Slice lo hi st pos) C.env) (fun v s' => Aft prog w H C F ad σ s σ₃ s' fun _ => ∃ a l u k, v = .ref a ∧ l.map (·.1) = pl ∧ u.map (·.1) = pu ∧ k.map (·.1) = ps ∧ s'.heap.IsSlice a l u k) (fun _ _ => False) s := by
  rw [arm_eval_Slice]
  refine wpAny_bind (wpAny_mono (hl.run R) (fun v s₁ x => ?_) fun _ _ z => z)
  obtain ⟨R₁, g₁, l, el, rfl⟩ := x
  refine wpAny_bind (wpAny_holding (wpAny_mono (hu.run R₁) (fun v s₂ x => ?_) fun _ _ z => z))
  obtain ⟨R₂, g₂, u, eu, rfl⟩ := x
  refine wpAny_bind (wpAny_holding (wpAny_mono (hst.run R₂) (fun v s₃ x => ?_) fun _ _ z => z))
  obtain ⟨R₃, g₃, k, ek, rfl⟩ := x
  refine wpAny_newObj_type ?_
  refine Aft.then g₁ (Aft.then g₂ (Aft.then g₃ (Aft.kp R₃ .push ⟨_, l, u, k, rfl, el, eu, ek, _, Heap.get?_push_size _ rfl, rfl, rfl⟩)))
theorem Tri.sliceL {value : Expr} {lo hi st : Option Expr} {pl pu ps : Option Int} {p pos : Pos} {ds : List PyData} (hv : Tri prog w H C σ value (.list ds) σ') (hl : TriP prog w H C σ' lo pl σ₁) (hu : TriP prog w H C σ₁ hi pu σ₂) (hst : TriP prog w H C σ₂ st ps σ₃)
    (h0 : ps ≠ some 0) (hz : ds.length ≤ sizeLine) (hs : ∃ ops : Value → Value → List Value, ∀ o i, subscripted (.Slice lo hi st p) false o i = operate (ops o i) (getItem o i)) : Tri prog w H C σ (.Subscript value (.Slice lo hi st p) pos) (.list (pickL pl pu ps ds)) σ₃ := by
  refine Box.of fun F ad s R => ?_
  refine Subscript_ (wpAny_mono (hv.out F ad s R) (fun v s₁ x => ?_) fun _ _ z => z)
  obtain ⟨R₁, g₁, hv⟩ := x
  refine wpAny_mono (slice_run hl hu hst R₁) (fun u s₂ y => ?_) fun _ _ z => z
  obtain ⟨R₂, g₂, sl, l, u', k, rfl, rfl, rfl, rfl, hsl⟩ := y
  have hv' := hv.stay g₂.stay
  obtain ⟨a, o, vs, n, rfl, na, ho, hc, hd, hr⟩ := hv'.inv
  have hL : s₂.heap.IsList a vs := ⟨o, ho, hc, n, hd⟩
  obtain ⟨ops, hs⟩ := hs
  have hz' : vs.size ≤ sizeLine := by have := hr.length; simp at this; lia
  refine tail_any hL.typeIs slot_list_getitem.lookup (wpAny_getItem_list_slice (st := k.map (·.1)) hL (let ⟨o, a, b, c⟩ := hsl; ⟨o, a, b, c⟩) (isPart_of l) (isPart_of u') (isPart_of k) h0 ?_ hz') (hs _ _)
  refine Aft.then g₁ (Aft.then g₂ (Aft.kp R₂ .push (.list (R₂.new _ (size_none _)) (Heap.get?_push_size _ rfl) rfl rfl ?_)))
  exact (hr.pick _ _ _).stay (Kp.push (tk := s₂.toks)).stay
theorem Tri.sliceS {value : Expr} {lo hi : Option Expr} {pl pu : Option Int} {p pos : Pos} {x : Str} (hv : Tri prog w H C σ value (.str x) σ') (hl : TriP prog w H C σ' lo pl σ₁) (hu : TriP prog w H C σ₁ hi pu σ₂)
    (hz : x.length ≤ sizeLine) : Tri prog w H C σ (.Subscript value (.Slice lo hi none p) pos) (.str (Txt.slice x pl pu)) σ₂ := by
  refine Box.of fun F ad s R => ?_
  refine Subscript_ (wpAny_mono (hv.out F ad s R) (fun v s₁ x => ?_) fun _ _ z => z)
  obtain ⟨R₁, g₁, hv⟩ := x
  refine wpAny_mono (slice_run (st := none) (ps := none) hl hu ⟨rfl, rfl⟩ R₁) (fun u s₂ y => ?_) fun _ _ z => z
  obtain ⟨R₂, g₂, sl, l, u', k, rfl, rfl, rfl, ek, hsl⟩ := y
  have hk : k = none := by cases k with | none => rfl | some _ => cases ek
  subst hk
  obtain ⟨t, rfl⟩ := hv.inv
  have hpost : ∀ Q : Value → Shared → Prop, (∀ t' k, Q (.str (Txt.slice x (l.map (·.1)) (u'.map (·.1))) t') { s₂ with toks := k }) → (sliceMade x t l u' none).post Q s₂ := fun Q h =>
    post_val_or_str ⟨Nat.le_trans (Txt.slice_le x _ _) hz, fun t' k => h t' k⟩
  refine tail_any (o := .str x t) (typeIs_str _ _ _) PySem.F.slot_str_getitem.lookup (wpAny_getItem_str_slice hsl rfl (hpost _ fun t' k => ?_)) (by rfl)
  exact Aft.then g₁ (Aft.then g₂ (Aft.kp R₂ .toks (.str _ _)))
end
end Mine

end
noncomputable section
open PySem PySem.W PyProof.Rows
set_option maxRecDepth 100000
set_option autoImplicit false
namespace Mine

inductive Fl where
  | nx | br | ct
  | rt (d : PyData)
noncomputable def FlR (h : Heap) (X : Addr → Prop) : Flow → Fl → Prop
  | .next, .nx => True
  | .brk, .br => True
  | .cont, .ct => True
  | .ret v, .rt d => Rd h X v d
  | _, _ => False

section
variable {prog : Program} {w : World} {H : Heap} {C : Cx} {F : Addr → Prop} {ad : Str → Addr} {σ σ₁ σ₂ σ₃ σ' : List Ent} {s s' : Shared}

/-- where a statement, a block may leave -/
inductive FlP (prog : Program) (w : World) (H : Heap) (C : Cx) (F : Addr → Prop) (ad : Str → Addr) (σ : List Ent) (s : Shared) (P : Fl → List Ent → Prop) (fl : Flow) (s' : Shared) : Prop
  | mk (f : Fl) (σ' : List Ent) (ad' : Str → Addr) (hp : P f σ') (R : Rep prog w H C F ad' σ' s') (g : Go (Mut C σ ad) (Mut C σ' ad') s s') (hf : FlR s'.heap (Or2 F (Mut C σ' ad')) fl f)
/-- a statement, a block -/
noncomputable def TriS (prog : Program) (w : World) (H : Heap) (C : Cx) (σ : List Ent) (st : Stmt) (P : Fl → List Ent → Prop) : Prop :=
  Box (∀ F ad s, Rep prog w H C F ad σ s → wpAny (model prog w) C.A (exec st C.env) (FlP prog w H C F ad σ s P) (fun _ _ => False) s)
noncomputable def TriB (prog : Program) (w : World) (H : Heap) (C : Cx) (σ : List Ent) (b : List Stmt) (P : Fl → List Ent → Prop) : Prop :=
  Box (∀ F ad s, Rep prog w H C F ad σ s → wpAny (model prog w) C.A (execs b C.env) (FlP prog w H C F ad σ s P) (fun _ _ => False) s)
/-- a statement that goes on to the next -/
noncomputable abbrev TriN (prog : Program) (w : World) (H : Heap) (C : Cx) (σ : List Ent) (st : Stmt) (σ' : List Ent) : Prop := TriS prog w H C σ st fun f σ₁ => f = .nx ∧ σ₁ = σ'

theorem TriS.mono {st : Stmt} {P Q : Fl → List Ent → Prop} (h : TriS prog w H C σ st P) (hq : ∀ f σ', P f σ' → Q f σ') : TriS prog w H C σ st Q := Box.of fun F ad s R =>
  wpAny_mono (h.out F ad s R) (fun _ _ ⟨f, σ', ad', hp, R, g, x⟩ => ⟨f, σ', ad', hq _ _ hp, R, g, x⟩) fun _ _ z => z
theorem TriB.nil {P : Fl → List Ent → Prop} (h : P .nx σ) : TriB prog w H C σ [] P := Box.of fun F ad s R => wpAny_execs_nil ⟨.nx, σ, ad, h, R, .refl, trivial⟩
theorem TriB.cons {st : Stmt} {rest : List Stmt} {P Q : Fl → List Ent → Prop} (h : TriS prog w H C σ st Q) (hn : ∀ σ', Q .nx σ' → TriB prog w H C σ' rest P) (ho : ∀ f σ', f ≠ .nx → Q f σ' → P f σ') : TriB prog w H C σ (st :: rest) P := by
  refine Box.of fun F ad s R => ?_
  refine wpAny_execs_cons (wpAny_mono (h.out F ad s R) (fun fl s₁ x => ?_) fun _ _ z => z)
  obtain ⟨f, σ₁, ad₁, hq, R₁, g₁, hf⟩ := x
  cases fl <;> cases f <;> first | exact hf.elim | skip
  · refine wpAny_mono ((hn σ₁ hq).out F ad₁ s₁ R₁) (fun fl s₂ y => ?_) fun _ _ z => z
    obtain ⟨f, σ₂, ad₂, hp, R₂, g₂, hf⟩ := y
    exact ⟨f, σ₂, ad₂, hp, R₂, g₁.trans g₂, hf⟩
  · exact ⟨_, _, _, ho _ _ (by simp) hq, R₁, g₁, hf⟩
  · exact ⟨_, _, _, ho _ _ (by simp) hq, R₁, g₁, hf⟩
  · exact ⟨_, _, _, ho _ _ (by simp) hq, R₁, g₁, hf⟩
theorem TriB.next {st : Stmt} {rest : List Stmt} {P : Fl → List Ent → Prop} (h : TriN prog w H C σ st σ₁) (hn : TriB prog w H C σ₁ rest P) : TriB prog w H C σ (st :: rest) P :=
  TriB.cons h (fun σ' q => q.2 ▸ hn) (fun f σ' n q => (n q.1).elim)
theorem TriB.last {st : Stmt} {P : Fl → List Ent → Prop} (h : TriS prog w H C σ st P) : TriB prog w H C σ [st] P :=
  TriB.cons h (fun σ' q => .nil q) (fun f σ' n q => q)
/-- what the abstract names say may be turned, ahead of a block -/
theorem TriB.re {b : List Stmt} {P : Fl → List Ent → Prop} (hr : ∀ F ad s, Rep prog w H C F ad σ s → Rep prog w H C F ad σ₁ s ∧ ∀ a, Mut C σ₁ ad a → Mut C σ ad a) (h : TriB prog w H C σ₁ b P) : TriB prog w H C σ b P := by
  refine Box.of fun F ad s R => ?_
  obtain ⟨R₁, q⟩ := hr F ad s R
  refine wpAny_mono (h.out F ad s R₁) (fun fl s₂ y => ?_) fun _ _ z => z
  obtain ⟨f, σ₂, ad₂, hp, R₂, g₂, hf⟩ := y
  exact ⟨f, σ₂, ad₂, hp, R₂, ⟨fun a o n e => g₂.keep a o (fun z => n (q a z)) e, g₂.alive, fun a z => (g₂.new a z).imp (q a) id, g₂.gens, g₂.os⟩, hf⟩

theorem TriS.ret {e : Expr} {pos : Pos} {d : PyData} {P : Fl → List Ent → Prop} (h : Tri prog w H C σ e d σ₁) (hp : P (.rt d) σ₁) : TriS prog w H C σ (.Return (some e) pos) P := by
  refine Box.of fun F ad s R => ?_
  refine wpAny_Return_some (wpAny_mono (h.out F ad s R) (fun v s₁ x => ?_) fun _ _ z => z)
  exact ⟨.rt d, σ₁, ad, hp, x.1, x.2.1, x.2.2⟩
theorem TriS.brk {pos : Pos} {P : Fl → List Ent → Prop} (hp : P .br σ) : TriS prog w H C σ (.Break pos) P := Box.of fun F ad s R =>
  (wpAny_bind (wpAny_standAt (wpAny_pure ⟨.br, σ, ad, hp, R, .refl, trivial⟩)) : wpAny (model prog w) C.A (exec (.Break pos) C.env) _ _ s)
theorem TriS.ite {t : Expr} {b o : List Stmt} {pos : Pos} {c : Bool} {P : Fl → List Ent → Prop} (ht : TriT prog w H C σ t c σ₁) (hb : c = true → TriB prog w H C σ₁ b P) (ho : c = false → TriB prog w H C σ₁ o P) : TriS prog w H C σ (.If t b o pos) P := by
  refine Box.of fun F ad s R => ?_
  refine wpAny_If (wpAny_mono (ht.out F ad s R) (fun r s₁ x => ?_) fun _ _ z => z)
  obtain ⟨rfl, R₁, g₁, _⟩ := x
  have fin : ∀ {b : List Stmt}, TriB prog w H C σ₁ b P → wpAny (model prog w) C.A (execs b C.env) (FlP prog w H C F ad σ s P) (fun _ _ => False) s₁ := fun h =>
    wpAny_mono (h.out F ad s₁ R₁) (fun fl s₂ y => let ⟨f, σ₂, ad₂, hp, R₂, g₂, hf⟩ := y; ⟨f, σ₂, ad₂, hp, R₂, g₁.trans g₂, hf⟩) fun _ _ z => z
  cases r with
  | true => exact fin (hb rfl)
  | false => exact fin (ho rfl)
theorem TriN.assign {x : Str} {l : Bool} {e : Expr} {p pos : Pos} {d : PyData} (h : Tri prog w H C σ e d σ₁) (hu : Upd x l (.val d) σ₁ σ₂) (hl : l = true ∨ C.fr = true)
    (hs : swapsWith e (some (.Name x p)) pos.line C.env = pure false := by rfl) : TriN prog w H C σ (.Assign [.Name x p] e pos) σ₂ := by
  refine Box.of fun F ad s R => ?_
  refine wpAny_Assign_Name (wpAny_mono (h.out F ad s R) (fun v s₁ x => ?_) fun _ _ z => z) hs
  obtain ⟨R₁, g₁, hv⟩ := x
  exact wpAny_mono (store_val R₁ hu hl hv) (fun _ s₂ y => ⟨.nx, σ₂, ad, ⟨rfl, rfl⟩, y.1, g₁.trans y.2.1, trivial⟩) fun _ _ z => z

theorem Rep.forbid {a : Addr} (R : Rep prog w H C F ad σ s) (k : Kp s s') (ha : s.heap.get? a = none) (hb : ∃ o, s'.heap.get? a = some o) : Rep prog w H C (Or2 F (· = a)) ad σ s' :=
  R.ext k (fun b z => z.imp id fun (z : b = a) => z ▸ ha) (fun b z => .inl z) fun b z => z.elim (fun z => let ⟨o, e⟩ := R.aliveF b z; ⟨o, k.heap b o e⟩) fun (z : b = a) => z ▸ hb
theorem Rep.notH (R : Rep prog w H C F ad σ s) {a : Addr} (ha : s.heap.get? a = none) : H.get? a = none := by
  cases e : H.get? a with
  | none => rfl
  | some o => rw [R.top a o e] at ha; cases ha
theorem Rep.notCell (R : Rep prog w H C F ad σ s) {a : Addr} (ha : s.heap.get? a = none) : a ∉ C.env.cells.map (·.2) := fun z => by
  rcases R.cellF a z with z | z
  · obtain ⟨_, o, e, _⟩ := R.cells a z; rw [e] at ha; cases ha
  · obtain ⟨o, e⟩ := R.aliveF a z; rw [e] at ha; cases ha
/-- a list display kept under a name: the frame's own -/
theorem TriN.assignOwn {x : Str} {l : Bool} {es : List Expr} {p p' pos : Pos} {ds : List PyData} (h : TriL prog w H C σ es ds σ₁) (hu : Upd x l (.own ds) σ₁ σ₂) (hl : l = true ∨ C.fr = true) (hz : ds.length ≤ sizeLine := by decide) :
    TriN prog w H C σ (.Assign [.Name x p] (.List es p') pos) σ₂ := by
  refine Box.of fun F ad s R => ?_
  refine wpAny_Assign_Name (List_ (wpAny_mono (h.out F ad s p' R) (fun vs s₁ x => ?_) fun _ _ z => z)) rfl
  obtain ⟨R₁, g₁, hv⟩ := x
  refine wpAny_newObj_type ?_ (by show vs.toArray.size ≤ sizeLine; rw [List.size_toArray, hv.length]; exact hz)
  have ha := size_none s₁.heap
  have R₂ := R₁.forbid (Kp.push (o := ⟨.type "list", none, .seq vs.toArray 0, #[]⟩) (tk := s₁.toks)) ha ⟨_, Heap.get?_push_size _ rfl⟩
  have hv₂ : RdL (s₁.heap.push ⟨.type "list", none, .seq vs.toArray 0, #[]⟩) (Or2 (Or2 F (· = s₁.heap.objs.size)) (Mut C σ₁ ad)) vs ds := hv.stay ⟨fun a o _ e => Heap.get?_push_of_some _ e, fun a z => by
    rcases z with (z | z) | z
    · exact .inl (.inl z)
    · exact .inr ((show a = _ from z) ▸ ha)
    · exact .inl (.inr z)⟩
  refine wpAny_mono (store_own (F := F) R₂ hu hl rfl rfl (R₁.notH ha) (fun z => R₁.new _ ha (.inr z)) (R₁.notCell ha) fun h' m' X st k at_ => ⟨at_, fun z => R₁.new _ ha (.inl z), vs.toArray, ⟨0, k _ (Heap.get?_push_size _ rfl)⟩, by rw [List.toList_toArray]; exact hv₂.stay st⟩) (fun _ s₂ y => ?_) fun _ _ z => z
  obtain ⟨ad', R', hM, hk, hal, hg, hos⟩ := y
  refine ⟨.nx, σ₂, ad', ⟨rfl, rfl⟩, R', g₁.trans ⟨fun a o n e => hk a o n (Heap.get?_push_of_some _ e), fun a o e => hal a o (Heap.get?_push_of_some _ e), fun b z => (hM b z).imp id fun (z : b = _) => z ▸ ha, fun g x e => by rw [hg]; exact e, hos⟩, trivial⟩
theorem load_at (R : Rep prog w H C F ad σ s) {x : Str} {d : PyData} (hl : Look x (.val d) σ) {Q : Value → Shared → Prop} {E : Value → Shared → Prop} (h : ∀ v, Rd s.heap (Or2 F (Mut C σ ad)) v d → Q v s) : wpAny (model prog w) C.A (loadName C.env x) Q E s := by
  obtain ⟨l, m, hm, hn, q⟩ := R.at_of hl
  obtain ⟨v, ha, hr⟩ := q.slot
  have hk := q.kind
  unfold At at ha
  split at ha
  · rename_i z
    rw [if_pos z] at hk
    exact wpAny_loadName_local R.ok.kind hk hn ha (h v hr)
  · rename_i z
    rw [if_neg z] at hk
    obtain ⟨c, hc, hv⟩ := ha
    exact wpAny_loadName_cell R.ok.kind hk hc hv (h v hr)
theorem TriN.aug {x : Str} {l : Bool} {op : Operator} {e : Expr} {p pos : Pos} {da db d : PyData} (ha : Look x (.val da) σ) (h : Tri prog w H C σ e db σ₁) (hr : R2 prog w (inplaceOp op) da db d) (hu : Upd x l (.val d) σ₁ σ₂) (hl : l = true ∨ C.fr = true) :
    TriN prog w H C σ (.AugAssign (.Name x p) op e pos) σ₂ := by
  refine Box.of fun F ad s R => ?_
  refine wpAny_AugAssign_Name (load_at R ha fun v hv => wpAny_mono (h.out F ad s R) (fun u s₁ y => ?_) fun _ _ z => z)
  obtain ⟨R₁, g₁, hu'⟩ := y
  refine wpAny_mono (hr C.A _ s₁ v u R₁.ok.a R₁.new (hv.stay g₁.stay) hu') (fun q s₂ z => ?_) fun _ _ z => z
  have R₂ := R₁.kp z.1
  exact wpAny_mono (store_val R₂ hu hl z.2) (fun _ s₃ y => ⟨.nx, σ₂, ad, ⟨rfl, rfl⟩, y.1, g₁.trans (z.1.go.trans y.2.1), trivial⟩) fun _ _ z => z
theorem iadd_ii {a b : Int} : R2 prog w (inplaceOp .Add) (.int a) (.int b) (.int (a + b)) := by
  intro A X s v u hA hn hv hu; (first | obtain ⟨_, rfl⟩ := hv.inv | obtain rfl := hv.inv); (first | obtain ⟨_, rfl⟩ := hu.inv | obtain rfl := hu.inv); exact iadd_int ⟨.toks, .int _ _⟩
theorem isub_ii {a b : Int} : R2 prog w (inplaceOp .Sub) (.int a) (.int b) (.int (a - b)) := by
  intro A X s v u hA hn hv hu; (first | obtain ⟨_, rfl⟩ := hv.inv | obtain rfl := hv.inv); (first | obtain ⟨_, rfl⟩ := hu.inv | obtain rfl := hu.inv); exact isub_int ⟨.toks, .int _ _⟩
theorem imul_ii {a b : Int} (h : Builtin.Int.intBits a ≤ 64 ∨ Builtin.Int.intBits b ≤ 64) : R2 prog w (inplaceOp .Mult) (.int a) (.int b) (.int (a * b)) := by
  intro A X s v u hA hn hv hu; (first | obtain ⟨_, rfl⟩ := hv.inv | obtain rfl := hv.inv); (first | obtain ⟨_, rfl⟩ := hu.inv | obtain rfl := hu.inv); exact imul_int ⟨.toks, .int _ _⟩ (h.elim .of_left .of_right)
theorem ior_ii {a b : Int} : R2 prog w (inplaceOp .BitOr) (.int a) (.int b) (.int (Builtin.bitOr a b)) := by
  intro A X s v u hA hn hv hu; (first | obtain ⟨_, rfl⟩ := hv.inv | obtain rfl := hv.inv); (first | obtain ⟨_, rfl⟩ := hu.inv | obtain rfl := hu.inv); exact ior_int ⟨.toks, .int _ _⟩
theorem ixor_ii {a b : Int} : R2 prog w (inplaceOp .BitXor) (.int a) (.int b) (.int (Builtin.bitXor a b)) := by
  intro A X s v u hA hn hv hu; (first | obtain ⟨_, rfl⟩ := hv.inv | obtain rfl := hv.inv); (first | obtain ⟨_, rfl⟩ := hu.inv | obtain rfl := hu.inv); exact ixor_int ⟨.toks, .int _ _⟩
theorem ilsh_ii {a n : Int} (hn : 0 ≤ n) (hz : (Builtin.Int.intBits a : Int) + n ≤ 2 ^ 27) : R2 prog w (inplaceOp .LShift) (.int a) (.int n) (.int (a * 2 ^ n.toNat)) := by
  intro A X s v u hA hn' hv hu; (first | obtain ⟨_, rfl⟩ := hv.inv | obtain rfl := hv.inv); (first | obtain ⟨_, rfl⟩ := hu.inv | obtain rfl := hu.inv); exact ilshift_int hn hz ⟨.toks, .int _ _⟩
end
end Mine

end
noncomputable section
open PySem PySem.W PyProof.Rows
set_option maxRecDepth 100000
set_option autoImplicit false
namespace Mine

/-- what a name of the top means -/
noncomputable def Glo (H : Heap) (x : Str) (v : Value) : Prop :=
  ∃ mg, H.Ns mainGlobals mg ∧ (mg x = some v ∨ (mg x = none ∧ ∃ mb, H.Ns builtinsNs mb ∧ mb x = some v))
structure AN (A : Around) (n : Nat) : Prop where
  hh : A.handled = none
  room : A.depth + n < recursionLimit
  units : A.units + 8 * n + 200 < cLine
/-- a call that writes nothing, of values -/
noncomputable def RC (prog : Program) (w : World) (H : Heap) (f : Value) (n : Nat) (ds : List PyData) (d : PyData) : Prop :=
  ∀ A X s vs, AN A n → (∀ b o, H.get? b = some o → s.heap.get? b = some o) → AllBare s.gens → (∀ a, X a → ∃ o, s.heap.get? a = some o) → RdL s.heap X vs ds → OpR prog w A X s (call f vs) d
section
variable {prog : Program} {w : World} {H : Heap} {C : Cx} {F : Addr → Prop} {ad : Str → Addr} {σ σ₁ σ₂ σ₃ σ' : List Ent} {s s' : Shared}

theorem Rep.aliveX (R : Rep prog w H C F ad σ s) : ∀ a, Or2 F (Mut C σ ad) a → ∃ o, s.heap.get? a = some o := fun a q => q.elim (R.aliveF a) R.aliveMut
theorem Rep.an (R : Rep prog w H C F ad σ s) {n : Nat} (h : n ≤ C.n) : AN C.A n := ⟨R.ok.hh, by have := R.ok.room; lia, by have := R.ok.units; lia⟩
theorem glo_run (R : Rep prog w H C F ad σ s) {x : Str} {v : Value} (hx : x ∈ C.gl) (hg : Glo H x v) {pos : Pos} {Q : Value → Shared → Prop} {E : Value → Shared → Prop} (h : Q v s) : wpAny (model prog w) C.A (eval (.Name x pos) C.env) Q E s := by
  obtain ⟨hk, hd⟩ := R.ok.glk x hx
  obtain ⟨mg, hm, hv⟩ := hg
  have hm' := hm.keeps R.top
  refine Calls.Name_function_global R.ok.kind hk ?_ hd
  rcases hv with hv | ⟨hn, mb, hb, hv⟩
  · exact Calls.loadGlobal_global (by rw [R.ok.glob]; exact hm') hv h
  · exact Calls.loadGlobal_builtin (by rw [R.ok.glob]; exact hm') hn (by rw [R.ok.blt]; exact hb.keeps R.top) hv h
theorem Tri.glo_int {x : Str} {pos : Pos} {i : Int} {t : Tok} (hx : x ∈ C.gl) (hg : Glo H x (.int i t)) : Tri prog w H C σ (.Name x pos) (.int i) σ := Box.of fun F ad s R => glo_run R hx hg (Aft.here R (.int _ _))
theorem Tri.glo_str {x : Str} {pos : Pos} {y : Str} {t : Tok} (hx : x ∈ C.gl) (hg : Glo H x (.str y t)) : Tri prog w H C σ (.Name x pos) (.str y) σ := Box.of fun F ad s R => glo_run R hx hg (Aft.here R (.str _ _))

theorem plainArgs {e : Expr} {es : List Expr} {pos : Pos} {env : Env} (hx : starEach (e :: es) env = (false, eval e env) :: starEach es env) : backTo pos (starEach (e :: es) env) = (false, eval e env) :: backTo pos (starEach es env) := by rw [hx]; rfl
/-- calls of what the top names -/
theorem Tri.callB {x : Str} {p pos : Pos} {id : String} {e : Expr} {es : List Expr} {ds : List PyData} {d : PyData} {n : Nat} (hx : x ∈ C.gl) (hg : Glo H x (.builtin id)) (ha : TriL prog w H C σ (e :: es) ds σ₁) (h : RC prog w H (.builtin id) n ds d) (hn : n ≤ C.n)
    (he : starEach (e :: es) C.env = (false, eval e C.env) :: starEach es C.env := by rfl) (hp : (backTo pos (starEach es C.env)).any (·.1) = false := by rfl) : Tri prog w H C σ (.Call (.Name x p) (e :: es) [] pos) d σ₁ := by
  refine Box.of fun F ad s R => ?_
  refine wpAny_Call_NameR (glo_run R hx hg (callWith_builtin1 (wpAny_mono (ha.out F ad s pos R) (fun vs s₁ y => ?_) fun _ _ z => z) he hp))
  obtain ⟨R₁, g₁, hv⟩ := y
  exact wpAny_mono (h C.A _ s₁ vs (R₁.an hn) R₁.top R₁.bare R₁.aliveX hv) (fun q s₂ z => Aft.then g₁ (Aft.kp R₁ z.1 z.2)) fun _ _ z => z
theorem callT_run {T : String} {e : Expr} {es : List Expr} {pos : Pos} {Q : Value → Shared → Prop} {E : Value → Shared → Prop} {env : Env} {A : Around}
    (h : wpAny (model prog w) A (spliced (backTo pos (starEach (e :: es) env))) (fun vs s₁ => wpAny (model prog w) A (call (.type T) vs) Q E s₁) E s)
    (he : starEach (e :: es) env = (false, eval e env) :: starEach es env) (hp : (backTo pos (starEach es env)).any (·.1) = false) : wpAny (model prog w) A (callWith pos (.type T) [] (backTo pos (starEach (e :: es) env)) []) Q E s := by
  rw [plainArgs he] at h ⊢
  exact PySem.callWith_type (by show (false || (backTo pos (starEach es env)).any (·.1)) = false; rw [hp]; rfl) (Calls.evalArgs_plain h)
noncomputable def IsFn (H : Heap) (f : Addr) : Prop := ∃ o fd, H.get? f = some o ∧ o.data = .func fd
theorem callF_run {f : Addr} {e : Expr} {es : List Expr} {pos : Pos} {Q : Value → Shared → Prop} {E : Value → Shared → Prop} {env : Env} {A : Around} (hf : IsFn H f)
    (h : wpAny (model prog w) A (spliced (backTo pos (starEach (e :: es) env))) (fun vs s₁ => (∀ b o, H.get? b = some o → s₁.heap.get? b = some o) ∧ wpAny (model prog w) A (call (.ref f) vs) Q E s₁) E s)
    (he : starEach (e :: es) env = (false, eval e env) :: starEach es env) : wpAny (model prog w) A (callWith pos (.ref f) [] (backTo pos (starEach (e :: es) env)) []) Q E s := by
  obtain ⟨o, fd, ho, hd⟩ := hf
  rw [plainArgs he] at h ⊢
  exact Calls.callWith_function (o := o) (fd := fd) (Calls.evalArgs_plain (wpAny_mono h (fun vs s₁ x => ⟨⟨x.1 _ _ ho, hd⟩, x.2⟩) fun _ _ z => z))
theorem Tri.callF {x : Str} {p pos : Pos} {f : Addr} {e : Expr} {es : List Expr} {ds : List PyData} {d : PyData} {n : Nat} (hx : x ∈ C.gl) (hg : Glo H x (.ref f)) (hf : IsFn H f) (ha : TriL prog w H C σ (e :: es) ds σ₁) (h : RC prog w H (.ref f) n ds d) (hn : n ≤ C.n)
    (he : starEach (e :: es) C.env = (false, eval e C.env) :: starEach es C.env := by rfl) : Tri prog w H C σ (.Call (.Name x p) (e :: es) [] pos) d σ₁ := by
  refine Box.of fun F ad s R => ?_
  refine wpAny_Call_NameR (glo_run R hx hg (callF_run hf (wpAny_mono (ha.out F ad s pos R) (fun vs s₁ y => ?_) fun _ _ z => z) he))
  obtain ⟨R₁, g₁, hv⟩ := y
  exact ⟨R₁.top, wpAny_mono (h C.A _ s₁ vs (R₁.an hn) R₁.top R₁.bare R₁.aliveX hv) (fun q s₂ z => Aft.then g₁ (Aft.kp R₁ z.1 z.2)) fun _ _ z => z⟩

/-! methods of a text -/
theorem Tri.methS {pl : Sem Bool} {o : Expr} {name : Str} {apos pos : Pos} {id : String} {e : Expr} {es : List Expr} {x : Str} {ds : List PyData} {d : PyData} (ho : Tri prog w H C σ o (.str x) σ₁) (slot : PySem.Slot "str" name id) (ty : typeOf (.builtin id) = pure (.type "method_descriptor"))
    (ha : TriL prog w H C σ₁ (e :: es) ds σ₂) (h : RC prog w H (.builtin id) 0 (.str x :: ds) d)
    (he : eval (.Call (.Attribute o name apos) (e :: es) [] pos) C.env = (do
      let ov ← eval o C.env
      standAt apos.atName
      let (f, first) ← holding [ov] (getMethod ov name pl)
      callWith pos f first (backTo pos (starEach (e :: es) C.env)) []) := by rfl)
    (hs : starEach (e :: es) C.env = (false, eval e C.env) :: starEach es C.env := by rfl) (hp : (backTo pos (starEach es C.env)).any (·.1) = false := by rfl) : Tri prog w H C σ (.Call (.Attribute o name apos) (e :: es) [] pos) d σ₂ := by
  refine Box.of fun F ad s R => ?_
  refine MethodCall_ (wpAny_mono (ho.out F ad s R) (fun v s₁ y => ?_) fun _ _ z => z) he
  obtain ⟨R₁, g₁, hv⟩ := y
  obtain ⟨t, rfl⟩ := hv.inv
  refine getMethod_builtin (typeIs_str _ _ _) PySem.F.plainAttrs_str slot ty (fun _ z => nomatch z) ?_
  refine callWith_method1 (wpAny_mono (ha.out F ad s₁ pos R₁) (fun vs s₂ y => ?_) fun _ _ z => z) hs hp
  obtain ⟨R₂, g₂, hv⟩ := y
  refine wpAny_mono (h C.A _ s₂ (.str x t :: vs) (R₂.an (Nat.zero_le _)) R₂.top R₂.bare R₂.aliveX (.cons (.str _ _) hv)) (fun q s₃ z => Aft.then g₁ (Aft.then g₂ (Aft.kp R₂ z.1 z.2))) fun _ _ z => z
end
end Mine

end
noncomputable section
open PySem PySem.W PyProof.Rows
set_option maxRecDepth 100000
set_option autoImplicit false
namespace Mine

/-! ## iterators -/
structure Stp (W : Addr → Prop) (GW : Nat → Prop) (s s' : Shared) : Prop where
  heap : ∀ a o, ¬ W a → s.heap.get? a = some o → s'.heap.get? a = some o
  gens : ∀ (g : Nat) (x : GenState), ¬ GW g → s.gens[g]? = some x → s'.gens[g]? = some x
  bare : AllBare s.gens → AllBare s'.gens
  os : s'.os = s.os
theorem Stp.trans {W : Addr → Prop} {GW : Nat → Prop} {s s' s'' : Shared} (x : Stp W GW s s') (y : Stp W GW s' s'') : Stp W GW s s'' :=
  ⟨fun a o n e => y.heap a o n (x.heap a o n e), fun g z n e => y.gens g z n (x.gens g z n e), fun b => y.bare (x.bare b), y.os.trans x.os⟩
theorem Stp.of {W : Addr → Prop} {GW : Nat → Prop} {s : Shared} {h' : Heap} {tk : Nat} (k : ∀ a o, ¬ W a → s.heap.get? a = some o → h'.get? a = some o) : Stp W GW s { s with heap := h', toks := tk } := ⟨k, fun _ _ _ e => e, id, rfl⟩

noncomputable abbrev StT := List PyData → (Addr → Prop) → (Addr → Prop) → Shared → Prop
/-- the value that follows, handed on to the target -/
inductive WkItem (prog : Program) (w : World) (A : Around) (it : Value) (GW : Nat → Prop) (tt : Expr → Prop) (St : StT) (ds : List PyData) (d : PyData) (W X : Addr → Prop) (s : Shared) (r : Option Value) (s₁ : Shared) : Prop
  | mk (v : Value) (W₁ : Addr → Prop) (hr : r = some v) (up : ∀ a, W a → W₁ a) (dn : ∀ a, W₁ a → W a ∨ s.heap.get? a = none) (k : Stp W GW s s₁)
    (go : ∀ tgt, tt tgt → wpAny (model prog w) A (letOwnedTupleGo tgt it v) (fun _ s₂ => Stp W₁ GW s₁ s₂ ∧ St ds W₁ (Or2 X W₁) s₂ ∧ Rd s₂.heap (Or2 X W₁) v d) (fun _ _ => False) s₁)
structure Wk (prog : Program) (w : World) (H : Heap) (A : Around) (it : Value) (GW : Nat → Prop) (tt : Expr → Prop) (St : StT) : Prop where
  live : ∀ ds W X s, St ds W X s → ∀ a, W a → ∃ o, s.heap.get? a = some o
  frame : ∀ ds W X X' s s', St ds W X s → Stay X X' s.heap s'.heap → (∀ a o, W a → s.heap.get? a = some o → s'.heap.get? a = some o) → (∀ (g : Nat) (x : GenState), GW g → s.gens[g]? = some x → s'.gens[g]? = some x) → St ds W X' s'
  item : ∀ d ds W X s, St (d :: ds) W X s → (∀ a, W a → X a) → New X s → AllBare s.gens → (∀ b o, H.get? b = some o → s.heap.get? b = some o) →
    wpAny (model prog w) A (pyNext it) (WkItem prog w A it GW tt St ds d W X s) (fun _ _ => False) s
  done : ∀ W X s, St [] W X s → (∀ a, W a → X a) → New X s → AllBare s.gens → (∀ b o, H.get? b = some o → s.heap.get? b = some o) → wpAny (model prog w) A (pyNext it) (fun r s₁ => r = none ∧ Stp W GW s s₁) (fun _ _ => False) s
  self : ∀ ds W X s (Q : Value → Shared → Prop) (E : Value → Shared → Prop), St ds W X s → Q it s → wpAny (model prog w) A (pyIter it) Q E s

section
variable {prog : Program} {w : World} {H : Heap} {A : Around}

noncomputable def StW (S : Nat → Heap → Prop) (fp wr : List Addr) (full : List PyData) (Read : (Addr → Prop) → Heap → Prop) (ds : List PyData) (W X : Addr → Prop) (s : Shared) : Prop :=
  (∀ a, W a ↔ a ∈ wr) ∧ ∃ i, i ≤ full.length ∧ S i s.heap ∧ ds = full.drop i ∧ (∀ b ∈ fp, b ∉ wr → ¬ X b ∧ ∃ o, s.heap.get? b = some o) ∧ Read X s.heap

theorem Wk.ofWalks {I : Addr} {fp wr : List Addr} {n : Nat} {P : Nat → Value → Prop} {S : Nat → Heap → Prop} (V : Walks prog w A I fp wr n P S) (full : List PyData) (hn : full.length = n) (Read : (Addr → Prop) → Heap → Prop) (tt : Expr → Prop)
    (hstay : ∀ X X' h h', Stay X X' h h' → Read X h → Read X' h') (hread : ∀ X h i v d, Read X h → P i v → full[i]? = some d → Rd h X v d) (hlive : ∀ i h, S i h → ∀ b ∈ wr, ∃ o, h.get? b = some o)
    (hgo : ∀ tgt, tt tgt → ∀ i (s : Shared) v (Q : Unit → Shared → Prop) (E : Value → Shared → Prop), S i s.heap → Q () s → wpAny (model prog w) A (letOwnedTupleGo tgt (.ref I) v) Q E s) :
    Wk prog w H A (.ref I) (fun _ => False) tt (StW S fp wr full Read) where
  live ds W X s st a ha := let ⟨hW, i, _, hs, _⟩ := st; hlive i _ hs a ((hW a).mp ha)
  frame ds W X X' s s' st k kw _ := by
    obtain ⟨hW, i, hi, hs, hd, hf, hr⟩ := st
    refine ⟨hW, i, hi, V.frame i _ _ hs fun b hb o e => ?_, hd, fun b hb hw => ?_, hstay _ _ _ _ k hr⟩
    · by_cases hw : b ∈ wr
      · exact kw b o ((hW b).mpr hw) e
      · exact k.keep b o (hf b hb hw).1 e
    · obtain ⟨hn, o, e⟩ := hf b hb hw
      exact ⟨fun z => (k.new b z).elim hn fun z => (by rw [z] at e; cases e), o, k.keep b o hn e⟩
  item d ds W X s st hWX hN hb _ := by
    obtain ⟨hW, i, hi, hs, hd, hf, hr⟩ := st
    have hlt : i < full.length := by
      apply Nat.lt_of_not_le; intro hle
      rw [List.drop_eq_nil_of_le hle] at hd; cases hd
    rw [List.drop_eq_getElem_cons hlt] at hd
    injection hd with hd1 hd2
    refine V.item i s _ _ (hn ▸ hlt) hs fun v h' tk hP hs' hk => ⟨v, W, rfl, fun _ z => z, fun _ z => .inl z, .of fun a o hn e => hk a o (fun z => hn ((hW a).mpr z)) e, fun tgt ht => hgo tgt ht (i + 1) _ v _ _ hs' ?_⟩
    have sy : Stay X (Or2 X W) s.heap h' := ⟨fun a o n e => hk a o (fun z => n (hWX a ((hW a).mpr z))) e, fun a z => .inl (z.elim id (hWX a))⟩
    refine ⟨.of fun _ _ _ e => e, ⟨hW, i + 1, hlt, hs', hd2, fun b hb hw => ?_, hstay _ _ _ _ sy hr⟩, hread _ _ i v d (hstay _ _ _ _ sy hr) hP (by rw [hd1]; simp [hlt])⟩
    obtain ⟨hn, o, e⟩ := hf b hb hw
    exact ⟨fun z => hn (z.elim id (hWX b)), o, hk b o hw e⟩
  done W X s st hWX hN hb _ := by
    obtain ⟨hW, i, hi, hs, hd, hf, hr⟩ := st
    have hlt : i = n := by
      have := congrArg List.length hd
      rw [List.length_drop] at this
      simp at this
      lia
    subst hlt
    exact V.done s _ _ hs fun h' tk hk => ⟨rfl, .of fun a o hn e => hk a o (fun z => hn ((hW a).mpr z)) e⟩
  self ds W X s Q E st h := let ⟨_, i, _, hs, _⟩ := st; V.self i s Q E hs h

theorem Wk.ofWalksT {I : Addr} {fp wr : List Addr} {n : Nat} {P : Nat → Array Value → Prop} {S : Nat → Heap → Prop} {Mid : Nat → Addr → Heap → Prop} (V : WalksT prog w A I fp wr n P S Mid) (full : List (List PyData)) (hn : full.length = n) (Read : (Addr → Prop) → Heap → Prop)
    (hstay : ∀ X X' h h', Stay X X' h h' → Read X h → Read X' h') (hread : ∀ X h i vs ds, Read X h → P i vs → full[i]? = some ds → RdL h X vs.toList ds) (hlive : ∀ i h, S i h → ∀ b ∈ wr, ∃ o, h.get? b = some o) :
    Wk prog w H A (.ref I) (fun _ => False) (fun t => ∃ es k p, t = .Tuple es k p) (StW S fp wr (full.map .tuple) Read) where
  live ds W X s st a ha := let ⟨hW, i, _, hs, _⟩ := st; hlive i _ hs a ((hW a).mp ha)
  frame ds W X X' s s' st k kw _ := by
    obtain ⟨hW, i, hi, hs, hd, hf, hr⟩ := st
    refine ⟨hW, i, hi, V.frame i _ _ hs fun b hb o e => ?_, hd, fun b hb hw => ?_, hstay _ _ _ _ k hr⟩
    · by_cases hw : b ∈ wr
      · exact kw b o ((hW b).mpr hw) e
      · exact k.keep b o (hf b hb hw).1 e
    · obtain ⟨hn, o, e⟩ := hf b hb hw
      exact ⟨fun z => (k.new b z).elim hn fun z => (by rw [z] at e; cases e), o, k.keep b o hn e⟩
  item d ds W X s st hWX hN hb _ := by
    obtain ⟨hW, i, hi, hs, hd, hf, hr⟩ := st
    have hlt : i < (full.map PyData.tuple).length := by
      apply Nat.lt_of_not_le; intro hle
      rw [List.drop_eq_nil_of_le hle] at hd; cases hd
    rw [List.drop_eq_getElem_cons hlt] at hd
    injection hd with hd1 hd2
    rw [List.length_map] at hlt
    refine V.item i s _ _ (hn ▸ hlt) hs fun T vals h' tk hP hT ht hm hk => ⟨.ref T, W, rfl, fun _ z => z, fun _ z => .inl z, .of fun a o hn e => hk a o (fun z => hn ((hW a).mpr z)) e, fun tgt htt => ?_⟩
    obtain ⟨es, k, p, rfl⟩ := htt
    refine V.go es k p i T _ _ _ hm fun h'' hs'' hk'' => ?_
    have hk2 : ∀ b o, b ∉ wr → s.heap.get? b = some o → h''.get? b = some o := fun b o hb e => hk'' b o hb (hk b o hb e)
    have sy : Stay X (Or2 X W) s.heap h'' := ⟨fun a o n e => hk2 a o (fun z => n (hWX a ((hW a).mpr z))) e, fun a z => .inl (z.elim id (hWX a))⟩
    refine ⟨⟨fun a o hn e => hk'' a o (fun z => hn ((hW a).mpr z)) e, fun _ _ _ e => e, id, rfl⟩, ⟨hW, i + 1, by rw [List.length_map]; exact hlt, hs'', hd2, fun b hb hw => ?_, hstay _ _ _ _ sy hr⟩, ?_⟩
    · obtain ⟨hn, o, e⟩ := hf b hb hw
      exact ⟨fun z => hn (z.elim id (hWX b)), o, hk2 b o hw e⟩
    · rw [hd1, List.getElem_map]
      obtain ⟨o, ho, hc, n', hd'⟩ := ht
      have hnX : ¬ Or2 X W T := fun z => hN T (by
        cases e : s.heap.get? T with
        | none => rfl
        | some o => exact absurd (Heap.lt_size e) (Nat.not_lt.mpr hT)) (z.elim id (hWX T))
      exact .tuple hnX (hk'' T o (V.apart _ _ _ hm) ho) hc hd' (hread _ _ i vals _ (hstay _ _ _ _ sy hr) hP (by simp [hlt]))
  done W X s st hWX hN hb _ := by
    obtain ⟨hW, i, hi, hs, hd, hf, hr⟩ := st
    have hlt : i = n := by
      have := congrArg List.length hd
      rw [List.length_drop] at this
      simp at this
      simp at hi
      lia
    subst hlt
    exact V.done s _ _ hs fun h' tk hk => ⟨rfl, .of fun a o hn e => hk a o (fun z => hn ((hW a).mpr z)) e⟩
  self ds W X s Q E st h := let ⟨_, i, _, hs, _⟩ := st; V.self i s Q E hs h
end


section
variable {prog : Program} {w : World} {H : Heap} {C : Cx} {F : Addr → Prop} {ad : Str → Addr} {σ σ₁ σ₂ σ₃ σ' : List Ent} {s s' : Shared}

theorem Rep.turn {F₂ W : Addr → Prop} (R : Rep prog w H C F ad σ s) (hk : ∀ a o, ¬ W a → s.heap.get? a = some o → s'.heap.get? a = some o) (hb : AllBare s.gens → AllBare s'.gens) (hWF : ∀ a, W a → F a) (hM : ∀ a, W a → ¬ Mut C σ ad a)
    (hc : ∀ a, W a → a ∉ C.env.cells.map (·.2)) (hH : ∀ a, W a → H.get? a = none) (h2 : ∀ a, F₂ a → F a ∨ s.heap.get? a = none) (hal : ∀ a, F₂ a → ∃ o, s'.heap.get? a = some o) (hcF : ∀ c ∈ C.env.cells.map (·.2), c ∈ C.mine ∨ F₂ c) : Rep prog w H C F₂ ad σ s' where
  ok := R.ok
  top b o e := hk b o (fun z => by rw [hH b z] at e; cases e) (R.top b o e)
  bare := hb R.bare
  nd := R.nd
  ns := by
    obtain ⟨m, hm, q⟩ := R.ns
    have sy : Stay (Or2 F (Mut C σ ad)) (Or2 F₂ (Mut C σ ad)) s.heap s'.heap := ⟨fun a o n e => hk a o (fun z => n (.inl (hWF a z))) e, fun a z => z.elim (fun z => (h2 a z).imp .inl id) fun z => .inl (.inr z)⟩
    refine ⟨m, hm.at' fun o e => hk _ o (fun z => hM _ z (.inl rfl)) e, fun e he => ⟨(q e he).kind, (q e he).cell, (q e he).nodebug, (q e he).slot.stay sy (fun c hc' o e => hk c o (fun z => hc c z hc') e) (fun ho o e' => hk _ o (fun z => hM _ z (.inr (.inr ⟨e, he, ho, rfl⟩))) e') fun _ nf o z f => (h2 _ f).elim nf fun e => by rw [e] at z; cases z⟩⟩
  cells c hc' := let ⟨v, o, e, q⟩ := R.cells c hc'; ⟨v, o, hk c o (fun z => hM _ z (.inr (.inl hc'))) e, q⟩
  dl := R.dl
  dn := R.dn
  mc := R.mc
  ow := R.ow
  dd := R.dd
  fresh := R.fresh
  aliveF := hal
  cellF := hcF
  fl := R.fl
  pa := R.pa

/-! ## targets -/
noncomputable def Asg (prog : Program) (w : World) (H : Heap) (C : Cx) (tgt : Expr) (d : PyData) (σ σ' : List Ent) : Prop :=
  Box (∀ F ad s v, Rep prog w H C F ad σ s → Rd s.heap (Or2 F (Mut C σ ad)) v d → wpAny (model prog w) C.A (assign tgt C.env v) (fun _ s' => Aft prog w H C F ad σ s σ' s' fun _ => True) (fun _ _ => False) s)
theorem Asg.name {x : Str} {l : Bool} {p : Pos} {d : PyData} (hu : Upd x l (.val d) σ σ') (hl : l = true ∨ C.fr = true) : Asg prog w H C (.Name x p) d σ σ' := Box.of fun F ad s v R hv => wpAny_assign_Name (store_val R hu hl hv)
inductive AsgL (prog : Program) (w : World) (H : Heap) (C : Cx) : List Expr → List PyData → List Ent → List Ent → Prop
  | nil {σ : List Ent} : AsgL prog w H C [] [] σ σ
  | cons {e : Expr} {es : List Expr} {d : PyData} {ds : List PyData} {σ σ₁ σ₂ : List Ent} : Asg prog w H C e d σ σ₁ → AsgL prog w H C es ds σ₁ σ₂ → AsgL prog w H C (e :: es) (d :: ds) σ σ₂
theorem AsgL.length {es : List Expr} {ds : List PyData} (h : AsgL prog w H C es ds σ σ') : es.length = ds.length := by
  induction h with
  | nil => rfl
  | cons _ _ ih => rw [List.length_cons, List.length_cons, ih]
theorem AsgL.run {es : List Expr} {ds : List PyData} (h : AsgL prog w H C es ds σ σ') : ∀ {F ad s vs}, Rep prog w H C F ad σ s → RdL s.heap (Or2 F (Mut C σ ad)) vs ds →
    wpAny (model prog w) C.A (assignInOrder (es.map fun e => assign e C.env) vs) (fun _ s' => Aft prog w H C F ad σ s σ' s' fun _ => True) (fun _ _ => False) s := by
  induction h with
  | nil => intro F ad s vs R _; exact assignInOrder_nil (Aft.here R trivial)
  | @cons e es d ds σ σ₁ σ₂ h1 h2 ih =>
    intro F ad s vs R hv
    obtain ⟨_, _, rfl, q, r⟩ := hv.inv
    refine assignInOrder_cons (wpAny_mono (h1.out F ad s _ R q) (fun _ s₁ x => ?_) fun _ _ z => z)
    exact wpAny_mono (ih x.1 (r.stay x.2.1.stay)) (fun _ s₂ y => Aft.then x.2.1 y) fun _ _ z => z
theorem Kp.ext {h' : Heap} (he : Heap.ExtBut s.heap.objs.size s.heap h') : Kp s { s with heap := h' } := ⟨fun b o e => he b o (Nat.ne_of_lt (Heap.lt_size e)) e, fun _ _ e => e, id, rfl⟩
theorem assign_TupleL {elts : List Expr} {k : Nat} {pos : Pos} {l : Addr} {items : Array Value} {Q : Unit → Shared → Prop} {E : Value → Shared → Prop} {A : Around} {env : Env} (hh : A.handled = none) (hl : s.heap.IsList l items) (hn : (assignEach elts env).length = items.size)
    (hstar : (assignEach elts env).findIdx? (·.1) = none) (h : ∀ h', Heap.ExtBut s.heap.objs.size s.heap h' → wpAny (model prog w) A (assignInOrder ((assignEach elts env).map (·.2)) items.toList) Q E { s with heap := h' }) :
    wpAny (model prog w) A (assign (.Tuple elts k pos) env (.ref l)) Q E s := by
  rw [assign_Tuple]
  refine wpAny_bind (wpAny_standAt ?_)
  unfold unpack
  rw [hn, hstar]
  exact wpAny_bind (wpAny_holding (kun_itemsOf hh hl h))
theorem Asg.tuple {es : List Expr} {ds : List PyData} {k : Nat} {pos : Pos} (h : AsgL prog w H C es ds σ σ') (he : ∀ env, assignEach es env = es.map fun e => (false, assign e env) := by intro _; rfl) : Asg prog w H C (.Tuple es k pos) (.tuple ds) σ σ' := by
  refine Box.of fun F ad s v R hv => ?_
  obtain ⟨a, o, vs, n, rfl, na, ho, hc, hd, hr⟩ := hv.inv
  have hz : es.length = vs.size := by have := h.length; have := hr.length; simp at this; lia
  refine assign_Tuple_tuple R.ok.hh ⟨o, ho, hc, n, hd⟩ (by rw [he]; simp [hz]) (by rw [he, List.findIdx?_map]; exact List.findIdx?_eq_none_iff.mpr fun _ _ => rfl) fun h' hx => ?_
  have k := Kp.ext hx
  rw [he, List.map_map]
  exact wpAny_mono (h.run (R.kp k) (hr.stay k.stay)) (fun _ s₂ y => Aft.then k.go y) fun _ _ z => z
theorem Asg.list {es : List Expr} {ds : List PyData} {k : Nat} {pos : Pos} (h : AsgL prog w H C es ds σ σ') (he : ∀ env, assignEach es env = es.map fun e => (false, assign e env) := by intro _; rfl) : Asg prog w H C (.Tuple es k pos) (.list ds) σ σ' := by
  refine Box.of fun F ad s v R hv => ?_
  obtain ⟨a, o, vs, n, rfl, na, ho, hc, hd, hr⟩ := hv.inv
  have hz : es.length = vs.size := by have := h.length; have := hr.length; simp at this; lia
  refine assign_TupleL R.ok.hh ⟨o, ho, hc, n, hd⟩ (by rw [he]; simp [hz]) (by rw [he, List.findIdx?_map]; exact List.findIdx?_eq_none_iff.mpr fun _ _ => rfl) fun h' hx => ?_
  have k := Kp.ext hx
  rw [he, List.map_map]
  exact wpAny_mono (h.run (R.kp k) (hr.stay k.stay)) (fun _ s₂ y => Aft.then k.go y) fun _ _ z => z

/-! ## for -/
inductive ItP (prog : Program) (w : World) (H : Heap) (C : Cx) (F : Addr → Prop) (ad : Str → Addr) (σ : List Ent) (s : Shared) (σ₁ : List Ent) (ds : List PyData) (tt : Expr → Prop) (it : Value) (s₂ : Shared) : Prop
  | mk (W : Addr → Prop) (GW : Nat → Prop) (St : StT) (K : Wk prog w H C.A it GW tt St) (hW : ∀ a, W a → s.heap.get? a = none) (hG : ∀ g : Nat, GW g → s.gens[g]? = none)
    (R : Rep prog w H C (Or2 F W) ad σ₁ s₂) (g : Go (Mut C σ ad) (Mut C σ₁ ad) s s₂) (hWM : ∀ a, W a → ¬ Mut C σ₁ ad a) (st : St ds W (Or2 (Or2 F W) (Mut C σ₁ ad)) s₂)
noncomputable def ItE (prog : Program) (w : World) (H : Heap) (C : Cx) (σ : List Ent) (e : Expr) (ds : List PyData) (σ₁ : List Ent) (tt : Expr → Prop) : Prop :=
  Box (∀ F ad s, Rep prog w H C F ad σ s → wpAny (model prog w) C.A (eval e C.env) (fun x s₁ => wpAny (model prog w) C.A (pyIter x) (ItP prog w H C F ad σ s σ₁ ds tt) (fun _ _ => False) s₁) (fun _ _ => False) s)

theorem Go.stp {W W' V : Addr → Prop} {GW : Nat → Prop} {s₀ : Shared} (g : Go W W' s₀ s) (k : Stp V GW s s') (hV : ∀ a, V a → s₀.heap.get? a = none) (hG : ∀ n : Nat, GW n → s₀.gens[n]? = none) : Go W W' s₀ s' where
  keep a o hn e := k.heap a o (fun z => by rw [hV a z] at e; cases e) (g.keep a o hn e)
  alive a o e := let ⟨o', e'⟩ := g.alive a o e; ⟨o', k.heap a o' (fun z => by rw [hV a z] at e; cases e) e'⟩
  new := g.new
  gens n x e := k.gens n x (fun z => by rw [hG n z] at e; cases e) (g.gens n x e)
  os := k.os.trans g.os

/-- the frame drops what it was forbidden for a while -/
theorem Rep.narrow {W : Addr → Prop} {s₀ : Shared} {ad₀ : Str → Addr} {σ₀ : List Ent} (R : Rep prog w H C (Or2 F W) ad σ s) (R₀ : Rep prog w H C F ad₀ σ₀ s₀) : Rep prog w H C F ad σ s :=
  R.turn (W := fun _ => False) (fun _ _ _ e => e) id (fun _ z => z.elim) (fun _ z => z.elim) (fun _ z => z.elim) (fun _ z => z.elim) (fun _ z => .inl (.inl z)) (fun a z => R.aliveF a (.inl z)) R₀.cellF
theorem FlR.sub {h : Heap} {X Y : Addr → Prop} (hXY : ∀ a, Y a → X a) {f : Flow} {g : Fl} (x : FlR h X f g) : FlR h Y f g := by
  cases f <;> cases g <;> first | exact x | skip
  exact Rd.stay ⟨fun _ _ _ e => e, fun a z => .inl (hXY a z)⟩ x

noncomputable abbrev TurnP (I : List PyData → List Ent → Prop) (P : Fl → List Ent → Prop) (ds : List PyData) (f : Fl) (σ : List Ent) : Prop := match f with | .nx => I ds σ | .ct => I ds σ | .br => P .nx σ | .rt d => P (.rt d) σ
inductive ForI (prog : Program) (w : World) (H : Heap) (C : Cx) (F : Addr → Prop) (ad : Str → Addr) (σ : List Ent) (s : Shared) (I : List PyData → List Ent → Prop) (St : StT) (n : Nat) (s' : Shared) : Prop
  | mk (ds : List PyData) (σ' : List Ent) (ad' : Str → Addr) (W : Addr → Prop) (hn : n = ds.length) (hI : I ds σ') (hW : ∀ a, W a → s.heap.get? a = none) (R : Rep prog w H C (Or2 F W) ad' σ' s') (hWM : ∀ a, W a → ¬ Mut C σ' ad' a)
    (g : Go (Mut C σ ad) (Mut C σ' ad') s s') (st : St ds W (Or2 (Or2 F W) (Mut C σ' ad')) s')
theorem TriS.for_ {tgt it : Expr} {b o : List Stmt} {pos : Pos} {ds : List PyData} {tt : Expr → Prop} {P : Fl → List Ent → Prop} (hit : ItE prog w H C σ it ds σ₁ tt) (ht : tt tgt) (I : List PyData → List Ent → Prop) (h0 : I ds σ₁)
    (turn : ∀ d ds σ, I (d :: ds) σ → ∃ σ', Asg prog w H C tgt d σ σ' ∧ TriB prog w H C σ' b (TurnP I P ds))
    (done : ∀ σ, I [] σ → TriB prog w H C σ o P) (hs : ∀ x, foldedSetIterable it C.env x = pure x := by intro _; rfl) : TriS prog w H C σ (.For tgt it b o pos) P := by
  refine Box.of fun F ad s R => ?_
  refine wpAny_For (wpAny_mono (hit.out F ad s R) (fun x s₁ h₁ => wpAny_mono h₁ (fun itv s₂ h₂ => ?_) fun _ _ z => z.elim) fun _ _ z => z.elim) hs
  obtain ⟨W₀, GW, St, K, hW₀, hG, R₂, g₂, hWM₀, hst₀⟩ := h₂
  refine codeAny_forLoop_any (ForI prog w H C F ad σ s I St)
    ?_ ds.length ⟨ds, σ₁, ad, W₀, rfl, h0, hW₀, R₂, hWM₀, g₂, hst₀⟩
  rintro n s' ⟨ds, σ', ad', W, rfl, hI, hW, R', hWM, g, st⟩
  have hWH : ∀ a, W a → H.get? a = none := fun a z => R.notH (hW a z)
  have hWF : ∀ a, F a → ¬ W a := fun a z q => by obtain ⟨o, e⟩ := R.aliveF a z; rw [hW a q] at e; cases e
  have hWc : ∀ a, W a → a ∉ C.env.cells.map (·.2) := fun a z => R.notCell (hW a z)
  cases ds with
  | nil =>
    refine wpAny_mono (K.done _ _ _ st (fun a z => .inl (.inr z)) R'.new R'.bare R'.top) (fun r s₃ h₃ => ?_) fun _ _ z => z.elim
    obtain ⟨rfl, k⟩ := h₃
    have R₃ : Rep prog w H C F ad' σ' s₃ := R'.turn (W := W) (fun a o n e => k.heap a o n e) k.bare (fun a z => .inr z) hWM hWc hWH (fun _ z => .inl (.inl z))
      (fun a z => let ⟨o, e⟩ := R'.aliveF a (.inl z); ⟨o, k.heap a o (hWF a z) e⟩) R.cellF
    refine wpAny_mono ((done σ' hI).out F ad' s₃ R₃) (fun fl s₄ y => ?_) fun _ _ z => z.elim
    obtain ⟨f, σ'', ad'', hp, R₄, g₄, hf⟩ := y
    exact ⟨f, σ'', ad'', hp, R₄, (g.stp k hW hG).trans g₄, hf⟩
  | cons d ds =>
    refine wpAny_mono (K.item _ _ _ _ _ st (fun a z => .inl (.inr z)) R'.new R'.bare R'.top) (fun r s₃ h₃ => ?_) fun _ _ z => z.elim
    obtain ⟨v, W₁, rfl, up, dn, k, hgo⟩ := h₃
    refine wpAny_mono (hgo tgt ht) (fun _ s₄ h₄ => ?_) fun _ _ z => z.elim
    obtain ⟨k', st₄, hv⟩ := h₄
    have hW₁ : ∀ a, W₁ a → s.heap.get? a = none := fun a z => (dn a z).elim (hW a) fun e => by
      cases e' : s.heap.get? a with
      | none => rfl
      | some o => obtain ⟨o', e2⟩ := g.alive a o e'; rw [e] at e2; cases e2
    have hWM₁ : ∀ a, W₁ a → ¬ Mut C σ' ad' a := fun a z => (dn a z).elim (hWM a) fun e q => R'.new a e (.inr q)
    have k2 : ∀ a o, ¬ W a → s'.heap.get? a = some o → s₄.heap.get? a = some o := fun a o n e => k'.heap a o (fun z => (dn a z).elim n fun e' => by rw [e] at e'; cases e') (k.heap a o n e)
    have R₄ : Rep prog w H C (Or2 F W₁) ad' σ' s₄ := R'.turn (W := W) k2 (fun b => k'.bare (k.bare b)) (fun a z => .inr z) hWM hWc hWH (fun a z => z.elim (fun z => .inl (.inl z)) fun z => (dn a z).imp .inr id)
      (fun a z => z.elim (fun z => let ⟨o, e⟩ := R'.aliveF a (.inl z); ⟨o, k2 a o (hWF a z) e⟩) fun z => K.live _ _ _ _ st₄ a z) fun c hc => (R.cellF c hc).imp id .inl
    have g₄ := (g.stp k hW hG).stp k' hW₁ hG
    have sub₄ : ∀ a, Or2 (Or2 F W₁) (Mut C σ' ad') a → Or2 (Or2 (Or2 F W) (Mut C σ' ad')) W₁ a := fun a z => by
      rcases z with (z | z) | z
      · exact .inl (.inl (.inl z))
      · exact .inr z
      · exact .inl (.inr z)
    have hv₄ : Rd s₄.heap (Or2 (Or2 F W₁) (Mut C σ' ad')) v d := hv.stay ⟨fun _ _ _ e => e, fun a z => .inl (sub₄ a z)⟩
    obtain ⟨σ₅, ha, hb⟩ := turn d ds σ' hI
    refine wpAny_mono (ha.out _ _ _ _ R₄ hv₄) (fun _ s₅ h₅ => ?_) fun _ _ z => z.elim
    obtain ⟨R₅, g₅, _⟩ := h₅
    have dis : ∀ {σ'' ad'' s''}, Go (Mut C σ' ad') (Mut C σ'' ad'') s₄ s'' → ∀ a, W₁ a → ¬ Mut C σ'' ad'' a := fun gx a z q => (gx.new a q).elim (hWM₁ a z) fun e => by
      obtain ⟨o, e'⟩ := K.live _ _ _ _ st₄ a z; rw [e'] at e; cases e
    refine wpAny_mono (hb.out _ _ _ R₅) (fun fl s₆ y => ?_) fun _ _ z => z.elim
    obtain ⟨f, σ₆, ad₆, hp, R₆, g₆, hf⟩ := y
    have g46 := g₅.trans g₆
    have st₄' : St ds W₁ (Or2 (Or2 F W₁) (Mut C σ' ad')) s₄ := K.frame _ _ _ _ _ _ st₄ ⟨fun _ _ _ e => e, fun a z => .inl (sub₄ a z)⟩ (fun _ _ _ e => e) fun _ _ _ e => e
    have st₆ : St ds W₁ (Or2 (Or2 F W₁) (Mut C σ₆ ad₆)) s₆ := K.frame _ _ _ _ _ _ st₄' g46.stay (fun a o z e => g46.keep a o (hWM₁ a z) e) fun n x _ e => g46.gens n x e
    have hsub : ∀ a, Or2 F (Mut C σ₆ ad₆) a → Or2 (Or2 F W₁) (Mut C σ₆ ad₆) a := fun a z => z.imp .inl id
    cases fl <;> cases f <;> first | exact hf.elim | skip
    · exact ⟨ds.length, Nat.lt_succ_self _, ds, σ₆, ad₆, W₁, rfl, hp, hW₁, R₆, dis g46, g₄.trans g46, st₆⟩
    · exact ⟨.nx, σ₆, ad₆, hp, R₆.narrow R, g₄.trans g46, trivial⟩
    · exact ⟨ds.length, Nat.lt_succ_self _, ds, σ₆, ad₆, W₁, rfl, hp, hW₁, R₆, dis g46, g₄.trans g46, st₆⟩
    · exact ⟨_, σ₆, ad₆, hp, R₆.narrow R, g₄.trans g46, hf.sub hsub⟩
end
end Mine

end
noncomputable section
open PySem PySem.W PyProof.Rows
set_option maxRecDepth 100000
set_option autoImplicit false
namespace Mine

/-! ## what the names are said to hold may be turned -/
inductive Turn : Ent → Ent → Prop
  | same (e : Ent) : Turn e e
  | un (x : Str) (l : Bool) (sl : Slot) : Turn ⟨x, l, sl⟩ ⟨x, l, .un⟩
  | fz (x : Str) (l : Bool) (ds : List PyData) : Turn ⟨x, l, .own ds⟩ ⟨x, l, .val (.list ds)⟩
  | fd (x : Str) (l : Bool) (kvs : List (Str × PyData)) : Turn ⟨x, l, .dic kvs⟩ ⟨x, l, .rdc kvs⟩
inductive Turns : List Ent → List Ent → Prop
  | nil : Turns [] []
  | cons {a b : Ent} {as bs : List Ent} : Turn a b → Turns as bs → Turns (a :: as) (b :: bs)
theorem Turns.refl : ∀ σ : List Ent, Turns σ σ
  | [] => .nil
  | e :: σ => .cons (.same e) (Turns.refl σ)
theorem Turns.names {σ σ' : List Ent} (h : Turns σ σ') : σ'.map (·.nm) = σ.map (·.nm) := by
  induction h with
  | nil => rfl
  | cons q _ ih => cases q <;> simp only [List.map_cons, ih]
theorem Turns.back {σ σ' : List Ent} (h : Turns σ σ') : ∀ e' ∈ σ', ∃ e ∈ σ, Turn e e' := by
  induction h with
  | nil => intro e he; cases he
  | cons q _ ih =>
    intro e' he
    rcases List.mem_cons.mp he with rfl | he
    · exact ⟨_, .head _, q⟩
    · exact let ⟨e, h1, h2⟩ := ih e' he; ⟨e, .tail _ h1, h2⟩
theorem mem_name {σ : List Ent} (nd : (σ.map (·.nm)).Nodup) {e e' : Ent} (h : e ∈ σ) (h' : e' ∈ σ) (hn : e.nm = e'.nm) : e = e' := by
  induction σ with
  | nil => cases h
  | cons x σ ih =>
    rw [List.map_cons, List.nodup_cons] at nd
    rcases List.mem_cons.mp h with h | h <;> rcases List.mem_cons.mp h' with h' | h'
    · rw [h, h']
    · exact absurd (List.mem_map.mpr ⟨e', h', by rw [← hn, h]⟩) nd.1
    · exact absurd (List.mem_map.mpr ⟨e, h, by rw [hn, h']⟩) nd.1
    · exact ih nd.2 h h'

section
variable {prog : Program} {w : World} {H : Heap} {C : Cx} {F : Addr → Prop} {ad : Str → Addr} {σ σ₁ σ₂ σ₃ σ' : List Ent} {s s' : Shared}

theorem Turns.mut (h : Turns σ σ') : ∀ a, Mut C σ' ad a → Mut C σ ad a := by
  rintro a (z | z | ⟨e', he', ho, rfl⟩)
  · exact .inl z
  · exact .inr (.inl z)
  · obtain ⟨e, he, q⟩ := h.back e' he'
    cases q with
    | same => exact .inr (.inr ⟨_, he, ho, rfl⟩)
    | un => cases ho
    | fz => cases ho
    | fd => cases ho
theorem Rep.re (h : Turns σ σ') (R : Rep prog w H C F ad σ s) : Rep prog w H C F ad σ' s where
  ok := R.ok
  top := R.top
  bare := R.bare
  nd := h.names ▸ R.nd
  ns := by
    obtain ⟨m, hm, q⟩ := R.ns
    have off : ∀ {x l sl sl'}, (⟨x, l, sl⟩ : Ent) ∈ σ → (⟨x, l, sl'⟩ : Ent) ∈ σ' → sl.isOwn = true → sl'.isOwn = false → ¬ F (ad x) → ¬ Or2 F (Mut C σ' ad) (ad x) := by
      intro x l sl sl' he he' hown hown' nf z
      rcases z with z | z | z | ⟨e₂, he₂, ho₂, ea⟩
      · exact nf z
      · exact (R.ow _ he hown).1 z
      · exact (R.ow _ he hown).2 (R.mc _ z)
      · obtain ⟨e₃, he₃, t₃⟩ := h.back e₂ he₂
        cases t₃ with
        | same =>
          have := R.dd _ he₃ _ he ho₂ hown ea
          have e2 := mem_name (h.names ▸ R.nd) he₂ he' this
          rw [e2] at ho₂; rw [ho₂] at hown'; cases hown'
        | un => cases ho₂
        | fz => cases ho₂
        | fd => cases ho₂
    refine ⟨m, hm, fun e' he' => ?_⟩
    obtain ⟨e, he, t⟩ := h.back e' he'
    have qe := q e he
    have st : Stay (Or2 F (Mut C σ ad)) (Or2 F (Mut C σ' ad)) s.heap s.heap := ⟨fun _ _ _ e => e, fun a z => .inl (z.imp id (h.mut a))⟩
    cases t with
    | same => exact ⟨qe.kind, qe.cell, qe.nodebug, qe.slot.stay st (fun _ _ _ e => e) (fun _ _ e => e) fun _ nf _ _ f => nf f⟩
    | un => exact ⟨qe.kind, qe.cell, qe.nodebug, trivial⟩
    | fz x l ds =>
      obtain ⟨ha, nf, vs, ⟨k, hk⟩, hr⟩ := qe.slot
      exact ⟨qe.kind, qe.cell, qe.nodebug, .ref (ad x), ha, .list (off he he' rfl rfl nf) hk rfl rfl (hr.stay st)⟩
    | fd x l kvs =>
      obtain ⟨ha, nf, hr⟩ := qe.slot
      exact ⟨qe.kind, qe.cell, qe.nodebug, ad x, ha, off he he' rfl rfl nf, hr.stay st fun _ e => e⟩
  cells := R.cells
  dl := R.dl
  dn := R.dn
  mc := R.mc
  ow := fun e' he' ho => by
    obtain ⟨e, he, t⟩ := h.back e' he'
    cases t with
    | same => exact R.ow _ he ho
    | un => cases ho
    | fz => cases ho
    | fd => cases ho
  dd := fun e' he' e₂ he₂ ho ho₂ z => by
    obtain ⟨e, he, t⟩ := h.back e' he'
    obtain ⟨e₃, he₃, t₃⟩ := h.back e₂ he₂
    cases t with
    | same =>
      cases t₃ with
      | same => exact R.dd _ he _ he₃ ho ho₂ z
      | un => cases ho₂
      | fz => cases ho₂
      | fd => cases ho₂
    | un => cases ho
    | fz => cases ho
    | fd => cases ho
  fresh := fun a z => R.fresh a (h.mut a z)
  aliveF := R.aliveF
  cellF := R.cellF
  fl := R.fl
  pa := fun e' he' ho => by
    obtain ⟨e, he, t⟩ := h.back e' he'
    cases t with
    | same => exact R.pa _ he ho
    | un => cases ho
    | fz => cases ho
    | fd => cases ho
theorem TriB.turn {b : List Stmt} {P : Fl → List Ent → Prop} (h : Turns σ σ₁) (hb : TriB prog w H C σ₁ b P) : TriB prog w H C σ b P :=
  TriB.re (fun _ _ _ R => ⟨R.re h, h.mut⟩) hb

theorem Go.or {W W' V : Addr → Prop} (g : Go W W' s s') : Go (Or2 W V) (Or2 W' V) s s' :=
  ⟨fun a o n e => g.keep a o (fun z => n (.inl z)) e, g.alive, fun a z => z.elim (fun z => (g.new a z).imp .inl id) fun z => .inl (.inr z), g.gens, g.os⟩
/-! ## comprehensions -/
noncomputable def freeCells (env : Env) : List (Str × NameKind) → List (Str × Addr) → List (Str × Addr)
  | [], acc => acc
  | (n, k) :: r, acc => freeCells env r (match k == .free, env.cells.lookup n with | true, some c => (n, c) :: acc | _, _ => acc)
theorem freeCells_run (env : Env) (f : Str × NameKind → List (Str × Addr) → Sem (ForInStep (List (Str × Addr)))) (hf : ∀ n k cs, f (n, k) cs = if k == .free then (do let c ← cellOf env n; pure (.yield ((n, c) :: cs))) else pure (.yield cs)) :
    ∀ (l : List (Str × NameKind)) (acc : List (Str × Addr)), (∀ x ∈ l, x.2 = .free → (env.cells.lookup x.1).isSome = true) → forIn l acc f = pure (freeCells env l acc)
  | [], acc, _ => rfl
  | (n, k) :: r, acc, h => by
    rw [List.forIn_cons, hf]
    unfold freeCells
    by_cases hk : k = .free
    · subst hk
      obtain ⟨c, hc⟩ := Option.isSome_iff_exists.mp (h _ (.head _) rfl)
      dsimp only at hc
      simp only [beq_self_eq_true, if_true, hc, cellOf]
      show (forIn r ((n, c) :: acc) f : Sem _) = _
      exact freeCells_run env f hf r _ fun x hx => h x (.tail _ hx)
    · have : (k == NameKind.free) = false := by simpa using hk
      simp only [this, Bool.false_eq_true, if_false]
      show (forIn r acc f : Sem _) = _
      exact freeCells_run env f hf r _ fun x hx => h x (.tail _ hx)
theorem closureFor_free {scope : Scope} {env : Env} (h : ∀ x ∈ scope.names, x.2 = .free → (env.cells.lookup x.1).isSome = true) : closureFor scope env = pure (freeCells env scope.names []) := by
  unfold closureFor
  show (forIn scope.names ([] : List (Str × Addr)) _ >>= _) = _
  rw [freeCells_run env _ (fun n k cs => by cases hk : k == NameKind.free <;> simp [hk]) scope.names [] h]
  rfl
theorem freeCells_mem (env : Env) : ∀ (l : List (Str × NameKind)) (acc : List (Str × Addr)) (x : Str) (c : Addr), (x, c) ∈ freeCells env l acc → (x, c) ∈ acc ∨ env.cells.lookup x = some c
  | [], acc, x, c, h => .inl h
  | (n, k) :: r, acc, x, c, h => by
    unfold freeCells at h
    rcases freeCells_mem env r _ x c h with h | h
    · cases hk : k == NameKind.free
      · simp only [hk] at h; exact .inl h
      · cases hc : env.cells.lookup n with
        | none => simp only [hk, hc] at h; exact .inl h
        | some c' =>
          simp only [hk, hc] at h
          rcases List.mem_cons.mp h with e | h
          · injection e with e1 e2; subst e1 e2; exact .inr hc
          · exact .inl h
    · exact .inr h
theorem lookup_isSome_of_mem {l : List (Str × Addr)} {x : Str} {c : Addr} (h : (x, c) ∈ l) : (l.lookup x).isSome = true := by
  induction l with
  | nil => cases h
  | cons p r ih =>
    obtain ⟨k, v⟩ := p
    rw [List.lookup_cons]
    cases hb : x == k with
    | true => rfl
    | false =>
      rcases List.mem_cons.mp h with e | h
      · injection e with e1 _; subst e1; simp at hb
      · exact ih h
theorem freeCells_keep (env : Env) : ∀ (l : List (Str × NameKind)) (acc : List (Str × Addr)) (x : Str) (c : Addr), (x, c) ∈ acc → (x, c) ∈ freeCells env l acc
  | [], acc, x, c, h => h
  | (n, k) :: r, acc, x, c, h => by
    unfold freeCells
    refine freeCells_keep env r _ x c ?_
    split
    · exact .tail _ h
    · exact h
theorem freeCells_has (env : Env) : ∀ (l : List (Str × NameKind)) (acc : List (Str × Addr)) (x : Str) (c : Addr), (x, NameKind.free) ∈ l → env.cells.lookup x = some c → (x, c) ∈ freeCells env l acc
  | (n, k) :: r, acc, x, c, h, hc => by
    unfold freeCells
    rcases List.mem_cons.mp h with e | h
    · injection e with e1 e2
      subst e1 e2
      refine freeCells_keep env r _ x c ?_
      simp [hc]
    · exact freeCells_has env r _ x c h hc

noncomputable def kid (C : Cx) (scope : Scope) (gl : List Str) (L : Addr) : Cx := ⟨compEnvC scope (freeCells C.env scope.names []) L C.env, C.A, C.n, [], false, gl, C.par⟩
noncomputable def kidOk (C : Cx) (scope : Scope) (fr vs gl : List Str) : Bool :=
  decide (scope.kind = .function) && !scope.isCoroutine &&
  (scope.names.all fun x => decide (x.2 ≠ .cell) && (decide (x.2 ≠ .free) || (C.env.cells.lookup x.1).isSome) && (decide (x.2 ≠ .local) || decide (scope.names.lookup x.1 = some .local))) &&
  (fr.all fun x => decide (scope.names.lookup x = some .free) && !(x == ("__debug__" : Str))) && (vs.all fun x => decide (scope.names.lookup x = some .local) && !(x == ("__debug__" : Str))) &&
  (gl.all fun x => decide (scope.names.lookup x = some .globalImplicit) && !(x == ("__debug__" : Str))) && decide ((fr ++ vs).Nodup)
noncomputable def kidσ (fr : List (Str × Slot)) (vs : List Str) : List Ent := (fr.map fun p => Ce p.1 p.2) ++ vs.map fun x => Lo x .un

theorem lookup_relabel {env : Env} (hk : env.scope.kind = .function) : ∀ {names : List (Str × NameKind)} {x : Str} {k : NameKind}, names.lookup x = some k →
    (names.map fun (n, k) => if (k == NameKind.free && env.scope.kind == .function && env.kindOf n == some .cell) then (n, NameKind.cell) else (n, k)).lookup x = some (if k = .free ∧ env.kindOf x = some .cell then .cell else k)
  | [], _, _, h => by simp at h
  | (n, k) :: r, x, k', h => by
    have ih := @lookup_relabel env hk r x k'
    show List.lookup x ((if (k == NameKind.free && env.scope.kind == .function && env.kindOf n == some .cell) = true then (n, NameKind.cell) else (n, k)) :: _) = _
    have hk' : (env.scope.kind == ScopeKind.function) = true := by rw [hk]; rfl
    cases hx : x == n with
    | true =>
      simp only [List.lookup_cons, hx] at h
      cases h
      have hxn : x = n := beq_iff_eq.mp hx
      subst hxn
      by_cases hc : (k == NameKind.free && env.scope.kind == .function && env.kindOf x == some .cell) = true
      · rw [if_pos hc]
        simp only [Bool.and_eq_true, beq_iff_eq] at hc
        simp [hc]
      · rw [if_neg hc]
        rw [if_neg (fun z => hc (by simp [z.1, z.2, hk']))]
        simp
    | false =>
      simp only [List.lookup_cons, hx] at h
      by_cases hc : (k == NameKind.free && env.scope.kind == .function && env.kindOf n == some .cell) = true
      · rw [if_pos hc]; simp only [List.lookup_cons, hx]; exact ih h
      · rw [if_neg hc]; simp only [List.lookup_cons, hx]; exact ih h
end
end Mine

end
noncomputable section
open PySem PySem.W PyProof.Rows
set_option maxRecDepth 100000
set_option autoImplicit false
namespace Mine

section
variable {prog : Program} {w : World} {H : Heap} {A : Around} {s : Shared} {R : Result → Shared → Prop}

theorem codeAny_compLoop_body {elt : Expr} {gens : List Comprehension} {scope : Scope} {pos : Pos} {depth : Nat} {tgt : Expr} {p : Pos} {ifs : List Expr} {body : Sem Unit} {it acc : Value} {env : Env}
    (hT : compTurn (.ListComp elt gens scope pos) depth it acc env = (do
      standAt p
      match ← pyNext it with
      | none => pure (.done .next)
      | some v =>
        letOwnedTupleGo tgt it v
        assign tgt env v
        let mut ok := true
        for c in ifs do
          if ok then ok ← isTrue c env (eval c env)
        if ok then body
        again (.compLoop (.ListComp elt gens scope pos) depth it acc env)))
    (I : Nat → Shared → Prop)
    (turn : ∀ n s, I n s → wpAny (model prog w) A (pyNext it) (fun r s₁ => match r with
      | none => R (.ok .next) s₁
      | some v => wpAny (model prog w) A (letOwnedTupleGo tgt it v) (fun _ s₁' => wpAny (model prog w) A (assign tgt env v) (fun _ s₂ =>
          wpAny (model prog w) A (forIn ifs true fun c r => if r = true then do let ok ← isTrue c env (eval c env); pure (ForInStep.yield ok) else pure (ForInStep.yield r)) (fun ok s₃ =>
            if ok = true then wpAny (model prog w) A body (fun _ s₅ => ∃ m, m < n ∧ I m s₅) (fun _ _ => False) s₃
            else ∃ m, m < n ∧ I m s₃) (fun _ _ => False) s₂) (fun _ _ => False) s₁') (fun _ _ => False) s₁) (fun _ _ => False) s)
    (n : Nat) (h : I n s) : codeAny (model prog w) A (.compLoop (.ListComp elt gens scope pos) depth it acc env) R s := by
  refine codeAny_loop rfl I (fun n s hI => ?_) n h
  show wpAny _ A ((compTurn (.ListComp elt gens scope pos) depth it acc env).onRaise (fun x => do noteFrame x env; theTreesLotGoes x)) _ _ s
  refine wpAny_noted ?_
  rw [hT]
  refine wpAny_bind (wpAny_standAt (wpAny_bind (wpAny_mono (turn n s hI) (fun r s₁ h₁ => ?_) fun _ _ h' => h'.elim)))
  cases r with
  | none => exact wpAny_pure h₁
  | some v =>
    refine wpAny_bind (wpAny_mono h₁ (fun _ s₁' h₁' => ?_) fun _ _ h' => h'.elim)
    refine wpAny_bind (wpAny_mono h₁' (fun _ s₂ h₂ => wpAny_bind (wpAny_mono h₂ (fun ok s₃ h₃ => ?_) fun _ _ h' => h'.elim)) fun _ _ h' => h'.elim)
    cases ok with
    | false => exact wpAny_pure ⟨rfl, h₃⟩
    | true => exact wpAny_bind (wpAny_mono h₃ (fun _ s₅ h₅ => wpAny_pure ⟨rfl, h₅⟩) fun _ _ h' => h'.elim)

theorem codeAny_compStart_at {elt : Expr} {gens : List Comprehension} {scope : Scope} {pos : Pos} {depth : Nat} {it acc : Value} {env : Env} (hg : ((clausesOf (.ListComp elt gens scope pos))[depth]?).elim false (·.is_async != 0) = false)
    (h0 : codeAny (model prog w) A (.compLoop (.ListComp elt gens scope pos) depth it acc env) R s)
    (h : wpAny (model prog w) A (pyIter it) (fun it' s' => codeAny (model prog w) A (.compLoop (.ListComp elt gens scope pos) depth it' acc env) R s') (fun _ _ => False) s) :
    codeAny (model prog w) A (.compStart (.ListComp elt gens scope pos) depth it acc env) R s := by
  refine codeAny_of_tree ?_
  show wpAny _ _ ((compStart (.ListComp elt gens scope pos) depth it acc env).onRaise (fun x => do noteFrame x env; standAt theWindowsPlace)) _ _ s
  refine wpAny_notedAt ?_
  unfold compStart
  rw [if_neg (by rw [hg]; exact Bool.false_ne_true)]
  show wpAny _ _ (ask >>= _) _ _ s
  refine wpAny_bind (wpAny_askSetting (wpAny_ite ?_))
  split
  · first
      | exact wpAny_bind (wpAny_pure (wpAny_pure (And.intro rfl h0)))
      | exact wpAny_pure (And.intro rfl h0)
  · refine wpAny_bind (wpAny_rule ?_)
    have fin : wpAny (model prog w) A (pyIter it >>= fun x => again (.compLoop (.ListComp elt gens scope pos) depth x acc env)) (fun fin s' => match fin with | .done f => R (.ok f) s' | .again c' => c'.quiet = true ∧ codeAny (model prog w) A c' R s') (fun _ _ => False) s :=
      wpAny_bind (wpAny_mono h (fun it' s' h' => wpAny_pure (And.intro rfl h')) fun _ _ x => x)
    cases hc : (clausesOf (.ListComp elt gens scope pos))[depth]? with
    | none => exact wpAny_mono fin (fun _ _ x => x) fun _ _ x => x.elim
    | some g => exact wpAny_bind (wpAny_standAt (wpAny_mono fin (fun _ _ x => x) fun _ _ x => x.elim))
end

/-! the tests of a clause -/
noncomputable def TriI (prog : Program) (w : World) (H : Heap) (C : Cx) (σ : List Ent) (ifs : List Expr) (b : Bool) : Prop :=
  Box (∀ F ad s, Rep prog w H C F ad σ s → wpAny (model prog w) C.A (forIn ifs true fun c r => if r = true then do let ok ← isTrue c C.env (eval c C.env); pure (ForInStep.yield ok) else pure (ForInStep.yield r))
    (fun r s' => r = b ∧ Aft prog w H C F ad σ s σ s' fun _ => True) (fun _ _ => False) s)

/-- the list that a comprehension fills -/
structure AccOk (H : Heap) (K : Cx) (F : Addr → Prop) (ad : Str → Addr) (σ : List Ent) (D : Addr) : Prop where
  f : F D
  m : ¬ Mut K σ ad D
  c : D ∉ K.env.cells.map (·.2)
  h : H.get? D = none
noncomputable def Acc (h : Heap) (X : Addr → Prop) (D : Addr) (ys : List PyData) : Prop := ∃ vs, h.PlainList D vs ∧ RdL h X vs.toList ys
theorem Acc.stay {h h' : Heap} {X X' : Addr → Prop} {D : Addr} {ys : List PyData} (x : Acc h X D ys) (k : Stay X X' h h') (kd : ∀ o, h.get? D = some o → h'.get? D = some o) : Acc h' X' D ys :=
  let ⟨vs, h1, h2⟩ := x; ⟨vs, h1.at kd, h2.stay k⟩
theorem Acc.sub {h : Heap} {X X' : Addr → Prop} {D : Addr} {ys : List PyData} (x : Acc h X D ys) (k : ∀ a, X' a → X a) : Acc h X' D ys := x.stay ⟨fun _ _ _ e => e, fun a z => .inl (k a z)⟩ fun _ e => e
noncomputable abbrev MD (K : Cx) (σ : List Ent) (ad : Str → Addr) (D : Addr) : Addr → Prop := Or2 (Mut K σ ad) (· = D)
noncomputable def EmitR (prog : Program) (w : World) (H : Heap) (K : Cx) (body : Addr → Sem Unit) (σ : List Ent) (out : List PyData) : Prop :=
  Box (∀ F ad s D ys, Rep prog w H K F ad σ s → AccOk H K F ad σ D → Acc s.heap (Or2 F (Mut K σ ad)) D ys → ys.length + out.length ≤ sizeLine →
    wpAny (model prog w) K.A (body D) (fun _ s' => Rep prog w H K F ad σ s' ∧ Go (MD K σ ad D) (MD K σ ad D) s s' ∧ Acc s'.heap (Or2 F (Mut K σ ad)) D (ys ++ out)) (fun _ _ => False) s)

section
variable {prog : Program} {w : World} {H : Heap} {K : Cx} {F : Addr → Prop} {ad : Str → Addr} {σ σ₁ σ₂ σ₃ σ' : List Ent} {s s' : Shared}
theorem TriI.nil : TriI prog w H K σ [] true := Box.of fun F ad s R => wpAny_tests_nil ⟨rfl, Aft.here R trivial⟩
theorem TriI.one {c : Expr} {b : Bool} (h : TriT prog w H K σ c b σ) : TriI prog w H K σ [c] b := Box.of fun F ad s R => wpAny_tests_one (h.out F ad s R)

theorem EmitR.elt {elt : Expr} {y : PyData} (h : Tri prog w H K σ elt y σ) : EmitR prog w H K (fun D => do let _ ← call (.builtin "list.append") [.ref D, ← eval elt K.env]) σ [y] := by
  refine Box.of fun F ad s D ys R hD hA hz => ?_
  refine wpAny_bind (wpAny_mono (h.out F ad s R) (fun v s₁ x => ?_) fun _ _ z => z)
  obtain ⟨R₁, g₁, hv⟩ := x
  obtain ⟨vs, hp, hr⟩ := hA.stay g₁.stay fun o e => g₁.keep _ o hD.m e
  have hs : vs.size ≤ sizeLine := by have := hr.length; simp at this hz; lia
  refine wpAny_bind (wpAny_list_append_plain hp (fun h' hp' hs' => wpAny_pure ?_) hs)
  have R₂ : Rep prog w H K F ad σ { s₁ with heap := h' } := R₁.turn (W := (· = D)) (fun a o n e => hs'.extBut a o n e) id (fun a z => z ▸ hD.f) (fun a z => z ▸ hD.m) (fun a z => z ▸ hD.c) (fun a z => z ▸ hD.h) (fun _ z => .inl z)
    (fun a z => by
      by_cases e : a = D
      · subst e; exact let ⟨n, q⟩ := hp'; ⟨_, q⟩
      · exact let ⟨o, q⟩ := R₁.aliveF a z; ⟨o, hs'.extBut a o e q⟩) R₁.cellF
  have st : Stay (Or2 F (Mut K σ ad)) (Or2 F (Mut K σ ad)) s₁.heap h' := ⟨fun a o n e => hs'.extBut a o (fun z => n (.inl (z ▸ hD.f))) e, fun _ z => .inl z⟩
  refine ⟨R₂, g₁.or.trans ⟨fun a o n e => hs'.extBut a o (fun z => n (.inr z)) e, fun a o e => ?_, fun _ z => .inl z, fun _ _ e => e, rfl⟩, _, hp', ?_⟩
  · by_cases q : a = D
    · subst q; exact let ⟨n, q⟩ := hp'; ⟨_, q⟩
    · exact ⟨o, hs'.extBut a o q e⟩
  · rw [Array.toList_push]
    exact (hr.stay st).append (.one (hv.stay st))

/-- what each turn of a clause does -/
noncomputable def TurnC (prog : Program) (w : World) (H : Heap) (K : Cx) (tgt : Expr) (ifs : List Expr) (body : Addr → Sem Unit) (σ : List Ent) (d : PyData) (out : List PyData) : Prop :=
  ∃ σ' b, Asg prog w H K tgt d σ σ' ∧ Turns σ' σ ∧ TriI prog w H K σ' ifs b ∧ (b = true → EmitR prog w H K body σ' out) ∧ (b = false → out = [])

inductive CmpI (prog : Program) (w : World) (H : Heap) (K : Cx) (F : Addr → Prop) (ad : Str → Addr) (σ : List Ent) (s : Shared) (W₀ : Addr → Prop) (GW : Nat → Prop) (D : Addr) (ds ys : List PyData) (g : PyData → List PyData) (St : StT) (n : Nat) (s' : Shared) : Prop
  | mk (ds' ys' : List PyData) (W : Addr → Prop) (hn : n = ds'.length) (hsub : ∀ d ∈ ds', d ∈ ds) (hys : ys' ++ ds'.flatMap g = ys ++ ds.flatMap g) (R : Rep prog w H K (Or2 F W) ad σ s') (hW0 : ∀ a, W a → W₀ a ∨ s.heap.get? a = none)
    (hWall : ∀ a, W a → ¬ Mut K σ ad a ∧ a ∉ K.env.cells.map (·.2) ∧ H.get? a = none ∧ ¬ F a) (k : Stp (Or2 (MD K σ ad D) W₀) GW s s') (hA : Acc s'.heap (Or2 (Or2 F W) (Mut K σ ad)) D ys') (st : St ds' W (Or2 (Or2 F W) (Mut K σ ad)) s')
theorem comp_loop {elt : Expr} {gens : List Comprehension} {scope : Scope} {pos : Pos} {depth : Nat} {tgt : Expr} {p : Pos} {ifs : List Expr} {body : Addr → Sem Unit} {it : Value} {D : Addr} {W₀ : Addr → Prop} {GW : Nat → Prop} {tt : Expr → Prop} {St : StT}
    (hT : compTurn (.ListComp elt gens scope pos) depth it (.ref D) K.env = (do
      standAt p
      match ← pyNext it with
      | none => pure (.done .next)
      | some v =>
        letOwnedTupleGo tgt it v
        assign tgt K.env v
        let mut ok := true
        for c in ifs do
          if ok then ok ← isTrue c K.env (eval c K.env)
        if ok then body D
        again (.compLoop (.ListComp elt gens scope pos) depth it (.ref D) K.env)))
    (V : Wk prog w H K.A it GW tt St) (ht : tt tgt) (ds ys : List PyData) (g : PyData → List PyData) (turn : ∀ d ∈ ds, TurnC prog w H K tgt ifs body σ d (g d))
    (R : Rep prog w H K (Or2 F W₀) ad σ s) (R0 : ∀ c ∈ K.env.cells.map (·.2), c ∈ K.mine ∨ F c) (hWM₀ : ∀ a, W₀ a → ¬ Mut K σ ad a) (hWc₀ : ∀ a, W₀ a → a ∉ K.env.cells.map (·.2)) (hWH₀ : ∀ a, W₀ a → H.get? a = none) (hFW₀ : ∀ a, F a → ¬ W₀ a)
    (hD : AccOk H K F ad σ D) (hA : Acc s.heap (Or2 (Or2 F W₀) (Mut K σ ad)) D ys) (hz : ys.length + (ds.flatMap g).length ≤ sizeLine) (hst : St ds W₀ (Or2 (Or2 F W₀) (Mut K σ ad)) s) :
    codeAny (model prog w) K.A (.compLoop (.ListComp elt gens scope pos) depth it (.ref D) K.env) (fun r s' => r = .ok .next ∧ Rep prog w H K F ad σ s' ∧ Stp (Or2 (MD K σ ad D) W₀) GW s s' ∧ Acc s'.heap (Or2 F (Mut K σ ad)) D (ys ++ ds.flatMap g)) s := by
  refine codeAny_compLoop_body hT (CmpI prog w H K F ad σ s W₀ GW D ds ys g St)
    ?_ ds.length ⟨ds, ys, W₀, rfl, fun _ z => z, rfl, R, fun _ z => .inl z, fun a z => ⟨hWM₀ a z, hWc₀ a z, hWH₀ a z, fun q => hFW₀ a q z⟩, ⟨fun _ _ _ e => e, fun _ _ _ e => e, id, rfl⟩, hA, hst⟩
  rintro n s' ⟨ds', ys', W, rfl, hsub, hys, R', hW0, hWall, k', hA', st⟩
  have hWM : ∀ a, W a → ¬ Mut K σ ad a := fun a z => (hWall a z).1
  have hWc : ∀ a, W a → a ∉ K.env.cells.map (·.2) := fun a z => (hWall a z).2.1
  have hWH : ∀ a, W a → H.get? a = none := fun a z => (hWall a z).2.2.1
  have hFW : ∀ a, F a → ¬ W a := fun a z q => (hWall a q).2.2.2 z
  have hDW : ¬ W D := hFW D hD.f
  have toV : ∀ a o, s.heap.get? a = some o → ¬ Or2 (MD K σ ad D) W₀ a → ¬ W a := fun a o e n z => (hW0 a z).elim (fun z => n (.inr z)) fun e' => by rw [e] at e'; cases e'
  cases ds' with
  | nil =>
    refine wpAny_mono (V.done _ _ _ st (fun a z => .inl (.inr z)) R'.new R'.bare R'.top) (fun r s₃ h₃ => ?_) fun _ _ z => z
    obtain ⟨rfl, k⟩ := h₃
    have R₃ : Rep prog w H K F ad σ s₃ := R'.turn (W := W) (fun a o n e => k.heap a o n e) k.bare (fun a z => .inr z) hWM hWc hWH (fun _ z => .inl (.inl z))
      (fun a z => let ⟨o, e⟩ := R'.aliveF a (.inl z); ⟨o, k.heap a o (hFW a z) e⟩) R0
    refine ⟨rfl, R₃, ⟨fun a o n e => k.heap a o (toV a o e n) (k'.heap a o n e), fun m x n e => k.gens m x n (k'.gens m x n e), fun b => k.bare (k'.bare b), k.os.trans k'.os⟩, ?_⟩
    rw [← hys, List.flatMap_nil, List.append_nil]
    exact hA'.stay ⟨fun a o n e => k.heap a o (fun z => n (.inl (.inr z))) e, fun a z => .inl (z.imp .inl id)⟩ fun o e => k.heap D o hDW e
  | cons d ds' =>
    refine wpAny_mono (V.item _ _ _ _ _ st (fun a z => .inl (.inr z)) R'.new R'.bare R'.top) (fun r s₃ h₃ => ?_) fun _ _ z => z
    obtain ⟨v, W₁, rfl, up, dn, k, hgo⟩ := h₃
    refine wpAny_mono (hgo tgt ht) (fun _ s₄ h₄ => ?_) fun _ _ z => z
    obtain ⟨k2', st₄, hv⟩ := h₄
    have k2 : ∀ a o, ¬ W a → s'.heap.get? a = some o → s₄.heap.get? a = some o := fun a o n e => k2'.heap a o (fun z => (dn a z).elim n fun e' => by rw [e] at e'; cases e') (k.heap a o n e)
    have hWM₁ : ∀ a, W₁ a → ¬ Mut K σ ad a := fun a z => (dn a z).elim (hWM a) fun e q => R'.new a e (.inr q)
    have hFW₁ : ∀ a, W₁ a → ¬ F a := fun a z q => (dn a z).elim (hFW a q) fun e => R'.new a e (.inl (.inl q))
    have hWall₁ : ∀ a, W₁ a → ¬ Mut K σ ad a ∧ a ∉ K.env.cells.map (·.2) ∧ H.get? a = none ∧ ¬ F a := fun a z => ⟨hWM₁ a z, (dn a z).elim (hWc a) fun e => R'.notCell e, (dn a z).elim (hWH a) fun e => R'.notH e, hFW₁ a z⟩
    have hDW₁ : ¬ W₁ D := fun z => hFW₁ D z hD.f
    have R₄ : Rep prog w H K (Or2 F W₁) ad σ s₄ := R'.turn (W := W) k2 (fun b => k2'.bare (k.bare b)) (fun a z => .inr z) hWM hWc hWH (fun a z => z.elim (fun z => .inl (.inl z)) fun z => (dn a z).imp .inr id)
      (fun a z => z.elim (fun z => let ⟨o, e⟩ := R'.aliveF a (.inl z); ⟨o, k2 a o (hFW a z) e⟩) fun z => V.live _ _ _ _ st₄ a z) fun c hc => (R0 c hc).imp id .inl
    have sub₄ : ∀ a, Or2 (Or2 F W₁) (Mut K σ ad) a → Or2 (Or2 (Or2 F W) (Mut K σ ad)) W₁ a := fun a z => by
      rcases z with (z | z) | z
      · exact .inl (.inl (.inl z))
      · exact .inr z
      · exact .inl (.inr z)
    have hv₄ : Rd s₄.heap (Or2 (Or2 F W₁) (Mut K σ ad)) v d := hv.stay ⟨fun _ _ _ e => e, fun a z => .inl (sub₄ a z)⟩
    have hA₄ : Acc s₄.heap (Or2 (Or2 F W₁) (Mut K σ ad)) D ys' := hA'.stay ⟨fun a o n e => k2 a o (fun z => n (.inl (.inr z))) e, fun a z => by
      rcases z with (z | z) | z
      · exact .inl (.inl (.inl z))
      · exact (dn a z).imp (fun z => .inl (.inr z)) id
      · exact .inl (.inr z)⟩ fun o e => k2 D o hDW e
    have kk : Stp (Or2 (MD K σ ad D) W₀) GW s s₄ := ⟨fun a o n e => k2 a o (toV a o e n) (k'.heap a o n e), fun m x n e => k2'.gens m x n (k.gens m x n (k'.gens m x n e)), fun b => k2'.bare (k.bare (k'.bare b)), k2'.os.trans (k.os.trans k'.os)⟩
    have hW01 : ∀ a, W₁ a → W₀ a ∨ s.heap.get? a = none := fun a z => (dn a z).elim (hW0 a) fun e => by
      cases e' : s.heap.get? a with
      | none => exact .inr rfl
      | some o =>
        by_cases hv0 : Or2 (MD K σ ad D) W₀ a
        · rcases hv0 with (hv0 | hv0) | hv0
          · exact absurd hv0 (hWM₁ a z)
          · exact absurd ((show a = D from hv0) ▸ z) hDW₁
          · exact .inl hv0
        · rw [k'.heap a o hv0 e'] at e; cases e
    have st₄' : St ds' W₁ (Or2 (Or2 F W₁) (Mut K σ ad)) s₄ := V.frame _ _ _ _ _ _ st₄ ⟨fun _ _ _ e => e, fun a z => .inl (sub₄ a z)⟩ (fun _ _ _ e => e) fun _ _ _ e => e
    obtain ⟨σ', b, ha, htu, hti, htr, hfa⟩ := turn d (hsub d (.head _))
    refine wpAny_mono (ha.out _ _ _ _ R₄ hv₄) (fun _ s₅ h₅ => ?_) fun _ _ z => z
    obtain ⟨R₅, g₅, _⟩ := h₅
    refine wpAny_mono (hti.out _ _ _ R₅) (fun ok s₆ h₆ => ?_) fun _ _ z => z
    obtain ⟨rfl, R₆, g₆, _⟩ := h₆
    have g46 := g₅.trans g₆
    have hDM : ¬ Mut K σ' ad D := fun q => (g₅.new D q).elim hD.m fun e => by obtain ⟨vs, ⟨n, hn⟩, _⟩ := hA₄; rw [hn] at e; cases e
    have hA₆ : Acc s₆.heap (Or2 (Or2 F W₁) (Mut K σ' ad)) D ys' := hA₄.stay g46.stay fun o e => g46.keep D o hD.m e
    have fin : ∀ {s₇ out}, Rep prog w H K (Or2 F W₁) ad σ' s₇ → Go (MD K σ ad D) (MD K σ' ad D) s₄ s₇ → Acc s₇.heap (Or2 (Or2 F W₁) (Mut K σ' ad)) D (ys' ++ out) → out = g d →
        ∃ m, m < (d :: ds').length ∧ CmpI prog w H K F ad σ s W₀ GW D ds ys g St m s₇ := by
      intro s₇ out R₇ g₇ hA₇ ho
      have R₇' : Rep prog w H K (Or2 F W₁) ad σ s₇ := R₇.re htu
      refine ⟨ds'.length, Nat.lt_succ_self _, ds', ys' ++ out, W₁, rfl, fun x z => hsub x (.tail _ z), ?_, R₇', hW01, hWall₁, kk.trans ⟨fun a o n e => g₇.keep a o (fun z => n (.inl z)) e, fun n x _ e => g₇.gens n x e, fun _ => R₇.bare, g₇.os⟩, hA₇.sub fun a z => z.imp id (htu.mut a), ?_⟩
      · rw [← hys, List.flatMap_cons, ho, List.append_assoc]
      · refine V.frame _ _ _ _ _ _ st₄' ⟨fun a o n e => g₇.keep a o (fun z => z.elim (fun z => n (.inr z)) fun z => n (.inl (.inl (z ▸ hD.f)))) e, fun a z => .inl z⟩ (fun a o z e => g₇.keep a o (fun q => q.elim (hWM₁ a z) fun q => hDW₁ (q ▸ z)) e) fun n x _ e => g₇.gens n x e
    cases ok with
    | false =>
      rw [if_neg Bool.false_ne_true]
      exact fin R₆ g46.or (by rw [List.append_nil]; exact hA₆) (hfa rfl).symm
    | true =>
      rw [if_pos rfl]
      have hzz : ys'.length + (g d).length ≤ sizeLine := by
        have := congrArg List.length hys
        rw [List.flatMap_cons] at this
        simp only [List.length_append] at this
        lia
      refine wpAny_mono ((htr rfl).out _ _ _ D ys' R₆ ⟨.inl hD.f, hDM, hD.c, hD.h⟩ hA₆ hzz) (fun _ s₇ h₇ => ?_) fun _ _ z => z
      obtain ⟨R₇, g₇, hA₇⟩ := h₇
      exact fin R₇ (g46.or.trans g₇) hA₇ rfl
end
end Mine

end
noncomputable section
open PySem PySem.W PyProof.Rows
set_option maxRecDepth 100000
set_option autoImplicit false
namespace Mine

section
variable {prog : Program} {w : World} {H : Heap} {C : Cx} {F : Addr → Prop} {ad : Str → Addr} {σ σ₁ σ₂ σ₃ σ' : List Ent} {s s' : Shared}

theorem mem_of_lookup' {l : List (Str × NameKind)} {n : Str} {c : NameKind} (h : l.lookup n = some c) : (n, c) ∈ l := mem_of_lookup h
structure KidOk (C : Cx) (scope : Scope) (fs ls gs : List Str) : Prop where
  kind : scope.kind = .function
  co : scope.isCoroutine = false
  cell : ∀ x ∈ scope.names, x.2 ≠ .cell
  free : ∀ x ∈ scope.names, x.2 = .free → (C.env.cells.lookup x.1).isSome = true
  loc : ∀ x ∈ scope.names, x.2 = .local → scope.names.lookup x.1 = some .local
  fr : ∀ x ∈ fs, scope.names.lookup x = some .free ∧ (x == ("__debug__" : Str)) = false
  vs : ∀ x ∈ ls, scope.names.lookup x = some .local ∧ (x == ("__debug__" : Str)) = false
  gl : ∀ x ∈ gs, scope.names.lookup x = some .globalImplicit ∧ (x == ("__debug__" : Str)) = false
  nd : (fs ++ ls).Nodup
theorem KidOk.of {scope : Scope} {fr vs gl : List Str} (h : kidOk C scope fr vs gl = true) : KidOk C scope fr vs gl := by
  unfold kidOk at h
  simp only [Bool.and_eq_true, decide_eq_true_eq, List.all_eq_true, Bool.not_eq_true', Bool.or_eq_true] at h
  obtain ⟨⟨⟨⟨⟨⟨h1, h2⟩, h3⟩, h4⟩, h5⟩, h6⟩, h7⟩ := h
  exact ⟨h1, h2, fun x hx => (h3 x hx).1.1, fun x hx e => (h3 x hx).1.2.resolve_left fun n => n e, fun x hx e => (h3 x hx).2.resolve_left fun n => n e, h4, h5, h6, h7⟩

theorem Rep.sub_ (R : Rep prog w H C F ad σ s) {scope : Scope} {fr : List (Str × Slot)} {vs gl : List Str} (hk : KidOk C scope (fr.map (·.1)) vs gl) (hfr : ∀ p ∈ fr, Ce p.1 p.2 ∈ σ ∧ p.2.isOwn = false) {L D : Addr} (k : Kp s s') (hL : s.heap.get? L = none) (hD : s.heap.get? D = none)
    (hDL : D ≠ L) (hDa : ∃ o, s'.heap.get? D = some o) {m₀ : Str → Option Value} (hn : s'.heap.Ns L m₀) : Rep prog w H (kid C scope gl L) (Or2 (Or2 F (Mut C σ ad)) (· = D)) ad (kidσ fr vs) s' := by
  have kin : ∀ {x : Str} {kd : NameKind}, scope.names.lookup x = some kd → (kid C scope gl L).env.kindOf x = some (if kd = .free ∧ C.env.kindOf x = some .cell then .cell else kd) := fun h => lookup_relabel R.ok.kind h
  have memC : ∀ {x c}, (x, c) ∈ (kid C scope gl L).env.cells → (x, c) ∈ C.env.cells := fun {x c} h => (freeCells_mem C.env _ [] x c h).elim (fun z => nomatch z) fun z => mem_of_lookup z
  have memC2 : ∀ c, c ∈ (kid C scope gl L).env.cells.map (·.2) → c ∈ C.env.cells.map (·.2) := fun c h => by
    obtain ⟨⟨x, c'⟩, hm, rfl⟩ := List.mem_map.mp h
    exact List.mem_map.mpr ⟨_, memC hm, rfl⟩
  have noOwn : ∀ e ∈ kidσ fr vs, e.sl.isOwn = false := fun e he => by
    unfold kidσ at he
    rcases List.mem_append.mp he with he | he
    · obtain ⟨p, hp, rfl⟩ := List.mem_map.mp he; exact (hfr p hp).2
    · obtain ⟨p, _, rfl⟩ := List.mem_map.mp he; rfl
  have hmut : ∀ a, Mut (Mine.kid C scope gl L) (kidσ fr vs) ad a → a = L := fun a z => by
    rcases z with z | z | ⟨e, he, ho, _⟩
    · exact z
    · cases z
    · rw [noOwn e he] at ho; cases ho
  refine { ok := ?_, top := fun b o e => k.heap _ _ (R.top b o e), bare := k.bare R.bare, nd := ?_, ns := ⟨m₀, hn, fun e he => ?_⟩, cells := (fun c hc => nomatch hc), dl := fun z => ?_, dn := fun n n' c h h' => R.dn n n' c (memC h) (memC h'), mc := (fun c hc => nomatch hc), ow := fun e he ho => absurd ho (by rw [noOwn e he]; exact Bool.false_ne_true), dd := fun e he e' he' ho => absurd ho (by rw [noOwn e he]; exact Bool.false_ne_true), fresh := fun a z => hmut a z ▸ R.notH hL, aliveF := fun a z => ?_, cellF := fun c hc => ?_, fl := (fun z => nomatch z), pa := fun e he hp => absurd (Slot.isPar_own hp) (by rw [noOwn e he]; exact Bool.false_ne_true) }
  · refine ⟨hk.kind, R.ok.glob, R.ok.blt, R.ok.hh, R.ok.room, R.ok.units, hk.co, fun x hx => ⟨?_, (hk.gl x hx).2⟩⟩
    rw [kin (hk.gl x hx).1]; simp
  · have : (kidσ fr vs).map (·.nm) = fr.map (·.1) ++ vs := by unfold kidσ; simp [List.map_append, Function.comp_def]
    rw [this]; exact hk.nd
  · unfold kidσ at he
    rcases List.mem_append.mp he with he | he
    · obtain ⟨p, hp, rfl⟩ := List.mem_map.mp he
      obtain ⟨m, hm, q⟩ := R.ns
      have qe := q _ (hfr p hp).1
      obtain ⟨h1, h2⟩ := hk.fr p.1 (List.mem_map.mpr ⟨p, hp, rfl⟩)
      have hkc : C.env.kindOf p.1 = some .cell := qe.kind
      obtain ⟨c, hc⟩ := qe.cell rfl
      have hmem := freeCells_has C.env scope.names [] p.1 c (mem_of_lookup' h1) hc
      obtain ⟨c', hc'⟩ := Option.isSome_iff_exists.mp (lookup_isSome_of_mem hmem)
      have : c' = c := by
        have := (freeCells_mem C.env _ [] p.1 c' (mem_of_lookup hc')).resolve_left (fun z => nomatch z)
        rw [hc] at this; exact (Option.some.inj this).symm
      subst this
      have hAt : ∀ v, At C s.heap m (Ce p.1 p.2) v → At (Mine.kid C scope gl L) s'.heap m₀ (Ce p.1 p.2) v := fun v ha => by
        unfold At at ha ⊢
        rw [if_neg (by simp)] at ha ⊢
        obtain ⟨c₂, hc₂, hv⟩ := ha
        rw [hc] at hc₂
        exact ⟨c', hc', (Option.some.inj hc₂).symm ▸ hv.keeps k.heap⟩
      have stay : Stay (Or2 F (Mut C σ ad)) (Or2 (Or2 (Or2 F (Mut C σ ad)) (· = D)) (Mut (Mine.kid C scope gl L) (kidσ fr vs) ad)) s.heap s'.heap := ⟨fun a o _ e => k.heap a o e, fun a z => by
        rcases z with (z | z) | z
        · exact .inl z
        · exact .inr ((show a = D from z) ▸ hD)
        · exact .inr (hmut a z ▸ hL)⟩
      refine ⟨by rw [kin h1, hkc]; simp, fun _ => ⟨c', hc'⟩, h2, ?_⟩
      have z := qe.slot
      have no := (hfr p hp).2
      obtain ⟨x, sl⟩ := p
      cases sl with
      | un => trivial
      | val d => obtain ⟨v, ha, hr⟩ := z; exact ⟨v, hAt v ha, hr.stay stay⟩
      | rdc kvs => obtain ⟨b, ha, nx, hr⟩ := z; obtain ⟨o, ho⟩ := hr.alive; exact ⟨b, hAt _ ha, fun q => (stay.new b q).elim nx fun e => (by rw [e] at ho; cases ho), hr.stay stay fun o e => k.heap b o e⟩
      | own ds => cases no
      | io ds => cases no
      | itr p ds => cases no
      | dic kvs => cases no
    · obtain ⟨x, hx, rfl⟩ := List.mem_map.mp he
      obtain ⟨h1, h2⟩ := hk.vs x hx
      exact ⟨by rw [kin h1]; simp, (fun z => nomatch z), h2, trivial⟩
  · exact R.notCell hL (memC2 _ z)
  · rcases z with (z | z) | z
    · exact let ⟨o, e⟩ := R.aliveF a z; ⟨o, k.heap a o e⟩
    · exact let ⟨o, e⟩ := R.aliveMut z; ⟨o, k.heap a o e⟩
    · exact (show a = D from z) ▸ hDa
  · refine .inr (.inl ?_)
    exact (R.cellF c (memC2 c hc)).elim (fun z => .inr (.inr (.inl z))) .inl

/-- how a turn of a comprehension's first clause goes -/
noncomputable def TurnEq (e : Expr) (depth : Nat) (p : Pos) (tgt : Expr) (ifs : List Expr) (body : Addr → Sem Unit) (env : Env) : Prop :=
  ∀ it D, compTurn e depth it (.ref D) env = (do
      standAt p
      match ← pyNext it with
      | none => pure (.done .next)
      | some v =>
        letOwnedTupleGo tgt it v
        assign tgt env v
        let mut ok := true
        for c in ifs do
          if ok then ok ← isTrue c env (eval c env)
        if ok then body D
        again (.compLoop e depth it (.ref D) env))

theorem comp_run {elt it tgt : Expr} {ifs : List Expr} {rest : List Comprehension} {scope : Scope} {pos cp p : Pos} {ds : List PyData} {tt : Expr → Prop} {body : Addr → Addr → Sem Unit} {use : Option (Value → Sem Unit)} {Q : Value → Shared → Prop}
    (hit : ItE prog w H C σ it ds σ₁ tt) (ht : tt tgt) (fr : List (Str × Slot)) (vs gl : List Str) (hk : KidOk C scope (fr.map (·.1)) vs gl) (hfr : ∀ p ∈ fr, Ce p.1 p.2 ∈ σ₁ ∧ p.2.isOwn = false) (g : PyData → List PyData)
    (turn : ∀ L, ∀ d ∈ ds, TurnC prog w H (kid C scope gl L) tgt ifs (body L) (kidσ fr vs) d (g d))
    (hT : ∀ L, TurnEq (.ListComp elt (⟨tgt, it, ifs, 0⟩ :: rest) scope pos) 0 p tgt ifs (body L) (kid C scope gl L).env) (hz : (ds.flatMap g).length ≤ sizeLine)
    (hs : ∀ x, foldedSetIterable it C.env x = pure x) (R : Rep prog w H C F ad σ s)
    (hQ : ∀ L D s', s.heap.get? L = none → Rep prog w H C (Or2 F (· = L)) ad σ₁ s' → Go (Mut C σ ad) (Mut C σ₁ ad) s s' → Rd s'.heap (Or2 (Or2 F (· = L)) (Mut C σ₁ ad)) (.ref D) (.list (ds.flatMap g)) → (∃ m, s'.heap.Ns L m) → ¬ F L → ¬ Mut C σ₁ ad L → L ∉ C.env.cells.map (·.2) → H.get? L = none →
      compPost (model prog w) C.A (fun _ _ => False) use Q (.ref D) L (.ok .next) s') :
    wpAny (model prog w) C.A (comprehension (.ListComp elt (⟨tgt, it, ifs, 0⟩ :: rest) scope pos) scope C.env cp (newList []) false (eval it C.env) use) Q (fun _ _ => False) s := by
  have hfx : ∀ x ∈ scope.names, x.2 = .free → (C.env.cells.lookup x.1).isSome = true := hk.free
  refine wpAny_comprehension_free (cl := freeCells C.env scope.names []) rfl hs (closureFor_free hfx) hk.kind hk.loc (wpAny_mono (hit.out F ad s R) (fun x s₁ h₁ => wpAny_mono h₁ (fun itv s₂ h₂ => ?_) fun _ _ z => z) fun _ _ z => z)
  obtain ⟨W, GW, St, V, hW, hG, R₂, g₂, hWM, hst⟩ := h₂
  have hWH : ∀ a, W a → H.get? a = none := fun a z => R.notH (hW a z)
  have hWF : ∀ a, F a → ¬ W a := fun a z q => by obtain ⟨o, e⟩ := R.aliveF a z; rw [hW a q] at e; cases e
  have hWc : ∀ a, W a → a ∉ C.env.cells.map (·.2) := fun a z => R.notCell (hW a z)
  refine wpAny_newObj_type (wpAny_newFunctionEnv hk.cell (by intro y hy; simp at hy) (fun h₁ hns₁ hsb₁ => ?_) hk.kind) (by size_fits)
  dsimp only at hns₁ hsb₁ ⊢
  generalize hH2 : s₂.heap.push { cls := .type "list", dict := none, data := .seq ([] : List Value).toArray } = H2 at hns₁ hsb₁ ⊢
  have hL : H2.objs.size = s₂.heap.objs.size + 1 := by rw [← hH2, Heap.size_push]
  generalize hLL : H2.objs.size = L at hns₁ hsb₁ hL ⊢
  have hD0 : s₂.heap.get? s₂.heap.objs.size = none := size_none _
  generalize hDD : s₂.heap.objs.size = D at hD0 hL ⊢
  have hL0 : s₂.heap.get? L = none := by
    cases e : s₂.heap.get? L with
    | none => rfl
    | some o => exact absurd (Heap.lt_size e) (by rw [hL, hDD]; exact Nat.not_lt.mpr (Nat.le_succ _))
  have hDL : D ≠ L := by rw [hL]; exact Nat.ne_of_lt (Nat.lt_succ_self _)
  have old : ∀ b o, s₂.heap.get? b = some o → h₁.get? b = some o := fun b o e => hsb₁.extBut b o (fun z => by subst z; rw [hL0] at e; cases e) (Heap.get?_push_of_some _ (hH2 ▸ Heap.get?_push_of_some _ e))
  have hacc : h₁.PlainList D #[] := ⟨_, hsb₁.extBut _ _ hDL (Heap.get?_push_of_some _ (hH2 ▸ hDD ▸ Heap.get?_push_size _ rfl))⟩
  have aL : ∃ o, h₁.get? L = some o := let ⟨o, _, _, e, _⟩ := hns₁; ⟨o, e⟩
  have aD : ∃ o, h₁.get? D = some o := let ⟨n, e⟩ := hacc; ⟨_, e⟩
  generalize hS : ({ s₂ with heap := h₁, toks := s₂.toks + ([] : List (Str × Value)).length } : Shared) = s₄
  have e4 : s₄.heap = h₁ := by rw [← hS]
  have k4 : Kp s₂ s₄ := by rw [← hS]; exact .of old
  have Rk : Rep prog w H (kid C scope gl L) (Or2 (Or2 (Or2 F W) (Mut C σ₁ ad)) (· = D)) ad (kidσ fr vs) s₄ := R₂.sub_ hk hfr k4 hL0 hD0 hDL (by rw [e4]; exact aD) (by rw [e4]; exact hns₁)
  have hmutL : ∀ a, Mut (kid C scope gl L) (kidσ fr vs) ad a → a = L := fun a z => by
    rcases z with z | z | ⟨e, he, ho, _⟩
    · exact z
    · cases z
    · unfold kidσ at he
      rcases List.mem_append.mp he with he | he
      · obtain ⟨p, hp, rfl⟩ := List.mem_map.mp he; rw [(hfr p hp).2] at ho; cases ho
      · obtain ⟨p, _, rfl⟩ := List.mem_map.mp he; cases ho
  have memC2 : ∀ c, c ∈ (kid C scope gl L).env.cells.map (·.2) → c ∈ C.env.cells.map (·.2) := fun c h => by
    obtain ⟨⟨x, c'⟩, hm, rfl⟩ := List.mem_map.mp h
    exact List.mem_map.mpr ⟨_, (freeCells_mem C.env _ [] x c' hm).elim (fun z => nomatch z) fun z => mem_of_lookup z, rfl⟩
  have aliveW : ∀ a, W a → ∃ o, s₂.heap.get? a = some o := fun a z => R₂.aliveF a (.inr z)
  have hWL : ∀ a, W a → a ≠ L := fun a z q => by obtain ⟨o, e⟩ := aliveW a z; rw [q, hL0] at e; cases e
  have hWD : ∀ a, W a → a ≠ D := fun a z q => by obtain ⟨o, e⟩ := aliveW a z; rw [q, hD0] at e; cases e
  have DnF : ¬ F D := fun z => R₂.new D hD0 (.inl (.inl z))
  have DnM : ¬ Mut C σ₁ ad D := fun z => R₂.new D hD0 (.inr z)
  -- the parent's own standing, the new ones and the iterator forbidden
  have RP : Rep prog w H C (Or2 (Or2 F W) (fun a => a = L ∨ a = D)) ad σ₁ s₄ := R₂.ext k4 (fun b z => z.imp id fun z => z.elim (fun z => z ▸ hL0) fun z => z ▸ hD0) (fun b z => .inl z)
    fun b z => z.elim (fun z => let ⟨o, e⟩ := R₂.aliveF b z; ⟨o, k4.heap b o e⟩) fun z => by rw [e4]; exact z.elim (fun z => z ▸ aL) fun z => z ▸ aD
  have Fk : ∀ a, Or2 (Or2 (Or2 F W) (Mut C σ₁ ad)) (· = D) a → Or2 (Or2 (Or2 F (Mut C σ₁ ad)) (· = D)) W a := fun a z => by
    rcases z with ((z | z) | z) | z
    · exact .inl (.inl (.inl z))
    · exact .inr z
    · exact .inl (.inl (.inr z))
    · exact .inl (.inr z)
  have Fk' : ∀ a, Or2 (Or2 (Or2 F (Mut C σ₁ ad)) (· = D)) W a → Or2 (Or2 (Or2 F W) (Mut C σ₁ ad)) (· = D) a := fun a z => by
    rcases z with ((z | z) | z) | z
    · exact .inl (.inl (.inl z))
    · exact .inl (.inr z)
    · exact .inr z
    · exact .inl (.inl (.inr z))
  have Rk' : Rep prog w H (kid C scope gl L) (Or2 (Or2 (Or2 F (Mut C σ₁ ad)) (· = D)) W) ad (kidσ fr vs) s₄ := Rk.turn (W := fun _ => False) (fun _ _ _ e => e) id (fun _ z => z.elim) (fun _ z => z.elim) (fun _ z => z.elim) (fun _ z => z.elim) (fun a z => .inl (Fk' a z)) (fun a z => Rk.aliveF a (Fk' a z)) fun c hc => (Rk.cellF c hc).imp id (Fk c)
  have st₄ : St ds W (Or2 (Or2 (Or2 (Or2 F (Mut C σ₁ ad)) (· = D)) W) (Mut (kid C scope gl L) (kidσ fr vs) ad)) s₄ := V.frame _ _ _ _ _ _ hst ⟨fun a o _ e => k4.heap a o e, fun a z => by
      rcases z with (((z | z) | z) | z) | z
      · exact .inl (.inl (.inl z))
      · exact .inl (.inr z)
      · exact .inr ((show a = D from z) ▸ hD0)
      · exact .inl (.inl (.inr z))
      · exact .inr (hmutL a z ▸ hL0)⟩ (fun a o _ e => k4.heap a o e) fun n x _ e => k4.gens n x e
  have hcellk : ∀ c ∈ (kid C scope gl L).env.cells.map (·.2), c ∈ (kid C scope gl L).mine ∨ Or2 (Or2 F (Mut C σ₁ ad)) (· = D) c := fun c hc => .inr (.inl ((R.cellF c (memC2 c hc)).elim (fun z => .inr (.inr (.inl z))) .inl))
  have loop := comp_loop (K := kid C scope gl L) (F := Or2 (Or2 F (Mut C σ₁ ad)) (· = D)) (D := D) (body := body L) (hT L itv D) V ht ds [] g (turn L) Rk' hcellk (fun a z q => hWL a z (hmutL a q)) (fun a z q => hWc a z (memC2 a q)) hWH
    (fun a z => by
      rcases z with (z | z) | z
      · exact hWF a z
      · exact fun q => hWM a q z
      · exact fun q => hWD a q z)
    ⟨.inr rfl, (fun q => hDL (hmutL D q)), (fun q => R₂.notCell hD0 (memC2 D q)), R₂.notH hD0⟩ (by rw [e4]; exact ⟨#[], hacc, .nil⟩) (by simpa using hz) st₄
  have post : ∀ (r : Result) (s' : Shared), (r = .ok .next ∧ Rep prog w H (kid C scope gl L) (Or2 (Or2 F (Mut C σ₁ ad)) (· = D)) ad (kidσ fr vs) s' ∧ Stp (Or2 (MD (kid C scope gl L) (kidσ fr vs) ad D) W) GW s₄ s' ∧ Acc s'.heap (Or2 (Or2 (Or2 F (Mut C σ₁ ad)) (· = D)) (Mut (kid C scope gl L) (kidσ fr vs) ad)) D ([] ++ ds.flatMap g)) →
      compPost (model prog w) C.A (fun _ _ => False) use Q (.ref D) L r s' := by
    rintro r s' ⟨rfl, Re, k, ⟨vs', hp, hr⟩⟩
    rw [List.nil_append] at hr
    have kk : ∀ a o, ¬ (W a ∨ (a = L ∨ a = D)) → s₄.heap.get? a = some o → s'.heap.get? a = some o := fun a o n e => k.heap a o (fun z => by
      rcases z with (z | z) | z
      · exact n (.inr (.inl (hmutL a z)))
      · exact n (.inr (.inr z))
      · exact n (.inl z)) e
    have kL := Re.ns
    have LnM : ¬ Mut C σ₁ ad L := fun z => R₂.new L hL0 (.inr z)
    have Rend : Rep prog w H C (Or2 F (· = L)) ad σ₁ s' := RP.turn (W := fun a => W a ∨ (a = L ∨ a = D)) kk k.bare (fun a z => z.elim (fun z => .inl (.inr z)) .inr)
      (fun a z q => z.elim (fun z => hWM a z q) fun z => z.elim (fun z => LnM (z ▸ q)) fun z => DnM (z ▸ q)) (fun a z => z.elim (hWc a) fun z => z.elim (fun z => z ▸ R₂.notCell hL0) fun z => z ▸ R₂.notCell hD0)
      (fun a z => z.elim (hWH a) fun z => z.elim (fun z => z ▸ R₂.notH hL0) fun z => z ▸ R₂.notH hD0) (fun a z => .inl (z.elim (fun z => .inl (.inl z)) fun z => .inr (.inl z)))
      (fun a z => z.elim (fun z => let ⟨o, e⟩ := RP.aliveF a (.inl (.inl z)); ⟨o, kk a o (fun q => q.elim (hWF a z) fun q => q.elim (fun q => R₂.new L hL0 (.inl (.inl (q ▸ z)))) fun q => DnF (q ▸ z)) e⟩)
        fun z => let ⟨m, ⟨o, _, _, e, _⟩, _⟩ := Re.ns; ⟨o, (show a = L from z) ▸ e⟩) fun c hc => (R.cellF c hc).imp id .inl
    have g4 : Go (Mut C σ ad) (Mut C σ₁ ad) s s' := by
      have gg := g₂.trans (k4.go (W := Mut C σ₁ ad))
      have none_of : ∀ a, s.heap.get? a ≠ none → ¬ (W a ∨ (a = L ∨ a = D)) := fun a n z => by
        rcases z with z | z | z
        · exact n (hW a z)
        · cases e : s.heap.get? a with
          | none => exact n e
          | some o => obtain ⟨o', e'⟩ := g₂.alive a o e; rw [z, hL0] at e'; cases e'
        · cases e : s.heap.get? a with
          | none => exact n e
          | some o => obtain ⟨o', e'⟩ := g₂.alive a o e; rw [z, hD0] at e'; cases e'
      exact ⟨fun a o n e => kk a o (none_of a (by rw [e]; exact fun z => nomatch z)) (gg.keep a o n e), fun a o e => let ⟨o', e'⟩ := gg.alive a o e; ⟨o', kk a o' (none_of a (by rw [e]; exact fun z => nomatch z)) e'⟩, gg.new,
        fun n x e => k.gens n x (fun z => by rw [hG n z] at e; cases e) (gg.gens n x e), k.os.trans gg.os⟩
    obtain ⟨n, hn⟩ := hp
    refine hQ L D s' ?_ Rend g4 (.list ?_ hn rfl rfl (hr.stay ⟨fun _ _ _ e => e, fun a z => .inl ?_⟩)) (let ⟨m, hm, _⟩ := kL; ⟨m, hm⟩) (fun z => R₂.new L hL0 (.inl (.inl z))) LnM (R₂.notCell hL0) (R₂.notH hL0)
    · cases e : s.heap.get? L with
      | none => rfl
      | some o => obtain ⟨o', e'⟩ := g₂.alive L o e; rw [hL0] at e'; cases e'
    · rintro ((z | z) | z)
      · exact DnF z
      · exact hDL z
      · exact DnM z
    · rcases z with (z | z) | z
      · exact .inl (.inl (.inl z))
      · exact .inr ((show a = L from z) ▸ .inl rfl)
      · exact .inl (.inl (.inr z))
  have loop' := codeAny_mono loop post
  exact codeAny_compStart_at (depth := 0) rfl loop' (V.self _ _ _ _ _ _ st₄ loop')

theorem Rep.letGo {L : Addr} {h' : Heap} {ad₀ : Str → Addr} {σ₀ : List Ent} {s₀ : Shared} (R : Rep prog w H C (Or2 F (· = L)) ad σ s) (R₀ : Rep prog w H C F ad₀ σ₀ s₀) (hs : Heap.SameBut L s.heap h') (hF : ¬ F L) (hM : ¬ Mut C σ ad L) (hc : L ∉ C.env.cells.map (·.2)) (hH : H.get? L = none) :
    Rep prog w H C F ad σ { s with heap := h' } :=
  R.turn (W := (· = L)) (fun a o n e => hs.extBut a o n e) id (fun _ z => .inr z) (fun _ z => z ▸ hM) (fun _ z => z ▸ hc) (fun _ z => z ▸ hH) (fun _ z => .inl (.inl z))
    (fun a z => let ⟨o, e⟩ := R.aliveF a (.inl z); ⟨o, hs.extBut a o (fun q => hF (q ▸ z)) e⟩) R₀.cellF

theorem Tri.comp {elt it tgt : Expr} {ifs : List Expr} {rest : List Comprehension} {scope : Scope} {pos p : Pos} {ds : List PyData} {tt : Expr → Prop} {body : Addr → Addr → Sem Unit}
    (hit : ItE prog w H C σ it ds σ₁ tt) (ht : tt tgt) (fr : List (Str × Slot)) (vs gl : List Str) (hk : KidOk C scope (fr.map (·.1)) vs gl) (hfr : ∀ p ∈ fr, Ce p.1 p.2 ∈ σ₁ ∧ p.2.isOwn = false) (g : PyData → List PyData)
    (turn : ∀ L, ∀ d ∈ ds, TurnC prog w H (kid C scope gl L) tgt ifs (body L) (kidσ fr vs) d (g d))
    (hT : ∀ L, TurnEq (.ListComp elt (⟨tgt, it, ifs, 0⟩ :: rest) scope pos) 0 p tgt ifs (body L) (kid C scope gl L).env) (hz : (ds.flatMap g).length ≤ sizeLine)
    (hs : ∀ x, foldedSetIterable it C.env x = pure x := by intro _; rfl) : Tri prog w H C σ (.ListComp elt (⟨tgt, it, ifs, 0⟩ :: rest) scope pos) (.list (ds.flatMap g)) σ₁ := by
  refine Box.of fun F ad s R => ?_
  rw [eval_ListComp]
  refine comp_run hit ht fr vs gl hk hfr g turn hT hz hs R fun L D s' hL Re ge hr hn hF hM hc hH => ?_
  obtain ⟨m, hn⟩ := hn
  refine ⟨m, hn, fun h' hs' => ?_⟩
  refine ⟨Re.letGo R hs' hF hM hc hH, ⟨fun a o n e => hs'.extBut a o (fun z => by rw [z, hL] at e; cases e) (ge.keep a o n e), fun a o e => ?_, ge.new, ge.gens, ge.os⟩, ?_⟩
  · obtain ⟨o', e'⟩ := ge.alive a o e
    exact ⟨o', hs'.extBut a o' (fun z => by rw [z, hL] at e; cases e) e'⟩
  · exact hr.stay ⟨fun a o n e => hs'.extBut a o (fun z => n (.inl (.inr z))) e, fun a z => .inl (z.imp .inl id)⟩

theorem TriN.assignComp {y : Str} {py spos : Pos} {elt it tgt : Expr} {ifs : List Expr} {rest : List Comprehension} {scope : Scope} {pos p : Pos} {ds : List PyData} {tt : Expr → Prop} {body : Addr → Addr → Sem Unit} {l : Bool}
    (hit : ItE prog w H C σ it ds σ₁ tt) (ht : tt tgt) (fr : List (Str × Slot)) (vs gl : List Str) (hk : KidOk C scope (fr.map (·.1)) vs gl) (hfr : ∀ p ∈ fr, Ce p.1 p.2 ∈ σ₁ ∧ p.2.isOwn = false) (g : PyData → List PyData)
    (turn : ∀ L, ∀ d ∈ ds, TurnC prog w H (kid C scope gl L) tgt ifs (body L) (kidσ fr vs) d (g d))
    (hT : ∀ L, TurnEq (.ListComp elt (⟨tgt, it, ifs, 0⟩ :: rest) scope pos) 0 p tgt ifs (body L) (kid C scope gl L).env) (hz : (ds.flatMap g).length ≤ sizeLine)
    (hu : Upd y l (.val (.list (ds.flatMap g))) σ₁ σ₂) (hl : l = true ∨ C.fr = true) (hsw : swapsWith (.ListComp elt (⟨tgt, it, ifs, 0⟩ :: rest) scope pos) (some (.Name y py)) spos.line C.env = pure true)
    (hs : ∀ x, foldedSetIterable it C.env x = pure x := by intro _; rfl) : TriN prog w H C σ (.Assign [.Name y py] (.ListComp elt (⟨tgt, it, ifs, 0⟩ :: rest) scope pos) spos) σ₂ := by
  refine Box.of fun F ad s R => ?_
  rw [exec_Assign_Name_used _ _ _ _ hsw]
  refine wpAny_bind (wpAny_standAt (wpAny_bind ?_))
  show wpAny _ _ (do let _ ← comprehension (.ListComp elt (⟨tgt, it, ifs, 0⟩ :: rest) scope pos) scope C.env _ (newList []) false (eval it C.env) (some (PySem.assign (.Name y py) C.env))) _ _ s
  refine wpAny_bind (wpAny_mono (comp_run (use := some (PySem.assign (.Name y py) C.env)) (Q := fun _ s' => FlP prog w H C F ad σ s (fun f σ' => f = .nx ∧ σ' = σ₂) .next s') hit ht fr vs gl hk hfr g turn hT hz hs R fun L D s' hL Re ge hr hn hF hM hc hH => ?_)
    (fun _ s' hq => wpAny_pure (wpAny_pure hq)) fun _ _ e => e)
  obtain ⟨m, hn⟩ := hn
  refine wpAny_mono (wpAny_assign_Name (store_val Re hu hl hr)) (fun _ s'' y => ?_) fun _ _ z => z
  obtain ⟨R₂, g₂, _⟩ := y
  have hn₂ : s''.heap.Ns L m := hn.at' fun o e => g₂.keep L o hM e
  refine ⟨m, hn₂, fun h' hs' => ?_⟩
  have hM₂ : ¬ Mut C σ₂ ad L := fun z => (g₂.new L z).elim hM fun e => by obtain ⟨o, _, _, e', _⟩ := hn; rw [e'] at e; cases e
  have g3 := ge.trans g₂
  refine ⟨.nx, σ₂, ad, ⟨rfl, rfl⟩, R₂.letGo R hs' hF hM₂ hc hH, ⟨fun a o n e => hs'.extBut a o (fun z => by rw [z, hL] at e; cases e) (g3.keep a o n e), fun a o e => ?_, g3.new, g3.gens, g3.os⟩, trivial⟩
  obtain ⟨o', e'⟩ := g3.alive a o e
  exact ⟨o', hs'.extBut a o' (fun z => by rw [z, hL] at e; cases e) e'⟩

/-- a clause within a clause -/
theorem EmitR.nest {elt it tgt : Expr} {ifs : List Expr} {gens : List Comprehension} {scope : Scope} {pos p ip : Pos} {ds : List PyData} {tt : Expr → Prop} {body : Addr → Sem Unit} {K : Cx}
    (hit : ItE prog w H K σ it ds σ tt) (ht : tt tgt) (g : PyData → List PyData) (turn : ∀ d ∈ ds, TurnC prog w H K tgt ifs body σ d (g d)) (hT : TurnEq (.ListComp elt gens scope pos) 1 p tgt ifs body K.env)
    (hg : ((clausesOf (.ListComp elt gens scope pos))[1]?).elim false (·.is_async != 0) = false) (hs : ∀ x, foldedSetIterable it K.env x = pure x := by intro _; rfl) :
    EmitR prog w H K (fun D => do
      let x ← eval it K.env
      standAt ip
      let x ← foldedSetIterable it K.env x
      let _ ← runOwn (.compStart (.ListComp elt gens scope pos) 1 (← holding [x] (pyIter x)) (.ref D) K.env) K.env) σ (ds.flatMap g) := by
  refine Box.of fun F ad s D ys R hD hA hz => ?_
  refine wpAny_bind (wpAny_mono (hit.out F ad s R) (fun x s₁ h₁ => wpAny_bind (wpAny_standAt (wpAny_bind (wpAny_of_eq (hs x) (wpAny_bind (wpAny_holding (wpAny_mono h₁ (fun itv s₂ h₂ => wpAny_bind ?_) fun _ _ z => z))))))) fun _ _ z => z)
  obtain ⟨W, GW, St, V, hW, hG, R₂, g₂, hWM, hst⟩ := h₂
  have hWH : ∀ a, W a → H.get? a = none := fun a z => R.notH (hW a z)
  have hWF : ∀ a, F a → ¬ W a := fun a z q => by obtain ⟨o, e⟩ := R.aliveF a z; rw [hW a q] at e; cases e
  have hWc : ∀ a, W a → a ∉ K.env.cells.map (·.2) := fun a z => R.notCell (hW a z)
  have hA₂ : Acc s₂.heap (Or2 (Or2 F W) (Mut K σ ad)) D ys := hA.stay ⟨fun a o n e => g₂.keep a o (fun z => n (.inr z)) e, fun a z => by
    rcases z with (z | z) | z
    · exact .inl (.inl z)
    · exact .inr (hW a z)
    · exact .inl (.inr z)⟩ fun o e => g₂.keep D o hD.m e
  have loop := comp_loop (D := D) (hT itv D) V ht ds ys g turn R₂ R.cellF hWM hWc hWH hWF hD hA₂ hz hst
  refine wpAny_runOwn ?_ (by intro z; cases z)
  have post : ∀ (r : Result) (s' : Shared), (r = .ok .next ∧ Rep prog w H K F ad σ s' ∧ Stp (Or2 (MD K σ ad D) W) GW s₂ s' ∧ Acc s'.heap (Or2 F (Mut K σ ad)) D (ys ++ ds.flatMap g)) →
      (match r with | .ok f => wpAny (model prog w) K.A (pure ()) (fun _ s' => Rep prog w H K F ad σ s' ∧ Go (MD K σ ad D) (MD K σ ad D) s s' ∧ Acc s'.heap (Or2 F (Mut K σ ad)) D (ys ++ ds.flatMap g)) (fun _ _ => False) s' | .error e => cameBackBy (model prog w) K.A K.env (fun _ _ => False) e s') := by
    rintro r s' ⟨rfl, Re, k, hA'⟩
    refine wpAny_pure ⟨Re, ⟨fun a o n e => k.heap a o (fun z => z.elim n fun z => by rw [hW a z] at e; cases e) (g₂.keep a o (fun z => n (.inl z)) e), fun a o e => ?_, fun a z => .inl z,
      fun n x e => k.gens n x (fun z => by rw [hG n z] at e; cases e) (g₂.gens n x e), k.os.trans g₂.os⟩, hA'⟩
    by_cases hm : MD K σ ad D a
    · rcases hm with hm | hm
      · exact Re.aliveMut hm
      · obtain ⟨vs, ⟨n, hn⟩, _⟩ := hA'; exact ⟨_, (show a = D from hm) ▸ hn⟩
    · obtain ⟨o', e'⟩ := g₂.alive a o e
      exact ⟨o', k.heap a o' (fun z => z.elim hm fun z => by rw [hW a z] at e; cases e) e'⟩
  have loop' := codeAny_mono loop post
  have fin := codeAny_compStart_at (depth := 1) hg loop' (V.self _ _ _ _ _ _ hst loop')
  exact fin
end
end Mine

end
noncomputable section
open PySem PySem.W PyProof.Rows
set_option maxRecDepth 100000
set_option autoImplicit false
namespace Mine

/-! ## a call of a def -/
structure FnAt (H : Heap) (f : Addr) (name : Str) (params : Arguments) (body : List Stmt) (scope : Scope) : Prop where
  lim : H.NoLimit
  fn : ∃ o pm cd doc, H.get? f = some o ∧ o.data = .func (Calls.docDef name params body scope pm cd doc) ∧ H.CodeRec cd name
theorem FnAt.is {H : Heap} {f : Addr} {name : Str} {params : Arguments} {body : List Stmt} {scope : Scope} (h : FnAt H f name params body scope) : IsFn H f := let ⟨o, _, _, _, ho, hd, _⟩ := h.fn; ⟨o, _, ho, hd⟩

noncomputable def locIn (scope : Scope) (x : Str) : Bool := decide (scope.names.lookup x = some .local)
noncomputable def fnσ (scope : Scope) (ps : List (Str × Slot)) (vs : List Str) : List Ent := (ps.map fun p => (⟨p.1, locIn scope p.1, p.2⟩ : Ent)) ++ vs.map fun x => ⟨x, locIn scope x, .un⟩
structure FnOk (scope : Scope) (ps vs gl : List Str) : Prop where
  kind : scope.kind = .function
  co : scope.isCoroutine = false
  names : ∀ x ∈ ps ++ vs, (scope.names.lookup x = some .local ∨ scope.names.lookup x = some .cell) ∧ (x == ("__debug__" : Str)) = false
  gl : ∀ x ∈ gl, scope.names.lookup x = some .globalImplicit ∧ (x == ("__debug__" : Str)) = false
  nd : (ps ++ vs).Nodup
noncomputable def fnOk (scope : Scope) (ps vs gl : List Str) : Bool :=
  decide (scope.kind = .function) && !scope.isCoroutine && ((ps ++ vs).all fun x => (decide (scope.names.lookup x = some .local) || decide (scope.names.lookup x = some .cell)) && !(x == ("__debug__" : Str))) &&
  (gl.all fun x => decide (scope.names.lookup x = some .globalImplicit) && !(x == ("__debug__" : Str))) && decide ((ps ++ vs).Nodup)
theorem FnOk.of {scope : Scope} {ps vs gl : List Str} (h : fnOk scope ps vs gl = true) : FnOk scope ps vs gl := by
  unfold fnOk at h
  simp only [Bool.and_eq_true, decide_eq_true_eq, List.all_eq_true, Bool.not_eq_true', Bool.or_eq_true] at h
  obtain ⟨⟨⟨⟨h1, h2⟩, h3⟩, h4⟩, h5⟩ := h
  exact ⟨h1, h2, h3, h4, h5⟩

theorem cellsFrom_keep : ∀ (names : List (Str × NameKind)) (n : Nat) (acc : List (Str × Addr)) (p : Str × Addr), p ∈ acc → p ∈ cellsFrom n names acc
  | [], _, _, _, h => h
  | (x, k) :: r, n, acc, p, h => by
    unfold cellsFrom
    split
    · exact cellsFrom_keep r _ _ p (.tail _ h)
    · exact cellsFrom_keep r n acc p h
theorem cellsFrom_has : ∀ (names : List (Str × NameKind)) (n : Nat) (acc : List (Str × Addr)) (x : Str), (x, NameKind.cell) ∈ names → ∃ c, (x, c) ∈ cellsFrom n names acc
  | (y, k) :: r, n, acc, x, h => by
    unfold cellsFrom
    rcases List.mem_cons.mp h with e | h
    · injection e with e1 e2
      subst e1 e2
      rw [if_pos (show (NameKind.cell == NameKind.cell) = true from rfl)]
      exact ⟨n, cellsFrom_keep r _ _ _ (.head _)⟩
    · split
      · exact cellsFrom_has r _ _ x h
      · exact cellsFrom_has r n acc x h
theorem bind_notin (kindOf : Str → Option NameKind) : ∀ (l : List (Str × Value)) (m : Str → Option Value) (x : Str), x ∉ l.map (·.1) → bindL kindOf l m x = m x ∧ bindC kindOf l m x = m x
  | [], m, x, _ => ⟨rfl, rfl⟩
  | (n, v) :: r, m, x, h => by
    have hx : x ≠ n := fun e => h (e ▸ .head _)
    have hr : x ∉ r.map (·.1) := fun e => h (.tail _ e)
    unfold bindL bindC
    refine ⟨(bind_notin kindOf r _ x hr).1.trans ?_, (bind_notin kindOf r _ x hr).2.trans ?_⟩
    · split
      · simp [hx]
      · rfl
    · split
      · rfl
      · simp [hx]
theorem bind_in (kindOf : Str → Option NameKind) (l : List (Str × Value)) (m cm : Str → Option Value) (x : Str) (v : Value) (nd : (l.map (·.1)).Nodup) (h : (x, v) ∈ l) :
    (kindOf x = some .local → bindL kindOf l m x = some v) ∧ (kindOf x ≠ some .local → bindC kindOf l cm x = some v) := by
  induction l generalizing m cm with
  | nil => cases h
  | cons p r ih =>
    rw [List.map_cons, List.nodup_cons] at nd
    unfold bindL bindC
    rcases List.mem_cons.mp h with e | h
    · rw [← e] at nd ⊢
      refine ⟨fun hk => ((bind_notin kindOf r _ x nd.1).1).trans ?_, fun hk => ((bind_notin kindOf r _ x nd.1).2).trans ?_⟩
      · rw [if_pos hk]; simp
      · rw [if_neg hk]; simp
    · exact ih _ _ nd.2 h
theorem cells_map_mem {l : List (Str × Addr)} {c : Addr} (h : c ∈ l.map (·.2)) : ∃ n, (n, c) ∈ l := let ⟨⟨n, c'⟩, hm, e⟩ := List.mem_map.mp h; ⟨n, (show c' = c from e) ▸ hm⟩
noncomputable def SlotAt (h : Heap) (X : Addr → Prop) (a : Addr) : Slot → Prop
  | .io ds => ∃ vs, h.PlainList a vs ∧ RdL h X vs.toList ds
  | .itr true ds => ItOk h X a ds
  | _ => False
inductive ParOk (h : Heap) (X : Addr → Prop) (a : Addr) : Slot → Value → Prop
  | val {d : PyData} {v : Value} : Rd h X v d → ParOk h X a (.val d) v
  | par {sl : Slot} : SlotAt h X a sl → ParOk h X a sl (.ref a)
theorem SlotAt.stay {h h' : Heap} {X X' : Addr → Prop} {a : Addr} {sl : Slot} (x : SlotAt h X a sl) (k : Stay X X' h h') (ka : ∀ o, h.get? a = some o → h'.get? a = some o) : SlotAt h' X' a sl := by
  cases sl with
  | io ds => obtain ⟨vs, hp, hr⟩ := x; exact ⟨vs, hp.at ka, hr.stay k⟩
  | itr p ds => cases p with | true => exact ItOk.stay k ka x | false => exact x.elim
  | _ => exact x.elim
section
variable {prog : Program} {w : World} {H : Heap} {A : Around} {X : Addr → Prop} {s s₁ : Shared}

noncomputable def fnCx (fd : FuncData) (L f : Addr) (A : Around) (n : Nat) (gl : List Str) (a : Addr) : Cx := ⟨callEnvC fd L f, A.deeper (callEnvC fd L f), n, (callEnvC fd L f).cells.map (·.2), true, gl, fun _ => a⟩

theorem Rep.fn {fd : FuncData} {L f a : Addr} {n : Nat} {ps : List (Str × Slot)} {vs gl : List Str} {vals : List Value} (hg : fd.globals = mainGlobals) (hb : fd.builtins = builtinsNs) (ok : FnOk fd.scope (ps.map (·.1)) vs gl) (hA : AN A (n + 1))
    (htop : ∀ b o, H.get? b = some o → s.heap.get? b = some o) (hbare : AllBare s.gens) (hX : ∀ a, X a → ∃ o, s.heap.get? a = some o) (hlen : ps.length = vals.length) (hv : ∀ (i : Nat) p v, ps[i]? = some p → vals[i]? = some v → ParOk s.heap X a p.2 v)
    (hone : ∀ p ∈ ps, ∀ q ∈ ps, p.2.isOwn = true → q.2.isOwn = true → p.1 = q.1) (hXa : ∀ p ∈ ps, p.2.isOwn = true → X a ∧ H.get? a = none)
    (I : InCallC s (callEnvC fd L f).locals (bindL (callEnvC fd L f).kindOf ((ps.map (·.1)).zip vals) fun _ => none) (callEnvC fd L f).cells (bindC (callEnvC fd L f).kindOf ((ps.map (·.1)).zip vals) fun _ => none) s₁) (hLs : L = s.heap.objs.size)
    (hce : ∀ n c, (n, c) ∈ (callEnvC fd L f).cells → (callEnvC fd L f).cells.lookup n = some c) :
    Rep prog w H (fnCx fd L f A n gl a) X (fun _ => a) (fnσ fd.scope ps vs) s₁ ∧ Kp s s₁ ∧ (∀ b, Mut (fnCx fd L f A n gl a) (fnσ fd.scope ps vs) (fun _ => a) b → s.heap.get? b = none ∨ (b = a ∧ ∃ p ∈ ps, p.2.isOwn = true)) := by
  have kind : ∀ x, (callEnvC fd L f).kindOf x = fd.scope.names.lookup x := fun _ => rfl
  have kp : Kp s s₁ := by obtain ⟨h, tk, rfl⟩ := I.toInCall.same; exact .of I.toInCall.keep
  have own : ∀ e ∈ fnσ fd.scope ps vs, e.sl.isOwn = true → ∃ p ∈ ps, p.2.isOwn = true ∧ e.nm = p.1 := fun e he ho => by
    unfold fnσ at he
    rcases List.mem_append.mp he with he | he
    · obtain ⟨p, hp, rfl⟩ := List.mem_map.mp he; exact ⟨p, hp, ho, rfl⟩
    · obtain ⟨p, _, rfl⟩ := List.mem_map.mp he; cases ho
  have fresh : ∀ a, L ≤ a → s.heap.get? a = none := fun a h => by
    cases e : s.heap.get? a with
    | none => rfl
    | some o => exact absurd (Heap.lt_size e) (Nat.not_lt.mpr (hLs ▸ h))
  have hmut : ∀ b, Mut (fnCx fd L f A n gl a) (fnσ fd.scope ps vs) (fun _ => a) b → L ≤ b ∨ (b = a ∧ ∃ p ∈ ps, p.2.isOwn = true) := fun b z => by
    rcases z with z | z | ⟨e, he, ho, z⟩
    · exact .inl (Nat.le_of_eq (show b = L from z).symm)
    · obtain ⟨x, hm⟩ := cells_map_mem z
      exact .inl (Nat.le_of_lt (I.above x b hm))
    · obtain ⟨p, hp, ho', _⟩ := own e he ho
      exact .inr ⟨(show a = b from z).symm, p, hp, ho'⟩
  have aLow : ∀ p ∈ ps, p.2.isOwn = true → ¬ L ≤ a := fun p hp ho h => by obtain ⟨o, e⟩ := hX a (hXa p hp ho).1; rw [fresh a h] at e; cases e
  have hzn : ((ps.map (·.1)).zip vals).map (·.1) = ps.map (·.1) := by
    rw [List.map_fst_zip]; simp; lia
  have ndp : (ps.map (·.1)).Nodup := (List.nodup_append.mp ok.nd).1
  refine ⟨?_, kp, fun b z => (hmut b z).imp (fresh b) id⟩
  refine { ok := ?_, top := fun b o e => kp.heap _ _ (htop b o e), bare := kp.bare hbare, nd := ?_, ns := ⟨_, I.toInCall.ns, fun e he => ?_⟩, cells := fun c hc => ?_, dl := fun z => ?_, dn := fun x x' c h h' => name_of_addr I.apart h h', mc := fun c hc => hc, ow := fun e he ho => ?_, dd := fun e he e' he' ho ho' _ => ?_, fresh := fun b z => ?_, aliveF := fun a z => let ⟨o, e⟩ := hX a z; ⟨o, kp.heap a o e⟩, cellF := fun c hc => .inl hc, fl := fun _ => rfl, pa := fun _ _ _ => rfl }
  · refine ⟨ok.kind, hg, hb, hA.hh, ?_, ?_, ok.co, fun x hx => ok.gl x hx⟩
    · have := hA.room; show A.depth + 1 + n < _; lia
    · have := hA.units; show A.units + 3 + 8 * n + 200 < _; lia
  · have : (fnσ fd.scope ps vs).map (·.nm) = ps.map (·.1) ++ vs := by unfold fnσ; simp [List.map_append, Function.comp_def]
    rw [this]; exact ok.nd
  · have stay : Stay X (Or2 X (Mut (fnCx fd L f A n gl a) (fnσ fd.scope ps vs) (fun _ => a))) s.heap s₁.heap := ⟨fun a o _ e => kp.heap a o e, fun b z => z.elim .inl fun z => (hmut b z).elim (fun z => .inr (fresh b z)) fun z => .inl (by obtain ⟨rfl, p, hp, ho⟩ := z; exact (hXa p hp ho).1)⟩
    have cellOf : ∀ x, fd.scope.names.lookup x = some .cell → ∃ c, (callEnvC fd L f).cells.lookup x = some c := fun x hx => by
      obtain ⟨c, hc⟩ := cellsFrom_has fd.scope.names (L + 1) [] x (mem_of_lookup' hx)
      exact ⟨c, hce x c hc⟩
    have kdok : ∀ x, x ∈ ps.map (·.1) ++ vs → (callEnvC fd L f).kindOf x = some (if locIn fd.scope x = true then .local else .cell) ∧ (locIn fd.scope x = false → ∃ c, (callEnvC fd L f).cells.lookup x = some c) ∧ (x == ("__debug__" : Str)) = false := fun x hx => by
      obtain ⟨h1, h2⟩ := ok.names x hx
      rw [kind]
      unfold locIn
      by_cases hl : fd.scope.names.lookup x = some .local
      · exact ⟨by simp [hl], fun z => by simp [hl] at z, h2⟩
      · have hc := h1.resolve_left hl
        exact ⟨by simp [hc], fun _ => cellOf x hc, h2⟩
    unfold fnσ at he
    rcases List.mem_append.mp he with he | he
    · obtain ⟨p, hp, rfl⟩ := List.mem_map.mp he
      obtain ⟨h1, h2, h3⟩ := kdok p.1 (List.mem_append.mpr (.inl (List.mem_map.mpr ⟨p, hp, rfl⟩)))
      refine ⟨h1, h2, h3, ?_⟩
      obtain ⟨i, hi⟩ := List.getElem?_of_mem hp
      have hil : i < vals.length := by have := (List.getElem?_eq_some_iff.mp hi).1; lia
      have hvi : vals[i]? = some vals[i] := List.getElem?_eq_getElem hil
      generalize vals[i] = v at hvi
      have hpar := hv i p v hi hvi
      have hm : (p.1, v) ∈ (ps.map (·.1)).zip vals := List.mem_of_getElem? (i := i) (List.getElem?_zip_eq_some.mpr ⟨by rw [List.getElem?_map, hi]; rfl, hvi⟩)
      obtain ⟨b1, b2⟩ := bind_in (callEnvC fd L f).kindOf _ (fun _ => none) (fun _ => none) p.1 v (by rw [hzn]; exact ndp) hm
      have hat : ∀ sl, At (fnCx fd L f A n gl a) s₁.heap (bindL (callEnvC fd L f).kindOf ((ps.map (·.1)).zip vals) fun _ => none) ⟨p.1, locIn fd.scope p.1, sl⟩ v := fun sl => by
        unfold At
        dsimp only
        by_cases hl : fd.scope.names.lookup p.1 = some .local
        · rw [if_pos (by unfold locIn; simp [hl])]; exact b1 hl
        · rw [if_neg (by unfold locIn; simp [hl])]
          obtain ⟨c, hc⟩ := h2 (by unfold locIn; simp [hl])
          exact ⟨c, hc, b2 hl ▸ I.cell p.1 c hc⟩
      obtain ⟨x, sl⟩ := p
      cases hpar with
      | val hr => exact ⟨v, hat _, hr.stay stay⟩
      | par hs =>
        have hs' := hs.stay stay fun o e => kp.heap a o e
        dsimp only at hs' hs
        cases sl with
        | io ds => exact ⟨hat _, hs'⟩
        | itr pp ds => cases pp with | true => exact ⟨hat _, hs'⟩ | false => exact hs.elim
        | _ => exact hs.elim
    · obtain ⟨x, hx, rfl⟩ := List.mem_map.mp he
      obtain ⟨h1, h2, h3⟩ := kdok x (List.mem_append.mpr (.inr hx))
      exact ⟨h1, h2, h3, trivial⟩
  · obtain ⟨x, hm⟩ := cells_map_mem hc
    exact ⟨_, I.cell x c (hce x c hm)⟩
  · obtain ⟨x, hm⟩ := cells_map_mem z
    exact absurd (I.above x _ hm) (Nat.lt_irrefl _)
  · obtain ⟨p, hp, ho', _⟩ := own e he ho
    refine ⟨fun z => aLow p hp ho' (Nat.le_of_eq (show a = L from z).symm), fun z => ?_⟩
    obtain ⟨x, hm⟩ := cells_map_mem z
    exact aLow p hp ho' (Nat.le_of_lt (I.above x _ hm))
  · obtain ⟨p, hp, h1, h2⟩ := own e he ho
    obtain ⟨q, hq, h3, h4⟩ := own e' he' ho'
    rw [h2, h4]; exact hone p hp q hq h1 h3
  · rcases hmut b z with z | ⟨rfl, p, hp, ho⟩
    · cases e : H.get? b with
      | none => rfl
      | some o => have := htop b o e; rw [fresh b z] at this; cases this
    · exact (hXa p hp ho).2

theorem cellsFrom_nodup : ∀ (names : List (Str × NameKind)) (n : Nat) (acc : List (Str × Addr)), (names.map (·.1)).Nodup → (acc.map (·.1)).Nodup → (∀ x ∈ names.map (·.1), x ∉ acc.map (·.1)) → ((cellsFrom n names acc).map (·.1)).Nodup
  | [], _, _, _, h, _ => h
  | (x, k) :: r, n, acc, hn, ha, hd => by
    rw [List.map_cons, List.nodup_cons] at hn
    unfold cellsFrom
    split
    · refine cellsFrom_nodup r _ _ hn.2 ?_ fun y hy hy' => ?_
      · rw [List.map_cons, List.nodup_cons]; exact ⟨hd x (.head _), ha⟩
      · rcases List.mem_cons.mp hy' with e | hy'
        · exact hn.1 ((show y = x from e) ▸ hy)
        · exact hd y (.tail _ hy) hy'
    · exact cellsFrom_nodup r n acc hn.2 ha fun y hy => hd y (.tail _ hy)
theorem lookup_of_nodup : ∀ {l : List (Str × Addr)} {x : Str} {c : Addr}, (l.map (·.1)).Nodup → (x, c) ∈ l → l.lookup x = some c
  | (y, d) :: r, x, c, hn, h => by
    rw [List.map_cons, List.nodup_cons] at hn
    rw [List.lookup_cons]
    rcases List.mem_cons.mp h with e | h
    · injection e with e1 e2
      subst e1 e2
      simp
    · have : (x == y) = false := by
        have : x ≠ y := fun e => hn.1 (e ▸ List.mem_map.mpr ⟨(x, c), h, rfl⟩)
        simpa using this
      rw [this]
      exact lookup_of_nodup hn.2 h

/-- the run of a def's body, entered -/
theorem call_fn {f a : Addr} {name : Str} {params : Arguments} {body : List Stmt} {scope : Scope} {n : Nat} {ps : List (Str × Slot)} {vs gl : List Str} {vals : List Value} {Q : Value → Shared → Prop} (hf : FnAt H f name params body scope) (ok : fnOk scope (ps.map (·.1)) vs gl = true)
    (hcn : (scope.names.map (·.1)).Nodup) (hgen : scope.isGenerator = false) (hlen : ps.length = vals.length)
    (hbind : ∀ pm cd doc, bindArgs (Calls.docDef name params body scope pm cd doc) ⟨vals, []⟩ = pure ((ps.map (·.1)).zip vals)) (hA : AN A (n + 1))
    (htop : ∀ b o, H.get? b = some o → s.heap.get? b = some o) (hbare : AllBare s.gens) (hX : ∀ a, X a → ∃ o, s.heap.get? a = some o) (hv : ∀ (i : Nat) p v, ps[i]? = some p → vals[i]? = some v → ParOk s.heap X a p.2 v)
    (hone : ∀ p ∈ ps, ∀ q ∈ ps, p.2.isOwn = true → q.2.isOwn = true → p.1 = q.1) (hXa : ∀ p ∈ ps, p.2.isOwn = true → X a ∧ H.get? a = none)
    (hbody : ∀ pm cd doc L s₁, Rep prog w H (fnCx (Calls.docDef name params body scope pm cd doc) L f A n gl a) X (fun _ => a) (fnσ scope ps vs) s₁ → Kp s s₁ → (∀ b, Mut (fnCx (Calls.docDef name params body scope pm cd doc) L f A n gl a) (fnσ scope ps vs) (fun _ => a) b → s.heap.get? b = none ∨ (b = a ∧ ∃ p ∈ ps, p.2.isOwn = true)) →
      wpAny (model prog w) (A.deeper (callEnvC (Calls.docDef name params body scope pm cd doc) L f)) (execs body (callEnvC (Calls.docDef name params body scope pm cd doc) L f)) (fun fl s' => Q (match fl with | .ret v => v | _ => .none) s') (fun _ _ => False) s₁) :
    wpAny (model prog w) A (call (.ref f) vals) Q (fun _ _ => False) s := by
  obtain ⟨o, pm, cd, doc, ho, hd, hcd⟩ := hf.fn
  have ok' := FnOk.of ok
  have hzn : ((ps.map (·.1)).zip vals).map (·.1) = ps.map (·.1) := by rw [List.map_fst_zip]; simp; lia
  have hce : ∀ L x c, (x, c) ∈ (callEnvC (Calls.docDef name params body scope pm cd doc) L f).cells → (callEnvC (Calls.docDef name params body scope pm cd doc) L f).cells.lookup x = some c := fun L x c h => lookup_of_nodup (cellsFrom_nodup _ _ _ hcn .nil (fun _ _ z => nomatch z)) h
  refine wpAny_call (codeAny_call_cells (fd := Calls.docDef name params body scope pm cd doc) (body := body) (by have := hA.room; lia) (htop _ _ ho) hd (hf.lim.keeps htop) (hcd.keeps htop) rfl (hbind pm cd doc) rfl (fun x hx => ?_) (fun s₁ I => ?_) ok'.co hgen ok'.kind)
  · have hx' : x.1 ∈ ps.map (·.1) := hzn ▸ List.mem_map.mpr ⟨x, hx, rfl⟩
    refine (ok'.names x.1 (List.mem_append.mpr (.inl hx'))).1.imp id fun hc => ⟨hc, ?_⟩
    obtain ⟨c, hm⟩ := cellsFrom_has scope.names (s.heap.objs.size + 1) [] x.1 (mem_of_lookup' hc)
    exact lookup_isSome_of_mem hm
  · obtain ⟨R, k, hM⟩ := Rep.fn (n := n) (gl := gl) (vs := vs) (prog := prog) (w := w) (H := H) (fd := Calls.docDef name params body scope pm cd doc) rfl rfl ok' hA htop hbare hX hlen hv hone hXa I rfl (hce _)
    exact wpAny_mono (hbody pm cd doc _ s₁ R k hM) (fun fl s₂ h => h) fun _ _ z => z.elim

theorem parOk_vals {ps : List (Str × PyData)} {vals : List Value} {a : Addr} (hv : RdL s.heap X vals (ps.map (·.2))) : ∀ (i : Nat) p v, (ps.map fun p => (p.1, Slot.val p.2))[i]? = some p → vals[i]? = some v → ParOk s.heap X a p.2 v := fun i p v hp hvi => by
  rw [List.getElem?_map] at hp
  obtain ⟨q, hq, rfl⟩ := Option.map_eq_some_iff.mp hp
  obtain ⟨v', hv', hr⟩ := hv.get (k := i) (d := q.2) (by rw [List.getElem?_map, hq]; rfl)
  rw [hvi] at hv'
  exact .val (Option.some.inj hv' ▸ hr)
theorem noOwn_vals {ps : List (Str × PyData)} : ∀ p ∈ (ps.map fun p => (p.1, Slot.val p.2)), p.2.isOwn = false := fun p hp => by
  obtain ⟨q, _, rfl⟩ := List.mem_map.mp hp; rfl

/-- a call of a def whose body is walked, kept to what writes nothing -/
theorem RC.fn {f : Addr} {name : Str} {params : Arguments} {body : List Stmt} {scope : Scope} {n : Nat} {ps : List (Str × PyData)} {vs gl : List Str} {d : PyData} (hf : FnAt H f name params body scope) (ok : fnOk scope (ps.map (·.1)) vs gl = true)
    (hcn : (scope.names.map (·.1)).Nodup) (hgen : scope.isGenerator = false)
    (hbind : ∀ vals : List Value, vals.length = ps.length → ∀ pm cd doc, bindArgs (Calls.docDef name params body scope pm cd doc) ⟨vals, []⟩ = pure ((ps.map (·.1)).zip vals))
    (hbody : ∀ pm cd doc L A, TriB prog w H (fnCx (Calls.docDef name params body scope pm cd doc) L f A n gl 0) (fnσ scope (ps.map fun p => (p.1, Slot.val p.2)) vs) body (fun fl _ => fl = .rt d)) : RC prog w H (.ref f) (n + 1) (ps.map (·.2)) d := by
  intro A X s vals hA htop hbare hX hv
  have hlen : vals.length = ps.length := by have := hv.length; simpa using this
  have hnm : (ps.map fun p => (p.1, Slot.val p.2)).map (·.1) = ps.map (·.1) := by simp [Function.comp_def]
  refine call_fn (a := 0) (n := n) (ps := ps.map fun p => (p.1, Slot.val p.2)) (vs := vs) (gl := gl) hf (by rw [hnm]; exact ok) hcn hgen (by simp [hlen]) (fun pm cd doc => by rw [hnm]; exact hbind vals hlen pm cd doc) hA htop hbare hX (parOk_vals hv)
    (fun p hp q hq h => absurd h (by rw [noOwn_vals p hp]; exact Bool.false_ne_true)) (fun p hp h => absurd h (by rw [noOwn_vals p hp]; exact Bool.false_ne_true)) fun pm cd doc L s₁ R k hM => ?_
  refine wpAny_mono ((hbody pm cd doc _ A).out X _ s₁ R) (fun fl s₂ h => ?_) fun _ _ z => z.elim
  obtain ⟨g, σ', ad', rfl, R₂, g₂, hfl⟩ := h
  cases fl <;> first | exact hfl.elim | skip
  have hM' : ∀ b, Mut _ _ _ b → s.heap.get? b = none := fun b z => (hM b z).elim id fun z => by obtain ⟨_, p, hp, ho⟩ := z; rw [noOwn_vals p hp] at ho; cases ho
  exact ⟨⟨fun a o e => g₂.keep a o (fun z => by rw [hM' a z] at e; cases e) (k.heap a o e), fun n x e => g₂.gens n x (k.gens n x e), fun _ => R₂.bare, g₂.os.trans k.os⟩, Rd.stay ⟨fun _ _ _ e => e, fun a z => .inl (.inl z)⟩ hfl⟩
end
end Mine

end
noncomputable section
open PySem PySem.W PyProof.Rows
set_option maxRecDepth 100000
set_option autoImplicit false
namespace Mine

noncomputable def ttAny (t : Expr) : Prop := (∃ x p, t = .Name x p) ∨ ∃ es k p, t = .Tuple es k p
noncomputable def ttTup (t : Expr) : Prop := ∃ es k p, t = .Tuple es k p
noncomputable def ttNm (t : Expr) : Prop := ∃ x p, t = .Name x p

section
variable {prog : Program} {w : World} {H : Heap} {C : Cx} {F : Addr → Prop} {ad : Str → Addr} {σ σ₁ σ₂ σ₃ σ' : List Ent} {s s₁ s₂ s' : Shared}

theorem Rep.forbidL {l : List Addr} (R : Rep prog w H C F ad σ s) (k : Kp s s') (ha : ∀ a ∈ l, s.heap.get? a = none ∧ ∃ o, s'.heap.get? a = some o) : Rep prog w H C (Or2 F (· ∈ l)) ad σ s' :=
  R.ext k (fun b z => z.imp id fun z => (ha b z).1) (fun b z => .inl z) fun b z => z.elim (fun z => let ⟨o, e⟩ := R.aliveF b z; ⟨o, k.heap b o e⟩) fun z => (ha b z).2
theorem ItE.fin {it : Value} {wr : List Addr} {tt : Expr → Prop} {St : StT} {ds : List PyData} (V : Wk prog w H C.A it (fun _ => False) tt St) (R₁ : Rep prog w H C F ad σ₁ s₁) (g₁ : Go (Mut C σ ad) (Mut C σ₁ ad) s s₁) (k : Kp s₁ s₂)
    (ha : ∀ a ∈ wr, s₁.heap.get? a = none ∧ ∃ o, s₂.heap.get? a = some o) (hst : St ds (· ∈ wr) (Or2 (Or2 F (· ∈ wr)) (Mut C σ₁ ad)) s₂) :
    ItP prog w H C F ad σ s σ₁ ds tt it s₂ := by
  refine ⟨_, _, _, V, fun a z => ?_, fun _ z => z.elim, R₁.forbidL k ha, g₁.trans k.go, fun a z q => R₁.new a (ha a z).1 (.inr q), hst⟩
  cases e : s.heap.get? a with
  | none => rfl
  | some o => obtain ⟨o', e'⟩ := g₁.alive a o e; rw [(ha a z).1] at e'; cases e'
theorem stay_new {wr : List Addr} (k : Kp s₁ s₂) (ha : ∀ a ∈ wr, s₁.heap.get? a = none) : Stay (Or2 F (Mut C σ ad)) (Or2 (Or2 F (· ∈ wr)) (Mut C σ ad)) s₁.heap s₂.heap :=
  ⟨fun a o _ e => k.heap a o e, fun a z => by
    rcases z with (z | z) | z
    · exact .inl (.inl z)
    · exact .inr (ha a z)
    · exact .inl (.inr z)⟩
theorem offNew {wr : List Addr} {b : Addr} {o : Obj} (hb : s₁.heap.get? b = some o) (hX : ¬ Or2 F (Mut C σ ad) b) (ha : ∀ a ∈ wr, s₁.heap.get? a = none) : ¬ Or2 (Or2 F (· ∈ wr)) (Mut C σ ad) b := fun z => by
  rcases z with (z | z) | z
  · exact hX (.inl z)
  · rw [ha b z] at hb; cases hb
  · exact hX (.inr z)

theorem letGo_name {it v : Value} {x : Str} {p : Pos} {Q : Unit → Shared → Prop} {E : Value → Shared → Prop} {A : Around} (h : Q () s) : wpAny (model prog w) A (letOwnedTupleGo (.Name x p) it v) Q E s := wpAny_pure h
theorem letGo_list {tgt : Expr} (ht : ttAny tgt) {I l : Addr} {i : Nat} {v : Value} {Q : Unit → Shared → Prop} {E : Value → Shared → Prop} {A : Around} (hit : s.heap.IsListIter I l i) (h : Q () s) : wpAny (model prog w) A (letOwnedTupleGo tgt (.ref I) v) Q E s := by
  rcases ht with ⟨x, p, rfl⟩ | ⟨es, k, p, rfl⟩
  · exact letGo_name h
  · cases v with
    | ref T => exact wpAny_letOwnedTupleGo_listiter hit h
    | _ => exact wpAny_pure h

/-- of a list, whose place is known -/
theorem ItE.list_at {l : Addr} {ds : List PyData} (R₁ : Rep prog w H C F ad σ₁ s₁) (g₁ : Go (Mut C σ ad) (Mut C σ₁ ad) s s₁) (hr : Rd s₁.heap (Or2 F (Mut C σ₁ ad)) (.ref l) (.list ds)) :
    wpAny (model prog w) C.A (pyIter (.ref l)) (ItP prog w H C F ad σ s σ₁ ds ttAny) (fun _ _ => False) s₁ := by
  have zz := hr.inv; clear hr; obtain ⟨a, o, vs, n, e, na, ho, hc, hd, hr⟩ := zz
  cases e
  have hL : s₁.heap.IsList l vs := ⟨o, ho, hc, n, hd⟩
  refine wpAny_pyIter_list hL ?_
  have hfr : ∀ a ∈ [s₁.heap.objs.size], s₁.heap.get? a = none := fun a z => by rw [List.mem_singleton.mp z]; exact size_none _
  have hne : l ≠ s₁.heap.objs.size := Nat.ne_of_lt (Heap.lt_size ho)
  refine ItE.fin (wr := [s₁.heap.objs.size]) (Wk.ofWalks (Walks.list R₁.ok.hh s₁.heap.objs.size l hne vs) ds (by have := hr.length; simpa using this.symm) (fun X h => ¬ X l ∧ h.IsList l vs ∧ RdL h X vs.toList ds) ttAny
    (fun X X' h h' st q => ⟨fun z => (st.new l z).elim q.1 fun e => (by obtain ⟨o, ho, _⟩ := q.2.1; rw [ho] at e; cases e), let ⟨o, ho, r⟩ := q.2.1; ⟨o, st.keep l o q.1 ho, r⟩, q.2.2.stay st⟩)
    (fun X h i v d q hP hd => let ⟨v', hv, hr'⟩ := q.2.2.get hd; by
      have : vs.toList[i]? = some v := by simpa using hP
      rw [this] at hv; exact Option.some.inj hv ▸ hr')
    (fun i h q b hb => by rw [List.mem_singleton.mp hb]; obtain ⟨o, e, _⟩ := q.1; exact ⟨o, e⟩) fun tgt ht i s v Q E q h => letGo_list ht q.1 h)
    R₁ g₁ .push (fun a z => ⟨hfr a z, by rw [List.mem_singleton.mp z]; exact ⟨_, Heap.get?_push_size _ rfl⟩⟩) ?_
  refine ⟨fun _ => Iff.rfl, 0, Nat.zero_le _, ⟨⟨_, Heap.get?_push_size _ rfl, rfl, rfl⟩, hL.push _⟩, rfl, fun b hb hw => ?_, ?_, hL.push _, hr.stay (stay_new (s₂ := { s₁ with heap := s₁.heap.push { cls := .type "list_iterator", data := .fields #[.ref l, .int 0 0] } }) .push hfr)⟩
  · have : b = l := by simp at hb hw; exact hb.resolve_left hw
    subst this
    exact ⟨offNew ho na hfr, o, Heap.get?_push_of_some _ ho⟩
  · exact offNew ho na hfr
theorem ItE.list {e : Expr} {ds : List PyData} (h : Tri prog w H C σ e (.list ds) σ₁) : ItE prog w H C σ e ds σ₁ ttAny := by
  refine Box.of fun F ad s R => ?_
  refine wpAny_mono (h.out F ad s R) (fun v s₁ x => ?_) fun _ _ z => z
  obtain ⟨R₁, g₁, hv⟩ := x
  obtain ⟨l, o, vs, n, rfl, na, ho, hc, hd, hr⟩ := hv.inv
  exact ItE.list_at R₁ g₁ (.list na ho hc hd hr)
noncomputable def chars (x : Str) : List PyData := x.cps.toList.map fun c => .str ⟨#[c]⟩
theorem ItE.str {e : Expr} {x : Str} (h : Tri prog w H C σ e (.str x) σ₁) : ItE prog w H C σ e (chars x) σ₁ ttNm := by
  refine Box.of fun F ad s R => ?_
  refine wpAny_mono (h.out F ad s R) (fun v s₁ y => ?_) fun _ _ z => z
  obtain ⟨R₁, g₁, hv⟩ := y
  obtain ⟨t, rfl⟩ := hv.inv
  have hfr : ∀ a ∈ [s₁.heap.objs.size], s₁.heap.get? a = none := fun a z => by rw [List.mem_singleton.mp z]; exact size_none _
  have fin : ∀ {T : String}, Walks prog w C.A s₁.heap.objs.size [s₁.heap.objs.size] [s₁.heap.objs.size] x.cps.size (SignAt x) (fun i h => h.IsStrIter s₁.heap.objs.size T x t i) → ∀ o, (s₁.heap.push o).IsStrIter s₁.heap.objs.size T x t 0 →
      ItP prog w H C F ad σ s σ₁ (chars x) ttNm (.ref s₁.heap.objs.size) { s₁ with heap := s₁.heap.push o } := by
    intro T V o h0
    refine ItE.fin (wr := [s₁.heap.objs.size]) (Wk.ofWalks V (chars x) (by simp [chars]) (fun X h => True) ttNm (fun _ _ _ _ _ _ => trivial) (fun X h i v d _ hP hd => ?_)
      (fun i h q b hb => by rw [List.mem_singleton.mp hb]; obtain ⟨o, e, _⟩ := q; exact ⟨o, e⟩) fun tgt ht i s v Q E q h => by obtain ⟨x, p, rfl⟩ := ht; exact letGo_name h)
      R₁ g₁ .push (fun a z => ⟨hfr a z, by rw [List.mem_singleton.mp z]; obtain ⟨o', e, _⟩ := h0; exact ⟨_, e⟩⟩) ⟨fun _ => Iff.rfl, 0, Nat.zero_le _, h0, rfl, fun b hb hw => absurd hb hw, trivial⟩
    obtain ⟨c, u, hc, rfl⟩ := hP
    have : d = .str ⟨#[c]⟩ := by
      unfold chars at hd
      rw [List.getElem?_map, Array.getElem?_toList, hc] at hd
      exact (Option.some.inj hd).symm
    subst this
    exact .str _ _
  cases ha : x.cps.all (· < 128)
  · exact wpAny_pyIter_wide ha (fin (Walks.strWide R₁.ok.hh _ x t) _ ⟨_, Heap.get?_push_size _ rfl, rfl, rfl⟩)
  · exact wpAny_pyIter_ascii ha (fin (Walks.strAscii R₁.ok.hh _ x t) _ ⟨_, Heap.get?_push_size _ rfl, rfl, rfl⟩)

/-! calls that make an iterator -/
theorem callT_wp {x : Str} {p pos : Pos} {T : String} {e : Expr} {es : List Expr} {ds : List PyData} {Q : Value → Shared → Prop} (R : Rep prog w H C F ad σ s) (hx : x ∈ C.gl) (hg : Glo H x (.type T)) (ha : TriL prog w H C σ (e :: es) ds σ₁)
    (h : ∀ vs s₁, Aft prog w H C F ad σ s σ₁ s₁ (fun X => RdL s₁.heap X vs ds) → wpAny (model prog w) C.A (call (.type T) vs) Q (fun _ _ => False) s₁)
    (he : starEach (e :: es) C.env = (false, eval e C.env) :: starEach es C.env := by rfl) (hp : (backTo pos (starEach es C.env)).any (·.1) = false := by rfl) : wpAny (model prog w) C.A (eval (.Call (.Name x p) (e :: es) [] pos) C.env) Q (fun _ _ => False) s :=
  wpAny_Call_NameR (glo_run R hx hg (callT_run (wpAny_mono (ha.out F ad s pos R) (fun vs s₁ y => h vs s₁ y) fun _ _ z => z) he hp))

noncomputable def rngL (a : Int) (n : Nat) : List PyData := (List.range n).map fun i => .int (a + (i : Nat))
theorem ItE.range_at {r : Addr} {a b : Int} {t u v : Tok} (R₁ : Rep prog w H C F ad σ₁ s₁) (g₁ : Go (Mut C σ ad) (Mut C σ₁ ad) s s₁) (hr : IsRange s₁.heap r a b 1 t u v) (hs : Builtin.Range.small a b 1 = true) :
    wpAny (model prog w) C.A (pyIter (.ref r)) (ItP prog w H C F ad σ s σ₁ (rngL a (b - a).toNat) ttNm) (fun _ _ => False) s₁ := by
  refine wpAny_pyIter_range hr hs ?_
  have hfr : ∀ a ∈ [s₁.heap.objs.size], s₁.heap.get? a = none := fun a z => by rw [List.mem_singleton.mp z]; exact size_none _
  refine ItE.fin (wr := [s₁.heap.objs.size]) (Wk.ofWalks (Walks.range R₁.ok.hh s₁.heap.objs.size a 1 (b - a).toNat) (rngL a (b - a).toNat) (by simp [rngL]) (fun X h => True) ttNm (fun _ _ _ _ _ _ => trivial) (fun X h i v d _ hP hd => ?_)
    (fun i h q b hb => by rw [List.mem_singleton.mp hb]; exact ⟨_, q⟩) fun tgt ht i s v Q E q h => by obtain ⟨x, p, rfl⟩ := ht; exact letGo_name h)
    R₁ g₁ .push (fun a z => ⟨hfr a z, by rw [List.mem_singleton.mp z]; exact ⟨_, Heap.get?_push_size _ rfl⟩⟩) ⟨fun _ => Iff.rfl, 0, Nat.zero_le _, ?_, rfl, fun b hb hw => absurd hb hw, trivial⟩
  · obtain ⟨t, rfl⟩ := hP
    have : d = .int (a + (i : Nat) * 1) := by
      unfold rngL at hd
      rw [List.getElem?_map] at hd
      obtain ⟨j, hj, rfl⟩ := Option.map_eq_some_iff.mp hd
      obtain ⟨hlt, e⟩ := List.getElem?_eq_some_iff.mp hj
      rw [List.getElem_range] at e
      rw [e, Int.mul_one]
    subst this
    exact .int _ _
  · have := Heap.get?_push_size s₁.heap (o := { cls := .type "range_iterator", data := .fields #[rawInt a, rawInt (Builtin.Range.rangeSize a b 1), rawInt 1] }) rfl
    rw [rangeSize_nat] at this ⊢
    show IsRangeIter _ _ _ _ _
    unfold IsRangeIter
    simpa using this
theorem ItE.range1 {x : Str} {p pos : Pos} {e : Expr} {b : Int} (hx : x ∈ C.gl) (hg : Glo H x (.type "range")) (ha : Tri prog w H C σ e (.int b) σ₁) (h0 : -(2 ^ 62) ≤ b) (h1 : b < 2 ^ 62) (he : starEach [e] C.env = (false, eval e C.env) :: starEach [] C.env := by rfl) :
    ItE prog w H C σ (.Call (.Name x p) [e] [] pos) (rngL 0 b.toNat) σ₁ ttNm := by
  refine Box.of fun F ad s R => ?_
  refine callT_wp R hx hg (TriL.cons ha TriL.nil he) (fun vs s₁ y => ?_) he rfl
  obtain ⟨R₁, g₁, hv⟩ := y
  obtain ⟨_, _, rfl, q, r⟩ := hv.inv
  (first | obtain rfl := q.inv | obtain ⟨_, rfl⟩ := q.inv | cases q)
  (first | obtain rfl := r.inv | obtain ⟨_, rfl⟩ := r.inv | cases r)
  refine call_range_1 ?_
  have k : Kp s₁ { s₁ with heap := s₁.heap.push { cls := .type "range", data := .fields #[.int 0 s₁.toks, .int b ‹Tok›, .int 1 (s₁.toks + 1)] }, toks := s₁.toks + 1 + 1 } := .push
  have := ItE.range_at (s := s) (σ := σ) (a := 0) (b := b) (R₁.kp k) (g₁.trans k.go) (IsRange.new _ _ _ _ _ _ _) (small_one (by decide) (by decide) h0 h1)
  rw [Int.sub_zero] at this
  exact this
theorem ItE.range2 {x : Str} {p pos : Pos} {e e' : Expr} {a b : Int} (hx : x ∈ C.gl) (hg : Glo H x (.type "range")) (ha : Tri prog w H C σ e (.int a) σ₁) (hb : Tri prog w H C σ₁ e' (.int b) σ₂) (h0 : -(2 ^ 62) ≤ b) (h1 : b < 2 ^ 62) (h2 : -(2 ^ 62) ≤ a) (h3 : a < 2 ^ 62)
    (he : starEach [e, e'] C.env = (false, eval e C.env) :: starEach [e'] C.env := by rfl) (he' : starEach [e'] C.env = (false, eval e' C.env) :: starEach [] C.env := by rfl) :
    ItE prog w H C σ (.Call (.Name x p) [e, e'] [] pos) (rngL a (b - a).toNat) σ₂ ttNm := by
  refine Box.of fun F ad s R => ?_
  refine callT_wp R hx hg (TriL.cons ha (TriL.cons hb TriL.nil he') he) (fun vs s₁ y => ?_) he (by rw [he']; rfl)
  obtain ⟨R₁, g₁, hv⟩ := y
  obtain ⟨_, _, rfl, q, r⟩ := hv.inv
  obtain ⟨t, rfl⟩ := q.inv
  have zz := r.inv; clear r; obtain ⟨_, _, rfl, q, r⟩ := zz
  obtain ⟨u, rfl⟩ := q.inv
  (first | obtain rfl := r.inv | obtain ⟨_, rfl⟩ := r.inv | cases r)
  refine call_range_2 ?_
  have k : Kp s₁ { s₁ with heap := s₁.heap.push { cls := .type "range", data := .fields #[.int a t, .int b u, .int 1 s₁.toks] }, toks := s₁.toks + 1 } := .push
  exact ItE.range_at (s := s) (σ := σ) (R₁.kp k) (g₁.trans k.go) (IsRange.new _ _ _ _ _ _ _) (small_one h2 h3 h0 h1)
end
end Mine

end
noncomputable section
open PySem PySem.W PyProof.Rows
set_option maxRecDepth 100000
set_option autoImplicit false
namespace Mine

section
variable {prog : Program} {w : World} {H : Heap} {C : Cx} {F : Addr → Prop} {ad : Str → Addr} {σ σ₁ σ₂ σ₃ σ' : List Ent} {s s₁ s₂ s' : Shared}

noncomputable def enumL (ds : List PyData) : List (List PyData) := (ds.zipIdx).map fun p => [.int (p.2 : Nat), p.1]
theorem enumL_get {ds : List PyData} {i : Nat} {xs : List PyData} (h : (enumL ds)[i]? = some xs) : ∃ d, ds[i]? = some d ∧ xs = [.int (i : Nat), d] := by
  unfold enumL at h
  rw [List.getElem?_map] at h
  obtain ⟨p, hp, rfl⟩ := Option.map_eq_some_iff.mp h
  rw [List.getElem?_zipIdx] at hp
  obtain ⟨d, hd, rfl⟩ := Option.map_eq_some_iff.mp hp
  exact ⟨d, hd, by simp⟩

theorem readL {l : Addr} {vs : Array Value} {ds : List PyData} (X X' : Addr → Prop) (h h' : Heap) (st : Stay X X' h h') (q : ¬ X l ∧ h.IsList l vs ∧ RdL h X vs.toList ds) : ¬ X' l ∧ h'.IsList l vs ∧ RdL h' X' vs.toList ds :=
  ⟨fun z => (st.new l z).elim q.1 fun e => (by obtain ⟨o, ho, _⟩ := q.2.1; rw [ho] at e; cases e), let ⟨o, ho, r⟩ := q.2.1; ⟨o, st.keep l o q.1 ho, r⟩, q.2.2.stay st⟩
theorem no_of_size {h : Heap} {a : Addr} (ha : h.objs.size ≤ a) : h.get? a = none := by
  cases e : h.get? a with
  | none => rfl
  | some o => exact absurd (Heap.lt_size e) (Nat.not_lt.mpr ha)

theorem ItE.enumL {x : Str} {p pos : Pos} {e : Expr} {ds : List PyData} (hx : x ∈ C.gl) (hg : Glo H x (.type "enumerate")) (ha : Tri prog w H C σ e (.list ds) σ₁) (he : starEach [e] C.env = (false, eval e C.env) :: starEach [] C.env := by rfl) :
    ItE prog w H C σ (.Call (.Name x p) [e] [] pos) ((Mine.enumL ds).map .tuple) σ₁ ttTup := by
  refine Box.of fun F ad s R => ?_
  refine callT_wp R hx hg (TriL.cons ha TriL.nil he) (fun vs s₁ y => ?_) he rfl
  obtain ⟨R₁, g₁, hv⟩ := y
  obtain ⟨_, _, rfl, q, r⟩ := hv.inv
  (first | obtain rfl := r.inv | obtain ⟨_, rfl⟩ := r.inv | cases r)
  obtain ⟨l, o, vs, n, rfl, na, ho, hc, hd, hr⟩ := q.inv
  have hL : s₁.heap.IsList l vs := ⟨o, ho, hc, n, hd⟩
  refine call_enumerate_list hL fun h' hE hI hz hk => ?_
  refine wpAny_pyIter_enum hE ?_
  have hlt : l < s₁.heap.objs.size := Heap.lt_size ho
  have hfr : ∀ a ∈ [s₁.heap.objs.size + 1, s₁.heap.objs.size], s₁.heap.get? a = none := fun a z => no_of_size (by simp at z; rcases z with rfl | rfl; exact Nat.le_succ _; exact Nat.le_refl _)
  have k : Kp s₁ { s₁ with heap := h' } := ⟨hk, fun _ _ e => e, id, rfl⟩
  refine ItE.fin (wr := [s₁.heap.objs.size + 1, s₁.heap.objs.size]) (Wk.ofWalksT (WalksT.enumerate R₁.ok.hh (s₁.heap.objs.size + 1) s₁.heap.objs.size l (Nat.succ_ne_self _) (Nat.ne_of_lt (Nat.lt_succ_of_lt hlt)) (Nat.ne_of_lt hlt) vs) (Mine.enumL ds) (by have := hr.length; simp [Mine.enumL]; simpa using this.symm)
    (fun X h => ¬ X l ∧ h.IsList l vs ∧ RdL h X vs.toList ds) readL (fun X h i vals xs q hP hd => ?_) (fun i h q b hb => ?_)) R₁ g₁ k (fun a z => ⟨hfr a z, ?_⟩) ?_
  · obtain ⟨t, x, hx, rfl⟩ := hP
    obtain ⟨d, hd', rfl⟩ := enumL_get hd
    obtain ⟨v', hv', hr'⟩ := q.2.2.get hd'
    have : vs.toList[i]? = some x := by simpa using hx
    rw [this] at hv'
    exact .cons (.int _ _) (.cons (Option.some.inj hv' ▸ hr') .nil)
  · obtain ⟨⟨old, h1⟩, ⟨o2, h2, _⟩, _⟩ := q
    rcases List.mem_cons.mp hb with rfl | hb
    · exact ⟨_, h1⟩
    · exact (List.mem_singleton.mp hb) ▸ ⟨_, h2⟩
  · rcases List.mem_cons.mp z with rfl | z
    · exact ⟨_, hE⟩
    · obtain ⟨o2, h2, _⟩ := hI; exact (List.mem_singleton.mp z) ▸ ⟨_, h2⟩
  · refine ⟨fun _ => Iff.rfl, 0, Nat.zero_le _, ⟨⟨_, hE⟩, hI, o, hk l o ho, hc, n, hd⟩, rfl, fun b hb hw => ?_, offNew ho na hfr, ⟨o, hk l o ho, hc, n, hd⟩, hr.stay (stay_new k hfr)⟩
    have : b = l := by
      simp at hb hw
      rcases hb with rfl | rfl | rfl
      · exact absurd rfl hw.1
      · exact absurd rfl hw.2
      · rfl
    subst this
    exact ⟨offNew ho na hfr, o, hk b o ho⟩

noncomputable def zipL (xs ys : List PyData) : List (List PyData) := (xs.zip ys).map fun p => [p.1, p.2]
theorem ItE.zip {x : Str} {p pos : Pos} {e e' : Expr} {ds es : List PyData} (hx : x ∈ C.gl) (hg : Glo H x (.type "zip")) (ha : Tri prog w H C σ e (.list ds) σ₁) (hb : Tri prog w H C σ₁ e' (.list es) σ₂) (he : starEach [e, e'] C.env = (false, eval e C.env) :: starEach [e'] C.env := by rfl)
    (he' : starEach [e'] C.env = (false, eval e' C.env) :: starEach [] C.env := by rfl) : ItE prog w H C σ (.Call (.Name x p) [e, e'] [] pos) ((zipL ds es).map .tuple) σ₂ ttTup := by
  refine Box.of fun F ad s R => ?_
  refine callT_wp R hx hg (TriL.cons ha (TriL.cons hb TriL.nil he') he) (fun vs s₁ y => ?_) he (by rw [he']; rfl)
  obtain ⟨R₁, g₁, hv⟩ := y
  obtain ⟨_, _, rfl, q, r⟩ := hv.inv
  have zz := r.inv; clear r; obtain ⟨_, _, rfl, q', r⟩ := zz
  (first | obtain rfl := r.inv | obtain ⟨_, rfl⟩ := r.inv | cases r)
  obtain ⟨l, o, vs, n, rfl, na, ho, hc, hd, hr⟩ := q.inv
  obtain ⟨l', o', vs', n', rfl, na', ho', hc', hd', hr'⟩ := q'.inv
  have hL : s₁.heap.IsList l vs := ⟨o, ho, hc, n, hd⟩
  have hL' : s₁.heap.IsList l' vs' := ⟨o', ho', hc', n', hd'⟩
  refine call_zip_2 hL hL' fun h' hZ hTI hTO h1 h2 hz hk => ?_
  refine wpAny_pyIter_zip hZ ?_
  have hlt : l < s₁.heap.objs.size := Heap.lt_size ho
  have hlt' : l' < s₁.heap.objs.size := Heap.lt_size ho'
  generalize hN : s₁.heap.objs.size = N at *
  have N1 : ∀ k : Nat, l ≠ N + k := fun k => Nat.ne_of_lt (Nat.lt_of_lt_of_le hlt (Nat.le_add_right _ _))
  have N2 : ∀ k : Nat, l' ≠ N + k := fun k => Nat.ne_of_lt (Nat.lt_of_lt_of_le hlt' (Nat.le_add_right _ _))
  have D : ZipApart (N + 4) (N + 2) (N + 3) N (N + 1) l l' := by
    constructor <;> first | exact N1 0 | exact N2 0 | exact N1 _ | exact N2 _ | (intro e; exact absurd (show (N : Nat) + _ = _ from e) (by lia)) | (intro e; exact absurd (show (N : Nat) = _ from e) (by lia))
  have hfr : ∀ a ∈ [N + 4, N + 3, N, N + 1], s₁.heap.get? a = none := fun a z => no_of_size (by rw [hN]; simp at z; rcases z with rfl | rfl | rfl | rfl <;> first | exact Nat.le_refl _ | exact Nat.le_add_right _ _)
  have hfr2 : s₁.heap.get? (N + 2) = none := no_of_size (by rw [hN]; exact Nat.le_add_right _ _)
  have k : Kp s₁ { s₁ with heap := h' } := ⟨hk, fun _ _ e => e, id, rfl⟩
  refine ItE.fin (wr := [N + 4, N + 3, N, N + 1]) (Wk.ofWalksT (WalksT.zip2 R₁.ok.hh (N + 4) (N + 2) (N + 3) N (N + 1) l l' D vs vs') (zipL ds es) (by have := hr.length; have := hr'.length; simp [zipL]; simp at *; lia)
    (fun X h => (¬ X l ∧ h.IsList l vs ∧ RdL h X vs.toList ds) ∧ (¬ X l' ∧ h.IsList l' vs' ∧ RdL h X vs'.toList es)) (fun X X' h h' st q => ⟨readL X X' h h' st q.1, readL X X' h h' st q.2⟩) (fun X h i vals xs q hP hd => ?_) (fun i h q b hb => ?_)) R₁ g₁ k (fun a z => ⟨hfr a z, ?_⟩) ?_
  · obtain ⟨u, v, hu, hv, rfl⟩ := hP
    unfold zipL at hd
    rw [List.getElem?_map] at hd
    obtain ⟨⟨a, b⟩, hp, rfl⟩ := Option.map_eq_some_iff.mp hd
    obtain ⟨h1, h2⟩ := List.getElem?_zip_eq_some.mp hp
    obtain ⟨u', hu', ru⟩ := q.1.2.2.get h1
    obtain ⟨v', hv', rv⟩ := q.2.2.2.get h2
    have e1 : vs.toList[i]? = some u := by simpa using hu
    have e2 : vs'.toList[i]? = some v := by simpa using hv
    rw [e1] at hu'
    rw [e2] at hv'
    exact .cons (Option.some.inj hu' ▸ ru) (.cons (Option.some.inj hv' ▸ rv) .nil)
  · obtain ⟨q1, q2, ⟨x, y, q3⟩, ⟨o1, q4, _⟩, ⟨o2, q5, _⟩, _⟩ := q
    simp at hb
    rcases hb with rfl | rfl | rfl | rfl
    · exact ⟨_, q1⟩
    · exact ⟨_, q3⟩
    · exact ⟨_, q4⟩
    · exact ⟨_, q5⟩
  · obtain ⟨o1, q4, _⟩ := h1
    obtain ⟨o2, q5, _⟩ := h2
    simp at z
    rcases z with rfl | rfl | rfl | rfl
    · exact ⟨_, hZ⟩
    · exact ⟨_, hTO⟩
    · exact ⟨_, q4⟩
    · exact ⟨_, q5⟩
  · refine ⟨fun _ => Iff.rfl, 0, Nat.zero_le _, ⟨hZ, hTI, ⟨_, _, hTO⟩, h1, h2, ⟨o, hk l o ho, hc, n, hd⟩, ⟨o', hk l' o' ho', hc', n', hd'⟩⟩, rfl, fun b hb hw => ?_, ⟨offNew ho na hfr, ⟨o, hk l o ho, hc, n, hd⟩, hr.stay (stay_new k hfr)⟩, ⟨offNew ho' na' hfr, ⟨o', hk l' o' ho', hc', n', hd'⟩, hr'.stay (stay_new k hfr)⟩⟩
    have : b = l ∨ b = l' ∨ b = N + 2 := by
      simp at hb hw
      rcases hb with rfl | rfl | rfl | rfl | rfl | rfl | rfl
      · exact absurd rfl hw.1
      · exact .inr (.inr rfl)
      · exact absurd rfl hw.2.1
      · exact absurd rfl hw.2.2.1
      · exact absurd rfl hw.2.2.2
      · exact .inl rfl
      · exact .inr (.inl rfl)
    rcases this with rfl | rfl | rfl
    · exact ⟨offNew ho na hfr, o, hk _ o ho⟩
    · exact ⟨offNew ho' na' hfr, o', hk _ o' ho'⟩
    · refine ⟨fun z => ?_, _, hTI⟩
      rcases z with (z | z) | z
      · exact R₁.new _ hfr2 (.inl z)
      · exact hw z
      · exact R₁.new _ hfr2 (.inr z)
end
end Mine

end
noncomputable section
open PySem PySem.W PyProof.Rows
set_option maxRecDepth 100000
set_option autoImplicit false
namespace Mine

section
variable {prog : Program} {w : World} {H : Heap} {C : Cx} {F : Addr → Prop} {ad : Str → Addr} {σ σ₁ σ₂ σ₃ σ' : List Ent} {s s₁ s₂ s' : Shared}

/-- what is the frame's own is written -/
theorem Rep.wrG {x : Str} {l : Bool} {sl sl' : Slot} (R : Rep prog w H C F ad σ s) (hm : (⟨x, l, sl⟩ : Ent) ∈ σ) (hu : Upd x l sl' σ σ₂) (ho : sl.isOwn = true) (ho' : sl'.isOwn = true) (hpp : sl'.isPar = sl.isPar) (g : Go (· = ad x) (· = ad x) s s') (hb : AllBare s'.gens)
    (hslot : ∀ m m', Stay (Or2 F (Mut C σ ad)) (Or2 F (Mut C σ₂ ad)) s.heap s'.heap → SlotOk prog w C s.heap F (Or2 F (Mut C σ ad)) m (ad x) ⟨x, l, sl⟩ → (∀ v, At C s.heap m ⟨x, l, sl⟩ v → At C s'.heap m' ⟨x, l, sl'⟩ v) → SlotOk prog w C s'.heap F (Or2 F (Mut C σ₂ ad)) m' (ad x) ⟨x, l, sl'⟩) :
    Rep prog w H C F ad σ₂ s' ∧ Go (Mut C σ ad) (Mut C σ₂ ad) s s' := by
  have hmut : ∀ a, Mut C σ₂ ad a → Mut C σ ad a := by
    rintro a (z | z | ⟨e, he, hoe, rfl⟩)
    · exact .inl z
    · exact .inr (.inl z)
    · rcases hu.mem R.nd e he with rfl | ⟨he, hne⟩
      · exact .inr (.inr ⟨_, hm, ho, rfl⟩)
      · exact .inr (.inr ⟨e, he, hoe, rfl⟩)
  have hX : Mut C σ ad (ad x) := .inr (.inr ⟨_, hm, ho, rfl⟩)
  have keep : ∀ a o, a ≠ ad x → s.heap.get? a = some o → s'.heap.get? a = some o := fun a o n e => g.keep a o n e
  have st : Stay (Or2 F (Mut C σ ad)) (Or2 F (Mut C σ₂ ad)) s.heap s'.heap := ⟨fun a o n e => keep a o (fun z => n (.inr (z ▸ hX))) e, fun a z => .inl (z.imp id (hmut a))⟩
  have cne : ∀ c ∈ C.env.cells.map (·.2), c ≠ ad x := fun c hc z => (R.ow _ hm ho).2 (z ▸ hc)
  have lne : C.env.locals ≠ ad x := fun z => (R.ow _ hm ho).1 z.symm
  refine ⟨{ ok := R.ok, top := fun a o e => keep a o (fun z => ?_) (R.top a o e), bare := hb, nd := hu.names ▸ R.nd, ns := ?_, cells := fun c hc => ?_, dl := R.dl, dn := R.dn, mc := R.mc, ow := fun e he hoe => ?_, dd := fun e he e' he' hoe hoe' z => ?_, fresh := fun a z => R.fresh a (hmut a z), aliveF := fun a z => let ⟨o, e⟩ := R.aliveF a z; g.alive a o e, cellF := R.cellF, fl := R.fl, pa := fun e he hp => (hu.mem R.nd e he).elim (fun z => by subst z; exact R.pa ⟨x, l, sl⟩ hm (hpp ▸ hp)) fun z => R.pa e z.1 hp },
    ⟨fun a o n e => keep a o (fun z => n (z ▸ hX)) e, g.alive, fun a z => .inl (hmut a z), g.gens, g.os⟩⟩
  · rw [z, R.fresh _ hX] at e; cases e
  · obtain ⟨m, hn, q⟩ := R.ns
    have hn' : s'.heap.Ns C.env.locals m := hn.at' fun o e => keep _ o lne e
    have hat : ∀ (e e' : Ent), e'.nm = e.nm → e'.loc = e.loc → ∀ v, At C s.heap m e v → At C s'.heap m e' v := fun e e' h1 h2 v ha => by
      unfold At at ha ⊢
      rw [h1, h2]
      split
      · rename_i z; rw [if_pos z] at ha; exact ha
      · rename_i z; rw [if_neg z] at ha; obtain ⟨c, hc, o, hv, hd⟩ := ha; exact ⟨c, hc, o, keep c o (cne c (List.mem_map.mpr ⟨_, mem_of_lookup hc, rfl⟩)) hv, hd⟩
    refine ⟨m, hn', fun e he => ?_⟩
    rcases hu.mem R.nd e he with rfl | ⟨he, hne⟩
    · have qe := q _ hm
      exact ⟨qe.kind, qe.cell, qe.nodebug, hslot m m st qe.slot (hat _ _ rfl rfl)⟩
    · have qe := q e he
      exact ⟨qe.kind, qe.cell, qe.nodebug, qe.slot.stay st (fun c hc o e' => keep c o (cne c hc) e') (fun hoe o e' => keep _ o (fun z => hne (R.dd e he _ hm hoe ho z)) e') fun _ nf _ _ f => nf f⟩
  · obtain ⟨v, o, e, hd⟩ := R.cells c hc
    exact ⟨v, o, keep c o (cne c (R.mc c hc)) e, hd⟩
  · rcases hu.mem R.nd e he with rfl | ⟨he, _⟩
    · exact R.ow ⟨x, l, sl⟩ hm ho
    · exact R.ow e he hoe
  · rcases hu.mem R.nd e he with rfl | ⟨he, _⟩ <;> rcases hu.mem R.nd e' he' with rfl | ⟨he', _⟩
    · rfl
    · exact R.dd ⟨x, l, sl⟩ hm _ he' ho hoe' z
    · exact R.dd _ he ⟨x, l, sl⟩ hm hoe ho z
    · exact R.dd e he e' he' hoe hoe' z
theorem Rep.wr {x : Str} {l : Bool} {sl sl' : Slot} {h' : Heap} {tk : Nat} (R : Rep prog w H C F ad σ s) (hm : (⟨x, l, sl⟩ : Ent) ∈ σ) (hu : Upd x l sl' σ σ₂) (ho : sl.isOwn = true) (ho' : sl'.isOwn = true) (hpp : sl'.isPar = sl.isPar) (hs : Heap.SameBut (ad x) s.heap h') (hal : ∃ o, h'.get? (ad x) = some o)
    (hslot : ∀ m m', Stay (Or2 F (Mut C σ ad)) (Or2 F (Mut C σ₂ ad)) s.heap h' → SlotOk prog w C s.heap F (Or2 F (Mut C σ ad)) m (ad x) ⟨x, l, sl⟩ → (∀ v, At C s.heap m ⟨x, l, sl⟩ v → At C h' m' ⟨x, l, sl'⟩ v) → SlotOk prog w C h' F (Or2 F (Mut C σ₂ ad)) m' (ad x) ⟨x, l, sl'⟩) :
    Rep prog w H C F ad σ₂ { s with heap := h', toks := tk } ∧ Go (Mut C σ ad) (Mut C σ₂ ad) s { s with heap := h', toks := tk } :=
  R.wrG (s' := { s with heap := h', toks := tk }) hm hu ho ho' hpp ⟨fun a o n e => (hs.2 a n).trans e, fun a o e => by
    by_cases z : a = ad x
    · exact z ▸ hal
    · exact ⟨o, (hs.2 a z).trans e⟩, fun _ z => .inl z, fun _ _ e => e, rfl⟩ R.bare hslot

theorem SlotOk.ref {h : Heap} {X : Addr → Prop} {m : Str → Option Value} {a : Addr} {e : Ent} (x : SlotOk prog w C h F X m a e) (ho : e.sl.isOwn = true) : At C h m e (.ref a) := by
  obtain ⟨n, l, sl⟩ := e
  cases sl with
  | un => cases ho
  | val d => cases ho
  | rdc d => cases ho
  | own ds => exact x.1
  | io ds => exact x.1
  | itr p ds => exact x.1
  | dic ds => exact x.1
/-- a name that holds what is the frame's own -/
theorem own_at (R : Rep prog w H C F ad σ s) {x : Str} {l : Bool} {sl : Slot} (hm : (⟨x, l, sl⟩ : Ent) ∈ σ) (ho : sl.isOwn = true) {pos : Pos} {Q : Value → Shared → Prop} {E : Value → Shared → Prop} (h : Q (.ref (ad x)) s) : wpAny (model prog w) C.A (eval (.Name x pos) C.env) Q E s := by
  obtain ⟨m, hn, q⟩ := R.ns
  have qe := q _ hm
  exact eval_at R hn qe.kind qe.nodebug (qe.slot.ref ho) h

inductive LL : Slot → List PyData → Prop
  | own (ds : List PyData) : LL (.own ds) ds
  | io (ds : List PyData) : LL (.io ds) ds
noncomputable def Slot.list' : Slot → List PyData → Slot
  | .io _, ds => .io ds
  | _, ds => .own ds
theorem LL.plain {sl : Slot} {ds : List PyData} (h : LL sl ds) {hp : Heap} {X : Addr → Prop} {m : Str → Option Value} {a : Addr} {x : Str} {l : Bool} (q : SlotOk prog w C hp F X m a ⟨x, l, sl⟩) : ∃ vs, hp.PlainList a vs ∧ RdL hp X vs.toList ds := by
  cases h with
  | own => exact q.2.2
  | io => exact q.2
theorem LL.isOwn {sl : Slot} {ds : List PyData} (h : LL sl ds) : sl.isOwn = true := by cases h <;> rfl
theorem LL.own' {sl : Slot} {ds ds' : List PyData} (h : LL sl ds) : (sl.list' ds').isOwn = true := by cases h <;> rfl
theorem LL.par {sl : Slot} {ds ds' : List PyData} (h : LL sl ds) : (sl.list' ds').isPar = sl.isPar := by cases h <;> rfl
theorem LL.mk {sl : Slot} {ds ds' : List PyData} (h : LL sl ds) {hp hp' : Heap} {X X' : Addr → Prop} {m m' : Str → Option Value} {a : Addr} {x : Str} {l : Bool} (q : SlotOk prog w C hp F X m a ⟨x, l, sl⟩) (ha : ∀ v, At C hp m ⟨x, l, sl⟩ v → At C hp' m' ⟨x, l, sl.list' ds'⟩ v)
    (hl : ∃ vs, hp'.PlainList a vs ∧ RdL hp' X' vs.toList ds') : SlotOk prog w C hp' F X' m' a ⟨x, l, sl.list' ds'⟩ := by
  cases h with
  | own => exact ⟨ha _ q.1, q.2.1, hl⟩
  | io => exact ⟨ha _ q.1, hl⟩

/-- x.append(e), x.extend(e) where x is the frame's own list -/
theorem TriN.listM {x : Str} {l : Bool} {sl : Slot} {ds ds' : List PyData} {mth : Str} {id : String} {e : Expr} {p ap pos epos : Pos} {d : PyData} {pl : Sem Bool} (slot : PySem.Slot "list" mth id) (ty : typeOf (.builtin id) = pure (.type "method_descriptor"))
    (h0 : ∃ sl₀, (⟨x, l, sl₀⟩ : Ent) ∈ σ ∧ ∃ ds₀, LL sl₀ ds₀) (he : Tri prog w H C σ e d σ₁) (hm : (⟨x, l, sl⟩ : Ent) ∈ σ₁) (hL : LL sl ds) (hu : Upd x l (sl.list' ds') σ₁ σ₂)
    (hrun : ∀ (A : Around) (s : Shared) (X : Addr → Prop) (a : Addr) (vs : Array Value) (v : Value), s.heap.PlainList a vs → RdL s.heap X vs.toList ds → Rd s.heap X v d → New X s → X a → wpAny (model prog w) A (call (.builtin id) [.ref a, v]) (fun r s' => r = .none ∧ ∃ h' vs' tk, s' = { s with heap := h', toks := tk } ∧ Heap.SameBut a s.heap h' ∧ h'.PlainList a vs' ∧ RdL s.heap X vs'.toList ds') (fun _ _ => False) s)
    (hev : eval (.Call (.Attribute (.Name x p) mth ap) [e] [] pos) C.env = (do
      let ov ← eval (.Name x p) C.env
      standAt ap.atName
      let (f, first) ← holding [ov] (getMethod ov mth pl)
      callWith pos f first (backTo pos (starEach [e] C.env)) []) := by rfl)
    (hs : starEach [e] C.env = (false, eval e C.env) :: starEach [] C.env := by rfl) (hi : interactive C.env = false := by rfl) (hw : swapsWith (.Call (.Attribute (.Name x p) mth ap) [e] [] pos) none epos.line C.env = pure false := by rfl) :
    TriN prog w H C σ (.Expr (.Call (.Attribute (.Name x p) mth ap) [e] [] pos) epos) σ₂ := by
  refine Box.of fun F ad s R => ?_
  obtain ⟨sl₀, hm₀, ds₀, hL₀⟩ := h0
  refine wpAny_Expr (MethodCall_ (own_at R hm₀ hL₀.isOwn ?_) hev) hi hw
  have R0 := R
  obtain ⟨m, hn, q⟩ := R.ns
  obtain ⟨vs₀, ⟨n₀, hp₀⟩, _⟩ := hL₀.plain (q _ hm₀).slot
  refine getMethod_builtin ⟨_, hp₀, rfl⟩ PySem.F.plainAttrs_list slot ty (fun a z => by cases z; exact ⟨_, hp₀, rfl⟩) ?_
  refine callWith_method1 (wpAny_mono ((TriL.cons he TriL.nil hs).out F ad s pos R) (fun vs s₁ y => ?_) fun _ _ z => z.elim) hs rfl
  obtain ⟨R₁, g₁, hv⟩ := y
  have zz := hv.inv; clear hv; obtain ⟨_, _, rfl, hv, r⟩ := zz
  (first | obtain rfl := r.inv | obtain ⟨_, rfl⟩ := r.inv | cases r)
  obtain ⟨m₁, hn₁, q₁⟩ := R₁.ns
  have qs := (q₁ _ hm).slot
  obtain ⟨vs, hp, hr⟩ := hL.plain qs
  refine wpAny_mono (hrun C.A s₁ _ (ad x) vs _ hp hr hv R₁.new (.inr (.inr (.inr ⟨_, hm, hL.isOwn, rfl⟩)))) (fun r s₂ z => ?_) fun _ _ z => z.elim
  obtain ⟨rfl, h', vs', tk, rfl, hs', hp', hr'⟩ := z
  obtain ⟨R₂, g₂⟩ := R₁.wr (tk := tk) hm hu hL.isOwn hL.own' hL.par hs' (let ⟨n, e⟩ := hp'; ⟨_, e⟩) fun m m' st q ha => hL.mk q ha ⟨vs', hp', hr'.stay st⟩
  exact ⟨.nx, σ₂, ad, ⟨rfl, rfl⟩, R₂, g₁.trans g₂, trivial⟩

theorem TriN.append {x : Str} {l : Bool} {sl : Slot} {ds : List PyData} {e : Expr} {p ap pos epos : Pos} {d : PyData} {pl : Sem Bool} (he : Tri prog w H C σ e d σ₁) (hm : (⟨x, l, sl⟩ : Ent) ∈ σ₁) (hL : LL sl ds) (hu : Upd x l (sl.list' (ds ++ [d])) σ₁ σ₂) (hz : ds.length ≤ sizeLine) (h0 : ∃ sl₀, (⟨x, l, sl₀⟩ : Ent) ∈ σ ∧ ∃ ds₀, LL sl₀ ds₀)
    (hev : eval (.Call (.Attribute (.Name x p) "append" ap) [e] [] pos) C.env = (do
      let ov ← eval (.Name x p) C.env
      standAt ap.atName
      let (f, first) ← holding [ov] (getMethod ov "append" pl)
      callWith pos f first (backTo pos (starEach [e] C.env)) []) := by rfl)
    (hs : starEach [e] C.env = (false, eval e C.env) :: starEach [] C.env := by rfl) (hi : interactive C.env = false := by rfl) (hw : swapsWith (.Call (.Attribute (.Name x p) "append" ap) [e] [] pos) none epos.line C.env = pure false := by rfl) :
    TriN prog w H C σ (.Expr (.Call (.Attribute (.Name x p) "append" ap) [e] [] pos) epos) σ₂ :=
  TriN.listM PySem.F.slot_list_append PySem.F.type_list_append h0 he hm hL hu (fun A s X a vs v hp hr hv _ _ => wpAny_list_append_plain hp (fun h' hp' hs' => ⟨rfl, h', _, s.toks, rfl, hs', hp', by rw [Array.toList_push]; exact hr.append (.one hv)⟩) (by have := hr.length; simp at this; lia)) hev hs hi hw

theorem list_extendW (l : Addr) (items : Array Value) (n : Nat) (b : Addr) (items2 : Array Value) (n2 : Nat) (dd : Option Addr) (sl : Array (Option Value)) (hc0 : ¬(!items.isEmpty && Builtin.List.listTooLong (items.size + items2.size)) = true) (hc1 : items.size ≤ sizeLine) (hs2 : items.size + items2.size ≤ sizeLine + 1) :
    Meets (Builtin.«list.extend» ⟨[.ref l, .ref b], []⟩) (fun _ R s => s.heap.get? l = some { cls := .type "list", dict := none, data := .seq items n, slots := #[] } ∧ s.heap.get? b = some { cls := .type "list", dict := dd, data := .seq items2 n2, slots := sl } ∧ R (.ok (.ret Value.none)) { s with heap := s.heap.update l (Obj.mapSeq fun x => x ++ items2), toks := s.toks }) :=
  .of_wp fun prog w A R s h => by
    obtain ⟨hp, g, d, tk, os⟩ := s; obtain ⟨hl, hb, h⟩ := h; have f1 := PySem.AutoSeq1.idx_int; have f2 := PySem.AutoSeq1.sub_tuple_tuple; have f3 := PySem.AutoSeq1.sub_list_list; have f4 := PySem.AutoSeq1.sub_tuple_list; have f5 := PySem.AutoSeq1.sub_list_tuple;
    have hz' : (items ++ items2).size ≤ sizeLine + 1 := by rw [Array.size_append]; exact hs2
    wp_walk using (PySem.wpAny_updateSeq hl rfl (hz := hc1) (_hz' := hz')), PySem.AutoSeq1.wpAny_loadPart' hl, PySem.AutoSeq1.wpAny_loadPart' hb; exact ⟨_, rfl, h⟩
end
end Mine

end
noncomputable section
open PySem PySem.W PyProof.Rows
set_option maxRecDepth 100000
set_option autoImplicit false
namespace Mine

noncomputable def getK {α : Type} (kvs : List (Str × α)) (k : Str) : Option α := (kvs.find? fun p => p.1 = k).map (·.2)
noncomputable def putK {α : Type} (kvs : List (Str × α)) (k : Str) (v : α) : List (Str × α) := if kvs.any (fun p => p.1 = k) then kvs.map (fun p => if p.1 = k then (p.1, v) else p) else kvs ++ [(k, v)]

section
variable {h : Heap} {X : Addr → Prop}
inductive RdK (h : Heap) (X : Addr → Prop) : List (Str × Value) → List (Str × PyData) → Prop
  | nil : RdK h X [] []
  | cons {k : Str} {v : Value} {d : PyData} {vs : List (Str × Value)} {ds : List (Str × PyData)} : Rd h X v d → RdK h X vs ds → RdK h X ((k, v) :: vs) ((k, d) :: ds)
theorem RdK.of : ∀ {vs : List (Str × Value)} {ds : List (Str × PyData)}, vs.map (·.1) = ds.map (·.1) → RdL h X (vs.map (·.2)) (ds.map (·.2)) → RdK h X vs ds
  | [], [], _, _ => .nil
  | [], _ :: _, e, _ => by cases e
  | _ :: _, [], e, _ => by cases e
  | (k, v) :: vs, (k', d) :: ds, e, r => by
    injection e with e1 e2
    cases r with
    | cons q r =>
    have e1 : k = k' := e1
    subst e1
    exact .cons q (RdK.of e2 r)
theorem RdK.to {vs : List (Str × Value)} {ds : List (Str × PyData)} (r : RdK h X vs ds) : vs.map (·.1) = ds.map (·.1) ∧ RdL h X (vs.map (·.2)) (ds.map (·.2)) := by
  induction r with
  | nil => exact ⟨rfl, .nil⟩
  | cons q _ ih => exact ⟨by simp [ih.1], .cons q ih.2⟩
theorem RdK.get {vs : List (Str × Value)} {ds : List (Str × PyData)} (r : RdK h X vs ds) (k : Str) : (∃ v d, valueAt vs k = some v ∧ getK ds k = some d ∧ Rd h X v d) ∨ (valueAt vs k = none ∧ getK ds k = none) := by
  induction r with
  | nil => exact .inr ⟨rfl, rfl⟩
  | @cons k' v d vs ds q _ ih =>
    unfold valueAt getK at *
    simp only [List.find?_cons]
    by_cases e : k' = k
    · simp only [e, decide_true]
      exact .inl ⟨v, d, rfl, rfl, q⟩
    · simp only [e, decide_false]
      exact ih
theorem RdK.any {vs : List (Str × Value)} {ds : List (Str × PyData)} (r : RdK h X vs ds) (k : Str) : vs.any (fun p => decide (p.1 = k)) = ds.any (fun p => decide (p.1 = k)) := by
  induction r with
  | nil => rfl
  | cons _ _ ih => simp [ih]
theorem RdK.append {vs us : List (Str × Value)} {ds es : List (Str × PyData)} (r : RdK h X vs ds) (q : RdK h X us es) : RdK h X (vs ++ us) (ds ++ es) := by
  induction r with
  | nil => exact q
  | cons p _ ih => exact .cons p ih
theorem RdK.over {vs : List (Str × Value)} {ds : List (Str × PyData)} (r : RdK h X vs ds) (k : Str) {v : Value} {d : PyData} (q : Rd h X v d) : RdK h X (vs.map fun p => if p.1 = k then (p.1, v) else p) (ds.map fun p => if p.1 = k then (p.1, d) else p) := by
  induction r with
  | nil => exact .nil
  | @cons k' v' d' vs ds p _ ih =>
    simp only [List.map_cons]
    by_cases e : k' = k
    · simp only [e, if_true]; exact .cons q ih
    · simp only [e, if_false]; exact .cons p ih
theorem RdK.put {vs : List (Str × Value)} {ds : List (Str × PyData)} (r : RdK h X vs ds) (k : Str) {v : Value} {d : PyData} (q : Rd h X v d) : RdK h X (stored vs k v) (putK ds k d) := by
  unfold stored putK
  rw [r.any k]
  split
  · exact r.over k q
  · exact r.append (.cons q .nil)
theorem RdK.length {vs : List (Str × Value)} {ds : List (Str × PyData)} (r : RdK h X vs ds) : vs.length = ds.length := by
  induction r with
  | nil => rfl
  | cons _ _ ih => simp [ih]
end

section
variable {prog : Program} {w : World} {H : Heap} {C : Cx} {F : Addr → Prop} {ad : Str → Addr} {σ σ₁ σ₂ σ₃ σ' : List Ent} {s s₁ s₂ s' : Shared}

theorem DicOk.rd {h : Heap} {X : Addr → Prop} {a : Addr} {kvs : List (Str × PyData)} (x : DicOk prog w h X a kvs) : ∃ vs ep, h.DictAt (PySem.strKind prog w) a vs ep ∧ RdK h X vs kvs ∧ (a == sysModules) = false := by
  obtain ⟨vs, ep, hd, he, hr, hs⟩ := x
  exact ⟨vs, ep, hd, .of he hr, hs⟩
theorem DicOk.mk' {h : Heap} {X : Addr → Prop} {a : Addr} {kvs : List (Str × PyData)} {vs : List (Str × Value)} (hd : h.DictOf (PySem.strKind prog w) a vs) (hr : RdK h X vs kvs) (hs : (a == sysModules) = false) : DicOk prog w h X a kvs := by
  obtain ⟨ep, hd⟩ := hd.dictAt
  exact ⟨vs, ep, hd, hr.to.1, hr.to.2, hs⟩

/-- x = {} -/
theorem TriN.assignDict {x : Str} {l : Bool} {p p' pos : Pos} (hu : Upd x l (.dic []) σ σ₁) (hl : l = true ∨ C.fr = true) (hlim : H.NoLimit) (hs : swapsWith (.Dict [] [] p') (some (.Name x p)) pos.line C.env = pure false := by rfl) :
    TriN prog w H C σ (.Assign [.Name x p] (.Dict [] [] p') pos) σ₁ := by
  refine Box.of fun F ad s R => ?_
  refine wpAny_Assign_Name (wpAny_Dict_empty ?_) hs
  have ha := size_none s.heap
  have R₂ := R.forbid (Kp.push (o := ⟨.type "dict", none, .dict #[] 0, #[]⟩) (tk := s.toks)) ha ⟨_, Heap.get?_push_size _ rfl⟩
  have hsys : (s.heap.objs.size == sysModules) = false := by
    obtain ⟨mc, ⟨o, _, _, e, _⟩, _⟩ := hlim
    have := Heap.lt_size (R.top _ _ e)
    have h2 : (2 : Nat) < s.heap.objs.size := this
    have : s.heap.objs.size ≠ sysModules := fun z => by rw [z] at h2; exact absurd h2 (by decide)
    exact beq_eq_false_iff_ne.mpr this
  have hnew : (s.heap.push { cls := .type "dict", data := .dict #[] }).DictOf (PySem.strKind prog w) s.heap.objs.size [] := Heap.DictOf.new s.heap
  refine wpAny_mono (store_own (F := F) R₂ hu hl rfl rfl (R.notH ha) (fun z => R.new _ ha (.inr z)) (R.notCell ha) fun h' m' X st k at_ => ⟨at_, fun z => R.new _ ha (.inl z), DicOk.mk' (hnew.at fun o e => k o e) .nil hsys⟩) (fun _ s₂ y => ?_) fun _ _ z => z
  obtain ⟨ad', R', hM, hk, hal, hg, hos⟩ := y
  exact ⟨.nx, σ₁, ad', ⟨rfl, rfl⟩, R', ⟨fun a o n e => hk a o n (Heap.get?_push_of_some _ e), fun a o e => hal a o (Heap.get?_push_of_some _ e), fun b z => (hM b z).imp id fun (z : b = _) => z ▸ ha, fun g x e => by rw [hg]; exact e, hos⟩, trivial⟩

/-- x[i] = e -/
theorem TriN.setDict {x : Str} {l : Bool} {i e : Expr} {p p' pos : Pos} {k : Str} {d : PyData} {kvs : List (Str × PyData)} (he : Tri prog w H C σ e d σ₁) (hm : (⟨x, l, .dic kvs⟩ : Ent) ∈ σ₁) (hi : Tri prog w H C σ₁ i (.str k) σ₁) (hu : Upd x l (.dic (putK kvs k d)) σ₁ σ₂) (hz : kvs.length ≤ sizeLine)
    (hs : swapsWith e (some (.Subscript (.Name x p) i p')) pos.line C.env = pure false := by rfl) : TriN prog w H C σ (.Assign [.Subscript (.Name x p) i p'] e pos) σ₂ := by
  refine Box.of fun F ad s R => ?_
  refine wpAny_Assign_Subscript (wpAny_mono (he.out F ad s R) (fun v s₁ y => own_at y.1 hm rfl (wpAny_mono (hi.out F ad s₁ y.1) (fun kv s₂ z => ?_) fun _ _ z => z)) fun _ _ z => z) hs
  obtain ⟨R₁, g₁, hv⟩ := y
  obtain ⟨R₂, g₂, hk⟩ := z
  have hv := hv.stay g₂.stay
  obtain ⟨m, hn, q⟩ := R₂.ns
  obtain ⟨ha, nf, hd⟩ := (q _ hm).slot
  obtain ⟨vs, ep, hD, hr, hsys⟩ := hd.rd
  obtain ⟨t, rfl⟩ := hk.inv
  refine wpAny_setItem_pairs (knd := PySem.strKind prog w) (strKind_is prog w k t) hD.dictOf (fun h' hD' hs' => ?_) (by rw [hr.length]; exact hz)
  obtain ⟨R₃, g₃⟩ := R₂.wr (tk := s₂.toks + 1) hm hu rfl rfl rfl hs' (let ⟨o, _, _, e, _⟩ := hD'; ⟨o, e⟩) fun m m' st q ha => ⟨ha _ q.1, q.2.1, DicOk.mk' hD' (.of (hr.put k hv).to.1 ((hr.put k hv).to.2.stay st)) hsys⟩
  exact ⟨.nx, σ₂, ad, ⟨rfl, rfl⟩, R₃, g₁.trans (g₂.trans g₃), trivial⟩

/-- x.get(i, e) -/
theorem Tri.getDict {x : Str} {l : Bool} {i e : Expr} {p ap pos : Pos} {k : Str} {d : PyData} {kvs : List (Str × PyData)} {pl : Sem Bool} (hm : (⟨x, l, .dic kvs⟩ : Ent) ∈ σ) (hi : Tri prog w H C σ i (.str k) σ) (he : Tri prog w H C σ e d σ)
    (hev : eval (.Call (.Attribute (.Name x p) "get" ap) [i, e] [] pos) C.env = (do
      let ov ← eval (.Name x p) C.env
      standAt ap.atName
      let (f, first) ← holding [ov] (getMethod ov "get" pl)
      callWith pos f first (backTo pos (starEach [i, e] C.env)) []) := by rfl)
    (hs : starEach [i, e] C.env = [(false, eval i C.env), (false, eval e C.env)] := by rfl) : Tri prog w H C σ (.Call (.Attribute (.Name x p) "get" ap) [i, e] [] pos) ((getK kvs k).getD d) σ := by
  refine Box.of fun F ad s R => ?_
  refine MethodCall_ (own_at R hm rfl ?_) hev
  obtain ⟨m, hn, q⟩ := R.ns
  obtain ⟨_, _, hd⟩ := (q _ hm).slot
  obtain ⟨vs, ep, hD, hr, hsys⟩ := hd.rd
  refine getMethod_builtin hD.dictOf.typeIs PySem.F.plainAttrs_dict PySem.F.slot_dict_get PySem.F.type_dict_get hD.dictOf.mapOf.noDict ?_
  rw [hs]
  refine wpAny_dict_get2 (knd := PySem.strKind prog w) hsys (wpAny_mono (hi.out F ad s R) (fun kv s₁ y => wpAny_mono (he.out F ad s₁ y.1) (fun v s₂ z => ?_) fun _ _ z => z) fun _ _ z => z)
  obtain ⟨R₁, g₁, hk⟩ := y
  obtain ⟨R₂, g₂, hv⟩ := z
  obtain ⟨t, rfl⟩ := hk.inv
  obtain ⟨m, hn, q⟩ := R₂.ns
  obtain ⟨_, _, hd⟩ := (q _ hm).slot
  obtain ⟨vs, ep, hD, hr, hsys⟩ := hd.rd
  refine ⟨k, _, strKind_is prog w k t, hD.dictOf.mapOf, Aft.then g₁ (Aft.then g₂ (Aft.kp R₂ .toks ?_))⟩
  rcases hr.get k with ⟨v', d', h1, h2, h3⟩ | ⟨h1, h2⟩
  · rw [h1, h2]; exact h3
  · rw [h1, h2]; exact hv

theorem rdc_at (R : Rep prog w H C F ad σ s) {x : Str} {l : Bool} {kvs : List (Str × PyData)} (hm : (⟨x, l, .rdc kvs⟩ : Ent) ∈ σ) {pos : Pos} {Q : Value → Shared → Prop} {E : Value → Shared → Prop} (h : ∀ a, ¬ Or2 F (Mut C σ ad) a → DicOk prog w s.heap (Or2 F (Mut C σ ad)) a kvs → Q (.ref a) s) :
    wpAny (model prog w) C.A (eval (.Name x pos) C.env) Q E s := by
  obtain ⟨m, hn, q⟩ := R.ns
  have qe := q _ hm
  obtain ⟨a, ha, nx, hd⟩ := qe.slot
  exact eval_at R hn qe.kind qe.nodebug ha (h a nx hd)
/-- x[i] -/
theorem Tri.itemDict {x : Str} {l : Bool} {i : Expr} {p pos : Pos} {k : Str} {d : PyData} {kvs : List (Str × PyData)} (hm : (⟨x, l, .rdc kvs⟩ : Ent) ∈ σ) (hi : Tri prog w H C σ i (.str k) σ) (hd : getK kvs k = some d)
    (hs : ∀ o j, subscripted i false o j = operate [o, j] (getItem o j) := by intro _ _; rfl) : Tri prog w H C σ (.Subscript (.Name x p) i pos) d σ := by
  refine Box.of fun F ad s R => ?_
  refine Subscript_ (rdc_at R hm fun a nx hD => wpAny_mono (hi.out F ad s R) (fun kv s₁ y => ?_) fun _ _ z => z)
  obtain ⟨R₁, g₁, hk⟩ := y
  obtain ⟨t, rfl⟩ := hk.inv
  obtain ⟨o, ho⟩ := hD.alive
  have hD₁ := hD.stay g₁.stay fun o e => g₁.keep a o (fun z => nx (.inr z)) e
  obtain ⟨vs, ep, hD, hr, hsys⟩ := hD₁.rd
  rcases hr.get k with ⟨v', d', h1, h2, h3⟩ | ⟨h1, h2⟩
  · rw [hd] at h2
    refine tail_any hD.dictOf.typeIs slot_dict_getitem.lookup (wpAny_getItem_of (knd := PySem.strKind prog w) (strKind_is prog w k t) hD.dictOf.mapOf h1 ?_) (hs _ _)
    exact Aft.then g₁ (Aft.kp R₁ .toks (Option.some.inj h2 ▸ h3))
  · rw [hd] at h2; cases h2
/-- for k in x -/
theorem ItE.dict {x : Str} {l : Bool} {p : Pos} {kvs : List (Str × PyData)} (hm : (⟨x, l, .rdc kvs⟩ : Ent) ∈ σ) : ItE prog w H C σ (.Name x p) (kvs.map fun q => .str q.1) σ ttNm := by
  refine Box.of fun F ad s R => ?_
  refine rdc_at R hm fun a nx hD => ?_
  obtain ⟨o, ho⟩ := hD.alive
  obtain ⟨vs, ep, hD, hr, hsys⟩ := hD.rd
  refine wpAny_pyIter_dict hsys hD ?_
  have hne : a ≠ s.heap.objs.size := Nat.ne_of_lt (Heap.lt_size ho)
  have hfr : ∀ b ∈ [s.heap.objs.size], s.heap.get? b = none := fun b z => by rw [List.mem_singleton.mp z]; exact size_none _
  refine ItE.fin (wr := [s.heap.objs.size]) (Wk.ofWalks (Walks.dictKeys (knd := PySem.strKind prog w) R.ok.hh s.heap.objs.size a hne vs ep) (kvs.map fun q => .str q.1) (by rw [List.length_map, hr.length]) (fun X h => True) ttNm
    (fun _ _ _ _ _ _ => trivial) (fun X h i v d _ hP hd => ?_) (fun i h q b hb => by rw [List.mem_singleton.mp hb]; obtain ⟨⟨o, e, _⟩, _⟩ := q; exact ⟨o, e⟩) fun tgt ht i s v Q E q h => by obtain ⟨x, p, rfl⟩ := ht; exact letGo_name h)
    R .refl .push (fun b z => ⟨hfr b z, by rw [List.mem_singleton.mp z]; exact ⟨_, Heap.get?_push_size _ rfl⟩⟩) ?_
  · obtain ⟨k, u, hx, hk⟩ := hP
    obtain ⟨t, rfl⟩ := Value.isStrOf_shape hk
    have e1 : (vs.map (·.1))[i]? = some k := by rw [List.getElem?_map, hx]; rfl
    rw [hr.to.1] at e1
    rw [List.getElem?_map] at hd e1
    obtain ⟨q, hq, rfl⟩ := Option.map_eq_some_iff.mp hd
    rw [hq] at e1
    have : q.1 = k := Option.some.inj e1
    rw [this]
    exact .str _ _
  · refine ⟨fun _ => Iff.rfl, 0, Nat.zero_le _, ⟨⟨_, Heap.get?_push_size _ rfl, rfl, rfl⟩, hD.push _⟩, rfl, fun b hb hw => ?_, trivial⟩
    have : b = a := by simp at hb hw; exact hb.resolve_left hw
    subst this
    exact ⟨offNew ho nx hfr, o, Heap.get?_push_of_some _ ho⟩
end
end Mine

end
noncomputable section
open PySem PySem.W PyProof.Rows
set_option maxRecDepth 100000
set_option autoImplicit false
namespace Mine

/-! ## sorting: what the questions come to -/
inductive KR (n : Nat) (lt : Nat → Nat → Bool) {α : Type} : KasT α → α → Prop
  | ret (a : α) : KR n lt (.ret a) a
  | ask {i j : Nat} {k : Bool → KasT α} {a : α} : i < n → j < n → i ≠ j → KR n lt (k (lt i j)) a → KR n lt (.ask i j k) a
theorem KR.bind {n : Nat} {lt : Nat → Nat → Bool} {α β : Type} {t : KasT α} {f : α → KasT β} {a : α} {b : β} (h : KR n lt t a) (h' : KR n lt (f a) b) : KR n lt (t.bind f) b := by
  induction h with
  | ret a => exact h'
  | ask hi hj hne _ ih => exact .ask hi hj hne (ih h')
theorem KR.wp {n : Nat} {lt : Nat → Nat → Bool} {α : Type} {cmp : Nat → Nat → (Bool → Shared → Prop) → Shared → Prop} {t : KasT α} {a : α} {Q : α → Shared → Prop} {s : Shared} (h : KR n lt t a)
    (hc : ∀ i j (C : Bool → Shared → Prop), i < n → j < n → i ≠ j → C (lt i j) s → cmp i j C s) (hq : Q a s) : t.kasWp cmp Q s := by
  induction h with
  | ret a => exact hq
  | ask hi hj hne _ ih => exact hc _ _ _ hi hj hne (ih hq)

section
variable {n : Nat} {lt : Nat → Nat → Bool}
structure LtOk (n : Nat) (lt : Nat → Nat → Bool) : Prop where
  trans : ∀ i j k, lt i j = true → lt j k = true → lt i k = true
  asym : ∀ i j, lt i j = true → lt j i = false
  tot : ∀ i j, i < n → j < n → i ≠ j → lt i j = true ∨ lt j i = true
theorem LtOk.of_false (O : LtOk n lt) {i j : Nat} (hi : i < n) (hj : j < n) (hne : i ≠ j) (h : lt i j = false) : lt j i = true := (O.tot i j hi hj hne).resolve_left fun z => by rw [h] at z; cases z
noncomputable abbrev P (p : Array Nat) (i : Nat) : Nat := p.getD i 0
noncomputable def PermOk (n : Nat) (p : Array Nat) : Prop := p.toList.Perm (List.range n)
theorem PermOk.size {p : Array Nat} (h : PermOk n p) : p.size = n := by have := h.length_eq; simpa using this
theorem P_eq {p : Array Nat} {i : Nat} (h : i < p.size) : p.toList[i]? = some (P p i) := by
  have : P p i = p[i] := by simp [P, Array.getD, h]
  rw [this]; simp [h]
theorem PermOk.bd {p : Array Nat} (h : PermOk n p) {i : Nat} (hi : i < n) : P p i < n := by
  have := h.mem_iff.mp (List.mem_of_getElem? (P_eq (p := p) (i := i) (by rw [h.size]; exact hi)))
  exact List.mem_range.mp this
theorem PermOk.inj {p : Array Nat} (h : PermOk n p) {i j : Nat} (hi : i < n) (hj : j < n) (hne : i ≠ j) : P p i ≠ P p j := fun e => by
  have nd : p.toList.Nodup := h.nodup_iff.mpr List.nodup_range
  have e1 := P_eq (p := p) (i := i) (by rw [h.size]; exact hi)
  have e2 := P_eq (p := p) (i := j) (by rw [h.size]; exact hj)
  rw [e] at e1
  exact hne ((List.getElem?_inj (by simpa [h.size] using hi) nd).mp (e1.trans e2.symm))
noncomputable def SrtTo (lt : Nat → Nat → Bool) (p : Array Nat) (k : Nat) : Prop := ∀ i j, i < j → j < k → lt (P p i) (P p j) = true
noncomputable def DecTo (lt : Nat → Nat → Bool) (p : Array Nat) (k : Nat) : Prop := ∀ i j, i < j → j < k → lt (P p j) (P p i) = true
theorem SrtTo.succ (O : LtOk n lt) {p : Array Nat} {m : Nat} (h : SrtTo lt p m) (h1 : 1 ≤ m) (hm : lt (P p (m - 1)) (P p m) = true) : SrtTo lt p (m + 1) := fun i j hij hj => by
  rcases Nat.lt_or_ge j m with hjm | hjm
  · exact h i j hij hjm
  · obtain rfl : j = m := by lia
    rcases Nat.lt_or_ge i (j - 1) with hi | hi
    · exact O.trans _ _ _ (h i (j - 1) hi (by lia)) hm
    · obtain rfl : i = j - 1 := by lia
      exact hm
theorem DecTo.succ (O : LtOk n lt) {p : Array Nat} {m : Nat} (h : DecTo lt p m) (h1 : 1 ≤ m) (hm : lt (P p m) (P p (m - 1)) = true) : DecTo lt p (m + 1) := fun i j hij hj => by
  rcases Nat.lt_or_ge j m with hjm | hjm
  · exact h i j hij hjm
  · obtain rfl : j = m := by lia
    rcases Nat.lt_or_ge i (j - 1) with hi | hi
    · exact O.trans _ _ _ hm (h i (j - 1) hi (by lia))
    · obtain rfl : i = j - 1 := by lia
      exact hm
theorem asc_run (O : LtOk n lt) {p : Array Nat} (pm : PermOk n p) : ∀ f m, 1 ≤ m → m + f = n → SrtTo lt p m → ∃ r, KR n lt (kas_asc p f m) r ∧ m ≤ r ∧ r ≤ n ∧ SrtTo lt p r ∧ (r = n ∨ (lt (P p r) (P p (r - 1)) = true ∧ r < n))
  | 0, m, h1, hm, hs => ⟨m, .ret m, Nat.le_refl _, by lia, hs, .inl (by lia)⟩
  | f + 1, m, h1, hm, hs => by
    have i1 : P p m < n := pm.bd (by lia)
    have i2 : P p (m - 1) < n := pm.bd (by lia)
    have ne : P p m ≠ P p (m - 1) := pm.inj (by lia) (by lia) (by lia)
    unfold kas_asc
    cases hc : lt (P p m) (P p (m - 1)) with
    | true => exact ⟨m, .ask i1 i2 ne (by rw [hc]; simp only [if_true]; exact .ret m), Nat.le_refl _, by lia, hs, .inr ⟨hc, by lia⟩⟩
    | false =>
      obtain ⟨r, h, ha, hb, hcc, hd⟩ := asc_run O pm f (m + 1) (by lia) (by lia) (hs.succ O h1 (O.of_false i1 i2 ne hc))
      exact ⟨r, .ask i1 i2 ne (by rw [hc]; simp only [Bool.false_eq_true, if_false]; exact h), by lia, hb, hcc, hd⟩
theorem desc_run (O : LtOk n lt) {p : Array Nat} (pm : PermOk n p) : ∀ f m, 1 ≤ m → m + f = n → DecTo lt p m → ∃ r, KR n lt (kas_desc f p m 0) (p, r, 0) ∧ m ≤ r ∧ r ≤ n ∧ DecTo lt p r
  | 0, m, h1, hm, hs => ⟨m, .ret _, Nat.le_refl _, by lia, hs⟩
  | f + 1, m, h1, hm, hs => by
    have i1 : P p m < n := pm.bd (by lia)
    have i2 : P p (m - 1) < n := pm.bd (by lia)
    have ne : P p m ≠ P p (m - 1) := pm.inj (by lia) (by lia) (by lia)
    unfold kas_desc
    cases hc : lt (P p m) (P p (m - 1)) with
    | true =>
      obtain ⟨r, h, ha, hb, hcc⟩ := desc_run O pm f (m + 1) (by lia) (by lia) (hs.succ O h1 hc)
      exact ⟨r, .ask i1 i2 ne (by rw [hc]; simp only [if_true]; rw [if_neg (by lia)]; exact h), by lia, hb, hcc⟩
    | false =>
      have hc' := O.of_false i1 i2 ne hc
      refine ⟨m, .ask i1 i2 ne ?_, Nat.le_refl _, by lia, hs⟩
      rw [hc]
      simp only [Bool.false_eq_true, if_false]
      refine .ask i2 i1 ne.symm ?_
      rw [hc']
      simp only [if_true]
      exact .ret _
theorem rev_perm {p : Array Nat} (pm : PermOk n p) (i j : Nat) : PermOk n (kas_rev p i j) := (mirror_perm p i j _).toList.trans pm
theorem rev_get {p : Array Nat} {m k : Nat} (hm : m ≤ p.size) (hk : k < m) : P (kas_rev p 0 m) k = P p (m - 1 - k) := by
  have e := getElem?_mirror_all (xs := p) (i := 0) (j := m) hm k
  rw [if_pos ⟨Nat.zero_le _, hk⟩, Nat.zero_add] at e
  have e' : (kas_rev p 0 m)[k]? = p[m - 1 - k]? := e
  simp only [P, Array.getD_eq_getD_getElem?]
  rw [e']
theorem tail3_run (O : LtOk n lt) {p : Array Nat} (pm : PermOk n p) {m : Nat} (h1 : 1 ≤ m) (hm : m ≤ n) (hd : DecTo lt p m) : ∃ r p', KR n lt (kas_tail3 m n p) (r, p') ∧ PermOk n p' ∧ 1 ≤ r ∧ r ≤ n ∧ SrtTo lt p' r := by
  have pm' := rev_perm pm 0 m
  have hs : SrtTo lt (kas_rev p 0 m) m := fun i j hij hj => by
    rw [rev_get (by rw [pm.size]; exact hm) (by lia), rev_get (by rw [pm.size]; exact hm) hj]
    exact hd _ _ (by lia) (by lia)
  obtain ⟨r, h, ha, hb, hc, _⟩ := asc_run O pm' (n - m) m h1 (by lia) hs
  exact ⟨r, _, KR.bind h (.ret _), pm', by lia, hb, hc⟩
theorem count_run (O : LtOk n lt) {p : Array Nat} (pm : PermOk n p) (h1 : 1 ≤ n) : ∃ r p', KR n lt (kas_count n p) (r, p') ∧ PermOk n p' ∧ 1 ≤ r ∧ r ≤ n ∧ SrtTo lt p' r := by
  obtain ⟨m, h, ha, hb, hc, hd⟩ := asc_run O pm (n - 1) 1 (Nat.le_refl _) (by lia) (fun i j hij hj => by lia)
  rcases hd with rfl | ⟨hl, hlt⟩
  · exact ⟨m, p, KR.bind h (by simp only [beq_self_eq_true, if_true]; exact .ret _), pm, ha, hb, hc⟩
  · by_cases hm : m > 1
    · refine ⟨m, p, KR.bind h ?_, pm, ha, hb, hc⟩
      rw [if_neg (by simp; lia), if_pos hm]
      refine .ask (pm.bd (by lia)) (pm.bd (by lia)) (pm.inj (by lia) (by lia) (by lia)) ?_
      rw [hc 0 (m - 1) (by lia) (by lia)]
      simp only [if_true]
      exact .ret _
    · obtain rfl : m = 1 := by lia
      obtain ⟨r, hr, h1r, hrn, hdr⟩ := desc_run O pm (n - 2) 2 (by lia) (by lia) (fun i j hij hj => by
        obtain rfl : i = 0 := by lia
        obtain rfl : j = 1 := by lia
        exact hl)
      obtain ⟨r', p', hr', pm', h1', hn', hs'⟩ := tail3_run O pm (by lia) hrn hdr
      refine ⟨r', p', KR.bind h ?_, pm', h1', hn', hs'⟩
      rw [if_neg (by simp; lia), if_neg hm]
      unfold kas_descPart
      exact KR.bind hr (by simp only [Nat.lt_irrefl, if_false, gt_iff_lt]; exact hr')
theorem place_run (O : LtOk n lt) {p : Array Nat} (pm : PermOk n p) {k : Nat} (hk : k < n) (hs : SrtTo lt p k) : ∀ f l r, l ≤ r → r ≤ k → r - l ≤ f → (∀ i, i < l → lt (P p i) (P p k) = true) → (∀ i, r ≤ i → i < k → lt (P p k) (P p i) = true) →
    ∃ q, KR n lt (kas_place p k f l r) q ∧ q ≤ k ∧ (∀ i, i < q → lt (P p i) (P p k) = true) ∧ (∀ i, q ≤ i → i < k → lt (P p k) (P p i) = true)
  | 0, l, r, hlr, hrk, hf, h1, h2 => ⟨l, .ret l, by lia, h1, fun i hi => h2 i (by lia)⟩
  | f + 1, l, r, hlr, hrk, hf, h1, h2 => by
    unfold kas_place
    by_cases h : l ≥ r
    · rw [if_pos h]; exact ⟨l, .ret l, by lia, h1, fun i hi => h2 i (by lia)⟩
    · rw [if_neg h]
      have hmid : (l + r) / 2 < k := by lia
      have i1 : P p k < n := pm.bd hk
      have i2 : P p ((l + r) / 2) < n := pm.bd (by lia)
      have ne : P p k ≠ P p ((l + r) / 2) := pm.inj hk (by lia) (by lia)
      cases hc : lt (P p k) (P p ((l + r) / 2)) with
      | true =>
        obtain ⟨q, hq, a, b, c⟩ := place_run O pm hk hs f l ((l + r) / 2) (by lia) (by lia) (by lia) h1 (fun i hi hik => by
          rcases Nat.lt_or_ge ((l + r) / 2) i with hlt | hge
          · exact O.trans _ _ _ hc (hs _ _ hlt hik)
          · obtain rfl : i = (l + r) / 2 := by lia
            exact hc)
        exact ⟨q, .ask i1 i2 ne (by rw [hc]; simp only [if_true]; exact hq), a, b, c⟩
      | false =>
        have hc' := O.of_false i1 i2 ne hc
        obtain ⟨q, hq, a, b, c⟩ := place_run O pm hk hs f ((l + r) / 2 + 1) r (by lia) hrk (by lia) (fun i hi => by
          rcases Nat.lt_or_ge i ((l + r) / 2) with hlt | hge
          · exact O.trans _ _ _ (hs _ _ hlt hmid) hc'
          · obtain rfl : i = (l + r) / 2 := by lia
            exact hc') h2
        exact ⟨q, .ask i1 i2 ne (by rw [hc]; simp only [Bool.false_eq_true, if_false]; exact hq), a, b, c⟩
theorem bubble_get {p : Array Nat} {k q i : Nat} (hk : k < p.size) (hq : q ≤ k) : P (bubble p k (k - q)) i = if i = q then P p k else if q < i ∧ i ≤ k then P p (i - 1) else P p i := by
  have e := getElem?_bubble hk (k - q) (by lia) i
  rw [show k - (k - q) = q by lia] at e
  simp only [P, Array.getD_eq_getD_getElem?, e]
  split
  · rfl
  · split <;> rfl
theorem bin_run (O : LtOk n lt) : ∀ f (p : Array Nat) k, PermOk n p → 1 ≤ k → k + f = n → SrtTo lt p k → ∃ p', KR n lt (kas_bin f p k) p' ∧ PermOk n p' ∧ SrtTo lt p' n
  | 0, p, k, pm, h1, hk, hs => ⟨p, .ret p, pm, by rwa [show k = n by lia] at hs⟩
  | f + 1, p, k, pm, h1, hk, hs => by
    obtain ⟨q, hq, a, b, c⟩ := place_run O pm (k := k) (by lia) hs k 0 k (Nat.zero_le _) (Nat.le_refl _) (by lia) (fun i hi => by lia) (fun i hi hik => by lia)
    have hkp : k < p.size := by rw [pm.size]; lia
    have hs' : SrtTo lt (bubble p k (k - q)) (k + 1) := fun i j hij hj => by
      rw [bubble_get hkp a, bubble_get hkp a]
      by_cases e1 : i = q
      · rw [if_pos e1, if_neg (by lia), if_pos (by lia)]
        exact c _ (by lia) (by lia)
      · rw [if_neg e1]
        by_cases e2 : j = q
        · rw [if_pos e2, if_neg (by lia)]
          exact b _ (by lia)
        · rw [if_neg e2]
          split <;> split
          · exact hs _ _ (by lia) (by lia)
          · lia
          · exact hs _ _ (by lia) (by lia)
          · exact hs _ _ hij (by lia)
    obtain ⟨p', hp, pm', hsp⟩ := bin_run O f (bubble p k (k - q)) (k + 1) ((bubble_perm p k _).toList.trans pm) (by lia) (by lia) hs'
    exact ⟨p', KR.bind hq hp, pm', hsp⟩
theorem sort_run (O : LtOk n lt) (h1 : 1 ≤ n) : ∃ p, KR n lt (kas_sort n) p ∧ PermOk n p ∧ SrtTo lt p n := by
  obtain ⟨r, p', hr, pm', h1', hn', hs'⟩ := count_run O (p := List.toArray (List.range n)) (by unfold PermOk; simp) h1
  by_cases h : r < n
  · obtain ⟨p2, h2, pm2, hs2⟩ := bin_run O (n - max r 1) p' (max r 1) pm' (by lia) (by lia) (by rwa [show max r 1 = r by lia])
    exact ⟨p2, KR.bind hr (by rw [if_pos h]; exact h2), pm2, hs2⟩
  · exact ⟨p', KR.bind hr (by rw [if_neg h]; exact .ret _), pm', by rwa [show r = n by lia] at hs'⟩
end
end Mine

end
noncomputable section
open PySem PySem.W PyProof.Rows
set_option maxRecDepth 100000
set_option autoImplicit false
namespace Mine

section
variable {prog : Program} {w : World} {A : Around} {E : Value → Shared → Prop} {s : Shared}

/-- tuples whose first item is a word -/
noncomputable def TupW (h : Heap) (vs : List Value) (wd : Nat → Str) : Prop := ∀ (i : Nat) (v : Value), vs[i]? = some v → ∃ a o xs n t, v = .ref a ∧ h.get? a = some o ∧ o.cls = .type "tuple" ∧ o.data = .seq xs n ∧ xs[0]? = some (.str (wd i) t)
theorem TupW.keep {h h' : Heap} {vs : List Value} {wd : Nat → Str} (x : TupW h vs wd) (k : ∀ a o, h.get? a = some o → h'.get? a = some o) : TupW h' vs wd := fun i v hv =>
  let ⟨a, o, xs, n, t, e, ho, r⟩ := x i v hv; ⟨a, o, xs, n, t, e, k a o ho, r⟩
theorem TupW.tups {h : Heap} : ∀ {vs : List Value} {wd : Nat → Str}, TupW h vs wd → ∃ fs, KatTups h vs fs ∧ fs.length = vs.length ∧ ∀ v ∈ fs, ∃ x t, v = .str x t
  | [], _, _ => ⟨[], trivial, rfl, fun _ h => nomatch h⟩
  | v :: vs, wd, x => by
    obtain ⟨a, o, xs, n, t, rfl, ho, hc, hd, hf⟩ := x 0 v rfl
    obtain ⟨fs, h1, h2, h3⟩ := TupW.tups (vs := vs) (wd := fun i => wd (i + 1)) fun i v hv => x (i + 1) v (by simpa using hv)
    exact ⟨.str (wd 0) t :: fs, .cons ho hc hd hf h1, by simp [h2], fun v hv => (List.mem_cons.mp hv).elim (fun e => ⟨_, _, e⟩) (h3 v)⟩
noncomputable abbrev wlt (wd : Nat → Str) (i j : Nat) : Bool := decide ((wd i).cps.toList < (wd j).cps.toList)
theorem wlt_ok {wd : Nat → Str} {n : Nat} (hd : ∀ i j, i < n → j < n → i ≠ j → wd i ≠ wd j) : LtOk n (wlt wd) where
  trans i j k h1 h2 := by simp only [decide_eq_true_eq] at *; exact List.lt_trans h1 h2
  asym i j h := by simp only [decide_eq_true_eq, decide_eq_false_iff_not] at *; exact List.lt_asymm h
  tot i j hi hj hne := by
    simp only [decide_eq_true_eq]
    by_cases h : (wd i).cps.toList < (wd j).cps.toList
    · exact .inl h
    · refine .inr (Classical.byContradiction fun h' => hd i j hi hj hne ?_)
      have := List.le_antisymm (List.not_lt.mp h') (List.not_lt.mp h)
      have e : (wd i).cps = (wd j).cps := Array.toList_inj.mp this
      cases hi' : wd i; cases hj' : wd j
      rw [hi', hj'] at e
      simp only at e
      rw [e]

theorem tup_cmp {vs : List Value} {wd : Nat → Str} {s : Shared} (x : TupW s.heap vs wd) (hd : ∀ i j, i < vs.length → j < vs.length → i ≠ j → wd i ≠ wd j) {i j : Nat} (C : Bool → Shared → Prop) (hi : i < vs.length) (hj : j < vs.length) (hne : i ≠ j) (h : C (wlt wd i j) s) :
    kas_ask prog w A (tuples' true) vs i j C s := by
  show wpAny (model prog w) A (keyLt' (tuples' true) (vs.getD i Value.none) (vs.getD j Value.none)) C (fun _ _ => False) s
  obtain ⟨a, o, xs, n, t, e1, ho, hc, hdat, hf⟩ := x i vs[i] (by simp [hi])
  obtain ⟨b, o', ys, n', u, e2, ho', hc', hdat', hf'⟩ := x j vs[j] (by simp [hj])
  have g1 : vs.getD i Value.none = .ref a := by simp [List.getD, hi, e1]
  have g2 : vs.getD j Value.none = .ref b := by simp [List.getD, hj, e2]
  rw [g1, g2]
  refine kat_lt ho hdat ho' hdat' ?_
  obtain ⟨x0, xr, hx⟩ : ∃ x0 xr, xs.toList = x0 :: xr := by
    cases hxs : xs.toList with
    | nil => have : xs = #[] := by simpa using hxs
             rw [this] at hf; simp at hf
    | cons a b => exact ⟨a, b, rfl⟩
  obtain ⟨y0, yr, hy⟩ : ∃ y0 yr, ys.toList = y0 :: yr := by
    cases hxs : ys.toList with
    | nil => have : ys = #[] := by simpa using hxs
             rw [this] at hf'; simp at hf'
    | cons a b => exact ⟨a, b, rfl⟩
  have ex : x0 = .str (wd i) t := by
    have : xs.toList[0]? = some (.str (wd i) t) := by simpa using hf
    rw [hx] at this; simpa using this
  have ey : y0 = .str (wd j) u := by
    have : ys.toList[0]? = some (.str (wd j) u) := by simpa using hf'
    rw [hy] at this; simpa using this
  rw [hx, hy, ex, ey, List.zip_cons_cons]
  refine kat_cons (wpAny_eqBool_str ?_)
  rw [decide_eq_false (hd i j hi hj hne)]
  exact kat_no (oneLt_str h)

noncomputable def outOf (vs : List Value) (p : Array Nat) : Array Value := List.toArray (p.toList.map fun i => vs.getD i Value.none)
theorem sort_tree {a : Addr} {vs : List Value} {n : Nat} {P : PySem.Fin → Shared → Prop} {wd : Nat → Str} (ho : s.heap.get? a = some (seqObj "list" vs.toArray n)) (x : TupW s.heap vs wd) (hna : ∀ (i : Nat) (v : Value), vs[i]? = some v → v ≠ Value.ref a)
    (hd : ∀ i j, i < vs.length → j < vs.length → i ≠ j → wd i ≠ wd j) (h64 : vs.length < 64)
    (h : ∀ p, PermOk vs.length p → SrtTo (wlt wd) p vs.length → P (.done (.ret .none)) { s with heap := sortedHeap s.heap a vs (outOf vs p) }) :
    wpAny (model prog w) A (Builtin.«list.sort» ⟨[.ref a], []⟩) P E s := by
  rw [list_sort_plain]
  have ha : a < s.heap.objs.size := Heap.lt_size ho
  refine wpAny_bind (listItems_at ho rfl ?_)
  refine wpAny_bind (listUpdate_at ho rfl ?_ (by rw [List.size_toArray, sizeLine_eq]; lia) (Nat.zero_le _))
  obtain ⟨e1, ho1⟩ : ∃ e1, (s.heap.update a (Obj.mapSeq fun _ => #[])).get? a = some (seqObj "list" #[] e1) := ⟨_, get?_update_seq ho (fun _ => #[])⟩
  refine wpAny_bind (seqEpoch_at ho1 rfl ?_)
  refine wpAny_bind (wpAny_newTuple ?_ (by show vs.length ≤ _; rw [sizeLine_eq]; lia))
  refine wpAny_bind (wpAny_newList ?_ (Nat.zero_le _))
  refine wpAny_holding ?_
  have ho6 : (((s.heap.update a (Obj.mapSeq fun _ => #[])).push (seqObj "tuple" vs.toArray 0)).push (seqObj "list" #[] 0)).get? a = some (seqObj "list" #[] e1) := by
    rw [Heap.get?_push_ne _ _ _ (by rw [size_push', Heap.size_update]; exact Nat.ne_of_lt (Nat.lt_succ_of_lt ha)), Heap.get?_push_ne _ _ _ (by rw [Heap.size_update]; exact Nat.ne_of_lt ha)]
    exact ho1
  have keep : ∀ b o, b ≠ a → s.heap.get? b = some o → (((s.heap.update a (Obj.mapSeq fun _ => #[])).push (seqObj "tuple" vs.toArray 0)).push (seqObj "list" #[] 0)).get? b = some o := fun b o hb e =>
    Heap.get?_push_of_some _ (Heap.get?_push_of_some _ (by rw [Heap.get?_update_ne _ _ _ _ hb]; exact e))
  show wpAny (model prog w) A _ P E { s with heap := ((s.heap.update a (Obj.mapSeq fun _ => #[])).push (seqObj "tuple" vs.toArray 0)).push (seqObj "list" #[] 0) }
  dsimp only
  have hsz : vs.toArray.size = vs.length := by simp
  have hxx : TupW (((s.heap.update a (Obj.mapSeq fun _ => #[])).push (seqObj "tuple" vs.toArray 0)).push (seqObj "list" #[] 0)) vs wd := fun i v hv => by
    obtain ⟨b, o, xs, n, t, e, hb, r⟩ := x i v hv
    exact ⟨b, o, xs, n, t, e, keep b o (fun z => hna i v hv (by rw [e, z])) hb, r⟩
  by_cases h2 : vs.toArray.size < 2
  · rw [if_pos h2, if_pos h2]
    refine wpAny_bind (wpAny_pure ?_)
    rw [StateT.run_pure]
    refine wpAny_bind (wpAny_pure ?_)
    dsimp only
    refine wpAny_bind (seqEpoch_at ho6 rfl ?_)
    refine wpAny_bind (listUpdate_at ho6 rfl ?_ (Nat.zero_le _) (by rw [Array.size_map]; show (pairsOf vs).size ≤ _; rw [pairsOf_size, sizeLine_eq]; lia))
    simp only [bne_self_eq_false, Bool.false_eq_true, if_false]
    have hout : (arrOf (SortSt.mk' general' (vs.toArray.zip vs.toArray) #[] 7 none)).map (·.2) = outOf vs (List.toArray (List.range vs.length)) := by
      show (vs.toArray.zip vs.toArray).map (·.2) = _
      apply Array.toList_inj.mp
      unfold outOf
      simp only [Array.toList_map, Array.toList_zip]
      apply List.ext_getElem?
      intro i
      by_cases hi : i < vs.length
      · simp [hi]
      · simp [hi]
    have := h (List.toArray (List.range vs.length)) (by unfold PermOk; simp) (fun i j hij hj => by lia)
    rw [← hout] at this
    exact wpAny_pure this
  · rw [if_neg h2, if_neg h2]
    have h2' : 2 ≤ vs.length := by lia
    obtain ⟨fs, hfs, hlen, hstr⟩ := hxx.tups
    refine wpAny_bind (kat_kind (T := .type "str") hfs (by lia) (fun v hv => ?_) (by decide) ?_)
    · obtain ⟨x, t, rfl⟩ := hstr v hv
      exact .now
    rw [show (Value.type "str" != Value.type "tuple") = true from by decide]
    obtain ⟨p, hp, pm, hs⟩ := sort_run (wlt_ok hd) (n := vs.length) (by lia)
    refine wpAny_bind (wpAny_mono (kat_run (ks := vs) (Q := fun st' s' => s' = { s with heap := ((s.heap.update a (Obj.mapSeq fun _ => #[])).push (seqObj "tuple" vs.toArray 0)).push (seqObj "list" #[] 0) } ∧ (arrOf st').map (·.2) = outOf vs p ∧ failedOf st' = none)
      (G := fun p' s' => p' = p ∧ s' = { s with heap := ((s.heap.update a (Obj.mapSeq fun _ => #[])).push (seqObj "tuple" vs.toArray 0)).push (seqObj "list" #[] 0) }) rfl h2' h64 (fun p' st' s' hz har hf hg => ⟨hg.2, by rw [kat_snds rfl har, hg.1]; rfl, hf⟩) ?_) ?_ fun _ _ e => e)
    · exact hp.wp (fun i j C hi hj hne hC => tup_cmp (s := { s with heap := ((s.heap.update a (Obj.mapSeq fun _ => #[])).push (seqObj "tuple" vs.toArray 0)).push (seqObj "list" #[] 0) }) hxx hd C hi hj hne hC) ⟨rfl, rfl⟩
    rintro ⟨⟨⟩, st'⟩ s' ⟨rfl, hout, hf⟩
    dsimp only at hout hf ⊢
    refine wpAny_bind (seqEpoch_at ho6 rfl ?_)
    rw [hout]
    refine wpAny_bind (listUpdate_at ho6 rfl ?_ (Nat.zero_le _) (by unfold outOf; rw [List.size_toArray, List.length_map, pm.length_eq, List.length_range, sizeLine_eq]; lia))
    rw [hf]
    simp only [bne_self_eq_false, Bool.false_eq_true, if_false]
    exact wpAny_pure (h p pm hs)

theorem sorted_call {l : Addr} {vs : List Value} {Q : Value → Shared → Prop} {wd : Nat → Str} (hl : s.heap.IsList l vs.toArray) (x : TupW s.heap vs wd) (hd : ∀ i j, i < vs.length → j < vs.length → i ≠ j → wd i ≠ wd j) (h64 : vs.length < 64)
    (h : ∀ p, PermOk vs.length p → SrtTo (wlt wd) p vs.length → Q (.ref (s.heap.objs.size + 1)) { s with heap := sortedAll s.heap vs (outOf vs p) }) :
    wpAny (model prog w) A (call (.builtin "sorted") [.ref l]) Q E s := by
  refine Calls.call_function_entry kind_sorted plain_sorted entry_sorted (args_sorted1 _) ?_
  unfold Builtin.«sorted»
  refine wpAny_bind (m := checkCount "sorted" 1 1 _) (wpAny_pure ?_)
  refine wpAny_bind (collect_list hl ?_ (by rw [sizeLine_eq]; lia))
  refine wpAny_bind (wpAny_newList ?_ (by rw [sizeLine_eq]; lia))
  have hsz : ((s.heap.push (seqObj "list" #[] 0)).update s.heap.objs.size (Obj.mapSeq (· ++ vs.toArray))).objs.size = s.heap.objs.size + 1 := by
    rw [Heap.size_update, size_push']
  have hoL : (((s.heap.push (seqObj "list" #[] 0)).update s.heap.objs.size (Obj.mapSeq (· ++ vs.toArray))).push (seqObj "list" vs.toArray 0)).get? (s.heap.objs.size + 1) = some (seqObj "list" vs.toArray 0) := by
    rw [← hsz]; exact Heap.get?_push_size _ rfl
  have keep : ∀ b o, s.heap.get? b = some o → (((s.heap.push (seqObj "list" #[] 0)).update s.heap.objs.size (Obj.mapSeq (· ++ vs.toArray))).push (seqObj "list" vs.toArray 0)).get? b = some o := fun b o q => by
    have hlt : b < s.heap.objs.size := Heap.lt_size q
    rw [Heap.get?_push_ne _ _ _ (by rw [hsz]; exact Nat.ne_of_lt (Nat.lt_succ_of_lt hlt)), Heap.get?_update_ne _ _ _ _ (Nat.ne_of_lt hlt), Heap.get?_push_ne _ _ _ (Nat.ne_of_lt hlt)]
    exact q
  show wpAny _ _ _ _ _ { s with heap := ((s.heap.push (seqObj "list" #[] 0)).update s.heap.objs.size (Obj.mapSeq (· ++ vs.toArray))).push (seqObj "list" vs.toArray 0) }
  rw [hsz]
  refine wpAny_bind (wpAny_holding (wpAny_call_entry slot_list_sort ⟨_, hoL, rfl⟩ entry_list_sort (sort_tree hoL (x.keep keep) (fun i v hv e => ?_) hd h64 fun p pm hs => ⟨_, rfl, ?_⟩) (args_list_sort _)))
  · obtain ⟨b, o, _, _, _, rfl, ho, _⟩ := x i v hv
    have hlt := Heap.lt_size ho
    have e' : b = s.heap.objs.size + 1 := by injection e
    rw [e'] at hlt
    exact absurd hlt (Nat.not_lt.mpr (Nat.le_succ _))
  · exact wpAny_pure ⟨_, rfl, h p pm hs⟩
end

/-! pairs of a word and a weight -/
noncomputable abbrev Pr := Str × Int
noncomputable def encP (ps : List Pr) : List PyData := ps.map fun p => .tuple [.str p.1, .int p.2]
noncomputable def plt (a b : Pr) : Prop := a.1.cps.toList < b.1.cps.toList
theorem sorted_unique : ∀ {l₁ l₂ : List Pr}, l₁.Pairwise plt → l₂.Pairwise plt → l₁.Perm l₂ → l₁ = l₂
  | [], [], _, _, _ => rfl
  | [], _ :: _, _, _, h => by have := h.length_eq; simp at this
  | _ :: _, [], _, _, h => by have := h.length_eq; simp at this
  | a :: l₁, b :: l₂, h1, h2, h => by
    rw [List.pairwise_cons] at h1 h2
    have hab : a = b := by
      have m1 : a ∈ b :: l₂ := h.mem_iff.mp (.head _)
      have m2 : b ∈ a :: l₁ := h.mem_iff.mpr (.head _)
      rcases List.mem_cons.mp m1 with e | m1
      · exact e
      · rcases List.mem_cons.mp m2 with e | m2
        · exact e.symm
        · exact absurd (h1.1 b m2) (List.lt_asymm (h2.1 a m1))
    subst hab
    rw [sorted_unique h1.2 h2.2 (List.Perm.cons_inv h)]
noncomputable def insP (a : Pr) : List Pr → List Pr
  | [] => [a]
  | b :: l => if a.1.cps.toList < b.1.cps.toList then a :: b :: l else b :: insP a l
noncomputable def sortP : List Pr → List Pr
  | [] => []
  | a :: l => insP a (sortP l)
theorem insP_perm (a : Pr) : ∀ l, (insP a l).Perm (a :: l)
  | [] => .refl _
  | b :: l => by
    unfold insP
    split
    · exact .refl _
    · exact ((insP_perm a l).cons b).trans (.swap a b l)
theorem sortP_perm : ∀ l, (sortP l).Perm l
  | [] => .refl _
  | a :: l => (insP_perm a (sortP l)).trans ((sortP_perm l).cons a)
theorem plt_tot {a b : Pr} (h : a.1 ≠ b.1) (h' : ¬ plt a b) : plt b a := Classical.byContradiction fun h2 => h (by
  have := List.le_antisymm (List.not_lt.mp h2) (List.not_lt.mp h')
  have e : a.1.cps = b.1.cps := Array.toList_inj.mp this
  cases ha : a.1; cases hb : b.1
  rw [ha, hb] at e
  simp only at e
  rw [e])
theorem insP_sorted {a : Pr} : ∀ {l : List Pr}, l.Pairwise plt → (∀ b ∈ l, a.1 ≠ b.1) → (insP a l).Pairwise plt
  | [], _, _ => by simp [insP]
  | b :: l, h, hn => by
    unfold insP
    rw [List.pairwise_cons] at h
    split
    · rename_i hlt
      rw [List.pairwise_cons]
      exact ⟨fun c hc => (List.mem_cons.mp hc).elim (fun e => e ▸ hlt) fun hc => List.lt_trans hlt (h.1 c hc), List.pairwise_cons.mpr h⟩
    · rename_i hlt
      rw [List.pairwise_cons]
      refine ⟨fun c hc => ?_, insP_sorted h.2 fun c hc => hn c (.tail _ hc)⟩
      rcases List.mem_cons.mp ((insP_perm a l).mem_iff.mp hc) with e | hc
      · exact e ▸ plt_tot (hn b (.head _)) hlt
      · exact h.1 c hc
theorem sortP_sorted : ∀ {l : List Pr}, (l.map (·.1)).Nodup → (sortP l).Pairwise plt
  | [], _ => .nil
  | a :: l, h => by
    rw [List.map_cons, List.nodup_cons] at h
    exact insP_sorted (sortP_sorted h.2) fun b hb e => h.1 (List.mem_map.mpr ⟨b, (sortP_perm l).mem_iff.mp hb, e.symm⟩)

section
variable {prog : Program} {w : World} {H : Heap}
theorem rc_sorted {n : Nat} {ps : List Pr} (hd : (ps.map (·.1)).Nodup) (h64 : ps.length < 64) : RC prog w H (.builtin "sorted") n [.list (encP ps)] (.list (encP (sortP ps))) := by
  intro A X s vs hA htop hbare hX hv
  obtain ⟨_, _, rfl, q, r⟩ := hv.inv
  (first | obtain rfl := r.inv | obtain ⟨_, rfl⟩ := r.inv | cases r)
  obtain ⟨l, o, vs, m, rfl, na, ho, hc, hdat, hr⟩ := q.inv
  have hlen : vs.toList.length = ps.length := by have := hr.length; simpa [encP] using this
  have hL : s.heap.IsList l vs.toList.toArray := ⟨o, ho, hc, m, by simpa using hdat⟩
  have getw : ∀ (i : Nat) (v : Value), vs.toList[i]? = some v → ∃ p, ps[i]? = some p ∧ Rd s.heap X v (.tuple [.str p.1, .int p.2]) := fun i v hv => by
    obtain ⟨d, hd', hrd⟩ := hr.get' hv
    unfold encP at hd'
    rw [List.getElem?_map] at hd'
    obtain ⟨p, hp, rfl⟩ := Option.map_eq_some_iff.mp hd'
    exact ⟨p, hp, hrd⟩
  refine sorted_call (wd := fun i => (ps.getD i ("", 0)).1) hL (fun i v hv => ?_) (fun i j hi hj hne e => ?_) (by lia) fun p pm hs => ?_
  · obtain ⟨p, hp, hrd⟩ := getw i v hv
    obtain ⟨a, o', xs, n', rfl, na', ho', hc', hd'', hr'⟩ := hrd.inv
    obtain ⟨x0, xr, hx, q, _⟩ := hr'.inv
    obtain ⟨t, rfl⟩ := q.inv
    refine ⟨a, o', xs, n', t, rfl, ho', hc', hd'', ?_⟩
    have : xs.toList[0]? = some (.str p.1 t) := by rw [hx]; rfl
    show xs[0]? = some (Value.str (ps.getD i ("", 0)).1 t)
    rw [show (ps.getD i ("", 0)) = p by simp [List.getD, hp]]
    simpa using this
  · have hi' : i < ps.length := by lia
    have hj' : j < ps.length := by lia
    have e' : (ps.map (·.1))[i]? = (ps.map (·.1))[j]? := by
      simp only [List.getElem?_map]
      simp only [List.getD, List.getElem?_eq_getElem hi', List.getElem?_eq_getElem hj', Option.getD_some] at e
      rw [List.getElem?_eq_getElem hi', List.getElem?_eq_getElem hj']
      simp only [Option.map_some]
      rw [e]
    exact hne ((List.getElem?_inj (by simpa using hi') hd).mp e')
  · have kp : Kp s { s with heap := sortedAll s.heap vs.toList (outOf vs.toList p) } := ⟨fun a o e => sortedAll_old e, fun _ _ e => e, id, rfl⟩
    obtain ⟨e, hout⟩ := sortedAll_at s.heap vs.toList (outOf vs.toList p)
    have hnX : ¬ X (s.heap.objs.size + 1) := fun z => by obtain ⟨o, e⟩ := hX _ z; rw [no_of_size (Nat.le_succ _)] at e; cases e
    refine ⟨kp, .list hnX hout rfl rfl ?_⟩
    -- the items, as they are laid
    have key : RdL s.heap X (outOf vs.toList p).toList (encP (p.toList.map fun i => ps.getD i ("", 0))) := by
      unfold outOf encP
      simp only [List.map_map]
      have hall : ∀ i ∈ p.toList, i < ps.length := fun i hi => hlen ▸ List.mem_range.mp (pm.mem_iff.mp hi)
      generalize p.toList = is at hall
      induction is with
      | nil => exact .nil
      | cons i is ih =>
        have hi := hall i (.head _)
        refine .cons ?_ (ih fun j hj => hall j (.tail _ hj))
        obtain ⟨p', hp', hrd⟩ := getw i vs.toList[i] (by simp [hlen, hi])
        have e1 : vs.toList.getD i Value.none = vs.toList[i] := by simp [List.getD, hlen, hi]
        have e2 : ps.getD i ("", 0) = p' := by simp [List.getD, hp']
        show Rd s.heap X (vs.toList.getD i Value.none) (.tuple [.str (ps.getD i ("", 0)).1, .int (ps.getD i ("", 0)).2])
        rw [e1, e2]; exact hrd
    have heq : (p.toList.map fun i => ps.getD i ("", 0)) = sortP ps := by
      refine sorted_unique ?_ (sortP_sorted hd) (List.Perm.trans ?_ (sortP_perm ps).symm)
      · rw [List.pairwise_iff_getElem]
        intro i j hi hj hij
        simp only [List.getElem_map, List.length_map] at hi hj ⊢
        have hz : p.size = vs.toList.length := pm.size
        have := hs i j hij (by simpa [hz] using hj)
        have e1 : P p i = p.toList[i] := by have := P_eq (p := p) (i := i) (by simpa using hi); rw [List.getElem?_eq_getElem hi] at this; exact (Option.some.inj this).symm
        have e2 : P p j = p.toList[j] := by have := P_eq (p := p) (i := j) (by simpa using hj); rw [List.getElem?_eq_getElem hj] at this; exact (Option.some.inj this).symm
        rw [e1, e2] at this
        show (ps.getD p.toList[i] ("", 0)).1.cps.toList < (ps.getD p.toList[j] ("", 0)).1.cps.toList
        exact of_decide_eq_true this
      · have := (pm : p.toList.Perm _).map fun i => ps.getD i ("", 0)
        refine this.trans ?_
        have : (List.range vs.toList.length).map (fun i => ps.getD i ("", 0)) = ps := by
          apply List.ext_getElem?
          intro i
          rw [hlen]
          by_cases hi : i < ps.length
          · simp [hi]
          · simp [hi]
        rw [this]
    rw [← heq]
    exact key.stay kp.stay
end
end Mine

end
noncomputable section
open PySem PySem.W PyProof.Rows
set_option maxRecDepth 100000
set_option autoImplicit false
namespace Mine

noncomputable def encS (ys : List Str) : List PyData := ys.map .str
noncomputable def encI (ns : List Int) : List PyData := ns.map .int
theorem rd_strs {h : Heap} {X : Addr → Prop} : ∀ {vs : List Value} {ys : List Str}, RdL h X vs (encS ys) → ∃ l : List (Str × Tok), vs = strValues l ∧ l.map (·.1) = ys
  | _, [], r => by cases r; exact ⟨[], rfl, rfl⟩
  | _, y :: ys, r => by
    have zz := r.inv; clear r; obtain ⟨_, _, rfl, q, r⟩ := zz
    obtain ⟨t, rfl⟩ := q.inv
    obtain ⟨l, rfl, h2⟩ := rd_strs (ys := ys) r
    exact ⟨(y, t) :: l, rfl, by simp [h2]⟩
theorem rd_ints {h : Heap} {X : Addr → Prop} : ∀ {vs : List Value} {ns : List Int}, RdL h X vs (encI ns) → ∃ l : List (Int × Tok), vs = l.map (fun p => Value.int p.1 p.2) ∧ l.map (·.1) = ns
  | _, [], r => by cases r; exact ⟨[], rfl, rfl⟩
  | _, n :: ns, r => by
    have zz := r.inv; clear r; obtain ⟨_, _, rfl, q, r⟩ := zz
    obtain ⟨t, rfl⟩ := q.inv
    obtain ⟨l, rfl, h2⟩ := rd_ints (ns := ns) r
    exact ⟨(n, t) :: l, rfl, by simp [h2]⟩
theorem rd_strs' {h : Heap} {X : Addr → Prop} : ∀ (l : List (Str × Tok)), RdL h X (strValues l) (encS (l.map (·.1)))
  | [] => .nil
  | p :: l => .cons (.str _ _) (rd_strs' l)

section
variable {prog : Program} {w : World} {H : Heap} {n : Nat}
theorem rc_len_l {ds : List PyData} (hz : (ds.length : Int) < 2 ^ 63) : RC prog w H (.builtin "len") n [.list ds] (.int ds.length) := by
  intro A X s vs hA htop hbare hX hv
  obtain ⟨_, _, rfl, q, r⟩ := hv.inv
  (first | obtain rfl := r.inv | obtain ⟨_, rfl⟩ := r.inv | cases r)
  obtain ⟨l, o, vs, m, rfl, na, ho, hc, hdat, hr⟩ := q.inv
  have e : vs.size = ds.length := by have := hr.length; simpa using this
  exact PySem.Calls.call_len_list ⟨o, ho, hc, m, hdat⟩ (by rw [e]; exact hz) ⟨.toks, by rw [e]; exact .int _ _⟩
theorem rc_len_s {x : Str} (hz : (x.length : Int) < 2 ^ 63) : RC prog w H (.builtin "len") n [.str x] (.int x.length) := by
  intro A X s vs hA htop hbare hX hv
  obtain ⟨_, _, rfl, q, r⟩ := hv.inv
  (first | obtain rfl := r.inv | obtain ⟨_, rfl⟩ := r.inv | cases r)
  (first | obtain rfl := q.inv | obtain ⟨_, rfl⟩ := q.inv | cases q)
  exact len_str (by lia) ⟨.toks, .int _ _⟩
theorem rc_hex {i : Int} (hz : (baseText "0x" 16 i).length ≤ sizeLine) : RC prog w H (.builtin "hex") n [.int i] (.str (baseText "0x" 16 i)) := by
  intro A X s vs hA htop hbare hX hv
  obtain ⟨_, _, rfl, q, r⟩ := hv.inv
  (first | obtain rfl := r.inv | obtain ⟨_, rfl⟩ := r.inv | cases r)
  (first | obtain rfl := q.inv | obtain ⟨_, rfl⟩ := q.inv | cases q)
  exact P.hex_of_int ⟨.toks, .str _ _⟩ hz
theorem rc_sum {ns : List Int} : RC prog w H (.builtin "sum") n [.list (encI ns)] (.int ns.sum) := by
  intro A X s vs hA htop hbare hX hv
  obtain ⟨_, _, rfl, q, r⟩ := hv.inv
  (first | obtain rfl := r.inv | obtain ⟨_, rfl⟩ := r.inv | cases r)
  obtain ⟨l, o, vs, m, rfl, na, ho, hc, hdat, hr⟩ := q.inv
  obtain ⟨xs, hxs, hns⟩ := rd_ints hr
  have hL : s.heap.IsList l (intItems xs.toArray) := ⟨o, ho, hc, m, by rw [hdat]; congr 1; apply Array.toList_inj.mp; rw [hxs]; simp [intItems]⟩
  refine sum_intListG hA.hh hL fun h' tk t' k => ⟨.of k, ?_⟩
  rw [preSum_eq, List.take_of_length_le (by simp)]
  simp only [hns]
  exact .int _ _
theorem cmp_strs {A : Around} {P : Nat → Value → Prop} (val : Nat → Str) (hval : ∀ i v, P i v → ∃ t, v = .str (val i) t) : CmpOf prog w A .Lt P (fun i j => decide ((val i).cps.toList < (val j).cps.toList)) := fun i j vi vj s Q E hi hj h => by
  obtain ⟨t, rfl⟩ := hval i vi hi
  obtain ⟨u, rfl⟩ := hval j vj hj
  exact richCompare_gives (op := .Lt) (typeIs_str s _ t) (typeIs_str s _ u) PySem.F.slot_str_lt PySem.F.entry_str_lt (PySem.F.args_str_lt_2 _ _) (gives_str_lt _ _ t u) (fun x => nomatch x) h
noncomputable def minS (a b : Str) : Str := if b.cps.toList < a.cps.toList then b else a
theorem rc_min {a b : Str} : RC prog w H (.builtin "min") n [.str a, .str b] (.str (minS a b)) := by
  intro A X s vs hA htop hbare hX hv
  obtain ⟨_, _, rfl, q, r⟩ := hv.inv
  have zz := r.inv; clear r; obtain ⟨_, _, rfl, q', r⟩ := zz
  (first | obtain rfl := r.inv | obtain ⟨_, rfl⟩ := r.inv | cases r)
  obtain ⟨t, rfl⟩ := q.inv
  obtain ⟨u, rfl⟩ := q'.inv
  have hT : (s.heap.push { cls := .type "tuple", data := .seq #[.str a t, .str b u] }).IsTuple s.heap.objs.size #[.str a t, .str b u] := ⟨_, Heap.get?_push_size _ rfl, rfl, 0, rfl⟩
  have hsz : (s.heap.push { cls := .type "tuple", data := .seq #[.str a t, .str b u] }).objs.size = s.heap.objs.size + 1 := Heap.size_push ..
  let val : Nat → Str := fun i => if i = 0 then a else b
  refine call_min_two (wpAny_pyIter_tuple hT ?_)
  refine ⟨_, [_, s.heap.objs.size], [_], _, _, _, _, rfl, Walks.tuple (A := A.in1) hA.hh _ s.heap.objs.size (by rw [hsz]; exact Nat.ne_of_lt (Nat.lt_succ_self _)) #[.str a t, .str b u],
    ⟨⟨_, Heap.get?_push_size _ rfl, rfl, rfl⟩, hT.push _⟩, fun c hc => ?_, by simp, cmp_strs val (fun i v hi => ?_), fun v h' tk hP hk => ?_⟩
  · show c < ((s.heap.push _).push _).objs.size
    rw [Heap.size_push, hsz]
    rcases List.mem_cons.mp hc with rfl | hc
    · rw [hsz]; exact Nat.lt_succ_self _
    · rcases List.mem_cons.mp hc with rfl | hc
      · exact Nat.lt_succ_of_lt (Nat.lt_succ_self _)
      · cases hc
  · match i, hi with
    | 0, hi => exact ⟨t, by simpa [val] using hi.symm⟩
    | 1, hi => exact ⟨u, by simpa [val] using hi.symm⟩
    | i + 2, hi => simp at hi
  · have hold : ∀ c o, s.heap.get? c = some o → h'.get? c = some o := fun c o e => by
      refine hk c o (fun hm => ?_) (Heap.get?_push_of_some _ (Heap.get?_push_of_some _ e))
      rcases List.mem_cons.mp hm with e1 | hm
      · have := Heap.lt_size e; rw [e1, hsz] at this; exact Nat.lt_irrefl _ (Nat.lt_of_succ_lt this)
      · cases hm
    refine ⟨.of hold, ?_⟩
    have hP' : (#[Value.str a t, Value.str b u] : Array Value)[argBest (fun i j => decide ((val i).cps.toList < (val j).cps.toList)) 1]? = some v := hP
    unfold minS
    by_cases hba : b.cps.toList < a.cps.toList
    · have e : argBest (fun i j => decide ((val i).cps.toList < (val j).cps.toList)) 1 = 1 := by simp [argBest, val, hba]
      rw [e] at hP'
      have : v = .str b u := by simpa using hP'.symm
      rw [this, if_pos hba]; exact .str _ _
    · have e : argBest (fun i j => decide ((val i).cps.toList < (val j).cps.toList)) 1 = 0 := by simp [argBest, val, hba]
      rw [e] at hP'
      have : v = .str a t := by simpa using hP'.symm
      rw [this, if_neg hba]; exact .str _ _

theorem rc_join {sep : Str} {ys : List Str} (hok : JoinOk sep ys = true) : RC prog w H (.builtin "str.join") n [.str sep, .list (encS ys)] (.str (Txt.join sep ys)) := by
  intro A X s vs hA htop hbare hX hv
  obtain ⟨_, _, rfl, q, r⟩ := hv.inv
  have zz := r.inv; clear r; obtain ⟨_, _, rfl, q', r⟩ := zz
  (first | obtain rfl := r.inv | obtain ⟨_, rfl⟩ := r.inv | cases r)
  obtain ⟨t, rfl⟩ := q.inv
  obtain ⟨l, o, vs, m, rfl, na, ho, hc, hdat, hr⟩ := q'.inv
  obtain ⟨xs, hxs, hns⟩ := rd_strs hr
  exact SC.join (l := xs) ⟨o, ho, hc, m, by rw [hdat]; congr 1; apply Array.toList_inj.mp; rw [hxs]⟩ hns hok fun t' k => ⟨.toks, .str _ _⟩

/-- a call that gives back a new list -/
noncomputable def RF (prog : Program) (w : World) (H : Heap) (f : Value) (n : Nat) (ds out : List PyData) : Prop :=
  ∀ A X s vs, AN A n → (∀ b o, H.get? b = some o → s.heap.get? b = some o) → AllBare s.gens → (∀ a, X a → ∃ o, s.heap.get? a = some o) → RdL s.heap X vs ds →
    wpAny (model prog w) A (call f vs) (fun r s' => Kp s s' ∧ ∃ a ws, r = .ref a ∧ s.heap.get? a = none ∧ s'.heap.PlainList a ws ∧ RdL s'.heap (Or2 X (· = a)) ws.toList out) (fun _ _ => False) s
theorem RF.rc {f : Value} {ds out : List PyData} (h : RF prog w H f n ds out) : RC prog w H f n ds (.list out) := fun A X s vs hA ht hb hX hv =>
  wpAny_mono (h A X s vs hA ht hb hX hv) (fun r s' z => by
    obtain ⟨k, a, ws, rfl, ha, ⟨m, hm⟩, hr⟩ := z
    exact ⟨k, .list (fun q => by obtain ⟨o, e⟩ := hX a q; rw [ha] at e; cases e) hm rfl rfl (hr.stay ⟨fun _ _ _ e => e, fun b z => .inl (.inl z)⟩)⟩) fun _ _ z => z

open Builtin Builtin.Str in
theorem rf_split {x y : Str} (hy : (y.length == 0) = false) (hsz : x.length + 2 ≤ sizeLine) : RF prog w H (.builtin "str.split") n [.str x, .str y] (encS (Txt.split x y)) := by
  intro A X s vs hA htop hbare hX hv
  obtain ⟨_, _, rfl, q, r⟩ := hv.inv
  have zz := r.inv; clear r; obtain ⟨_, _, rfl, q', r⟩ := zz
  (first | obtain rfl := r.inv | obtain ⟨_, rfl⟩ := r.inv | cases r)
  obtain ⟨t, rfl⟩ := q.inv
  obtain ⟨u, rfl⟩ := q'.inv
  have hn : (partsBetween x (occurrences x y 0 x.length (x.length + 1)) y.length).length ≤ sizeLine := by
    have e1 := StrLaws.occ_length_le_len x y 0 x.length (x.length + 1)
    rw [length_partsBetween]; lia
  have h' : ∀ (l : List (Str × Tok)) tk, l.map (·.1) = Txt.split x y → wants (fun r s' => Kp s s' ∧ ∃ a ws, r = .ref a ∧ s.heap.get? a = none ∧ s'.heap.PlainList a ws ∧ RdL s'.heap (Or2 X (· = a)) ws.toList (encS (Txt.split x y))) (fun _ _ => False) (.ok (.ret (.ref s.heap.objs.size))) { s with heap := s.heap.push { cls := .type "list", data := .seq (strValues l).toArray }, toks := tk } := fun l tk e =>
    ⟨.push, _, _, rfl, size_none _, ⟨0, Heap.get?_push_size _ rfl⟩, by rw [← e, List.toList_toArray]; exact rd_strs' l⟩
  cases h1 : (decide (x.length < y.length) || decide (strKind x < strKind y))
  · cases hf : (occurrences x y 0 x.length (x.length + 1)).isEmpty
    · refine call_meets F.slot_str_split (typeIs_str _ _ _) F.entry_str_split (F.args_str_split_2 _ _) (meets_str_split_sep x y t u h1 hy hf (by lia) hn) ?_
      show wants _ _ _ { s with toks := _, heap := s.heap.push { cls := .type "list", data := .seq (strsFrom s.toks (partsBetween x (occurrences x y 0 x.length (x.length + 1)) y.length)).toArray } }
      rw [strsFrom_eq]
      exact h' (numbered s.toks _) _ ((numbered_texts _ _).trans ((if_neg (ne_true_of_eq_false h1)).trans (if_neg (ne_true_of_eq_false hf))).symm)
    · exact call_meets F.slot_str_split (typeIs_str _ _ _) F.entry_str_split (F.args_str_split_2 _ _) (meets_str_split_not_found x y t u h1 hy hf) (h' [(x, t)] s.toks ((if_neg (ne_true_of_eq_false h1)).trans (if_pos hf)).symm)
  · exact call_meets F.slot_str_split (typeIs_str _ _ _) F.entry_str_split (F.args_str_split_2 _ _) (meets_str_split_cannot_occur x y t u h1) (h' [(x, t)] s.toks (if_pos h1).symm)
open Builtin Builtin.Str in
theorem rf_splitMax {x y : Str} {k : Int} (hy : (y.length == 0) = false) (hk : (decide (k < -(2 ^ 63 : Int)) || decide (k ≥ 2 ^ 63)) = false) (hsz : x.length + 2 ≤ sizeLine) : RF prog w H (.builtin "str.split") n [.str x, .str y, .int k] (encS (Txt.splitMax x y k)) := by
  intro A X s vs hA htop hbare hX hv
  obtain ⟨_, _, rfl, q, r⟩ := hv.inv
  have zz := r.inv; clear r; obtain ⟨_, _, rfl, q', r⟩ := zz
  have zz := r.inv; clear r; obtain ⟨_, _, rfl, q'', r⟩ := zz
  (first | obtain rfl := r.inv | obtain ⟨_, rfl⟩ := r.inv | cases r)
  obtain ⟨t, rfl⟩ := q.inv
  obtain ⟨u, rfl⟩ := q'.inv
  obtain ⟨v, rfl⟩ := q''.inv
  have hn : (partsBetween x (occurrences x y 0 x.length (limitOf x k)) y.length).length ≤ sizeLine := by
    have e1 := StrLaws.occ_length_le_len x y 0 x.length (limitOf x k)
    rw [length_partsBetween]; lia
  have h' : ∀ (l : List (Str × Tok)) tk, l.map (·.1) = Txt.splitMax x y k → wants (fun r s' => Kp s s' ∧ ∃ a ws, r = .ref a ∧ s.heap.get? a = none ∧ s'.heap.PlainList a ws ∧ RdL s'.heap (Or2 X (· = a)) ws.toList (encS (Txt.splitMax x y k))) (fun _ _ => False) (.ok (.ret (.ref s.heap.objs.size))) { s with heap := s.heap.push { cls := .type "list", data := .seq (strValues l).toArray }, toks := tk } := fun l tk e =>
    ⟨.push, _, _, rfl, size_none _, ⟨0, Heap.get?_push_size _ rfl⟩, by rw [← e, List.toList_toArray]; exact rd_strs' l⟩
  cases h1 : (decide (x.length < y.length) || decide (strKind x < strKind y))
  · cases hf : (occurrences x y 0 x.length (limitOf x k)).isEmpty
    · refine call_meets F.slot_str_split (typeIs_str _ _ _) F.entry_str_split (F.args_str_split_3 _ _ _) (meets_str_split_sep_max x y k t u v hk h1 hy hf (by lia) hn) ?_
      show wants _ _ _ { s with toks := _, heap := s.heap.push { cls := .type "list", data := .seq (strsFrom s.toks (partsBetween x (occurrences x y 0 x.length (limitOf x k)) y.length)).toArray } }
      rw [strsFrom_eq]
      exact h' (numbered s.toks _) _ ((numbered_texts _ _).trans ((if_neg (ne_true_of_eq_false h1)).trans (if_neg (ne_true_of_eq_false hf))).symm)
    · exact call_meets F.slot_str_split (typeIs_str _ _ _) F.entry_str_split (F.args_str_split_3 _ _ _) (meets_str_split_max_not_found x y k t u v hk h1 hy hf) (h' [(x, t)] s.toks ((if_neg (ne_true_of_eq_false h1)).trans (if_pos hf)).symm)
  · exact call_meets F.slot_str_split (typeIs_str _ _ _) F.entry_str_split (F.args_str_split_3 _ _ _) (meets_str_split_max_cannot_occur x y k t u v hk h1) (h' [(x, t)] s.toks (if_pos h1).symm)
open Builtin Builtin.Str in
theorem rc_index {x y : Str} {i : Nat} {r : List Nat} (ho : occurrences x y 0 x.length 1 = i :: r) : RC prog w H (.builtin "str.index") n [.str x, .str y] (.int i) := by
  intro A X s vs hA htop hbare hX hv
  obtain ⟨_, _, rfl, q, r'⟩ := hv.inv
  have zz := r'.inv; clear r'; obtain ⟨_, _, rfl, q', r'⟩ := zz
  (first | obtain rfl := r'.inv | obtain ⟨_, rfl⟩ := r'.inv | cases r')
  (first | obtain rfl := q.inv | obtain ⟨_, rfl⟩ := q.inv | cases q)
  (first | obtain rfl := q'.inv | obtain ⟨_, rfl⟩ := q'.inv | cases q')
  exact SC.index ho ⟨.toks, .int _ _⟩
end

section
variable {prog : Program} {w : World}
/-! in -/
theorem in_dl {ds : List PyData} {d : PyData} (hc : SeqAt.shaped (PyData.list ds) = true) (hd : SeqAt.shaped d = true) : R2 prog w (compareOp .In) d (.list ds) (.bool (ds.any fun y => y.eqv d)) := by
  intro A X s v u hA hn hv hu
  obtain ⟨_, ra⟩ := hv.reads
  obtain ⟨_, rb⟩ := hu.reads
  exact SeqAt.in_list_reads rb ra (SeqAt.canLay_of_shaped hc) (SeqAt.canLay_of_shaped hd) (room_in_shaped hd (by have := hA.units; lia)) ⟨.refl, .bool _⟩
theorem notIn_dl {ds : List PyData} {d : PyData} (hc : SeqAt.shaped (PyData.list ds) = true) (hd : SeqAt.shaped d = true) : R2 prog w (compareOp .NotIn) d (.list ds) (.bool (!ds.any fun y => y.eqv d)) := by
  intro A X s v u hA hn hv hu
  obtain ⟨_, ra⟩ := hv.reads
  obtain ⟨_, rb⟩ := hu.reads
  exact SeqAt.notIn_list_reads rb ra (SeqAt.canLay_of_shaped hc) (SeqAt.canLay_of_shaped hd) (room_in_shaped hd (by have := hA.units; lia)) ⟨.refl, .bool _⟩
open Builtin Builtin.Str in
theorem notIn_ss {x y : Str} : R2 prog w (compareOp .NotIn) (.str y) (.str x) (.bool (!(!(occurrences x y 0 x.length 1).isEmpty))) := by
  intro A X s v u hA hn hv hu
  cases hv; cases hu
  exact PySem.P.notIn_str ⟨.refl, .bool _⟩
end
end Mine

end
noncomputable section
open PySem PySem.W PyProof.Rows
set_option maxRecDepth 100000
set_option autoImplicit false
namespace Mine

section
variable {prog : Program} {w : World} {A : Around} {E : Value → Shared → Prop} {s : Shared}

theorem next_li {it l : Addr} {i : Nat} {items : Array Value} {x : Value} {Q : Value → Shared → Prop} (hit : s.heap.IsListIter it l i) (hl : s.heap.IsList l items) (hx : items[i]? = some x)
    (hQ : ∀ h', h'.IsListIter it l (i + 1) → Heap.SameBut it s.heap h' → Q x { s with heap := h' }) : wpAny (model prog w) A (call (.builtin "next") [.ref it]) Q E s := by
  refine PySem.Calls.call_function_entry (by decide +kernel) (by decide +kernel) (show entryFor table "next" = some Builtin.«next» from entryFor_of_fast (by kernel_rfl)) (by unfold argsOk; kernel_rfl) ?_
  unfold Builtin.«next»
  refine wpAny_bind (m := someArgs "next" 1 2 _) (wpAny_of_eq (a := [Value.ref it]) (by first | rfl | kernel_rfl!) ?_)
  dsimp only
  refine wpAny_bind (wpAny_specialOf (name := Str.ofString "__next__") hit.typeIs slot_listiter_next.lookup ?_)
  refine wpAny_ite_split (fun hab => absurd hab (by decide)) (fun _ => ?_)
  obtain ⟨o, ho, hc, hd⟩ := id hit
  obtain ⟨ol, hol, _, nl, hdl⟩ := hl
  refine wpAny_bind (wpAny_callSpecial?_slot (name := Str.ofString "__next__") hit.typeIs slot_listiter_next
    (wpAny_call_entry slot_listiter_next hit.typeIs entry_listiter_next ?_ (args_listiter_next _)))
  show wpAny _ _ (field (.ref it) 0 >>= _) _ _ s
  refine wpAny_bind (wpAny_field ho hd (x := .ref l) rfl ?_)
  show wpAny _ _ (if (Value.ref l == Value.none) = true then _ else _) _ _ s
  rw [if_neg (show ¬ ((Value.ref l == Value.none) = true) from Bool.false_ne_true)]
  show wpAny _ _ (field (.ref it) 1 >>= _) _ _ s
  refine wpAny_bind (wpAny_field ho hd (x := .int i 0) rfl ?_)
  show wpAny _ _ (seqItems? (.ref l) >>= _) _ _ s
  refine wpAny_bind (wpAny_seqItems hol hdl ?_)
  simp only [Int.toNat_natCast, hx]
  refine wpAny_bind (wpAny_setField ho hd (by simp) (wpAny_pure ⟨x, rfl, wpAny_pure ⟨_, rfl, hQ _ ?_ (Heap.SameBut.update ..)⟩⟩))
  exact ⟨_, Heap.get?_update_self _ ho (Obj.isFreed_of_fields (Obj.data_mapFields hd _)), (Obj.cls_mapFields ..).trans hc, by
    rw [Obj.data_mapFields hd]; simp [rawInt]⟩
theorem iter_list {l : Addr} {items : Array Value} {Q : Value → Shared → Prop} (hl : s.heap.IsList l items)
    (hQ : Q (.ref s.heap.objs.size) { s with heap := s.heap.push { cls := .type "list_iterator", data := .fields #[.ref l, .int 0 0] } }) : wpAny (model prog w) A (call (.builtin "iter") [.ref l]) Q E s := by
  refine PySem.Calls.call_function_entry (by decide +kernel) (by decide +kernel) (show entryFor table "iter" = some Builtin.«iter» from entryFor_of_fast (by kernel_rfl)) (by unfold argsOk; kernel_rfl) ?_
  unfold Builtin.«iter»
  refine wpAny_bind (m := someArgs "iter" 1 2 _) (wpAny_of_eq (a := [Value.ref l]) (by first | rfl | kernel_rfl!) ?_)
  show wpAny _ _ (pyIter (.ref l) >>= _) _ _ _
  refine wpAny_bind (wpAny_pyIter_list hl ?_)
  exact wpAny_pure ⟨_, rfl, hQ⟩
end
end Mine

end
noncomputable section
open PySem PySem.W PyProof.Rows
set_option maxRecDepth 100000
set_option autoImplicit false
namespace Mine

section
variable {prog : Program} {w : World} {H : Heap} {C : Cx} {F : Addr → Prop} {ad : Str → Addr} {σ σ₁ σ₂ σ₃ σ' : List Ent} {s s₁ s₂ s' : Shared}

theorem TriN.extend {x : Str} {l : Bool} {sl : Slot} {ds es : List PyData} {e : Expr} {p ap pos epos : Pos} {pl : Sem Bool} (he : Tri prog w H C σ e (.list es) σ₁) (hm : (⟨x, l, sl⟩ : Ent) ∈ σ₁) (hL : LL sl ds) (hu : Upd x l (sl.list' (ds ++ es)) σ₁ σ₂) (hz : ds.length + es.length ≤ sizeLine) (h0 : ∃ sl₀, (⟨x, l, sl₀⟩ : Ent) ∈ σ ∧ ∃ ds₀, LL sl₀ ds₀)
    (hev : eval (.Call (.Attribute (.Name x p) "extend" ap) [e] [] pos) C.env = (do
      let ov ← eval (.Name x p) C.env
      standAt ap.atName
      let (f, first) ← holding [ov] (getMethod ov "extend" pl)
      callWith pos f first (backTo pos (starEach [e] C.env)) []) := by rfl)
    (hs : starEach [e] C.env = (false, eval e C.env) :: starEach [] C.env := by rfl) (hi : interactive C.env = false := by rfl) (hw : swapsWith (.Call (.Attribute (.Name x p) "extend" ap) [e] [] pos) none epos.line C.env = pure false := by rfl) :
    TriN prog w H C σ (.Expr (.Call (.Attribute (.Name x p) "extend" ap) [e] [] pos) epos) σ₂ :=
  TriN.listM PySem.F.slot_list_extend PySem.F.type_list_extend h0 he hm hL hu (fun A s X a vs v hp hr hv hN hXa => by
    obtain ⟨b, o, ws, n, rfl, nb, ho, hc, hd, hr'⟩ := hv.inv
    obtain ⟨cls, dd, data, slots⟩ := o
    simp only at hc hd
    subst hc hd
    obtain ⟨k, hk⟩ := hp
    have e1 : vs.size = ds.length := by have := hr.length; simpa using this
    have e2 : ws.size = es.length := by have := hr'.length; simpa using this
    have hne : b ≠ a := fun z => nb (z ▸ hXa)
    have hno : ¬ (!vs.isEmpty && Builtin.List.listTooLong (vs.size + ws.size)) = true := by
      unfold Builtin.List.listTooLong
      simp only [Bool.and_eq_true, decide_eq_true_eq, not_and]
      intro _; lia
    refine call_meets PySem.F.slot_list_extend ⟨_, hk, rfl⟩ PySem.F.entry_list_extend (PySem.F.args_list_extend_2 _ _) (list_extendW a vs k b ws n dd slots hno (by lia) (by lia)) ⟨hk, ho, ?_⟩
    have hself := Heap.get?_update_self (Obj.mapSeq fun x => x ++ ws) hk rfl
    refine ⟨rfl, _, vs ++ ws, s.toks, rfl, Heap.SameBut.update .., ⟨_, hself⟩, ?_⟩
    rw [Array.toList_append]; exact hr.append hr') hev hs hi hw

/-- x[k] of the frame's own list -/
theorem Tri.itemOwn {x : Str} {l : Bool} {sl : Slot} {ds : List PyData} {i : Expr} {p pos : Pos} {k : Int} {d : PyData} (hm : (⟨x, l, sl⟩ : Ent) ∈ σ) (hL : LL sl ds) (hi : Tri prog w H C σ i (.int k) σ) (h0 : 0 ≤ k) (h1 : k < 2 ^ 63) (hd : ds[k.toNat]? = some d)
    (hs : ∀ o j, subscripted i false o j = operate [o, j] (getItem o j) := by intro _ _; rfl) : Tri prog w H C σ (.Subscript (.Name x p) i pos) d σ := by
  refine Box.of fun F ad s R => ?_
  refine Subscript_ (own_at R hm hL.isOwn (wpAny_mono (hi.out F ad s R) (fun u s₁ y => ?_) fun _ _ z => z))
  obtain ⟨R₁, g₁, hu⟩ := y
  cases hu
  obtain ⟨m, hn, q⟩ := R₁.ns
  obtain ⟨vs, hp, hr⟩ := hL.plain (q _ hm).slot
  obtain ⟨v, hv, hrv⟩ := hr.get hd
  refine tail_any hp.isList.typeIs slot_list_getitem.lookup (wpAny_getItem_list hp.isList h0 h1 (by simpa using hv) ?_) (hs _ _)
  exact Aft.then g₁ (Aft.here R₁ hrv)

/-! new lists -/
inductive NewP (prog : Program) (w : World) (H : Heap) (C : Cx) (F : Addr → Prop) (ad : Str → Addr) (σ : List Ent) (s : Shared) (σ' : List Ent) (ds : List PyData) (v : Value) (s' : Shared) : Prop
  | mk (a : Addr) (vs : Array Value) (s₁ : Shared) (hv : v = .ref a) (x : Aft prog w H C F ad σ s σ' s₁ (fun _ => True)) (k : Kp s₁ s') (ha : s₁.heap.get? a = none) (hp : s'.heap.PlainList a vs) (hr : RdL s'.heap (Or2 (Or2 F (Mut C σ' ad)) (· = a)) vs.toList ds)
noncomputable def TriF (prog : Program) (w : World) (H : Heap) (C : Cx) (σ : List Ent) (e : Expr) (ds : List PyData) (σ' : List Ent) : Prop :=
  Box (∀ F ad s, Rep prog w H C F ad σ s → wpAny (model prog w) C.A (eval e C.env) (NewP prog w H C F ad σ s σ' ds) (fun _ _ => False) s)
theorem TriF.val {e : Expr} {ds : List PyData} (h : TriF prog w H C σ e ds σ₁) : Tri prog w H C σ e (.list ds) σ₁ := Box.of fun F ad s R =>
  wpAny_mono (h.out F ad s R) (fun v s' z => by
    obtain ⟨a, vs, s₁, rfl, ⟨R₁, g₁, _⟩, k, ha, ⟨n, hp⟩, hr⟩ := z
    exact Aft.then g₁ (Aft.kp R₁ k (.list (R₁.new a ha) hp rfl rfl (hr.stay ⟨fun _ _ _ e => e, fun b z => .inl (.inl z)⟩)))) fun _ _ z => z
theorem TriN.assignF {x : Str} {l : Bool} {e : Expr} {p pos : Pos} {ds : List PyData} (h : TriF prog w H C σ e ds σ₁) (hu : Upd x l (.own ds) σ₁ σ₂) (hl : l = true ∨ C.fr = true)
    (hs : swapsWith e (some (.Name x p)) pos.line C.env = pure false := by rfl) : TriN prog w H C σ (.Assign [.Name x p] e pos) σ₂ := by
  refine Box.of fun F ad s R => ?_
  refine wpAny_Assign_Name (wpAny_mono (h.out F ad s R) (fun v s₂ y => ?_) fun _ _ z => z) hs
  obtain ⟨a, vs, s₁, rfl, ⟨R₁, g₁, _⟩, k, ha, hp, hr⟩ := y
  have hal : ∃ o, s₂.heap.get? a = some o := let ⟨n, e⟩ := hp; ⟨_, e⟩
  have R₂ := R₁.forbid k ha hal
  have hr₂ : RdL s₂.heap (Or2 (Or2 F (· = a)) (Mut C σ₁ ad)) vs.toList ds := hr.stay ⟨fun _ _ _ e => e, fun b z => .inl (by
    rcases z with (z | z) | z
    · exact .inl (.inl z)
    · exact .inr z
    · exact .inl (.inr z))⟩
  refine wpAny_mono (store_own (F := F) R₂ hu hl rfl rfl (R₁.notH ha) (fun z => R₁.new _ ha (.inr z)) (R₁.notCell ha) fun h' m' X st k at_ => ⟨at_, fun z => R₁.new _ ha (.inl z), vs, hp.at fun o e => k o e, hr₂.stay st⟩) (fun _ s₃ y => ?_) fun _ _ z => z
  obtain ⟨ad', R', hM, hk, hal', hg, hos⟩ := y
  refine ⟨.nx, σ₂, ad', ⟨rfl, rfl⟩, R', g₁.trans ⟨fun b o n e => hk b o n (k.heap b o e), fun b o e => hal' b o (k.heap b o e), fun b z => (hM b z).imp id fun (z : b = _) => z ▸ ha, fun g x e => by rw [hg]; exact k.gens g x e, hos.trans k.os⟩, trivial⟩
theorem TriF.callF {x : Str} {p pos : Pos} {f : Addr} {e : Expr} {es : List Expr} {ds out : List PyData} {n : Nat} (hx : x ∈ C.gl) (hg : Glo H x (.ref f)) (hf : IsFn H f) (ha : TriL prog w H C σ (e :: es) ds σ₁) (h : RF prog w H (.ref f) n ds out) (hn : n ≤ C.n)
    (he : starEach (e :: es) C.env = (false, eval e C.env) :: starEach es C.env := by rfl) : TriF prog w H C σ (.Call (.Name x p) (e :: es) [] pos) out σ₁ := by
  refine Box.of fun F ad s R => ?_
  refine wpAny_Call_NameR (glo_run R hx hg (callF_run hf (wpAny_mono (ha.out F ad s pos R) (fun vs s₁ y => ?_) fun _ _ z => z) he))
  obtain ⟨R₁, g₁, hv⟩ := y
  refine ⟨R₁.top, wpAny_mono (h C.A _ s₁ vs (R₁.an hn) R₁.top R₁.bare R₁.aliveX hv) (fun q s₂ z => ?_) fun _ _ z => z⟩
  obtain ⟨k, a, ws, rfl, ha, hp, hr⟩ := z
  exact ⟨a, ws, s₁, rfl, ⟨R₁, g₁, trivial⟩, k, ha, hp, hr⟩
theorem TriF.methS {pl : Sem Bool} {o : Expr} {name : Str} {apos pos : Pos} {id : String} {e : Expr} {es : List Expr} {x : Str} {ds out : List PyData} (ho : Tri prog w H C σ o (.str x) σ₁) (slot : PySem.Slot "str" name id) (ty : typeOf (.builtin id) = pure (.type "method_descriptor"))
    (ha : TriL prog w H C σ₁ (e :: es) ds σ₂) (h : RF prog w H (.builtin id) 0 (.str x :: ds) out)
    (he : eval (.Call (.Attribute o name apos) (e :: es) [] pos) C.env = (do
      let ov ← eval o C.env
      standAt apos.atName
      let (f, first) ← holding [ov] (getMethod ov name pl)
      callWith pos f first (backTo pos (starEach (e :: es) C.env)) []) := by rfl)
    (hs : starEach (e :: es) C.env = (false, eval e C.env) :: starEach es C.env := by rfl) (hp : (backTo pos (starEach es C.env)).any (·.1) = false := by rfl) : TriF prog w H C σ (.Call (.Attribute o name apos) (e :: es) [] pos) out σ₂ := by
  refine Box.of fun F ad s R => ?_
  refine MethodCall_ (wpAny_mono (ho.out F ad s R) (fun v s₁ y => ?_) fun _ _ z => z) he
  obtain ⟨R₁, g₁, hv⟩ := y
  obtain ⟨t, rfl⟩ := hv.inv
  refine getMethod_builtin (typeIs_str _ _ _) PySem.F.plainAttrs_str slot ty (fun _ z => nomatch z) ?_
  refine callWith_method1 (wpAny_mono (ha.out F ad s₁ pos R₁) (fun vs s₂ y => ?_) fun _ _ z => z) hs hp
  obtain ⟨R₂, g₂, hv⟩ := y
  refine wpAny_mono (h C.A _ s₂ (.str x t :: vs) (R₂.an (Nat.zero_le _)) R₂.top R₂.bare R₂.aliveX (.cons (.str _ _) hv)) (fun q s₃ z => ?_) fun _ _ z => z
  obtain ⟨k, a, ws, rfl, ha, hp, hr⟩ := z
  exact ⟨a, ws, s₂, rfl, ⟨R₂, g₁.trans g₂, trivial⟩, k, ha, hp, hr⟩

/-- a block that ends by giving back the frame's own list -/
noncomputable def TriG (prog : Program) (w : World) (H : Heap) (C : Cx) (σ : List Ent) (b : List Stmt) (ds : List PyData) : Prop :=
  Box (∀ F ad s, Rep prog w H C F ad σ s → wpAny (model prog w) C.A (execs b C.env) (fun fl s' => ∃ σ' ad' x l, (⟨x, l, .own ds⟩ : Ent) ∈ σ' ∧ Rep prog w H C F ad' σ' s' ∧ Go (Mut C σ ad) (Mut C σ' ad') s s' ∧ fl = .ret (.ref (ad' x))) (fun _ _ => False) s)
theorem TriG.next {st : Stmt} {rest : List Stmt} {ds : List PyData} (h : TriN prog w H C σ st σ₁) (hn : TriG prog w H C σ₁ rest ds) : TriG prog w H C σ (st :: rest) ds := by
  refine Box.of fun F ad s R => ?_
  refine wpAny_execs_cons (wpAny_mono (h.out F ad s R) (fun fl s₁ y => ?_) fun _ _ z => z)
  obtain ⟨f, σ', ad', ⟨rfl, rfl⟩, R₁, g₁, hf⟩ := y
  cases fl <;> first | exact hf.elim | skip
  refine wpAny_mono (hn.out F ad' s₁ R₁) (fun fl s₂ y => ?_) fun _ _ z => z
  obtain ⟨σ', ad'', x, l, hm, R₂, g₂, e⟩ := y
  exact ⟨σ', ad'', x, l, hm, R₂, g₁.trans g₂, e⟩
theorem TriG.ret {x : Str} {l : Bool} {p pos : Pos} {ds : List PyData} {rest : List Stmt} (hm : (⟨x, l, .own ds⟩ : Ent) ∈ σ) : TriG prog w H C σ (.Return (some (.Name x p)) pos :: rest) ds := by
  refine Box.of fun F ad s R => ?_
  refine wpAny_execs_cons (wpAny_Return_some (own_at R hm rfl ?_))
  exact ⟨σ, ad, x, l, hm, R, .refl, rfl⟩
theorem RF.fn {f : Addr} {name : Str} {params : Arguments} {body : List Stmt} {scope : Scope} {n : Nat} {ps : List (Str × PyData)} {vs gl : List Str} {ds : List PyData} (hf : FnAt H f name params body scope) (ok : fnOk scope (ps.map (·.1)) vs gl = true)
    (hcn : (scope.names.map (·.1)).Nodup) (hgen : scope.isGenerator = false)
    (hbind : ∀ vals : List Value, vals.length = ps.length → ∀ pm cd doc, bindArgs (Calls.docDef name params body scope pm cd doc) ⟨vals, []⟩ = pure ((ps.map (·.1)).zip vals))
    (hbody : ∀ pm cd doc L A, TriG prog w H (fnCx (Calls.docDef name params body scope pm cd doc) L f A n gl 0) (fnσ scope (ps.map fun p => (p.1, Slot.val p.2)) vs) body ds) : RF prog w H (.ref f) (n + 1) (ps.map (·.2)) ds := by
  intro A X s vals hA htop hbare hX hv
  have hlen : vals.length = ps.length := by have := hv.length; simpa using this
  have hnm : (ps.map fun p => (p.1, Slot.val p.2)).map (·.1) = ps.map (·.1) := by simp [Function.comp_def]
  refine call_fn (a := 0) (n := n) (ps := ps.map fun p => (p.1, Slot.val p.2)) (vs := vs) (gl := gl) hf (by rw [hnm]; exact ok) hcn hgen (by simp [hlen]) (fun pm cd doc => by rw [hnm]; exact hbind vals hlen pm cd doc) hA htop hbare hX (parOk_vals hv)
    (fun p hp q hq h => absurd h (by rw [noOwn_vals p hp]; exact Bool.false_ne_true)) (fun p hp h => absurd h (by rw [noOwn_vals p hp]; exact Bool.false_ne_true)) fun pm cd doc L s₁ R k hM => ?_
  refine wpAny_mono ((hbody pm cd doc _ A).out X _ s₁ R) (fun fl s₂ h => ?_) fun _ _ z => z.elim
  obtain ⟨σ', ad', x, l, hm, R₂, g₂, rfl⟩ := h
  have hM' : ∀ b, Mut _ _ _ b → s.heap.get? b = none := fun b z => (hM b z).elim id fun z => by obtain ⟨_, p, hp, ho⟩ := z; rw [noOwn_vals p hp] at ho; cases ho
  obtain ⟨m, hn, q⟩ := R₂.ns
  obtain ⟨_, nf, ws, hp, hr⟩ := (q _ hm).slot
  have hmut : Mut (fnCx (Calls.docDef name params body scope pm cd doc) L f A n gl 0) σ' ad' (ad' x) := .inr (.inr ⟨_, hm, rfl, rfl⟩)
  refine ⟨⟨fun a o e => g₂.keep a o (fun z => by rw [hM' a z] at e; cases e) (k.heap a o e), fun n x e => g₂.gens n x (k.gens n x e), fun _ => R₂.bare, g₂.os.trans k.os⟩, ad' x, ws, rfl, ?_, hp, hr.stay ⟨fun _ _ _ e => e, fun b z => .inl (z.elim .inl fun z => .inr (z ▸ hmut))⟩⟩
  cases e : s.heap.get? (ad' x) with
  | none => rfl
  | some o =>
    rcases g₂.new _ hmut with z | z
    · rw [hM' _ z] at e; cases e
    · rw [k.heap _ _ e] at z; cases z
end
end Mine

end
noncomputable section
open PySem PySem.W PyProof.Rows
set_option maxRecDepth 100000
set_option autoImplicit false
namespace Mine

section
variable {prog : Program} {w : World} {H : Heap} {C : Cx} {F : Addr → Prop} {ad : Str → Addr} {σ σ₁ σ₂ σ₃ σ' : List Ent} {s s₁ s₂ s' : Shared}

theorem mul_li {ds : List PyData} {x : Int} (hlo : -(2 ^ 63 : Int) ≤ x) (hhi : x < 2 ^ 63) (hsz : ds.length * x.toNat ≤ 2 ^ 24) : R2 prog w (binaryOp .Mult) (.list ds) (.int x) (.list (List.replicate x.toNat ds).flatten) := by
  intro A X s v u hA hn hv hu
  obtain ⟨u, rfl⟩ := hu.inv
  obtain ⟨l, o, vs, k, rfl, na, ho, hcl, hd, hr⟩ := hv.inv
  obtain ⟨cls, d, data, sl⟩ := o
  simp only at hcl hd
  subst hcl hd
  have hz : vs.size = ds.length := by have := hr.length; simpa using this
  refine wpAny_binaryOp_repeat_ref (T := "list") (U := "int") (by decide) ⟨_, ho, rfl⟩ (fun s' => typeIs_int s' x u) noFill_list_mul PySem.F.fills_int_mul PySem.F.slot_int_rmul repeat_list PySem.F.slot_int_index.lookup
    (call_meets PySem.F.slot_int_rmul (typeIs_int s x u) PySem.F.entry_int_rmul (PySem.F.args_int_rmul_2 _ _) (lm_int_rmul_list_any x u l vs k d sl)
      ⟨ho, rfl, ⟨_, ho, rfl⟩, call_meets PySem.F.slot_list_mul ⟨_, ho, rfl⟩ PySem.F.entry_list_mul (PySem.F.args_list_mul_2 _ _)
        (lm_list_mul_any l vs k d sl x u (by simp [Builtin.List.listFitsIndex]; lia) (by rw [hz]; lia) (by rw [hz]; simp [Builtin.List.listTooLong, sizeLine]; lia))
        ⟨ho, ?_⟩⟩)
  refine ⟨.push, .list (hn _ (size_none _)) (Heap.get?_push_size _ rfl) rfl rfl ?_⟩
  rw [listMul_foldl_if, List.toList_toArray]
  exact (hr.rep _).stay (Kp.push (tk := s.toks)).stay

/-! a name tested by what it is -/
theorem Tri.isinst {x y : Str} {p q pos : Pos} {e : Expr} {d : PyData} {T : String} (hx : x ∈ C.gl) (hg : Glo H x (.builtin "isinstance")) (hy : y ∈ C.gl) (hgy : Glo H y (.type T)) (he : Tri prog w H C σ e d σ₁)
    (hd : (∃ i, d = .int i ∧ T = "int") ∨ (∃ b, d = .bool b ∧ T = "bool")) (hs : starEach [e, .Name y q] C.env = [(false, eval e C.env), (false, eval (.Name y q) C.env)] := by rfl) :
    Tri prog w H C σ (.Call (.Name x p) [e, .Name y q] [] pos) (.bool true) σ₁ := by
  refine Box.of fun F ad s R => ?_
  refine wpAny_Call_NameR (glo_run R hx hg (callWith_builtin1 (Q := fun v s' => Aft prog w H C F ad σ s σ₁ s' fun X => Rd s'.heap X v (.bool true)) ?_ (by rw [hs]; rfl) rfl))
  rw [hs]
  show wpAny _ _ (spliced ((false, eval e C.env) :: backTo pos [(false, eval (.Name y q) C.env)])) _ _ s
  refine Calls.spliced_cons (wpAny_mono (he.out F ad s R) (fun v s₁ z => ?_) fun _ _ z => z)
  obtain ⟨R₁, g₁, hv⟩ := z
  show wpAny _ _ (spliced ((false, eval (.Name y q) C.env) :: [])) _ _ s₁
  refine Calls.spliced_cons (glo_run R₁ hy hgy (Calls.spliced_nil ?_))
  rcases hd with ⟨i, rfl, rfl⟩ | ⟨b, rfl, rfl⟩
  · cases hv
    exact call_isinstance_yes (PySem.typeIs_int _ _ _) (by kernel_rfl) (by rw [isSubtype_type]; kernel_rfl) (Aft.then g₁ (Aft.here R₁ (.bool _)))
  · cases hv
    exact call_isinstance_yes (PySem.typeIs_bool _ _) (by kernel_rfl) (by rw [isSubtype_type]; kernel_rfl) (Aft.then g₁ (Aft.here R₁ (.bool _)))

/-! or -/
theorem Tri.or1 {e : Expr} {d : PyData} {pos : Pos} (h : Tri prog w H C σ e d σ₁) : Tri prog w H C σ (.BoolOp .Or [e] pos) d σ₁ := Box.of fun F ad s R => BoolOp_one (h.out F ad s R)
theorem Tri.orT {e e₂ : Expr} {rest : List Expr} {d : PyData} {pos : Pos} (h : Tri prog w H C σ e d σ₁) (ht : R1b prog w truthy d true) : Tri prog w H C σ (.BoolOp .Or (e :: e₂ :: rest) pos) d σ₁ := Box.of fun F ad s R =>
  BoolOp_or (wpAny_mono (h.out F ad s R) (fun v s₁ y => wpAny_mono (ht C.A _ s₁ v y.1.ok.a y.1.new y.2.2) (fun c s₂ z => by
    obtain ⟨k, rfl⟩ := z
    exact Aft.then y.2.1 (Aft.kp (P := fun X => Rd s₂.heap X v d) y.1 k (Rd.stay k.stay y.2.2))) fun _ _ z => z) fun _ _ z => z)
theorem Tri.orF {e e₂ : Expr} {rest : List Expr} {d d' : PyData} {pos : Pos} (h : Tri prog w H C σ e d σ₁) (ht : R1b prog w truthy d false) (h2 : Tri prog w H C σ₁ (.BoolOp .Or (e₂ :: rest) pos) d' σ₂) : Tri prog w H C σ (.BoolOp .Or (e :: e₂ :: rest) pos) d' σ₂ := Box.of fun F ad s R =>
  BoolOp_or (wpAny_mono (h.out F ad s R) (fun v s₁ y => wpAny_mono (ht C.A _ s₁ v y.1.ok.a y.1.new y.2.2) (fun c s₂ z => by
    obtain ⟨k, rfl⟩ := z
    exact wpAny_mono (h2.out F ad s₂ (y.1.kp k)) (fun v s₃ u => Aft.then (y.2.1.trans k.go) u) fun _ _ z => z) fun _ _ z => z) fun _ _ z => z)
theorem truthy_s {x : Str} (hz : (x.length : Int) < 2 ^ 63) : R1b prog w truthy (.str x) ((x.length : Int) != 0) := by
  intro A X s v hA hn hv; (first | obtain ⟨_, rfl⟩ := hv.inv | obtain rfl := hv.inv); exact PySem.P.truthy_str (by lia) ⟨.toks, rfl⟩

/-! while -/
noncomputable abbrev TurnW (I : Nat → List Ent → Prop) (P : Fl → List Ent → Prop) (n : Nat) (f : Fl) (σ : List Ent) : Prop := match f with | .nx => ∃ m, m < n ∧ I m σ | .ct => ∃ m, m < n ∧ I m σ | .br => P .nx σ | .rt d => P (.rt d) σ
inductive WhI (prog : Program) (w : World) (H : Heap) (C : Cx) (F : Addr → Prop) (ad : Str → Addr) (σ : List Ent) (s : Shared) (I : Nat → List Ent → Prop) (n : Nat) (s' : Shared) : Prop
  | mk (σ' : List Ent) (ad' : Str → Addr) (hI : I n σ') (R : Rep prog w H C F ad' σ' s') (g : Go (Mut C σ ad) (Mut C σ' ad') s s')
theorem TriS.while_ {t : Expr} {b o : List Stmt} {pos : Pos} {P : Fl → List Ent → Prop} (I : Nat → List Ent → Prop) (n₀ : Nat) (h0 : I n₀ σ)
    (turn : ∀ n σ, I n σ → ∃ c σ₁, TriT prog w H C σ t c σ₁ ∧ (c = true → TriB prog w H C σ₁ b (TurnW I P n)) ∧ (c = false → TriB prog w H C σ₁ o P)) :
    TriS prog w H C σ (.While t b o pos) P := by
  refine Box.of fun F ad s R => ?_
  refine wpAny_While (codeAny_whileLoop (WhI prog w H C F ad σ s I) ?_ n₀ ⟨σ, ad, h0, R, .refl⟩)
  rintro n s' ⟨σ', ad', hI, R', g⟩
  obtain ⟨c, σ₁, ht, hb, ho⟩ := turn n σ' hI
  refine wpAny_mono (ht.out F ad' s' R') (fun r s₁ y => ?_) fun _ _ z => z.elim
  obtain ⟨rfl, R₁, g₁, _⟩ := y
  cases r with
  | true =>
    refine wpAny_mono ((hb rfl).out F ad' s₁ R₁) (fun fl s₂ y => ?_) fun _ _ z => z.elim
    obtain ⟨f, σ₂, ad₂, hp, R₂, g₂, hf⟩ := y
    have gg := g.trans (g₁.trans g₂)
    cases fl <;> cases f <;> first | exact hf.elim | skip
    · obtain ⟨m, hm, hI'⟩ := hp; exact ⟨m, hm, σ₂, ad₂, hI', R₂, gg⟩
    · exact ⟨.nx, σ₂, ad₂, hp, R₂, gg, trivial⟩
    · obtain ⟨m, hm, hI'⟩ := hp; exact ⟨m, hm, σ₂, ad₂, hI', R₂, gg⟩
    · exact ⟨_, σ₂, ad₂, hp, R₂, gg, hf⟩
  | false =>
    refine wpAny_mono ((ho rfl).out F ad' s₁ R₁) (fun fl s₂ y => ?_) fun _ _ z => z.elim
    obtain ⟨f, σ₂, ad₂, hp, R₂, g₂, hf⟩ := y
    exact ⟨f, σ₂, ad₂, hp, R₂, g.trans (g₁.trans g₂), hf⟩

/-! a, b = e -/
theorem TriN.assignT {es : List Expr} {k : Nat} {e : Expr} {p pos : Pos} {d : PyData} (h : Tri prog w H C σ e d σ₁) (ha : Asg prog w H C (.Tuple es k p) d σ₁ σ₂) (hs : swapsWithSole [.Tuple es k p] e pos.line C.env = pure false := by rfl) (hw : swappedStores [.Tuple es k p] e C.env = pure none := by rfl) :
    TriN prog w H C σ (.Assign [.Tuple es k p] e pos) σ₂ := by
  refine Box.of fun F ad s R => ?_
  refine Assign_Tuple (wpAny_mono (h.out F ad s R) (fun v s₁ y => ?_) fun _ _ z => z) hs hw
  obtain ⟨R₁, g₁, hv⟩ := y
  exact wpAny_mono (ha.out F ad s₁ v R₁ hv) (fun _ s₂ z => ⟨.nx, σ₂, ad, ⟨rfl, rfl⟩, z.1, g₁.trans z.2.1, trivial⟩) fun _ _ z => z

/-! iterators under a name -/
theorem callB1_wp {x : Str} {p pos : Pos} {id : String} {y : Str} {q : Pos} {sl : Slot} {l : Bool} {Q : Value → Shared → Prop} (R : Rep prog w H C F ad σ s) (hx : x ∈ C.gl) (hg : Glo H x (.builtin id)) (hm : (⟨y, l, sl⟩ : Ent) ∈ σ) (ho : sl.isOwn = true)
    (h : wpAny (model prog w) C.A (call (.builtin id) [.ref (ad y)]) Q (fun _ _ => False) s) : wpAny (model prog w) C.A (eval (.Call (.Name x p) [.Name y q] [] pos) C.env) Q (fun _ _ => False) s := by
  refine wpAny_Call_NameR (glo_run R hx hg (callWith_builtin1 ?_ rfl rfl))
  show wpAny _ _ (spliced ((false, eval (.Name y q) C.env) :: [])) _ _ s
  exact Calls.spliced_cons (own_at R hm ho (Calls.spliced_nil h))
theorem Tri.next {x y : Str} {p q pos : Pos} {l pp : Bool} {d : PyData} {ds : List PyData} (hx : x ∈ C.gl) (hg : Glo H x (.builtin "next")) (hm : (⟨y, l, .itr pp (d :: ds)⟩ : Ent) ∈ σ) (hu : Upd y l (.itr pp ds) σ σ₁) :
    Tri prog w H C σ (.Call (.Name x p) [.Name y q] [] pos) d σ₁ := by
  refine Box.of fun F ad s R => ?_
  obtain ⟨m, hn, qq⟩ := R.ns
  obtain ⟨_, lst, items, i, hit, hnX, hl, hr, hi⟩ := (qq _ hm).slot
  have hlt : i < items.size := by
    apply Nat.lt_of_not_le; intro hle
    rw [List.drop_eq_nil_of_le (by simpa using hle)] at hr; cases hr
  have hdr : items.toList.drop i = items[i] :: items.toList.drop (i + 1) := by simp [List.drop_eq_getElem_cons, hlt]
  rw [hdr] at hr
  have zz := hr.inv; clear hr; obtain ⟨_, _, e0, hv, hr⟩ := zz
  cases e0
  refine callB1_wp R hx hg hm rfl (next_li hit hl (x := items[i]) (by simp [hlt]) fun h' hit' hs' => ?_)
  have hal : ∃ o, h'.get? (ad y) = some o := let ⟨o, e, _⟩ := hit'; ⟨o, e⟩
  obtain ⟨R₁, g₁⟩ := R.wr (tk := s.toks) hm hu rfl rfl rfl hs' hal fun m m' st q ha => by
    obtain ⟨o, ho, r⟩ := hl
    exact ⟨ha _ q.1, lst, items, i + 1, hit', fun z => (st.new lst z).elim hnX fun e => (by rw [ho] at e; cases e), ⟨o, st.keep lst o hnX ho, r⟩, hr.stay st, hlt⟩
  exact ⟨R₁, g₁, hv.stay g₁.stay⟩
theorem TriN.assignIter {x y : Str} {l : Bool} {e : Expr} {p q c pos : Pos} {ds : List PyData} (hx : x ∈ C.gl) (hg : Glo H x (.builtin "iter")) (he : Tri prog w H C σ e (.list ds) σ₁) (hu : Upd y l (.itr false ds) σ₁ σ₂) (hl : l = true ∨ C.fr = true)
    (hse : starEach [e] C.env = (false, eval e C.env) :: starEach [] C.env := by rfl) (hs : swapsWith (.Call (.Name x p) [e] [] c) (some (.Name y q)) pos.line C.env = pure false := by rfl) : TriN prog w H C σ (.Assign [.Name y q] (.Call (.Name x p) [e] [] c) pos) σ₂ := by
  refine Box.of fun F ad s R => ?_
  refine wpAny_Assign_Name (wpAny_Call_NameR (glo_run R hx hg (callWith_builtin1 (wpAny_mono ((TriL.cons he TriL.nil hse).out F ad s c R) (fun vs s₁ z => ?_) fun _ _ z => z) hse rfl))) hs
  obtain ⟨R₁, g₁, hv⟩ := z
  have zz := hv.inv; clear hv; obtain ⟨_, _, rfl, hv, r⟩ := zz
  (first | obtain rfl := r.inv | obtain ⟨_, rfl⟩ := r.inv | cases r)
  obtain ⟨a, o, vs, n, rfl, na, ho, hc, hd, hr⟩ := hv.inv
  refine iter_list ⟨o, ho, hc, n, hd⟩ ?_
  have ha := size_none s₁.heap
  have R₂ := R₁.forbid (Kp.push (o := { cls := .type "list_iterator", data := .fields #[.ref a, .int 0 0] }) (tk := s₁.toks)) ha ⟨_, Heap.get?_push_size _ rfl⟩
  have st0 : Stay (Or2 F (Mut C σ₁ ad)) (Or2 (Or2 F (· = s₁.heap.objs.size)) (Mut C σ₁ ad)) s₁.heap (s₁.heap.push { cls := .type "list_iterator", data := .fields #[.ref a, .int 0 0] }) := ⟨fun _ _ _ e => Heap.get?_push_of_some _ e, fun b z => by
    rcases z with (z | z) | z
    · exact .inl (.inl z)
    · exact .inr ((show b = _ from z) ▸ ha)
    · exact .inl (.inr z)⟩
  have hna : ¬ Or2 (Or2 F (· = s₁.heap.objs.size)) (Mut C σ₁ ad) a := fun z => (st0.new a z).elim na fun e => by rw [ho] at e; cases e
  have hit : (s₁.heap.push { cls := .type "list_iterator", data := .fields #[.ref a, .int 0 0] }).IsListIter s₁.heap.objs.size a 0 := ⟨_, Heap.get?_push_size _ rfl, rfl, rfl⟩
  refine wpAny_mono (store_own (F := F) R₂ hu hl rfl rfl (R₁.notH ha) (fun z => R₁.new _ ha (.inr z)) (R₁.notCell ha) fun h' m' X st k at_ => ⟨at_, a, vs, 0, hit.at fun o e => k o e, fun z => (st.new a z).elim hna fun e => (by rw [Heap.get?_push_of_some _ ho] at e; cases e), ⟨o, st.keep a o hna (Heap.get?_push_of_some _ ho), hc, n, hd⟩, by rw [List.drop_zero]; exact (hr.stay st0).stay st, Nat.zero_le _⟩) (fun _ s₃ y => ?_) fun _ _ z => z
  obtain ⟨ad', R', hM, hk, hal, hg, hos⟩ := y
  exact ⟨.nx, σ₂, ad', ⟨rfl, rfl⟩, R', g₁.trans ⟨fun b o n e => hk b o n (Heap.get?_push_of_some _ e), fun b o e => hal b o (Heap.get?_push_of_some _ e), fun b z => (hM b z).imp id fun (z : b = _) => z ▸ ha, fun g x e => by rw [hg]; exact e, hos⟩, trivial⟩
end
end Mine

end
noncomputable section
open PySem PySem.W PyProof.Rows
set_option maxRecDepth 100000
set_option autoImplicit false
namespace Mine

section
variable {prog : Program} {w : World} {H : Heap} {C : Cx} {F : Addr → Prop} {ad : Str → Addr} {σ σ₁ σ₂ σ₃ σ' : List Ent} {s s₁ s₂ s' : Shared}

/-- list(x) of the frame's own list -/
theorem TriF.listOwn {x y : Str} {p q pos : Pos} {l : Bool} {sl : Slot} {ds : List PyData} (hx : x ∈ C.gl) (hg : Glo H x (.type "list")) (hm : (⟨y, l, sl⟩ : Ent) ∈ σ) (hL : LL sl ds) (hz : ds.length ≤ sizeLine) :
    TriF prog w H C σ (.Call (.Name x p) [.Name y q] [] pos) ds σ := by
  refine Box.of fun F ad s R => ?_
  refine wpAny_Call_NameR (glo_run R hx hg (callT_run (e := .Name y q) (es := []) ?_ rfl rfl))
  show wpAny _ _ (spliced ((false, eval (.Name y q) C.env) :: [])) _ _ s
  refine Calls.spliced_cons (own_at R hm hL.isOwn (Calls.spliced_nil ?_))
  obtain ⟨m, hn, qq⟩ := R.ns
  obtain ⟨vs, ⟨k, hk⟩, hr⟩ := hL.plain (qq _ hm).slot
  have e1 : vs.size = ds.length := by have := hr.length; simpa using this
  refine call_list_seq (T := "list") (ad y) (.inl rfl) hk rfl rfl (fun h' c' hkeep hnew => ?_) (by omega)
  exact ⟨_, vs, s, rfl, ⟨R, .refl, trivial⟩, .of (tk := s.toks) hkeep, size_none _, ⟨c', hnew⟩, hr.stay ⟨fun a o _ e => hkeep a o e, fun a z => z.elim .inl fun z => .inr ((show a = _ from z) ▸ size_none _)⟩⟩


theorem next_end {A : Around} {E : Value → Shared → Prop} {it l : Addr} {i : Nat} {items : Array Value} {Q : Option Value → Shared → Prop} (hh : A.handled = none) (hit : s.heap.IsListIter it l i) (hl : s.heap.IsList l items) (hx : items[i]? = none)
    (hQ : ∀ h', Heap.ExtBut it s.heap h' → (∃ o, h'.get? it = some o) → Q none { s with heap := h' }) : wpAny (model prog w) A (pyNext (.ref it)) Q E s := by
  obtain ⟨o, ho, hc, hd⟩ := id hit
  obtain ⟨ol, hol, _, nl, hdl⟩ := hl
  unfold pyNext
  refine wpAny_bind (wpAny_attempt (wpAny_callSpecial?_slot (name := Str.ofString "__next__") hit.typeIs slot_listiter_next
    (wpAny_call_entry slot_listiter_next hit.typeIs entry_listiter_next ?_ (args_listiter_next _))))
  show wpAny _ _ (field (.ref it) 0 >>= _) _ _ s
  refine wpAny_bind (wpAny_field ho hd (x := .ref l) rfl ?_)
  show wpAny _ _ (if (Value.ref l == Value.none) = true then _ else _) _ _ s
  rw [if_neg (show ¬ ((Value.ref l == Value.none) = true) from Bool.false_ne_true)]
  show wpAny _ _ (field (.ref it) 1 >>= _) _ _ s
  refine wpAny_bind (wpAny_field ho hd (x := .int i 0) rfl ?_)
  show wpAny _ _ (seqItems? (.ref l) >>= _) _ _ s
  refine wpAny_bind (wpAny_seqItems hol hdl ?_)
  simp only [Int.toNat_natCast, hx]
  refine wpAny_bind (wpAny_rule (wpAny_bind (wpAny_setField ho hd (by simp) ?_)))
  show wpAny _ _ (newExc (.type "StopIteration") [] >>= _) _ _ _
  refine wpAny_bind ?_
  simp only [newExc, newTuple]
  refine wpAny_bind (wpAny_newObj_type ?_ (by size_fits))
  refine wpAny_bind (m := firstArgMember _ _) (wpAny_of_eq (a := Value.none) (by first | rfl | (simp only [firstArgMember]; rfl)) ?_)
  refine wpAny_newObj_type ?_ (by size_fits)
  simp only [raiseNew]
  refine wpAny_bind (wpAny_handled ?_)
  rw [show A.in1.handled = none from hh]
  refine wpAny_bind (wpAny_pure (wpAny_throw ?_))
  refine wpAny_bind (wpAny_isInstance (T := "StopIteration") (b := true) ⟨_, Heap.get?_push_size _ rfl, rfl⟩ isSubtype_stop ?_)
  refine wpAny_pure (hQ _ (((Heap.SameBut.update ..).extBut.push _).push _) ⟨_, Heap.get?_push_of_some _ (Heap.get?_push_of_some _ (Heap.get?_update_self _ ho (Obj.isFreed_of_fields (Obj.data_mapFields hd _))))⟩)

theorem ext_loop {A : Around} {R : Result → Shared → Prop} {S I l : Addr} {items : Array Value} {res : Value} (hh : A.handled = none) (hSI : S ≠ I) (hSl : S ≠ l) (hlI : l ≠ I) :
    ∀ (k i : Nat) (s : Shared) (acc : Array Value) (c : Nat), items.size - i = k → i ≤ items.size → acc.size + (items.size - i) ≤ sizeLine → s.heap.IsListIter I l i → s.heap.IsList l items → s.heap.get? S = some { cls := .type "list", dict := none, data := .seq acc c, slots := #[] } →
    (∀ s' c', (∀ a o, a ≠ S → a ≠ I → s.heap.get? a = some o → s'.heap.get? a = some o) → (∃ o, s'.heap.get? I = some o) → s'.gens = s.gens → s'.os = s.os → s'.heap.get? S = some { cls := .type "list", dict := none, data := .seq (acc ++ (items.toList.drop i).toArray) c', slots := #[] } → R (.ok (.ret res)) s') →
    codeAny (model prog w) A (.builtin "list.extend.loop" ⟨[.ref S, .ref I, res], []⟩) R s := by
  intro k
  induction k with
  | zero =>
    intro i s acc c hk hi ha hit hl hS hR
    have hin : i = items.size := by omega
    subst hin
    refine codeAny_builtin PySem.F.entry_extend_loop ?_
    rw [Around.under_plainId PySem.F.plain_extend_loop _]
    show wpAny _ A.in1 (pyNext (.ref I) >>= _) _ _ s
    refine wpAny_bind (next_end hh hit hl (by simp) fun h' he' hal => ?_)
    refine wpAny_pure (hR _ c (fun a o h1 h2 e => he' a o h2 e) hal rfl rfl ?_)
    have := he' S _ hSI hS
    rw [this]
    simp
  | succ k ih =>
    intro i s acc c hk hi ha hit hl hS hR
    have hlt : i < items.size := by omega
    refine codeAny_builtin PySem.F.entry_extend_loop ?_
    rw [Around.under_plainId PySem.F.plain_extend_loop _]
    show wpAny _ A.in1 (pyNext (.ref I) >>= _) _ _ s
    refine wpAny_bind (wpAny_pyNext_list_item hit hl (x := items[i]) (by simp [hlt]) fun h' hit' hs' => ?_)
    have hS' : h'.get? S = some _ := (hs'.2 S hSI).trans hS
    show wpAny _ A.in1 (updateSeq S (·.push items[i]) >>= _) _ _ _
    refine wpAny_bind ?_
    refine wpAny_updateSeq hS' rfl (wpAny_pure ⟨plainId_quiet PySem.F.plain_extend_loop _, ih (i + 1) _ (acc.push items[i]) _ (by omega) hlt (by rw [Array.size_push]; omega) (hit'.at fun o e => ?_) (Heap.IsList.at (hl.extBut hs'.extBut hlI) fun o e => ?_) (Heap.get?_update_self _ hS' rfl) fun s'' c' hk' hal hg ho hS'' => ?_⟩) (by omega) (by show (acc.push items[i]).size ≤ sizeLine + 1; rw [Array.size_push]; omega)
    · exact (Heap.get?_update_other _ _ hSI).trans e
    · exact (Heap.get?_update_other _ _ hSl).trans e
    · refine hR s'' c' (fun a o h1 h2 e => hk' a o h1 h2 ((Heap.get?_update_other _ _ (Ne.symm h1)).trans ((hs'.2 a h2).trans e))) hal hg ho ?_
      rw [hS'']
      have : (acc.push items[i]) ++ (items.toList.drop (i + 1)).toArray = acc ++ (items.toList.drop i).toArray := by
        apply Array.toList_inj.mp
        simp [List.drop_eq_getElem_cons, hlt]
      rw [this]

theorem list_iter_call {A : Around} {E : Value → Shared → Prop} {I l : Addr} {i : Nat} {items : Array Value} {Q : Value → Shared → Prop} (hh : A.handled = none) (hit : s.heap.IsListIter I l i) (hl : s.heap.IsList l items) (hlI : l ≠ I) (hi : i ≤ items.size) (hn : items.size - i ≤ sizeLine)
    (hQ : ∀ s' c', (∀ a o, a ≠ I → s.heap.get? a = some o → s'.heap.get? a = some o) → (∃ o, s'.heap.get? I = some o) → s'.gens = s.gens → s'.os = s.os → s'.heap.get? s.heap.objs.size = some { cls := .type "list", dict := none, data := .seq (items.toList.drop i).toArray c', slots := #[] } → Q (.ref s.heap.objs.size) s') :
    wpAny (model prog w) A (call (.type "list") [.ref I]) Q E s := by
  obtain ⟨oi, hoi, hci, hdi⟩ := id hit
  obtain ⟨ol, hol, _⟩ := id hl
  have hSI : s.heap.objs.size ≠ I := Nat.ne_of_gt (Heap.lt_size hoi)
  have hSl : s.heap.objs.size ≠ l := Nat.ne_of_gt (Heap.lt_size hol)
  refine callType_codes (Q₁ := fun obj s₁ => obj = .ref s.heap.objs.size ∧ s₁ = { s with heap := s.heap.push { cls := .type "list", data := .seq #[] } }) PySem.F.called_list (PySem.F.typeCall_list_1 _) PySem.F.entry_list_init
    (code_list_new _ ⟨rfl, rfl⟩) fun obj s₁ h₁ => ?_
  obtain ⟨rfl, rfl⟩ := h₁
  have hS : (s.heap.push { cls := .type "list", data := .seq #[] }).get? s.heap.objs.size = some { cls := .type "list", data := .seq #[] } := Heap.get?_push_size _ rfl
  refine ⟨⟨_, hS, rfl⟩, PySem.F.args_list_init_2 _ _, ?_⟩
  show wpAny _ A.in1.in1 (do let old ← Builtin.List.listItems (.ref s.heap.objs.size); Builtin.List.listUpdate (.ref s.heap.objs.size) (fun _ => #[]); letGo old.toList.reverse; Builtin.List.listExtendWith (.ref s.heap.objs.size) (.ref I) .none) _ _ _
  refine wpAny_bind ?_
  unfold Builtin.List.listItems
  refine wpAny_bind (wpAny_seqItems hS rfl (wpAny_pure ?_))
  show wpAny _ A.in1.in1 (updateSeq s.heap.objs.size (fun _ => #[]) >>= fun _ => letGo (#[] : Array Value).toList.reverse >>= fun _ => Builtin.List.listExtendWith (.ref s.heap.objs.size) (.ref I) .none) _ _ _
  refine wpAny_bind (wpAny_updateSeq hS rfl ?_)
  have hS₂ := Heap.get?_update_self (Obj.mapSeq (fun _ => (#[] : Array Value))) hS rfl
  generalize hH : (s.heap.push { cls := .type "list", data := .seq #[] }).update s.heap.objs.size (Obj.mapSeq (fun _ => (#[] : Array Value))) = H2 at hS₂ ⊢
  have oth : ∀ b o, s.heap.get? b = some o → H2.get? b = some o := fun b o e => by
    rw [← hH]
    exact (Heap.get?_update_other _ _ (Nat.ne_of_gt (Heap.lt_size e))).trans (Heap.get?_push_of_some _ e)
  have hit2 : H2.IsListIter I l i := hit.at fun o e => oth I o e
  have hl2 : H2.IsList l items := Heap.IsList.at hl fun o e => oth l o e
  obtain ⟨c0, hS3⟩ : ∃ c, H2.get? s.heap.objs.size = some { cls := .type "list", dict := none, data := .seq #[] c, slots := #[] } := ⟨_, by simpa [Obj.mapSeq] using hS₂⟩
  refine wpAny_bind (wpAny_letGo ?_)
  have h1 : Builtin.List.listSameRef (.ref s.heap.objs.size) (.ref I) = false := by simp [Builtin.List.listSameRef, hSI]
  unfold Builtin.List.listExtendWith
  refine wpAny_bind (wpAny_typeOf (s := { s with heap := H2 }) hit2.typeIs ?_)
  rw [if_neg (by rw [h1]; decide)]
  refine wpAny_bind (wpAny_pyIter_listiter hit2 ?_)
  refine wpAny_bind (wpAny_holding ?_)
  unfold Builtin.List.listLengthHint
  refine wpAny_bind (wpAny_specialOf (s := { s with heap := H2 }) hit2.typeIs PySem.F.nolen_li ?_)
  show wpAny _ A.in1.in1 (specialOf (Value.ref I) (Str.ofString "__length_hint__") >>= _) _ _ _
  refine wpAny_bind (wpAny_specialOf (s := { s with heap := H2 }) hit2.typeIs PySem.F.hint_li ?_)
  (generalize hid : ("list_iterator.__length_hint__" : String) = id0; (fail_if_success (clear hid id0)); wp_delta; rw [show splitId id0 = some ("list_iterator", "__length_hint__") from by subst hid; decide +kernel]; subst hid)
  refine wpAny_bind (wpAny_isInstance (s := { s with heap := H2 }) (b := true) hit2.typeIs (by rw [isSubtype_type]; kernel_rfl) ?_)
  refine wpAny_pure ?_
  rw [if_neg (by decide)]
  refine wpAny_pure ⟨plainId_quiet PySem.F.plain_extend_loop _, ext_loop (A := A.in1) hh hSI hSl hlI _ i _ #[] _ rfl hi (by simpa using hn) hit2 hl2 hS3 fun s' c' hk hal hg ho hS' => ?_⟩
  exact ⟨rfl, hQ s' c' (fun a o hne e => hk a o (fun z => by rw [z, size_none] at e; cases e) hne (oth a o e)) hal hg ho (by rw [hS']; simp)⟩

/-- list(x) of an iterator under a name -/
theorem Tri.listIt {x y : Str} {p q pos : Pos} {l pp : Bool} {ds : List PyData} (hx : x ∈ C.gl) (hg : Glo H x (.type "list")) (hm : (⟨y, l, .itr pp ds⟩ : Ent) ∈ σ) (hu : Upd y l .un σ σ₁) (hz : ds.length ≤ sizeLine) :
    Tri prog w H C σ (.Call (.Name x p) [.Name y q] [] pos) (.list ds) σ₁ := by
  refine Box.of fun F ad s R => ?_
  refine wpAny_Call_NameR (glo_run R hx hg (callT_run (e := .Name y q) (es := []) ?_ rfl rfl))
  show wpAny _ _ (spliced ((false, eval (.Name y q) C.env) :: [])) _ _ s
  refine Calls.spliced_cons (own_at R hm rfl (Calls.spliced_nil ?_))
  obtain ⟨m, hn, qq⟩ := R.ns
  obtain ⟨_, lst, items, i, hit, hnX, hl, hr, hi⟩ := (qq _ hm).slot
  have hX : Mut C σ ad (ad y) := .inr (.inr ⟨_, hm, rfl, rfl⟩)
  have hne : lst ≠ ad y := fun z => hnX (.inr (z ▸ hX))
  have e1 : items.size - i = ds.length := by have := hr.length; simpa using this
  have hH : H.get? s.heap.objs.size = none := R.notH (size_none _)
  refine list_iter_call R.ok.hh hit hl hne hi (by omega) fun s' c' hk hal hg' ho hS => ?_
  have hut : ∀ a, Mut C σ₁ ad a → Mut C σ ad a := by
    rintro a (z | z | ⟨e, he, hoe, rfl⟩)
    · exact .inl z
    · exact .inr (.inl z)
    · rcases hu.mem R.nd e he with rfl | ⟨he, hne⟩
      · cases hoe
      · exact .inr (.inr ⟨e, he, hoe, rfl⟩)
  have st : Stay (Or2 F (Mut C σ ad)) (Or2 F (Mut C σ₁ ad)) s.heap s'.heap := ⟨fun a o n e => hk a o (fun z => n (.inr (z ▸ hX))) e, fun a z => .inl (z.imp id (hut a))⟩
  have cne : ∀ c ∈ C.env.cells.map (·.2), c ≠ ad y := fun c hc z => (R.ow _ hm rfl).2 (z ▸ hc)
  have alive : ∀ a o, s.heap.get? a = some o → ∃ o', s'.heap.get? a = some o' := fun a o e => by
    by_cases z : a = ad y
    · exact z ▸ hal
    · exact ⟨o, hk a o z e⟩
  refine ⟨?_, ⟨fun a o n e => hk a o (fun z => n (z ▸ hX)) e, alive, fun a z => .inl (hut a z), fun n x e => by rw [hg']; exact e, ho⟩, .list (fun z => R.new _ (size_none _) (z.imp id (hut _))) hS rfl rfl (by rw [List.toList_toArray]; exact hr.stay st)⟩
  refine { ok := R.ok, top := fun a o e => hk a o (fun z => by rw [z, R.fresh _ hX] at e; cases e) (R.top a o e), bare := by rw [hg']; exact R.bare, nd := hu.names ▸ R.nd, ns := ⟨m, hn.at' fun o e => hk _ o (fun z => (R.ow _ hm rfl).1 z.symm) e, fun e he => ?_⟩, cells := fun c hc => ?_, dl := R.dl, dn := R.dn, mc := R.mc, ow := fun e he hoe => ?_, dd := fun e he e' he' hoe hoe' z => ?_, fresh := fun a z => R.fresh a (hut a z), aliveF := fun a z => let ⟨o, e⟩ := R.aliveF a z; alive a o e, cellF := R.cellF, fl := R.fl, pa := fun e he hp => ?_ }
  · rcases hu.mem R.nd e he with rfl | ⟨he, hne⟩
    · have qe := qq _ hm
      exact ⟨qe.kind, qe.cell, qe.nodebug, trivial⟩
    · have qe := qq e he
      exact ⟨qe.kind, qe.cell, qe.nodebug, qe.slot.stay st (fun c hc o e' => hk c o (cne c hc) e') (fun hoe o e' => hk _ o (fun z => hne (R.dd e he _ hm hoe rfl z)) e') fun _ nf _ _ f => nf f⟩
  · obtain ⟨v, o, e, hd⟩ := R.cells c hc
    exact ⟨v, o, hk c o (cne c (R.mc c hc)) e, hd⟩
  · rcases hu.mem R.nd e he with rfl | ⟨he, _⟩
    · cases hoe
    · exact R.ow e he hoe
  · rcases hu.mem R.nd e he with rfl | ⟨he, _⟩
    · cases hoe
    · rcases hu.mem R.nd e' he' with rfl | ⟨he', _⟩
      · cases hoe'
      · exact R.dd e he e' he' hoe hoe' z
  · rcases hu.mem R.nd e he with rfl | ⟨he, _⟩
    · cases hp
    · exact R.pa e he hp
end
end Mine

end
noncomputable section
open PySem PySem.W PyProof.Rows
set_option maxRecDepth 100000
set_option autoImplicit false
namespace Mine

section
variable {prog : Program} {w : World} {H : Heap} {C : Cx} {F : Addr → Prop} {ad : Str → Addr} {σ σ₁ σ₂ σ₃ σ' : List Ent} {s s₁ s₂ s' : Shared}

/-! ## calls that write one argument -/
noncomputable def RM (prog : Program) (w : World) (H : Heap) (f : Value) (n : Nat) (pre post : List PyData) (sl sl' : Slot) (d : PyData) : Prop :=
  ∀ A X s vs us a, AN A n → (∀ b o, H.get? b = some o → s.heap.get? b = some o) → AllBare s.gens → (∀ a, X a → ∃ o, s.heap.get? a = some o) → X a → H.get? a = none → RdL s.heap X vs pre → RdL s.heap X us post → SlotAt s.heap X a sl →
    wpAny (model prog w) A (call f (vs ++ .ref a :: us)) (fun r s' => Go (· = a) (· = a) s s' ∧ AllBare s'.gens ∧ Rd s'.heap X r d ∧ SlotAt s'.heap X a sl') (fun _ _ => False) s

/-- the caller's slot, and what the callee sees -/
inductive Seen : Slot → Slot → Slot → Slot → Prop
  | own (ds es : List PyData) : Seen (.own ds) (.io ds) (.own es) (.io es)
  | io (ds es : List PyData) : Seen (.io ds) (.io ds) (.io es) (.io es)
  | itr (p : Bool) (ds es : List PyData) : Seen (.itr p ds) (.itr true ds) (.itr p es) (.itr true es)

noncomputable def TriLM (prog : Program) (w : World) (H : Heap) (C : Cx) (σ : List Ent) (es : List Expr) (pre post : List PyData) (x : Str) : Prop :=
  Box (∀ F ad s pos, Rep prog w H C F ad σ s → wpAny (model prog w) C.A (spliced (backTo pos (starEach es C.env))) (fun vs s' => Aft prog w H C F ad σ s σ s' fun X => ∃ vs₁ vs₂, vs = vs₁ ++ .ref (ad x) :: vs₂ ∧ RdL s'.heap X vs₁ pre ∧ RdL s'.heap X vs₂ post) (fun _ _ => False) s)
theorem TriLM.here {x : Str} {l : Bool} {sl : Slot} {p : Pos} {es : List Expr} {post : List PyData} (hm : (⟨x, l, sl⟩ : Ent) ∈ σ) (ho : sl.isOwn = true) (hs : TriL prog w H C σ es post σ) (hx : starEach (.Name x p :: es) C.env = (false, eval (.Name x p) C.env) :: starEach es C.env := by rfl) :
    TriLM prog w H C σ (.Name x p :: es) [] post x := by
  refine Box.of fun F ad s pos R => ?_
  rw [hx]
  show wpAny _ _ (spliced ((false, eval (.Name x p) C.env) :: backTo pos (starEach es C.env))) _ _ _
  refine Calls.spliced_cons (own_at R hm ho (wpAny_mono (hs.out F ad s pos R) (fun vs s₂ y => ?_) fun _ _ z => z))
  exact ⟨y.1, y.2.1, [], vs, rfl, .nil, y.2.2⟩
theorem TriLM.cons {x : Str} {e : Expr} {d : PyData} {es : List Expr} {pre post : List PyData} (he : Tri prog w H C σ e d σ) (hs : TriLM prog w H C σ es pre post x) (hx : starEach (e :: es) C.env = (false, eval e C.env) :: starEach es C.env := by rfl) :
    TriLM prog w H C σ (e :: es) (d :: pre) post x := by
  refine Box.of fun F ad s pos R => ?_
  rw [hx]
  show wpAny _ _ (spliced ((false, eval e C.env) :: backTo pos (starEach es C.env))) _ _ _
  refine Calls.spliced_cons (wpAny_mono (he.out F ad s R) (fun v s₁ y => ?_) fun _ _ z => z)
  obtain ⟨R₁, g₁, hv⟩ := y
  refine wpAny_mono (hs.out F ad s₁ pos R₁) (fun vs s₂ y => ?_) fun _ _ z => z
  obtain ⟨R₂, g₂, vs₁, vs₂, rfl, h1, h2⟩ := y
  exact ⟨R₂, g₁.trans g₂, v :: vs₁, vs₂, rfl, .cons (hv.stay g₂.stay) h1, h2⟩

theorem upd_mut {x : Str} {l : Bool} {sl sl' : Slot} (nd : (σ.map (·.nm)).Nodup) (hu : Upd x l sl' σ σ₁) (hm : (⟨x, l, sl⟩ : Ent) ∈ σ) (ho : sl.isOwn = true) : ∀ a, Mut C σ₁ ad a → Mut C σ ad a := by
  rintro a (z | z | ⟨e, he, hoe, rfl⟩)
  · exact .inl z
  · exact .inr (.inl z)
  · rcases hu.mem nd e he with rfl | ⟨he, hne⟩
    · exact .inr (.inr ⟨_, hm, ho, rfl⟩)
    · exact .inr (.inr ⟨e, he, hoe, rfl⟩)
theorem Tri.callM {x y : Str} {p pos : Pos} {f : Addr} {e : Expr} {es : List Expr} {l : Bool} {sl par sl' par' : Slot} {pre post : List PyData} {d : PyData} {n : Nat} (hx : x ∈ C.gl) (hg : Glo H x (.ref f)) (hf : IsFn H f) (hm : (⟨y, l, sl⟩ : Ent) ∈ σ) (hsn : Seen sl par sl' par') (hu : Upd y l sl' σ σ₁)
    (ha : TriLM prog w H C σ (e :: es) pre post y) (h : RM prog w H (.ref f) n pre post par par' d) (hn : n ≤ C.n)
    (he : starEach (e :: es) C.env = (false, eval e C.env) :: starEach es C.env := by rfl) : Tri prog w H C σ (.Call (.Name x p) (e :: es) [] pos) d σ₁ := by
  refine Box.of fun F ad s R => ?_
  have ho : sl.isOwn = true := by cases hsn <;> rfl
  have ho' : sl'.isOwn = true := by cases hsn <;> rfl
  have hpp : sl'.isPar = sl.isPar := by cases hsn <;> rfl
  refine wpAny_Call_NameR (glo_run R hx hg (callF_run hf (wpAny_mono (ha.out F ad s pos R) (fun vs s₁ y => ?_) fun _ _ z => z) he))
  obtain ⟨R₁, g₁, vs₁, vs₂, rfl, h1, h2⟩ := y
  obtain ⟨m, hns, q⟩ := R₁.ns
  have qs := (q _ hm).slot
  have hX : Or2 F (Mut C σ ad) (ad y) := .inr (.inr (.inr ⟨_, hm, ho, rfl⟩))
  have hsl : SlotAt s₁.heap (Or2 F (Mut C σ ad)) (ad y) par := by
    cases hsn with
    | own => exact qs.2.2
    | io => exact qs.2
    | itr => exact qs.2
  refine ⟨R₁.top, wpAny_mono (h C.A _ s₁ vs₁ vs₂ (ad y) (R₁.an hn) R₁.top R₁.bare R₁.aliveX hX (R₁.fresh _ (.inr (.inr ⟨_, hm, ho, rfl⟩))) h1 h2 hsl) (fun r s₂ z => ?_) fun _ _ z => z⟩
  obtain ⟨g₂, hb, hr, hs'⟩ := z
  have sub := upd_mut (C := C) (ad := ad) R.nd hu hm ho
  obtain ⟨R₂, g₃⟩ := R₁.wrG hm hu ho ho' hpp g₂ hb fun m m' st q ha => by
    have hs'' : SlotAt s₂.heap (Or2 F (Mut C σ₁ ad)) (ad y) par' := hs'.stay ⟨fun _ _ _ e => e, fun a z => .inl (z.imp id (sub a))⟩ fun _ e => e
    cases hsn with
    | own => exact ⟨ha _ q.1, q.2.1, hs''⟩
    | io => exact ⟨ha _ q.1, hs''⟩
    | itr => exact ⟨ha _ q.1, hs''⟩
  exact ⟨R₂, g₁.trans g₃, hr.stay ⟨fun _ _ _ e => e, fun a z => .inl (z.imp id (sub a))⟩⟩

/-- a def's body, walked, with one argument written -/
theorem RM.fn {f : Addr} {name : Str} {params : Arguments} {body : List Stmt} {scope : Scope} {n : Nat} {pre post : List (Str × PyData)} {x : Str} {sl sl' : Slot} {vs gl : List Str} {d : PyData} (hf : FnAt H f name params body scope) (hpar : sl.isPar = true)
    (ok : fnOk scope (pre.map (·.1) ++ x :: post.map (·.1)) vs gl = true) (hcn : (scope.names.map (·.1)).Nodup) (hgen : scope.isGenerator = false)
    (hbind : ∀ vals : List Value, vals.length = pre.length + (post.length + 1) → ∀ pm cd doc, bindArgs (Calls.docDef name params body scope pm cd doc) ⟨vals, []⟩ = pure ((pre.map (·.1) ++ x :: post.map (·.1)).zip vals))
    (hpar' : sl'.isPar = true)
    (hbody : ∀ pm cd doc L A a, TriB prog w H (fnCx (Calls.docDef name params body scope pm cd doc) L f A n gl a) (fnσ scope ((pre.map fun p => (p.1, Slot.val p.2)) ++ (x, sl) :: (post.map fun p => (p.1, Slot.val p.2))) vs) body (fun fl σ' => fl = .rt d ∧ ∃ l, (⟨x, l, sl'⟩ : Ent) ∈ σ')) :
    RM prog w H (.ref f) (n + 1) (pre.map (·.2)) (post.map (·.2)) sl sl' d := by
  intro A X s ws us a hA htop hbare hX hXa hHa hws hus hsl
  have l1 : ws.length = pre.length := by have := hws.length; simpa using this
  have l2 : us.length = post.length := by have := hus.length; simpa using this
  have hown : sl.isOwn = true := Slot.isPar_own hpar
  have hnm : ((pre.map fun p => (p.1, Slot.val p.2)) ++ (x, sl) :: (post.map fun p => (p.1, Slot.val p.2))).map (·.1) = pre.map (·.1) ++ x :: post.map (·.1) := by simp [Function.comp_def]
  have own1 : ∀ p ∈ ((pre.map fun p => (p.1, Slot.val p.2)) ++ (x, sl) :: (post.map fun p => (p.1, Slot.val p.2))), p.2.isOwn = true → p.1 = x := fun p hp ho => by
    rcases List.mem_append.mp hp with hp | hp
    · rw [noOwn_vals p hp] at ho; cases ho
    · rcases List.mem_cons.mp hp with rfl | hp
      · rfl
      · rw [noOwn_vals p hp] at ho; cases ho
  refine call_fn (a := a) (n := n) (ps := (pre.map fun p => (p.1, Slot.val p.2)) ++ (x, sl) :: (post.map fun p => (p.1, Slot.val p.2))) (vs := vs) (gl := gl) hf (by rw [hnm]; exact ok) hcn hgen (by simp [l1, l2]) (fun pm cd doc => by rw [hnm]; exact hbind _ (by simp [l1, l2]) pm cd doc) hA htop hbare hX (fun i p v hp hv => ?_)
    (fun p hp q hq h1 h2 => (own1 p hp h1).trans (own1 q hq h2).symm) (fun p hp h => ⟨hXa, hHa⟩) fun pm cd doc L s₁ R k hM => ?_
  · have lp : (pre.map fun p => (p.1, Slot.val p.2)).length = ws.length := by simp [l1]
    rcases Nat.lt_trichotomy i ws.length with h | h | h
    · rw [List.getElem?_append_left (by rw [lp]; exact h)] at hp
      rw [List.getElem?_append_left h] at hv
      exact parOk_vals hws i p v hp hv
    · rw [List.getElem?_append_right (by rw [lp]; lia), lp, h, Nat.sub_self] at hp
      rw [List.getElem?_append_right (by lia), h, Nat.sub_self] at hv
      simp only [List.getElem?_cons_zero, Option.some.injEq] at hp hv
      subst hp hv
      exact .par hsl
    · rw [List.getElem?_append_right (by rw [lp]; lia), lp] at hp
      rw [List.getElem?_append_right (by lia)] at hv
      obtain ⟨j, hj⟩ : ∃ j, i - ws.length = j + 1 := ⟨i - ws.length - 1, by lia⟩
      rw [hj, List.getElem?_cons_succ] at hp hv
      exact parOk_vals hus j p v hp hv
  · refine wpAny_mono ((hbody pm cd doc _ A a).out X _ s₁ R) (fun fl s₂ h => ?_) fun _ _ z => z.elim
    obtain ⟨g, σ', ad', ⟨rfl, l, hm⟩, R₂, g₂, hfl⟩ := h
    cases fl <;> first | exact hfl.elim | skip
    have hown' : sl'.isOwn = true := Slot.isPar_own hpar'
    have hadx : ad' x = a := R₂.pa _ hm hpar'
    have hMa : ∀ b, s.heap.get? b ≠ none → b ≠ a → ¬ Mut (fnCx (Calls.docDef name params body scope pm cd doc) L f A n gl a) (fnσ scope ((pre.map fun p => (p.1, Slot.val p.2)) ++ (x, sl) :: (post.map fun p => (p.1, Slot.val p.2))) vs) (fun _ => a) b := fun b hb hne z => (hM b z).elim hb fun z => hne z.1
    refine ⟨⟨fun b o hn e => g₂.keep b o (hMa b (by rw [e]; exact fun z => nomatch z) hn) (k.heap b o e), fun b o e => g₂.alive b o (k.heap b o e), fun _ z => .inl z, fun m y e => g₂.gens m y (k.gens m y e), g₂.os.trans k.os⟩, R₂.bare, Rd.stay ⟨fun _ _ _ e => e, fun a z => .inl (.inl z)⟩ hfl, ?_⟩
    obtain ⟨m, hns, q⟩ := R₂.ns
    have qs := (q _ hm).slot
    dsimp only at qs
    rw [hadx] at qs
    have st : Stay (Or2 X (Mut (fnCx (Calls.docDef name params body scope pm cd doc) L f A n gl a) σ' ad')) X s₂.heap s₂.heap := ⟨fun _ _ _ e => e, fun a z => .inl (.inl z)⟩
    cases sl' with
    | io ds => exact SlotAt.stay (sl := .io ds) qs.2 st fun _ e => e
    | itr p ds => cases p with | true => exact SlotAt.stay (sl := .itr true ds) qs.2 st fun _ e => e | false => cases hpar'
    | _ => cases hpar'
end
end Mine

end
noncomputable section
open PySem PySem.W PyProof.Rows
set_option maxRecDepth 100000
set_option autoImplicit false
namespace Mine

section
variable {prog : Program} {w : World} {H : Heap} {C : Cx} {F : Addr → Prop} {ad : Str → Addr} {σ σ₁ σ₂ σ₃ σ' : List Ent} {s s₁ s₂ s' : Shared}

/-! ## the tables of the top -/
noncomputable def TabS (prog : Program) (w : World) (H : Heap) (x : Str) (kvs : List (Str × Int)) : Prop :=
  ∃ a vs, Glo H x (.ref a) ∧ H.DictOf (PySem.strKind prog w) a vs ∧ (a == sysModules) = false ∧ RdK H (fun _ => False) vs (kvs.map fun p => (p.1, .int p.2))
theorem getK_map (kvs : List (Str × Int)) (k : Str) : getK (kvs.map fun p => (p.1, PyData.int p.2)) k = (getK kvs k).map .int := by
  unfold getK
  induction kvs with
  | nil => rfl
  | cons p r ih =>
    simp only [List.map_cons, List.find?_cons]
    by_cases h : p.1 = k <;> simp [h] at ih ⊢
    exact ih
theorem TabS.get {vs : List (Str × Value)} {kvs : List (Str × Int)} (hr : RdK H (fun _ => False) vs (kvs.map fun p => (p.1, .int p.2))) (k : Str) : (∃ v t, valueAt vs k = some (.int v t) ∧ getK kvs k = some v) ∨ (valueAt vs k = none ∧ getK kvs k = none) := by
  rcases hr.get k with ⟨v, d, h1, h2, h3⟩ | ⟨h1, h2⟩
  · rw [getK_map] at h2
    obtain ⟨i, hi, rfl⟩ := Option.map_eq_some_iff.mp h2
    cases h3 with
    | int _ t => exact .inl ⟨i, t, h1, hi⟩
  · rw [getK_map] at h2
    exact .inr ⟨h1, by simpa using h2⟩
theorem Tri.itemG {x : Str} {kvs : List (Str × Int)} {i : Expr} {p pos : Pos} {k : Str} {v : Int} (hx : x ∈ C.gl) (T : TabS prog w H x kvs) (hi : Tri prog w H C σ i (.str k) σ₁) (hv : getK kvs k = some v)
    (hs : ∀ o j, subscripted i false o j = operate [o, j] (getItem o j) := by intro _ _; rfl) : Tri prog w H C σ (.Subscript (.Name x p) i pos) (.int v) σ₁ := by
  refine Box.of fun F ad s R => ?_
  obtain ⟨a, vs, hg, hd, hsy, hr⟩ := T
  refine Subscript_ (glo_run R hx hg (wpAny_mono (hi.out F ad s R) (fun kv s₁ y => ?_) fun _ _ z => z))
  obtain ⟨R₁, g₁, hkv⟩ := y
  obtain ⟨t, rfl⟩ := hkv.inv
  have hd₁ := hd.keep R₁.top
  rcases TabS.get hr k with ⟨v', t', h1, h2⟩ | ⟨h1, h2⟩
  · rw [hv] at h2
    injection h2 with h2
    subst h2
    exact tail_any hd₁.typeIs slot_dict_getitem.lookup (wpAny_getItem_of (knd := PySem.strKind prog w) (strKind_is prog w k t) hd₁.mapOf h1 (Aft.then g₁ (Aft.kp R₁ .toks (.int _ _)))) (hs _ _)
  · rw [hv] at h2; cases h2
theorem TriT.inG {x : Str} {kvs : List (Str × Int)} {e : Expr} {p pos : Pos} {k : Str} (hx : x ∈ C.gl) (T : TabS prog w H x kvs) (he : Tri prog w H C σ e (.str k) σ₁) (hm : behindInMarks .In (.Name x p) = false := by rfl) : TriT prog w H C σ (.Compare e [.In] [.Name x p] pos) (getK kvs k).isSome σ₁ := by
  refine Box.of fun F ad s R => ?_
  obtain ⟨a, vs, hg, hd, hsy, hr⟩ := T
  refine wpAny_isTrue_Compare1 (wpAny_mono (he.out F ad s R) (fun kv s₁ y => ?_) fun _ _ z => z) hm
  obtain ⟨R₁, g₁, hkv⟩ := y
  obtain ⟨t, rfl⟩ := hkv.inv
  have hd₁ := hd.keep R₁.top
  refine glo_run R₁ hx hg (wpAny_in_of (knd := PySem.strKind prog w) (strKind_is prog w k t) hsy hd₁.mapOf (wpAny_truthy_bool ⟨?_, Aft.then g₁ (Aft.kp R₁ .toks trivial)⟩))
  rcases TabS.get hr k with ⟨v', t', h1, h2⟩ | ⟨h1, h2⟩ <;> rw [h1, h2] <;> rfl

/-- a table of texts by ints -/
noncomputable def TabI (prog : Program) (w : World) (H : Heap) (x : Str) (kvs : List (Int × Str)) : Prop :=
  ∃ a vs, Glo H x (.ref a) ∧ H.DictOf (PySem.intKind prog w) a vs ∧ (a == sysModules) = false ∧ ∀ k, (∃ v t, valueAt vs k = some (.str v t) ∧ kvs.lookup k = some v) ∨ (valueAt vs k = none ∧ kvs.lookup k = none)
theorem Tri.getGI {x : Str} {kvs : List (Int × Str)} {i e : Expr} {p ap pos : Pos} {k : Int} {d : Str} {pl : Sem Bool} (hx : x ∈ C.gl) (T : TabI prog w H x kvs) (hi : Tri prog w H C σ i (.int k) σ₁) (he : Tri prog w H C σ₁ e (.str d) σ₂)
    (hev : eval (.Call (.Attribute (.Name x p) "get" ap) [i, e] [] pos) C.env = (do
      let ov ← eval (.Name x p) C.env
      standAt ap.atName
      let (f, first) ← holding [ov] (getMethod ov "get" pl)
      callWith pos f first (backTo pos (starEach [i, e] C.env)) []) := by rfl)
    (hs : starEach [i, e] C.env = [(false, eval i C.env), (false, eval e C.env)] := by rfl) : Tri prog w H C σ (.Call (.Attribute (.Name x p) "get" ap) [i, e] [] pos) (.str ((kvs.lookup k).getD d)) σ₂ := by
  refine Box.of fun F ad s R => ?_
  obtain ⟨a, vs, hg, hd, hsy, hr⟩ := T
  refine MethodCall_ (glo_run R hx hg ?_) hev
  have hd₀ := hd.keep R.top
  refine getMethod_builtin hd₀.typeIs PySem.F.plainAttrs_dict PySem.F.slot_dict_get PySem.F.type_dict_get hd₀.mapOf.noDict ?_
  rw [hs]
  refine wpAny_dict_get2 (knd := PySem.intKind prog w) hsy (wpAny_mono (hi.out F ad s R) (fun kv s₁ y => wpAny_mono (he.out F ad s₁ y.1) (fun v s₂ z => ?_) fun _ _ z => z) fun _ _ z => z)
  obtain ⟨R₁, g₁, hk⟩ := y
  obtain ⟨R₂, g₂, hv⟩ := z
  obtain ⟨t, rfl⟩ := hk.inv
  refine ⟨k, _, intKind_is prog w k t, (hd.keep R₂.top).mapOf, Aft.then g₁ (Aft.then g₂ (Aft.kp R₂ .toks ?_))⟩
  rcases hr k with ⟨v', t', h1, h2⟩ | ⟨h1, h2⟩
  · rw [h1, h2]; exact .str _ _
  · rw [h1, h2]; exact hv

/-! a dict display asked at once -/
noncomputable def TriKV (prog : Program) (w : World) (H : Heap) (C : Cx) (σ : List Ent) (ks : List (Option Expr)) (es : List Expr) (kvs : List (Int × Int)) : Prop :=
  Box (∀ F ad s pos, Rep prog w H C F ad σ s → wpAny (model prog w) C.A (evalPairs (pairTrees ks es C.env pos)) (fun vs s' => Aft prog w H C F ad σ s σ s' fun _ => ∃ l : List ((Int × Tok) × (Int × Tok)), vs = l.map (fun p => (Value.int p.1.1 p.1.2, Value.int p.2.1 p.2.2)) ∧ kvs = l.map fun p => (p.1.1, p.2.1)) (fun _ _ => False) s)
theorem TriKV.nil : TriKV prog w H C σ [] [] [] := Box.of fun F ad s pos R => pairTrees_nil_walk (Aft.here R ⟨[], rfl, rfl⟩)
theorem TriKV.cons {k e : Expr} {ks : List (Option Expr)} {es : List Expr} {a b : Int} {kvs : List (Int × Int)} (hk : Tri prog w H C σ k (.int a) σ) (he : Tri prog w H C σ e (.int b) σ) (h : TriKV prog w H C σ ks es kvs) : TriKV prog w H C σ (some k :: ks) (e :: es) ((a, b) :: kvs) := by
  refine Box.of fun F ad s pos R => ?_
  refine pairTrees_cons_walk (wpAny_mono (hk.out F ad s R) (fun kv s₁ y => wpAny_mono (he.out F ad s₁ y.1) (fun v s₂ z => wpAny_mono (h.out F ad s₂ pos z.1) (fun r s₃ u => ?_) fun _ _ z => z) fun _ _ z => z) fun _ _ z => z)
  obtain ⟨R₁, g₁, hkv⟩ := y
  obtain ⟨R₂, g₂, hv⟩ := z
  obtain ⟨R₃, g₃, l, rfl, rfl⟩ := u
  obtain ⟨t, rfl⟩ := hkv.inv
  cases hv with
  | int _ t' => exact ⟨R₃, g₁.trans (g₂.trans g₃), ((a, t), (b, t')) :: l, rfl, rfl⟩
theorem intKeyPairs_map (l : List ((Int × Tok) × (Int × Tok))) : intKeyPairs (l.map fun p => (Value.int p.1.1 p.1.2, Value.int p.2.1 p.2.2)) = l.map fun p => (p.1.1, Value.int p.2.1 p.2.2) := by
  induction l with
  | nil => rfl
  | cons p l ih => simp only [List.map_cons, intKeyPairs, ih]
theorem allIntKeys_map (l : List ((Int × Tok) × (Int × Tok))) : allIntKeys (l.map fun p => (Value.int p.1.1 p.1.2, Value.int p.2.1 p.2.2)) = true := by
  induction l with
  | nil => rfl
  | cons p l ih => simp only [List.map_cons, allIntKeys, ih]
theorem Tri.itemDisp {ks : List (Option Expr)} {es : List Expr} {i : Expr} {dp pos : Pos} {kvs : List (Int × Int)} {k v : Int} (hd : TriKV prog w H C σ ks es kvs) (hall : ks.all (·.isSome) = true) (hl : ks.length = es.length) (h0 : ks ≠ []) (hlen : ks.length ≤ 15) (hn : (kvs.map (·.1)).Nodup)
    (hi : Tri prog w H C σ i (.int k) σ) (hv : kvs.lookup k = some v) (hs : ∀ o j, subscripted i false o j = operate [o, j] (getItem o j) := by intro _ _; rfl) : Tri prog w H C σ (.Subscript (.Dict ks es dp) i pos) (.int v) σ := by
  refine Box.of fun F ad s R => ?_
  have ha := size_none s.heap
  have R₁ := R.forbid (Kp.push (o := ⟨.type "dict", none, .dict #[] 0, #[]⟩) (tk := s.toks)) ha ⟨_, Heap.get?_push_size _ rfl⟩
  have hD : ¬ Mut C σ ad s.heap.objs.size := fun z => R.new _ ha (.inr z)
  have hF : ¬ F s.heap.objs.size := fun z => R.new _ ha (.inl z)
  refine Subscript_ (wpAny_Dict_walk (knd := PySem.intKind prog w) hall hl h0 hlen (wpAny_mono (hd.out _ ad _ dp R₁) (fun vs s₁ y => ?_) fun _ _ z => z.elim))
  obtain ⟨R₂, g₂, l, rfl, rfl⟩ := y
  have hDat : s₁.heap.DictOf (PySem.intKind prog w) s.heap.objs.size [] := Heap.DictOf.at (Heap.DictOf.new s.heap) fun o e => g₂.keep _ o hD e
  refine display_done_int (allIntKeys_map l) (by rw [intKeyPairs_map, List.map_map]; rw [List.map_map] at hn; exact hn) hDat fun h' hD' hs' => ?_
  have hRt : ∀ tk, Rep prog w H C (Or2 F (· = s.heap.objs.size)) ad σ { s₁ with heap := h', toks := tk } := fun tk => R₂.turn (W := (· = s.heap.objs.size)) (fun a o n e => hs'.extBut a o n e) id (fun a z => .inr z) (fun a z => z ▸ hD) (fun a z => z ▸ R.notCell ha) (fun a z => z ▸ R.notH ha) (fun _ z => .inl z)
    (fun a z => by
      by_cases e : a = s.heap.objs.size
      · subst e; obtain ⟨o, _, _, ho, _⟩ := hD'; exact ⟨o, ho⟩
      · exact let ⟨o, q⟩ := R₂.aliveF a z; ⟨o, hs'.extBut a o e q⟩) R₂.cellF
  refine wpAny_mono (hi.out _ ad _ (hRt _)) (fun kv s₂ y => ?_) fun _ _ z => z.elim
  obtain ⟨R₃, g₃, hkv⟩ := y
  obtain ⟨t, rfl⟩ := hkv.inv
  have hD₂ : s₂.heap.DictOf (PySem.intKind prog w) s.heap.objs.size (intKeyPairs (l.map fun p => (Value.int p.1.1 p.1.2, Value.int p.2.1 p.2.2))) := Heap.DictOf.at hD' fun o e => g₃.keep _ o hD e
  obtain ⟨t', hval⟩ : ∃ t', valueAt (intKeyPairs (l.map fun p => (Value.int p.1.1 p.1.2, Value.int p.2.1 p.2.2))) k = some (.int v t') := by
    rw [intKeyPairs_map]
    clear hD₂ hD' hDat hn hd g₂ R₂ hs' hRt R₃ g₃
    induction l with
    | nil => simp at hv
    | cons p l ih =>
      simp only [List.map_cons, List.lookup_cons] at hv
      unfold valueAt
      simp only [List.map_cons, List.find?_cons]
      by_cases e : p.1.1 = k
      · have e' : (k == p.1.1) = true := by simp [e]
        rw [e'] at hv
        simp only [Option.some.injEq] at hv
        simp only [e, decide_true, Option.map_some]
        exact ⟨p.2.2, by rw [hv]⟩
      · have e' : (k == p.1.1) = false := by simpa using fun z => e z.symm
        rw [e'] at hv
        simp only [e, decide_false]
        exact ih hv
  refine tail_any hD₂.typeIs slot_dict_getitem.lookup (wpAny_getItem_of (knd := PySem.intKind prog w) (intKind_is prog w k t) hD₂.mapOf hval ?_) (hs _ _)
  have keep : ∀ a o, s.heap.get? a = some o → a ≠ s.heap.objs.size := fun a o e z => by rw [z, ha] at e; cases e
  refine ⟨(R₃.kp .toks).narrow R, ⟨fun a o n e => g₃.keep a o n (hs'.extBut a o (keep a o e) (g₂.keep a o n (Heap.get?_push_of_some _ e))), fun a o e => ?_, fun _ z => .inl z, fun m x e => g₃.gens m x (g₂.gens m x e), g₃.os.trans g₂.os⟩, .int _ _⟩
  obtain ⟨o', e'⟩ := g₂.alive a o (Heap.get?_push_of_some _ e)
  exact g₃.alive a o' (hs'.extBut a o' (keep a o e) e')
end
end Mine

end
noncomputable section
open PySem PySem.W PyProof.Rows
set_option maxRecDepth 100000
set_option autoImplicit false
namespace Mine

/-! ## a generator's steps -/
section
variable {M : Model} {A : Around} {Φ : End → Shared → Prop} {c : Code} {fs : List Frame} {s : Shared} {env : Env} {K : Flow → Sem Fin} {X : Value → Sem Fin} {gd : Bool → Bool} {lv : List Value → List Value}

/-- run from here, what is come to (an end or a yield) is as Φ says -/
noncomputable def SegP (M : Model) (A : Around) (Φ : End → Shared → Prop) (c : Code) (t : Sem Fin) (fs : List Frame) (s : Shared) : Prop :=
  ∀ Γ p, Γ.code = c → Γ.Woken A → ∃ e s', Runs M Γ p t fs s e s' ∧ Φ e s'

theorem SegP.wrap {α : Type} {m : Sem α} {K : α → Sem Fin} (h : wpAny M (A.over c fs) m (fun a s' => SegP M A Φ c (K a) fs s') (fun _ _ => False) s) : SegP M A Φ c (m.wrap K X gd lv) fs s := by
  rintro Γ p rfl hΓ
  exact runs_wrap_of_wp K X gd lv m (h (Γ.over fs) p (hΓ.over fs)) (fun a p' s' h' => h' Γ p' rfl hΓ) fun _ _ _ h' => h'.elim
theorem bindW {α β : Type} {m : Sem α} {f : α → Sem β} {K : β → Sem Fin} : (m >>= f).wrap K X gd lv = m.wrap (fun a => (f a).wrap K X gd lv) X gd lv := by
  rw [Sem.bind_eq_wrap', Sem.wrap_wrap]; rfl
theorem SegP.bw {α β : Type} {m : Sem α} {f : α → Sem β} {K : β → Sem Fin} (h : wpAny M (A.over c fs) m (fun a s' => SegP M A Φ c ((f a).wrap K X gd lv) fs s') (fun _ _ => False) s) : SegP M A Φ c ((m >>= f).wrap K X gd lv) fs s := by
  rw [bindW]; exact SegP.wrap h
theorem SegP.at {p' : Pos} {k : Unit → Sem Fin} (h : SegP M A Φ c (k ()) fs s) : SegP M A Φ c (.at p' k) fs s :=
  SegP.wrap (m := standAt p') (K := k) (X := .raise) (gd := id) (lv := id) (wpAny_standAt h)
theorem SegP.point {l : List Value} {k : Unit → Sem Fin} (h : SegP M A Φ c (k ()) fs s) : SegP M A Φ c (.point l k) fs s :=
  SegP.wrap (m := PySem.point) (K := k) (X := .raise) (gd := id) (lv := fun _ => l) (wpAny_point h)
theorem SegP.call {c' : Code} {h : Option Value} {g : Bool} {l : List Value} {k : Result → Sem Fin} (hc : ∀ p, SegP M A Φ c' (M.den c') (.ret k h g l c p [] :: fs) s) : SegP M A Φ c (.call c' h g l k) fs s := by
  rintro Γ p rfl hΓ
  obtain ⟨e, s', hr, he⟩ := hc p (Γ.goto c') p rfl (hΓ.goto c')
  exact ⟨e, s', runs_call_seg hr, he⟩
theorem SegP.leaf {k : Result → Sem Fin} {h : Option Value} {g : Bool} {l : List Value} {c₁ : Code} {p₁ : Pos} {kp : List Value} (r : Result) (hk : SegP M A Φ c₁ (k r) fs s) : SegP M A Φ c (leafOf r) (.ret k h g l c₁ p₁ kp :: fs) s := by
  rintro Γ p rfl hΓ
  obtain ⟨e, s', hr, he⟩ := hk (Γ.goto c₁) p₁ rfl (hΓ.goto c₁)
  exact ⟨e, s', Runs.pop r hr, he⟩
theorem SegP.again {c' : Code} (hq : c'.quiet = true) (hc : SegP M A Φ c' (M.den c') fs s) : SegP M A Φ c (.pure (.again c')) fs s := by
  rintro Γ p rfl hΓ
  obtain ⟨e, s', hr, he⟩ := hc (Γ.goto c') p rfl (hΓ.goto c')
  exact ⟨e, s', Runs.head (c₁ := c') (fun _ _ x => .again hq x) hr, he⟩
theorem SegP.fin (r : Result) (h : Φ (.ret r) s) : SegP M A Φ c (leafOf r) [] s := by
  rintro Γ p rfl _
  exact ⟨.ret r, s, Runs.leaf r, h⟩
theorem SegP.yield {v : Value} {g : Bool} {l : List Value} {k : Resume → Sem Fin} (hfs : splitAtGen fs = none) (h : ∀ p, Φ (.susp v g l k c p fs) s) : SegP M A Φ c (.yield v g l k) fs s := by
  rintro Γ p rfl _
  exact ⟨_, s, Runs.yield' fs hfs, h p⟩

theorem SegP.cons {st : Stmt} {rest : List Stmt} (h : SegP M A Φ c ((exec st env).wrap (fun f => match f with | .next => (execs rest env).wrap K X gd lv | f => K f) X gd lv) fs s) : SegP M A Φ c ((execs (st :: rest) env).wrap K X gd lv) fs s := by
  rw [execs_cons_wrap]; exact h
theorem SegP.nil (h : SegP M A Φ c (K .next) fs s) : SegP M A Φ c ((execs [] env).wrap K X gd lv) fs s := h
theorem SegP.Yield {e : Expr} {ypos pos : Pos} (hfs : splitAtGen fs = none) (h : wpAny M (A.over c fs) (eval e env) (fun v s' => ∀ l k p, k (.send .none) = K .next → Φ (.susp v (gd false) l k c p fs) s') (fun _ _ => False) s)
    (hco : env.scope.isCoroutine = false := by rfl) (hi : interactive env = false := by rfl) : SegP M A Φ c ((exec (.Expr (.Yield (some e) ypos) pos) env).wrap K X gd lv) fs s := by
  rw [exec_Expr env _ pos hi rfl]
  show SegP M A Φ c (.at pos fun _ => ((eval e env >>= fun v => (standAt ypos >>= fun _ => yieldOut env v)) >>= fun x => dropValue (.Yield (some e) ypos) pos x).wrap K X gd lv) fs s
  have hy : ∀ v, yieldOut env v = yieldValue v := fun v => by simp only [yieldOut, hco, Bool.false_eq_true, if_false]
  simp only [hy]
  refine SegP.at ?_
  rw [Sem.bind_eq_wrap', Sem.bind_eq_wrap', Sem.wrap_wrap, Sem.wrap_wrap]
  refine SegP.wrap (wpAny_mono h (fun v s' h' => ?_) fun _ _ x => x)
  exact SegP.at (SegP.yield hfs fun p => h' _ _ p rfl)
theorem SegP.If {test : Expr} {b o : List Stmt} {pos : Pos} (h : wpAny M (A.over c fs) (isTrue test env (eval test env)) (fun r s' => SegP M A Φ c ((execs (if r then b else o) env).wrap K X gd lv) fs s') (fun _ _ => False) s) : SegP M A Φ c ((exec (.If test b o pos) env).wrap K X gd lv) fs s := by
  rw [exec_If]
  refine SegP.bw (wpAny_standAt (SegP.bw (wpAny_mono h (fun r s' h' => ?_) fun _ _ x => x)))
  cases r <;> exact h'
theorem SegP.For {tgt it : Expr} {b o : List Stmt} {pos : Pos} (h : wpAny M (A.over c fs) (eval it env) (fun x s₁ => wpAny M (A.over c fs) (pyIter x) (fun itv s₂ => ∀ p l (k : Result → Sem Fin), (∀ f, k (.ok f) = K f) →
      SegP M A Φ (.forLoop tgt itv b o env) (M.den (.forLoop tgt itv b o env)) (.ret k none (gd false) l c p [] :: fs) s₂) (fun _ _ => False) s₁) (fun _ _ => False) s)
    (hs : ∀ x, foldedSetIterable it env x = pure x := by intro _; rfl) : SegP M A Φ c ((exec (.For tgt it b o pos) env).wrap K X gd lv) fs s := by
  rw [exec_For]
  refine SegP.bw (wpAny_standAt (SegP.bw (wpAny_mono h (fun x s₁ h₁ => ?_) fun _ _ x => x)))
  refine SegP.bw (wpAny_of_eq (hs x) (SegP.bw (wpAny_standAt (SegP.bw (wpAny_holding (wpAny_mono h₁ (fun itv s₂ h₂ => ?_) fun _ _ x => x))))))
  unfold runOwn
  exact SegP.call fun p => h₂ p _ _ fun f => rfl
end

section
variable {prog : Program} {w : World} {A : Around} {Φ : End → Shared → Prop} {c : Code} {fs : List Frame} {s : Shared} {env : Env}

noncomputable def forK (tgt : Expr) (it : Value) (b o : List Stmt) (env : Env) : Flow → Sem Fin
  | .next | .cont => .pure (.again (.forLoop tgt it b o env))
  | .brk => .pure (.done .next)
  | .ret v => .pure (.done (.ret v))
theorem SegP.forLoop {tgt : Expr} {it : Value} {b o : List Stmt} (h : wpAny (model prog w) (A.over (.forLoop tgt it b o env) fs) (pyNext it) (fun r s₁ => match r with
      | none => SegP (model prog w) A Φ (.block o env) ((model prog w).den (.block o env)) fs s₁
      | some v => wpAny (model prog w) (A.over (.forLoop tgt it b o env) fs) (letOwnedTupleGo tgt it v) (fun _ s₂ => wpAny (model prog w) (A.over (.forLoop tgt it b o env) fs) (assign tgt env v) (fun _ s₃ =>
          ∀ X, SegP (model prog w) A Φ (.forLoop tgt it b o env) ((execs b env).wrap (forK tgt it b o env) X id id) fs s₃) (fun _ _ => False) s₂) (fun _ _ => False) s₁) (fun _ _ => False) s) :
    SegP (model prog w) A Φ (.forLoop tgt it b o env) ((model prog w).den (.forLoop tgt it b o env)) fs s := by
  show SegP _ A Φ _ ((forTurn tgt it b o env).onRaise _) fs s
  rw [Sem.onRaise_eq_wrap]
  unfold forTurn
  refine SegP.bw (wpAny_standAt (SegP.bw (wpAny_onRaise (wpAny_mono h (fun r s₁ h₁ => ?_) fun _ _ x => x.elim))))
  cases r with
  | none => exact SegP.again rfl h₁
  | some v =>
    refine SegP.bw (wpAny_mono h₁ (fun _ s₂ h₂ => SegP.bw (wpAny_mono h₂ (fun _ s₃ h₃ => ?_) fun _ _ x => x)) fun _ _ x => x)
    rw [bindW]
    rw [Sem.wrap_congr (execs b env) _ _ (K' := forK tgt it b o env) (fun f => by cases f <;> rfl) (fun _ => rfl)]
    exact h₃ _
theorem SegP.func {body : List Stmt} (h : ∀ X, SegP (model prog w) A Φ (.func body env) ((execs body env).wrap (fun f => .pure (.done (.ret (match f with | .ret v => v | _ => .none)))) X id id) fs s) :
    SegP (model prog w) A Φ (.func body env) ((model prog w).den (.func body env)) fs s := by
  show SegP _ A Φ _ (.point [] fun _ => ((execs body env).onRaise (leaving env)) >>= _) fs s
  refine SegP.point ?_
  rw [Sem.onRaise_eq_wrap, Sem.bind_eq_wrap', Sem.wrap_wrap]
  rw [Sem.wrap_congr (execs body env) _ _ (K' := fun f => .pure (.done (.ret (match f with | .ret v => v | _ => .none)))) (fun f => by cases f <;> rfl) (fun _ => rfl)]
  exact h _
end

/-! ## resuming -/
noncomputable def GoesP (M : Model) (A : Around) (Φ : End → Shared → Prop) (gs : GenState) (s : Shared) : Prop := match gs with
  | .fresh c => SegP M A Φ c (M.den c) [] s
  | .suspended k _ c _ fs _ => SegP M A Φ c (k (.send .none)) fs s
  | _ => False
theorem resumeP {M : Model} {A : Around} {Φ : End → Shared → Prop} {E : Value → Shared → Prop} {s : Shared} {g : Nat} {gs : GenState} {l : List Value} {α : Type} {k : GenResult → Sem α} {Q : α → Shared → Prop} (hg : s.gens[g]? = some gs)
    (hgo : GoesP M A Φ gs (s.setGen g .running)) (hΦ : ∀ e s₁, Φ e s₁ → e.quiet = true ∧ wpAny M A (k e.result) Q E (s₁.setGen g e.genState)) : wpAny M A (.resume g (.send .none) l k) Q E s := by
  intro Γ p hΓ
  rw [Sem.wp_resume]
  cases gs with
  | fresh c =>
    obtain ⟨e₁, s₁, hr, he⟩ := hgo (Γ.wake c p) p rfl (hΓ.wake c p)
    exact ⟨_, _, by unfold Wakes; rw [hg]; exact ⟨e₁, s₁, hr, (hΦ e₁ s₁ he).1, rfl, rfl⟩, (hΦ e₁ s₁ he).2 Γ p hΓ⟩
  | suspended k₀ l₀ c₀ p₀ fs₀ cl =>
    obtain ⟨e₁, s₁, hr, he⟩ := hgo (Γ.wake c₀ p) p₀ rfl (hΓ.wake c₀ p)
    exact ⟨_, _, by unfold Wakes; rw [hg]; exact ⟨e₁, s₁, hr, (hΦ e₁ s₁ he).1, rfl, rfl⟩, (hΦ e₁ s₁ he).2 Γ p hΓ⟩
  | running => exact hgo.elim
  | finished => exact hgo.elim

section
variable {prog : Program} {w : World} {A : Around} {Φ : End → Shared → Prop} {s : Shared}
theorem pyNextP {a : Addr} {g : Nat} {gs : GenState} {Q : Option Value → Shared → Prop} {E : Value → Shared → Prop} (hh : A.handled = none) (hl : s.heap.NoLimit) (hroom : A.depth < recursionLimit) (hg : s.heap.IsGen a g) (hgs : s.gens[g]? = some gs)
    (hgo : GoesP (model prog w) A.in1 Φ gs (s.setGen g .running))
    (hΦ : ∀ e s₁, Φ e s₁ → e.quiet = true ∧ match e with
      | .ret r => r = .ok (.ret .none) ∧ ∀ h', (∀ b o, s₁.heap.get? b = some o → h'.get? b = some o) → Q none { s₁.setGen g .finished with heap := h' }
      | .susp v g₀ l k c p fs => Q (some v) (s₁.setGen g (End.susp v g₀ l k c p fs).genState)) :
    wpAny (model prog w) A (pyNext (.ref a)) Q E s := by
  unfold pyNext
  refine wpAny_bind (wpAny_attempt (wpAny_callSpecial?_slot (name := Str.ofString "__next__") hg.typeIs slot_gen_next
    (wpAny_call_entry slot_gen_next hg.typeIs entry_gen_next ?_ (args_gen_next _))))
  show wpAny _ A.in1 (Builtin.Generator.genWake (.ref a) (.send .none)) _ _ s
  unfold Builtin.Generator.genWake
  refine wpAny_bind (wpAny_holding (wpAny_genNumber hg (wpAny_bind (wpAny_genState hgs ?_))))
  cases gs with
  | running => exact hgo.elim
  | finished => exact hgo.elim
  | _ =>
    refine wpAny_bind (wpAny_roomToWake hl hroom ?_)
    show wpAny _ A.in1 (.resume g (.send .none) [] _) _ _ s
    refine resumeP hgs hgo fun e s₁ he => ⟨(hΦ e s₁ he).1, ?_⟩
    have h2 := (hΦ e s₁ he).2
    cases e with
    | ret r =>
      obtain ⟨rfl, hp⟩ := h2
      show wpAny _ A.in1 (newExc (.type "StopIteration") [] >>= _) _ _ _
      refine wpAny_bind ?_
      simp only [newExc, newTuple]
      refine wpAny_bind (wpAny_newObj_type ?_ (by size_fits))
      refine wpAny_bind (m := firstArgMember _ _) (wpAny_of_eq (a := Value.none) (by first | rfl | (simp only [firstArgMember]; rfl)) ?_)
      refine wpAny_newObj_type ?_ (by size_fits)
      simp only [raiseNew]
      refine wpAny_bind (wpAny_bind (wpAny_handled ?_))
      first | rw [show A.in1.handled = none from hh] | rw [hh]
      refine wpAny_throw ?_
      refine wpAny_bind (wpAny_isInstance (T := "StopIteration") (b := true) ⟨_, Heap.get?_push_size _ rfl, rfl⟩ isSubtype_stop ?_)
      exact wpAny_pure (hp _ fun b o hb => Heap.get?_push_of_some _ (Heap.get?_push_of_some _ hb))
    | susp v g₀ l k c p fs => exact wpAny_pure ⟨v, rfl, wpAny_pure h2⟩
end
end Mine

end
noncomputable section
open PySem PySem.W PyProof.Rows
set_option maxRecDepth 100000
set_option autoImplicit false
namespace Mine

noncomputable abbrev Alive (s : Shared) : Addr → Prop := fun a => ∃ o, s.heap.get? a = some o
theorem alive_or (s : Shared) (a : Addr) : Alive s a ∨ s.heap.get? a = none := by
  cases e : s.heap.get? a with
  | none => exact .inr rfl
  | some o => exact .inl ⟨o, e⟩
/-- from a yield on to the next waking: what the generator owns stays -/
structure Wak (H : Heap) (W : Addr → Prop) (s s' : Shared) : Prop where
  keep : ∀ a o, W a → s.heap.get? a = some o → s'.heap.get? a = some o
  top : ∀ b o, H.get? b = some o → s'.heap.get? b = some o
  bare : AllBare s'.gens
inductive EndC (W : Addr → Prop) (s₀ : Shared) (d : PyData) (N : Shared → (Addr → Prop) → Code → (Resume → Sem Fin) → List Frame → Prop) (e : End) (s' : Shared) : Prop
  | mk (v : Value) (l : List Value) (k : Resume → Sem Fin) (c : Code) (p : Pos) (fs : List Frame) (W' : Addr → Prop) (he : e = .susp v false l k c p fs) (hf : fs.any Frame.guarded = false) (up : ∀ a, W a → W' a) (dn : ∀ a, W' a → W a ∨ s₀.heap.get? a = none)
    (al : ∀ a, W' a → Alive s' a) (st : Stp W (fun _ => False) s₀ s') (rd : ∀ X, New X s₀ → Rd s'.heap (Or2 X W') v d) (go : N s' W' c k fs)
noncomputable def EndP (M : Model) (H : Heap) (A : Around) : List PyData → (Addr → Prop) → Shared → End → Shared → Prop
  | [], W, s₀, e, s' => e = .ret (.ok (.ret .none)) ∧ Stp W (fun _ => False) s₀ s'
  | d :: ds, W, s₀, e, s' => EndC W s₀ d (fun s' W' c k fs => ∀ s'', Wak H W' s' s'' → SegP M A (EndP M H A ds W' s'') c (k (.send .none)) fs s'') e s'
inductive StGP (M : Model) (H : Heap) (A : Around) (ga : Addr) (g : Nat) (ds : List PyData) (W X : Addr → Prop) (s : Shared) : Prop
  | mk (W₀ : Addr → Prop) (hW : ∀ a, W a ↔ a = ga ∨ W₀ a) (hn : ¬ W₀ ga) (hl : ∀ a, W₀ a → Alive s a) (hg : s.heap.IsGen ga g) (gs : GenState) (hgs : s.gens[g]? = some gs) (hgo : ∀ s'', Wak H W₀ s s'' → GoesP M A (EndP M H A ds W₀ s'') gs s'')
noncomputable abbrev StG (M : Model) (H : Heap) (A : Around) (ga : Addr) (g : Nat) : StT := StGP M H A ga g

section
variable {prog : Program} {w : World} {H : Heap} {A : Around} {s : Shared}

theorem letGo_gen {tgt : Expr} (ht : ttAny tgt) {ga : Addr} {g : Nat} {v : Value} {Q : Unit → Shared → Prop} {E : Value → Shared → Prop} (hg : s.heap.IsGen ga g) (h : Q () s) : wpAny (model prog w) A (letOwnedTupleGo tgt (.ref ga) v) Q E s := by
  rcases ht with ⟨x, p, rfl⟩ | ⟨es, k, p, rfl⟩
  · exact letGo_name h
  · cases v with
    | ref T =>
      obtain ⟨o, nm, qn, ho, hc, hd, _⟩ := hg
      unfold letOwnedTupleGo
      refine wpAny_bind (wpAny_load ho ?_)
      rw [hc, hd]
      show wpAny _ A (if (["enumerate", "zip", "dict_itemiterator", "dict_reverseitemiterator", "odict_iterator", "itertools.zip_longest", "itertools.pairwise"].contains "generator" &&
          (#[.int g 0, nm, qn] : Array Value)[0]? == some (rawInt T)) = true then _ else _) Q E s
      rw [if_neg (by
        intro h
        rw [show (["enumerate", "zip", "dict_itemiterator", "dict_reverseitemiterator", "odict_iterator", "itertools.zip_longest", "itertools.pairwise"].contains "generator") = false from by decide, Bool.false_and] at h
        cases h)]
      exact wpAny_pure h
    | _ => exact wpAny_pure h

theorem setGen_other {s : Shared} {g k : Nat} {x : GenState} (h : k ≠ g) : (s.setGen g x).gens[k]? = s.gens[k]? := (GenOnly.setGen s g x).2 k h
theorem setGen_bare {s : Shared} {g : Nat} {x y : GenState} (hg : s.gens[g]? = some y) (hx : x.bare = true) (hb : AllBare s.gens) : AllBare (s.setGen g x).gens := by
  have := GenOnlyQ.of (GenOnly.setGen s g x) (setGen_self hg) hx
  exact this.bare hb

theorem Wk.gen {ga : Addr} {g : Nat} (hlim : H.NoLimit) (hh : A.handled = none) (hroom : A.depth < recursionLimit) : Wk prog w H A (.ref ga) (fun n => n = g) ttAny (StG (model prog w) H A.in1 ga g) where
  live ds W X s st a ha := by
    obtain ⟨W₀, hW, hn, hl, ⟨o, _, _, ho, _⟩, _⟩ := st
    rcases (hW a).mp ha with rfl | z
    · exact ⟨o, ho⟩
    · exact hl a z
  frame ds W X X' s s' st k kw kg := by
    obtain ⟨W₀, hW, hn, hl, hg, gs, hgs, hgo⟩ := st
    refine ⟨W₀, hW, hn, fun a z => let ⟨o, e⟩ := hl a z; ⟨o, kw a o ((hW a).mpr (.inr z)) e⟩, ?_, gs, kg g gs rfl hgs, fun s'' wk => hgo s'' ⟨fun a o z e => wk.keep a o z (kw a o ((hW a).mpr (.inr z)) e), wk.top, wk.bare⟩⟩
    obtain ⟨o, nm, qn, ho, r⟩ := hg
    exact ⟨o, nm, qn, kw ga o ((hW ga).mpr (.inl rfl)) ho, r⟩
  item d ds W X s st hWX hN hb htop := by
    obtain ⟨W₀, hW, hn, hl, hg, gs, hgs, hgo⟩ := st
    have hgr : (s.setGen g .running).gens[g]? = some GenState.running := setGen_self hgs
    refine pyNextP hh (hlim.keeps htop) hroom hg hgs (hgo _ ⟨fun _ _ _ e => e, htop, setGen_bare hgs rfl hb⟩) fun e s₁ he => ?_
    obtain ⟨v, l, k, c, p, fs, W', rfl, hq, up, dn, lv, st, hr, hgo'⟩ := he
    have hg₁ : s₁.gens[g]? = some GenState.running := st.gens g _ (fun z => z) hgr
    have hga : ¬ W' ga := fun z => (dn ga z).elim hn fun e => by obtain ⟨o, _, _, ho, _⟩ := hg; rw [show s.heap.get? ga = none from e] at ho; cases ho
    have keep : ∀ a o, ¬ W₀ a → s.heap.get? a = some o → s₁.heap.get? a = some o := st.heap
    have hgen : s₁.heap.IsGen ga g := by obtain ⟨o, nm, qn, ho, r⟩ := hg; exact ⟨o, nm, qn, keep ga o hn ho, r⟩
    refine ⟨by simp [End.quiet, hq], v, fun a => a = ga ∨ W' a, rfl, fun a z => ((hW a).mp z).imp id (up a), fun a z => z.elim (fun z => .inl ((hW a).mpr (.inl z))) fun z => (dn a z).imp (fun z => (hW a).mpr (.inr z)) id, ?_, fun tgt ht => ?_⟩
    · exact ⟨fun a o n e => keep a o (fun z => n ((hW a).mpr (.inr z))) e, fun n x hne e => by
        have hne : n ≠ g := hne
        rw [setGen_other hne]
        exact st.gens n x (fun z => z) (by rw [setGen_other hne]; exact e), fun _ => setGen_bare hg₁ (by simp [End.genState, GenState.bare, hq]) (st.bare (setGen_bare hgs rfl hb)), st.os⟩
    · refine letGo_gen (s := s₁.setGen g (End.susp v false l k c p fs).genState) ht hgen ⟨.of fun _ _ _ e => e, ⟨W', fun _ => Iff.rfl, hga, lv, hgen, _, setGen_self hg₁, fun s'' wk => hgo' s'' ⟨wk.keep, wk.top, wk.bare⟩⟩, ?_⟩
      exact (hr X hN).stay ⟨fun _ _ _ e => e, fun a z => by
        rcases z with z | z | z
        · exact .inl (.inl z)
        · exact .inl (.inl (z ▸ hWX ga ((hW ga).mpr (.inl rfl))))
        · exact .inl (.inr z)⟩
  done W X s st hWX hN hb htop := by
    obtain ⟨W₀, hW, hn, hl, hg, gs, hgs, hgo⟩ := st
    refine pyNextP hh (hlim.keeps htop) hroom hg hgs (hgo _ ⟨fun _ _ _ e => e, htop, setGen_bare hgs rfl hb⟩) fun e s₁ he => ?_
    obtain ⟨rfl, st⟩ := he
    have hg₁ : s₁.gens[g]? = some GenState.running := st.gens g _ (fun z => z) (setGen_self hgs)
    refine ⟨rfl, rfl, fun h' hk => ⟨rfl, ?_⟩⟩
    exact ⟨fun a o n e => hk a o (st.heap a o (fun z => n ((hW a).mpr (.inr z))) e), fun n x hne e => by
      have hne : n ≠ g := hne
      show (s₁.setGen g .finished).gens[n]? = some x
      rw [setGen_other hne]
      exact st.gens n x (fun z => z) (by rw [setGen_other hne]; exact e), fun _ => setGen_bare hg₁ rfl (st.bare (setGen_bare hgs rfl hb)), st.os⟩
  self ds W X s Q E st h := by obtain ⟨_, _, _, _, hg, _, _, _⟩ := st; exact wpAny_pyIter_gen hg h
end
end Mine

end
noncomputable section
open PySem PySem.W PyProof.Rows
set_option maxRecDepth 100000
set_option autoImplicit false
namespace Mine

/-! the defs of the text, by their places -/
noncomputable abbrev FnK (H : Heap) (f : Addr) (k : Nat) : Prop := FnAt H f (sName (stm k)) (sParams (stm k)) (sBody (stm k)) (sScope (stm k))
/-- the frame of a def's body, said without its parts -/
noncomputable def FnC (C : Cx) (f : Addr) (k n : Nat) (gl : List Str) : Prop := (sScope (stm k)).kind = .function ∧ ∃ pm cd doc L A a, C = fnCx (Calls.docDef (sName (stm k)) (sParams (stm k)) (sBody (stm k)) (sScope (stm k)) pm cd doc) L f A n gl a
theorem FnC.mem {C : Cx} {f : Addr} {k n : Nat} {gl : List Str} {x : Str} (h : FnC C f k n gl) (hx : x ∈ gl) : x ∈ C.gl := by
  obtain ⟨_, pm, cd, doc, L, A, a, rfl⟩ := h; exact hx
theorem FnC.le {C : Cx} {f : Addr} {k n m : Nat} {gl : List Str} (h : FnC C f k n gl) (hm : m ≤ n) : m ≤ C.n := by
  obtain ⟨_, pm, cd, doc, L, A, a, rfl⟩ := h; exact hm
theorem FnC.fr {C : Cx} {f : Addr} {k n : Nat} {gl : List Str} (h : FnC C f k n gl) : C.fr = true := by
  obtain ⟨_, pm, cd, doc, L, A, a, rfl⟩ := h; rfl
theorem FnC.int {C : Cx} {f : Addr} {k n : Nat} {gl : List Str} (h : FnC C f k n gl) : interactive C.env = false := by
  obtain ⟨hk, pm, cd, doc, L, A, a, rfl⟩ := h
  show ((sScope (stm k)).kind == .module && _) = false
  rw [hk]; rfl
theorem FnC.kid {C : Cx} {f : Addr} {k n : Nat} {gl : List Str} {sc : Scope} {fr vs gs : List Str} (h : FnC C f k n gl)
    (e : ∀ pm cd doc L A a, kidOk (fnCx (Calls.docDef (sName (stm k)) (sParams (stm k)) (sBody (stm k)) (sScope (stm k)) pm cd doc) L f A n gl a) sc fr vs gs = true) : KidOk C sc fr vs gs := by
  obtain ⟨_, pm, cd, doc, L, A, a, rfl⟩ := h; exact KidOk.of (e pm cd doc L A a)
theorem one_of {α : Type} {l : List α} (h : l.length = 1) : ∃ a, l = [a] := List.length_eq_one_iff.mp h
theorem two_of {α : Type} {l : List α} (h : l.length = 2) : ∃ a b, l = [a, b] := by
  cases l with
  | nil => cases h
  | cons a l => obtain ⟨b, rfl⟩ := one_of (Nat.succ.inj h); exact ⟨a, b, rfl⟩
theorem three_of {α : Type} {l : List α} (h : l.length = 3) : ∃ a b c, l = [a, b, c] := by
  cases l with
  | nil => cases h
  | cons a l => obtain ⟨b, c, rfl⟩ := two_of (Nat.succ.inj h); exact ⟨a, b, c, rfl⟩
theorem four_of {α : Type} {l : List α} (h : l.length = 4) : ∃ a b c d, l = [a, b, c, d] := by
  cases l with
  | nil => cases h
  | cons a l => obtain ⟨b, c, d, rfl⟩ := three_of (Nat.succ.inj h); exact ⟨a, b, c, d, rfl⟩
section
variable {prog : Program} {w : World} {H : Heap} {f : Addr} {k n : Nat} {vs gl : List Str}
theorem RC.fk {ps : List (Str × PyData)} {d : PyData} (hf : FnK H f k) (ok : fnOk (sScope (stm k)) (ps.map (·.1)) vs gl = true) (hcn : ((sScope (stm k)).names.map (·.1)).Nodup) (hgen : (sScope (stm k)).isGenerator = false)
    (hbind : ∀ vals : List Value, vals.length = ps.length → ∀ pm cd doc, bindArgs (Calls.docDef (sName (stm k)) (sParams (stm k)) (sBody (stm k)) (sScope (stm k)) pm cd doc) ⟨vals, []⟩ = pure ((ps.map (·.1)).zip vals))
    (hbody : ∀ C, FnC C f k n gl → TriB prog w H C (fnσ (sScope (stm k)) (ps.map fun p => (p.1, Slot.val p.2)) vs) (sBody (stm k)) (fun fl _ => fl = .rt d)) : RC prog w H (.ref f) (n + 1) (ps.map (·.2)) d :=
  RC.fn hf ok hcn hgen hbind fun pm cd doc L A => hbody _ ⟨(FnOk.of ok).kind, pm, cd, doc, L, A, 0, rfl⟩
theorem RF.fk {ps : List (Str × PyData)} {ds : List PyData} (hf : FnK H f k) (ok : fnOk (sScope (stm k)) (ps.map (·.1)) vs gl = true) (hcn : ((sScope (stm k)).names.map (·.1)).Nodup) (hgen : (sScope (stm k)).isGenerator = false)
    (hbind : ∀ vals : List Value, vals.length = ps.length → ∀ pm cd doc, bindArgs (Calls.docDef (sName (stm k)) (sParams (stm k)) (sBody (stm k)) (sScope (stm k)) pm cd doc) ⟨vals, []⟩ = pure ((ps.map (·.1)).zip vals))
    (hbody : ∀ C, FnC C f k n gl → TriG prog w H C (fnσ (sScope (stm k)) (ps.map fun p => (p.1, Slot.val p.2)) vs) (sBody (stm k)) ds) : RF prog w H (.ref f) (n + 1) (ps.map (·.2)) ds :=
  RF.fn hf ok hcn hgen hbind fun pm cd doc L A => hbody _ ⟨(FnOk.of ok).kind, pm, cd, doc, L, A, 0, rfl⟩
theorem RM.fk {pre post : List (Str × PyData)} {x : Str} {sl sl' : Slot} {d : PyData} (hf : FnK H f k) (hpar : sl.isPar = true) (ok : fnOk (sScope (stm k)) (pre.map (·.1) ++ x :: post.map (·.1)) vs gl = true) (hcn : ((sScope (stm k)).names.map (·.1)).Nodup) (hgen : (sScope (stm k)).isGenerator = false)
    (hbind : ∀ vals : List Value, vals.length = pre.length + (post.length + 1) → ∀ pm cd doc, bindArgs (Calls.docDef (sName (stm k)) (sParams (stm k)) (sBody (stm k)) (sScope (stm k)) pm cd doc) ⟨vals, []⟩ = pure ((pre.map (·.1) ++ x :: post.map (·.1)).zip vals))
    (hpar' : sl'.isPar = true)
    (hbody : ∀ C, FnC C f k n gl → TriB prog w H C (fnσ (sScope (stm k)) ((pre.map fun p => (p.1, Slot.val p.2)) ++ (x, sl) :: (post.map fun p => (p.1, Slot.val p.2))) vs) (sBody (stm k)) (fun fl σ' => fl = .rt d ∧ ∃ l, (⟨x, l, sl'⟩ : Ent) ∈ σ')) :
    RM prog w H (.ref f) (n + 1) (pre.map (·.2)) (post.map (·.2)) sl sl' d :=
  RM.fn hf hpar ok hcn hgen hbind hpar' fun pm cd doc L A a => hbody _ ⟨(FnOk.of ok).kind, pm, cd, doc, L, A, a, rfl⟩
end

section
variable {prog : Program} {w : World} {A : Around} {s : Shared} {E : Value → Shared → Prop}
/-- a text's iterator that has come to its end is still there -/
theorem ascii_end {it : Addr} {x : Str} {t : Tok} {i : Nat} {Q : Value → Shared → Prop} (hh : A.handled = none) (hit : s.heap.IsStrIter it "str_ascii_iterator" x t i) (hx : x.cps[i]? = none)
    (hE : ∀ h' e, Heap.ExtBut it s.heap h' → (∃ o, h'.get? it = some o) → (∃ o, h'.get? e = some o ∧ o.cls = .type "StopIteration") → E (.ref e) { s with heap := h' }) :
    wpAny (model prog w) A (Builtin.SmallTypes.nextOf (.ref it)) Q E s := by
  obtain ⟨o, ho, hc, hd⟩ := id hit
  unfold Builtin.SmallTypes.nextOf
  refine wpAny_bind (wpAny_callSpecial?_slot (name := Str.ofString "__next__") hit.typeIs F.slot_str_ascii_iterator_next (wpAny_call_entry F.slot_str_ascii_iterator_next hit.typeIs F.entry_str_ascii_iterator_next ?_ (F.args_str_ascii_iterator_next_1 _)))
  show wpAny _ _ (field (.ref it) 0 >>= _) _ _ s
  refine wpAny_bind (wpAny_field ho hd (x := .str x t) rfl ?_)
  show wpAny _ _ (field (.ref it) 1 >>= _) _ _ s
  refine wpAny_bind (wpAny_field ho hd (x := .int i 0) rfl ?_)
  simp only [Int.toNat_natCast, hx]
  refine wpAny_bind (wpAny_rule (wpAny_bind (wpAny_setField ho hd (by simp) (wpAny_bind (wpAny_letGo ?_)))))
  show wpAny _ _ (newExc (.type "StopIteration") [] >>= _) _ _ _
  refine wpAny_bind ?_
  simp only [newExc, newTuple]
  refine wpAny_bind (wpAny_newObj_type ?_ (by size_fits))
  refine wpAny_bind (m := firstArgMember _ _) (wpAny_of_eq (a := Value.none) (by first | rfl | (simp only [firstArgMember]; rfl)) ?_)
  refine wpAny_newObj_type ?_ (by size_fits)
  simp only [raiseNew]
  refine wpAny_bind (wpAny_handled ?_)
  first | rw [show A.in1.handled = none from hh] | rw [hh]
  refine wpAny_bind (wpAny_pure (wpAny_throw ?_))
  refine hE _ _ (((Heap.SameBut.update ..).extBut.push _).push _) ⟨_, Heap.get?_push_of_some _ (Heap.get?_push_of_some _ (Heap.get?_update_self _ ho (Obj.isFreed_of_fields (Obj.data_mapFields hd _))))⟩ ⟨_, Heap.get?_push_size _ rfl, rfl⟩
theorem wide_end {it : Addr} {x : Str} {t : Tok} {i : Nat} {Q : Value → Shared → Prop} (hh : A.handled = none) (hit : s.heap.IsStrIter it "str_iterator" x t i) (hx : x.cps[i]? = none)
    (hE : ∀ h' e, Heap.ExtBut it s.heap h' → (∃ o, h'.get? it = some o) → (∃ o, h'.get? e = some o ∧ o.cls = .type "StopIteration") → E (.ref e) { s with heap := h' }) :
    wpAny (model prog w) A (Builtin.SmallTypes.nextOf (.ref it)) Q E s := by
  obtain ⟨o, ho, hc, hd⟩ := id hit
  unfold Builtin.SmallTypes.nextOf
  refine wpAny_bind (wpAny_callSpecial?_slot (name := Str.ofString "__next__") hit.typeIs F.slot_str_iterator_next (wpAny_call_entry F.slot_str_iterator_next hit.typeIs F.entry_str_iterator_next ?_ (F.args_str_iterator_next_1 _)))
  show wpAny _ _ (field (.ref it) 0 >>= _) _ _ s
  refine wpAny_bind (wpAny_field ho hd (x := .str x t) rfl ?_)
  show wpAny _ _ (field (.ref it) 1 >>= _) _ _ s
  refine wpAny_bind (wpAny_field ho hd (x := .int i 0) rfl ?_)
  simp only [Int.toNat_natCast, hx]
  refine wpAny_bind (wpAny_rule (wpAny_bind (wpAny_setField ho hd (by simp) (wpAny_bind (wpAny_letGo ?_)))))
  show wpAny _ _ (newExc (.type "StopIteration") [] >>= _) _ _ _
  refine wpAny_bind ?_
  simp only [newExc, newTuple]
  refine wpAny_bind (wpAny_newObj_type ?_ (by size_fits))
  refine wpAny_bind (m := firstArgMember _ _) (wpAny_of_eq (a := Value.none) (by first | rfl | (simp only [firstArgMember]; rfl)) ?_)
  refine wpAny_newObj_type ?_ (by size_fits)
  simp only [raiseNew]
  refine wpAny_bind (wpAny_handled ?_)
  first | rw [show A.in1.handled = none from hh] | rw [hh]
  refine wpAny_bind (wpAny_pure (wpAny_throw ?_))
  refine hE _ _ (((Heap.SameBut.update ..).extBut.push _).push _) ⟨_, Heap.get?_push_of_some _ (Heap.get?_push_of_some _ (Heap.get?_update_self _ ho (Obj.isFreed_of_fields (Obj.data_mapFields hd _))))⟩ ⟨_, Heap.get?_push_size _ rfl, rfl⟩
theorem enum_end {e it : Addr} {T : String} {x : Str} {t : Tok} {i : Int} {j : Nat} {old : Value} {Q : Option Value → Shared → Prop} (hh : A.handled = none) (hT : T = "str_ascii_iterator" ∨ T = "str_iterator") (he : IsEnum s.heap e it i old) (hit : s.heap.IsStrIter it T x t j) (hx : x.cps[j]? = none)
    (hQ : ∀ h', Heap.ExtBut it s.heap h' → (∃ o, h'.get? it = some o) → Q none { s with heap := h' }) : wpAny (model prog w) A (pyNext (.ref e)) Q E s := by
  have hE : s.TypeIs (.ref e) "enumerate" := ⟨_, he, rfl⟩
  unfold pyNext
  refine wpAny_bind (wpAny_attempt (wpAny_callSpecial?_slot (name := Str.ofString "__next__") hE F.slot_enumerate_next (wpAny_call_entry F.slot_enumerate_next hE F.entry_enumerate_next ?_ (F.args_enumerate_next_1 _))))
  show wpAny _ _ (field (.ref e) 2 >>= _) _ _ _
  refine wpAny_bind (wpAny_field he rfl (x := .ref it) rfl ?_)
  have go : ∀ {Q' : Value → Shared → Prop} {E' : Value → Shared → Prop}, (∀ h' e, Heap.ExtBut it s.heap h' → (∃ o, h'.get? it = some o) → (∃ o, h'.get? e = some o ∧ o.cls = .type "StopIteration") → E' (.ref e) { s with heap := h' }) → wpAny (model prog w) A.in1 (Builtin.SmallTypes.nextOf (.ref it)) Q' E' s := fun h => by
    rcases hT with rfl | rfl
    · exact ascii_end hh hit hx h
    · exact wide_end hh hit hx h
  refine wpAny_bind (go fun h' x he' hl hx' => ?_)
  obtain ⟨o, ho, hc⟩ := hx'
  refine wpAny_bind (wpAny_isInstance (T := "StopIteration") (b := true) ⟨o, ho, hc⟩ isSubtype_stop ?_)
  exact wpAny_pure (hQ _ he' hl)
end

section
variable {prog : Program} {w : World} {H : Heap} {C : Cx} {F : Addr → Prop} {ad : Str → Addr} {σ σ₁ σ₂ σ' : List Ent} {s s₁ s₂ s' : Shared}

inductive It0P (prog : Program) (w : World) (H : Heap) (C : Cx) (F : Addr → Prop) (ad : Str → Addr) (σ : List Ent) (s : Shared) (σ₁ : List Ent) (y : Str) (it : Value) (s₂ : Shared) : Prop
  | mk (W : Addr → Prop) (St : StT) (K : Wk prog w H C.A it (fun _ => False) ttTup St) (any : ∀ ds W X X' s, St ds W X s → St ds W X' s)
    (fin : ∀ W X s, St [] W X s → (∀ a, W a → X a) → wpAny (model prog w) C.A (pyNext it) (fun r s₁ => r = none ∧ Stp W (fun _ => False) s s₁ ∧ ∀ a, W a → Alive s₁ a) (fun _ _ => False) s) (hW : ∀ a, W a → s.heap.get? a = none)
    (R : Rep prog w H C (Or2 F W) ad σ₁ s₂) (g : Go (Mut C σ ad) (Mut C σ₁ ad) s s₂) (hWM : ∀ a, W a → ¬ Mut C σ₁ ad a) (st : St ((Mine.enumL (chars y)).map .tuple) W (Or2 (Or2 F W) (Mut C σ₁ ad)) s₂)
/-- enumerate of a text: what the iterator stands on is its own -/
theorem ItE0.enumS {x : Str} {p pos : Pos} {e : Expr} {y : Str} (hx : x ∈ C.gl) (hg : Glo H x (.type "enumerate")) (ha : Tri prog w H C σ e (.str y) σ₁) (R : Rep prog w H C F ad σ s) (he : starEach [e] C.env = (false, eval e C.env) :: starEach [] C.env := by rfl) :
    wpAny (model prog w) C.A (eval (.Call (.Name x p) [e] [] pos) C.env) (fun x s₁ => wpAny (model prog w) C.A (pyIter x) (It0P prog w H C F ad σ s σ₁ y) (fun _ _ => False) s₁) (fun _ _ => False) s := by
  refine callT_wp R hx hg (TriL.cons ha TriL.nil he) (fun vs s₁ y => ?_) he rfl
  obtain ⟨R₁, g₁, hv⟩ := y
  obtain ⟨_, _, rfl, q, r⟩ := hv.inv
  (first | obtain rfl := r.inv | obtain ⟨_, rfl⟩ := r.inv | cases r)
  obtain ⟨t, rfl⟩ := q.inv
  refine call_enumerate_str fun h' hE hI hz hk => ?_
  refine wpAny_pyIter_enum hE ?_
  have hfr : ∀ a ∈ [s₁.heap.objs.size + 1, s₁.heap.objs.size], s₁.heap.get? a = none := fun a z => no_of_size (by simp at z; rcases z with rfl | rfl; exact Nat.le_succ _; exact Nat.le_refl _)
  have k : Kp s₁ { s₁ with heap := h' } := ⟨hk, fun _ _ e => e, id, rfl⟩
  have fin : ∀ {T : String}, (T = "str_ascii_iterator" ∨ T = "str_iterator") → (∀ A : Around, A.handled = none → Draws prog w A s₁.heap.objs.size [s₁.heap.objs.size] y.cps.size (fun i v => ∃ c u, y.cps[i]? = some c ∧ v = .str ⟨#[c]⟩ u) (fun i h => h.IsStrIter s₁.heap.objs.size T y t i)) → h'.IsStrIter s₁.heap.objs.size T y t 0 →
      It0P prog w H C F ad σ s σ₁ y (.ref (s₁.heap.objs.size + 1)) { s₁ with heap := h' } := by
    intro T hT D hI
    refine ⟨(· ∈ [s₁.heap.objs.size + 1, s₁.heap.objs.size]), _, Wk.ofWalksT (WalksT.enumerateD (D C.A.in1 R₁.ok.hh) (s₁.heap.objs.size + 1) (Nat.succ_ne_self _) (by simp) (by simp)) (Mine.enumL (chars y)) (by simp [Mine.enumL, chars])
      (fun X h => True) (fun _ _ _ _ _ _ => trivial) (fun X h i vals xs q hP hd => ?_) (fun i h q b hb => ?_), fun ds W X X' s st => ⟨st.1, let ⟨i, h1, h2, h3, h4, h5⟩ := st.2; ⟨i, h1, h2, h3, fun b hb hw => absurd hb hw, trivial⟩⟩, fun W X s st hWX => ?_, fun a z => ?_, R₁.forbidL k (fun a z => ⟨hfr a z, ?_⟩), g₁.trans k.go, fun a z q => R₁.new a (hfr a z) (.inr q), ⟨fun _ => Iff.rfl, 0, Nat.zero_le _, ⟨⟨_, hE⟩, hI⟩, rfl, fun b hb hw => absurd hb hw, trivial⟩⟩
    · obtain ⟨t, x, ⟨c, u, hc, rfl⟩, rfl⟩ := hP
      obtain ⟨d, hd', rfl⟩ := enumL_get hd
      have : d = .str ⟨#[c]⟩ := by
        unfold chars at hd'
        rw [List.getElem?_map, Array.getElem?_toList, hc] at hd'
        exact (Option.some.inj hd').symm
      subst this
      exact .cons (.int _ _) (.cons (.str _ _) .nil)
    · obtain ⟨⟨old, h1⟩, ⟨o2, h2, _⟩⟩ := q
      rcases List.mem_cons.mp hb with rfl | hb
      · exact ⟨_, h1⟩
      · exact (List.mem_singleton.mp hb) ▸ ⟨_, h2⟩
    · obtain ⟨hW, i, hi, ⟨⟨old, he⟩, hs⟩, hd, _⟩ := st
      have hlt : i = y.cps.size := by
        have := congrArg List.length hd
        simp [Mine.enumL, chars] at this hi
        lia
      subst hlt
      refine enum_end R₁.ok.hh hT he hs (by simp) fun h' hk hl => ⟨rfl, .of fun a o n e => hk a o (fun z => n ((hW a).mpr (by simp [z]))) e, fun a z => ?_⟩
      have z := (hW a).mp z
      rcases List.mem_cons.mp z with rfl | z
      · exact ⟨_, hk _ _ (Nat.succ_ne_self _) he⟩
      · exact (List.mem_singleton.mp z) ▸ hl
    · cases e : s.heap.get? a with
      | none => rfl
      | some o => obtain ⟨o', e'⟩ := g₁.alive a o e; rw [hfr a z] at e'; cases e'
    · rcases List.mem_cons.mp z with rfl | z
      · exact ⟨_, hE⟩
      · obtain ⟨o2, h2, _⟩ := hI; exact (List.mem_singleton.mp z) ▸ ⟨_, h2⟩
  unfold strIterType at hI
  split at hI
  · exact fin (.inl rfl) (fun A hA => Draws.strAscii hA _ y t) hI
  · exact fin (.inr rfl) (fun A hA => Draws.strWide hA _ y t) hI

/-! ## a generator's own frame: it holds plain values alone -/
inductive FlatD : PyData → Prop
  | none : FlatD .none
  | bool (b : Bool) : FlatD (.bool b)
  | int (i : Int) : FlatD (.int i)
  | str (x : Str) : FlatD (.str x)
theorem FlatD.rd {h h' : Heap} {X X' : Addr → Prop} {v : Value} {d : PyData} (hf : FlatD d) (x : Rd h X v d) : Rd h' X' v d := by cases hf <;> cases x <;> constructor
noncomputable def FlatE (e : Ent) : Prop := e.loc = true ∧ (e.sl = .un ∨ ∃ d, e.sl = .val d ∧ FlatD d)
theorem FlatE.un {x : Str} : FlatE (Lo x .un) := ⟨rfl, .inl rfl⟩
theorem FlatE.val {x : Str} {d : PyData} (h : FlatD d) : FlatE (Lo x (.val d)) := ⟨rfl, .inr ⟨d, rfl, h⟩⟩
theorem FlatE.own {e : Ent} (h : FlatE e) : e.sl.isOwn = false := by obtain ⟨_, h | ⟨d, h, _⟩⟩ := h <;> rw [h] <;> rfl
theorem mut_flat (hσ : ∀ e ∈ σ, FlatE e) (hm : C.mine = []) {a : Addr} (h : Mut C σ ad a) : a = C.env.locals := by
  rcases h with h | h | ⟨e, he, ho, _⟩
  · exact h
  · rw [hm] at h; cases h
  · rw [(hσ e he).own] at ho; cases ho
theorem Rep.wake (R : Rep prog w H C F ad σ s) (hσ : ∀ e ∈ σ, FlatE e) (hc : C.env.cells = []) (hk : ∀ o, s.heap.get? C.env.locals = some o → s'.heap.get? C.env.locals = some o) (ht : ∀ b o, H.get? b = some o → s'.heap.get? b = some o) (hb : AllBare s'.gens)
    {F' : Addr → Prop} (hF : ∀ a, F' a → Alive s' a) : Rep prog w H C F' ad σ s' where
  ok := R.ok
  top := ht
  bare := hb
  nd := R.nd
  ns := by
    obtain ⟨m, hm, q⟩ := R.ns
    refine ⟨m, hm.at' hk, fun e he => ⟨(q e he).kind, (q e he).cell, (q e he).nodebug, ?_⟩⟩
    have z := (q e he).slot
    obtain ⟨hl, h⟩ := hσ e he
    obtain ⟨n, l, sl⟩ := e
    rcases h with h | ⟨d, h, hf⟩
    · cases (show sl = .un from h); trivial
    · cases (show sl = .val d from h)
      obtain ⟨v, ha, hr⟩ := z
      refine ⟨v, ?_, hf.rd hr⟩
      unfold At at ha ⊢
      rw [if_pos hl] at ha ⊢
      exact ha
  cells c hc' := by have := R.mc c hc'; rw [hc] at this; cases this
  dl := R.dl
  dn := R.dn
  mc := R.mc
  ow := R.ow
  dd := R.dd
  fresh := R.fresh
  aliveF := hF
  cellF c hc' := by rw [hc] at hc'; cases hc'
  fl := R.fl
  pa := R.pa

noncomputable abbrev WL (C : Cx) (W : Addr → Prop) : Addr → Prop := fun a => a = C.env.locals ∨ W a
structure GInv (prog : Program) (w : World) (H : Heap) (C : Cx) (W₀ W : Addr → Prop) (s₀ : Shared) (ad : Str → Addr) (σ : List Ent) (s : Shared) : Prop where
  R : Rep prog w H C (Or2 (Alive s₀) W) ad σ s
  fl : ∀ e ∈ σ, FlatE e
  no : C.env.cells = [] ∧ C.mine = []
  off : ∀ a, W a → a ≠ C.env.locals
  dead : ∀ a, W a → H.get? a = none
  up : ∀ a, W₀ a → W a
  dn : ∀ a, W a → W₀ a ∨ s₀.heap.get? a = none
  stp : Stp (WL C W₀) (fun _ => False) s₀ s
  lv : ∀ a, W a → Alive s a
section
variable {W₀ W : Addr → Prop} {s₀ : Shared} {ad' : Str → Addr} {it : Value} {St : StT}
theorem GInv.on (G : GInv prog w H C W₀ W s₀ ad σ s) (R' : Rep prog w H C (Or2 (Alive s₀) W) ad' σ' s') (hσ : ∀ e ∈ σ', FlatE e) (g : Go (Mut C σ ad) (Mut C σ' ad') s s') : GInv prog w H C W₀ W s₀ ad' σ' s' where
  R := R'
  fl := hσ
  no := G.no
  off := G.off
  dead := G.dead
  up := G.up
  dn := G.dn
  stp := ⟨fun a o n e => g.keep a o (fun z => n (.inl (mut_flat G.fl G.no.2 z))) (G.stp.heap a o n e), fun k x n e => g.gens k x (G.stp.gens k x n e), fun _ => R'.bare, g.os.trans G.stp.os⟩
  lv a z := let ⟨o, e⟩ := G.lv a z; g.alive a o e
theorem GInv.stay (G : GInv prog w H C W₀ W s₀ ad σ s) (K : Wk prog w H C.A it (fun _ => False) ttTup St) (fr : ∀ ds W X X' s, St ds W X s → St ds W X' s) {ds : List PyData} {X X' : Addr → Prop} (st : St ds W X s) (hk : ∀ a o, W a → s.heap.get? a = some o → s'.heap.get? a = some o) : St ds W X' s' :=
  K.frame _ _ _ _ _ _ (fr _ _ _ (Alive s) _ st) ⟨fun a o n e => (n ⟨o, e⟩).elim, fun a _ => alive_or s a⟩ hk fun _ _ z => z.elim
theorem GInv.wake (G : GInv prog w H C W₀ W s₀ ad σ s) (wk : Wak H (WL C W) s s') : GInv prog w H C W W s' ad σ s' where
  R := G.R.wake G.fl G.no.1 (fun o e => wk.keep _ o (.inl rfl) e) wk.top wk.bare fun a z => z.elim id fun z => let ⟨o, e⟩ := G.lv a z; ⟨o, wk.keep a o (.inr z) e⟩
  fl := G.fl
  no := G.no
  off := G.off
  dead := G.dead
  up _ := id
  dn _ := .inl
  stp := ⟨fun _ _ _ e => e, fun _ _ _ e => e, id, rfl⟩
  lv a z := let ⟨o, e⟩ := G.lv a z; ⟨o, wk.keep a o (.inr z) e⟩

/-- the inner iterator has come to its end -/
theorem GInv.done (G : GInv prog w H C W₀ W s₀ ad σ s) (dn : ∀ W X s, St [] W X s → (∀ a, W a → X a) → wpAny (model prog w) C.A (pyNext it) (fun r s₁ => r = none ∧ Stp W (fun _ => False) s s₁ ∧ ∀ a, W a → Alive s₁ a) (fun _ _ => False) s) {X : Addr → Prop} (st : St [] W X s)
    (hX : ∀ a, W a → X a) {Q : Option Value → Shared → Prop} (h : ∀ s₁, GInv prog w H C W₀ W s₀ ad σ s₁ → Q none s₁) : wpAny (model prog w) C.A (pyNext it) Q (fun _ _ => False) s := by
  refine wpAny_mono (dn _ _ _ st hX) (fun r s₁ x => ?_) fun _ _ z => z
  obtain ⟨rfl, k, lv⟩ := x
  refine h s₁ ⟨?_, G.fl, G.no, G.off, G.dead, G.up, G.dn, ⟨fun a o n e => k.heap a o (fun hw => (G.dn a hw).elim (fun z => n (.inr z)) fun e' => by rw [e] at e'; cases e') (G.stp.heap a o n e), fun g x n e => k.gens g x n (G.stp.gens g x n e), fun b => k.bare (G.stp.bare b), k.os.trans G.stp.os⟩, lv⟩
  refine G.R.wake G.fl G.no.1 (fun o e => k.heap _ o (fun z => G.off _ z rfl) e) (fun b o e => k.heap b o (fun z => by rw [G.dead b z] at e; cases e) (G.R.top b o e)) (k.bare G.R.bare) fun a z => ?_
  by_cases hw : W a
  · exact lv a hw
  · obtain ⟨o, e⟩ := G.R.aliveF a z
    exact ⟨o, k.heap a o hw e⟩
/-- the inner iterator goes on -/
theorem GInv.item (G : GInv prog w H C W₀ W s₀ ad σ s) (K : Wk prog w H C.A it (fun _ => False) ttTup St) (fr : ∀ ds W X X' s, St ds W X s → St ds W X' s) {d : PyData} {ds : List PyData} {X : Addr → Prop} {tgt : Expr} (st : St (d :: ds) W X s) (ht : ttTup tgt) {Q : Value → Shared → Prop}
    (h : ∀ v s₂ W₁, GInv prog w H C W₀ W₁ s₀ ad σ s₂ → St ds W₁ X s₂ → Rd s₂.heap (Or2 (Or2 (Alive s₀) W₁) (Mut C σ ad)) v d → Q v s₂) :
    wpAny (model prog w) C.A (pyNext it) (fun r s₁ => match r with | none => False | some v => wpAny (model prog w) C.A (letOwnedTupleGo tgt it v) (fun _ s₂ => Q v s₂) (fun _ _ => False) s₁) (fun _ _ => False) s := by
  have R := G.R
  refine wpAny_mono (K.item _ _ _ (Or2 (Or2 (Alive s₀) W) (Mut C σ ad)) _ (fr _ _ _ _ _ st) (fun a z => .inl (.inr z)) R.new R.bare R.top) (fun r s₃ h₃ => ?_) fun _ _ z => z.elim
  obtain ⟨v, W₁, rfl, up, dn, k, hgo⟩ := h₃
  refine wpAny_mono (hgo tgt ht) (fun _ s₄ h₄ => ?_) fun _ _ z => z.elim
  obtain ⟨k', st₄, hv⟩ := h₄
  have k2 : ∀ a o, ¬ W a → s.heap.get? a = some o → s₄.heap.get? a = some o := fun a o n e => k'.heap a o (fun z => (dn a z).elim n fun e' => by rw [e] at e'; cases e') (k.heap a o n e)
  have lv₄ : ∀ a, W₁ a → Alive s₄ a := fun a z => K.live _ _ _ _ st₄ a z
  have R₄ : Rep prog w H C (Or2 (Alive s₀) W₁) ad σ s₄ := R.wake G.fl G.no.1 (fun o e => k2 _ o (fun z => G.off _ z rfl) e) (fun b o e => k2 b o (fun z => by rw [G.dead b z] at e; cases e) (R.top b o e)) (k'.bare (k.bare R.bare)) fun a z => by
    rcases z with z | z
    · by_cases hw : W₁ a
      · exact lv₄ a hw
      · obtain ⟨o, e⟩ := R.aliveF a (.inl z)
        exact ⟨o, k2 a o (fun z => hw (up a z)) e⟩
    · exact lv₄ a z
  refine h v s₄ W₁ ⟨R₄, G.fl, G.no, fun a z => (dn a z).elim (G.off a) fun e q => ?_, fun a z => (dn a z).elim (G.dead a) fun e => ?_, fun a z => up a (G.up a z), fun a z => (dn a z).elim (G.dn a) fun e => ?_, ?_, lv₄⟩ (fr _ _ _ _ _ st₄) ?_
  · obtain ⟨o, e'⟩ := R.aliveMut (ad := ad) (σ := σ) (.inl rfl); rw [q, e'] at e; cases e
  · exact R.notH e
  · cases e₀ : s₀.heap.get? a with
    | none => exact .inr rfl
    | some o =>
      by_cases hw : WL C W₀ a
      · rcases hw with hw | hw
        · obtain ⟨o, e'⟩ := R.aliveMut (ad := ad) (σ := σ) (.inl rfl); rw [hw, e'] at e; cases e
        · exact .inl hw
      · rw [G.stp.heap a o hw e₀] at e; cases e
  · refine ⟨fun a o n e => k2 a o (fun hw => (G.dn a hw).elim (fun z => n (.inr z)) fun e' => by rw [e] at e'; cases e') (G.stp.heap a o n e), fun g x n e => k'.gens g x n (k.gens g x n (G.stp.gens g x n e)), fun b => k'.bare (k.bare (G.stp.bare b)), (k'.os.trans k.os).trans G.stp.os⟩
  · exact hv.stay ⟨fun _ _ _ e => e, fun a z => by
      rcases z with (z | z) | z
      · exact .inl (.inl (.inl (.inl z)))
      · exact .inl (.inr z)
      · exact .inl (.inl (.inr z))⟩
end
end
end Mine

end
noncomputable section
open PySem PySem.W PyProof.Rows
set_option maxRecDepth 100000
set_option autoImplicit false
namespace Mine

noncomputable def escO : List (Str × Nat) → Int → Bool → List (Int × Str)
  | [], p, true => [(p, "\\")]
  | [], _, false => []
  | (c, i) :: r, _, true => ((i : Nat), "\\" ++ c) :: escO r (i : Nat) false
  | (c, i) :: r, _, false => if (c == ("\\" : Str)) = true then escO r (i : Nat) true else ((i : Nat), c) :: escO r (i : Nat) false
noncomputable def encIS (ps : List (Int × Str)) : List PyData := ps.map fun p => .tuple [.int p.1, .str p.2]
noncomputable def encSN (ps : List (Str × Nat)) : List PyData := ps.map fun p => .tuple [.int (p.2 : Nat), .str p.1]

noncomputable def gσ (x : Str) (pos esc ch : Slot) : List Ent := [Lo "addr" (.val (.str x)), Lo "pos" pos, Lo "escape" esc, Lo "ch" ch]
inductive SFlat : Slot → Prop
  | un : SFlat .un
  | val {d : PyData} : FlatD d → SFlat (.val d)
theorem gσ_flat {x : Str} {a b c : Slot} (ha : SFlat a) (hb : SFlat b) (hc : SFlat c) : ∀ e ∈ gσ x a b c, FlatE e := by
  have f : ∀ {n : Str} {sl : Slot}, SFlat sl → FlatE (Lo n sl) := fun h => by cases h with | un => exact .un | val h => exact .val h
  intro e he
  simp only [gσ, List.mem_cons, List.not_mem_nil, or_false] at he
  rcases he with rfl | rfl | rfl | rfl
  · exact .val (.str _)
  · exact f ha
  · exact f hb
  · exact f hc

section
variable {prog : Program} {w : World} {H : Heap} {C : Cx} {ad : Str → Addr} {σ : List Ent} {s s₀ s' : Shared} {W₀ W : Addr → Prop} {A : Around} {f L : Addr} {n : Nat}

theorem EndP.yield {M : Model} (G : GInv prog w H C W₀ W s₀ ad σ s') {v : Value} {d : PyData} {ds : List PyData} {l : List Value} {k : Resume → Sem Fin} {c : Code} {p : Pos} {fs : List Frame} (hv : Rd s'.heap (Or2 (Or2 (Alive s₀) W) (Mut C σ ad)) v d) (hq : fs.any Frame.guarded = false)
    (h : ∀ s'', Wak H (WL C W) s' s'' → GInv prog w H C W W s'' ad σ s'' → SegP M A (EndP M H A ds (WL C W) s'') c (k (.send .none)) fs s'') : EndP M H A (d :: ds) (WL C W₀) s₀ (.susp v false l k c p fs) s' := by
  refine ⟨v, l, k, c, p, fs, WL C W, rfl, hq, fun a z => z.imp id (G.up a), fun a z => z.elim (fun z => .inl (.inl z)) fun z => (G.dn a z).imp .inr id, fun a z => z.elim (fun z => z ▸ G.R.aliveMut (.inl rfl)) (G.lv a), G.stp, fun X hX => ?_, fun s'' wk => h s'' wk (G.wake wk)⟩
  refine hv.stay ⟨fun _ _ _ e => e, fun a z => ?_⟩
  rcases z with z | z | z
  · rcases alive_or s₀ a with q | q
    · exact .inl (.inl (.inl q))
    · exact (hX a q z).elim
  · exact .inl (.inr (.inl z))
  · exact .inl (.inl (.inr z))
theorem EndP.fin {M : Model} (G : GInv prog w H C W₀ W s₀ ad σ s) : EndP M H A [] (WL C W₀) s₀ (.ret (.ok (.ret .none))) s := ⟨rfl, G.stp⟩

noncomputable abbrev gfd (pm cd doc : Value) : FuncData := Calls.docDef (sName (stm 2)) (sParams (stm 2)) (sBody (stm 2)) (sScope (stm 2)) pm cd doc
noncomputable abbrev gC (pm cd doc : Value) (L f : Addr) (A : Around) (n : Nat) : Cx := fnCx (gfd pm cd doc) L f A n ["enumerate"] 0
noncomputable def funK : Flow → Sem Fin := fun f => .pure (.done (.ret (match f with | .ret v => v | _ => .none)))

theorem GInv.tri (G : GInv prog w H C W₀ W s₀ ad σ s) {e : Expr} {d : PyData} (h : Tri prog w H C σ e d σ) {Q : Value → Shared → Prop} (hQ : ∀ v s', GInv prog w H C W₀ W s₀ ad σ s' → Go (Mut C σ ad) (Mut C σ ad) s s' → Rd s'.heap (Or2 (Or2 (Alive s₀) W) (Mut C σ ad)) v d → Q v s') :
    wpAny (model prog w) C.A (eval e C.env) Q (fun _ _ => False) s :=
  wpAny_mono (h.out _ _ _ G.R) (fun v s' x => hQ v s' (G.on x.1 G.fl x.2.1) x.2.1 x.2.2) fun _ _ z => z
theorem GInv.trit (G : GInv prog w H C W₀ W s₀ ad σ s) {e : Expr} {b : Bool} (h : TriT prog w H C σ e b σ) {Q : Bool → Shared → Prop} (hQ : ∀ s', GInv prog w H C W₀ W s₀ ad σ s' → Go (Mut C σ ad) (Mut C σ ad) s s' → Q b s') :
    wpAny (model prog w) C.A (isTrue e C.env (eval e C.env)) Q (fun _ _ => False) s :=
  wpAny_mono (h.out _ _ _ G.R) (fun r s' x => by obtain ⟨rfl, R₁, g, _⟩ := x; exact hQ s' (G.on R₁ G.fl g) g) fun _ _ z => z
theorem GInv.trin (G : GInv prog w H C W₀ W s₀ ad σ s) {st : Stmt} {σ' : List Ent} (h : TriN prog w H C σ st σ') (hσ : ∀ e ∈ σ', FlatE e) {Q : Flow → Shared → Prop} (hQ : ∀ ad' s', GInv prog w H C W₀ W s₀ ad' σ' s' → Go (Mut C σ ad) (Mut C σ' ad') s s' → Q .next s') :
    wpAny (model prog w) C.A (exec st C.env) Q (fun _ _ => False) s :=
  wpAny_mono (h.out _ _ _ G.R) (fun r s' x => by
    obtain ⟨f, σ'', ad', ⟨rfl, rfl⟩, R₁, g, hf⟩ := x
    cases r <;> first | exact hf.elim | skip
    exact hQ ad' s' (G.on R₁ hσ g) g) fun _ _ z => z
end

section
variable {prog : Program} {w : World} {H : Heap} {ad : Str → Addr} {s s₀ s' : Shared} {W₀ W : Addr → Prop} {A : Around} {f L : Addr} {n : Nat} {pm cd doc : Value} {x : Str} {ch : Slot} {p : Int} {b : Bool}

theorem esc_tail (G : GInv prog w H (gC pm cd doc L f A n) W₀ W s₀ ad (gσ x (.val (.int p)) (.val (.bool b)) ch) s) {X : Value → Sem Fin} :
    SegP (model prog w) A (EndP (model prog w) H A (encIS (escO [] p b)) (WL (gC pm cd doc L f A n) W₀) s₀) (.func (sBody (stm 2)) (gC pm cd doc L f A n).env) ((execs ((sBody (stm 2)).drop 3) (gC pm cd doc L f A n).env).wrap funK X id id) [] s := by
  refine SegP.cons (SegP.If (G.trit (TriT.val (Tri.name (.there (.there .here))) truthy_b) fun s₁ G₁ g => ?_))
  cases b with
  | false => exact SegP.nil (SegP.fin (.ok (.ret .none)) (EndP.fin G₁))
  | true =>
    refine SegP.cons (SegP.Yield rfl (G₁.tri (Tri.tuple (TriL.cons (Tri.name (.there .here)) (TriL.cons Tri.str .nil)) (by show 2 ≤ sizeLine; decide)) fun v s₂ G₂ g₂ hv => fun l k p hk => ?_))
    refine EndP.yield G₂ hv rfl fun s'' _ G₃ => ?_
    rw [hk]
    exact SegP.nil (SegP.fin (.ok (.ret .none)) (EndP.fin G₃))

noncomputable def fTgt : Stmt → Expr | .For t _ _ _ _ => t | _ => .Name "" ⟨0, 0, 0, 0⟩
noncomputable def fBod : Stmt → List Stmt | .For _ _ b _ _ => b | _ => []
noncomputable def nth (b : List Stmt) (k : Nat) : Stmt := b.getD k (.Pass ⟨0, 0, 0, 0⟩)
noncomputable abbrev gFor : Stmt := nth (sBody (stm 2)) 2

variable {it : Value} {St : StT}
theorem esc_loop (K : Wk prog w H (gC pm cd doc L f A n).A it (fun _ => False) ttTup St) (fr : ∀ ds W X X' s, St ds W X s → St ds W X' s)
    (dn : ∀ W X s, St [] W X s → (∀ a, W a → X a) → wpAny (model prog w) (gC pm cd doc L f A n).A (pyNext it) (fun r s₁ => r = none ∧ Stp W (fun _ => False) s s₁ ∧ ∀ a, W a → Alive s₁ a) (fun _ _ => False) s) {X' : Value → Sem Fin} {k : Result → Sem Fin} {l : List Value} {p₀ : Pos}
    (hk : k (.ok .next) = (execs ((sBody (stm 2)).drop 3) (gC pm cd doc L f A n).env).wrap funK X' id id) : ∀ (ps : List (Str × Nat)) {s₀ s : Shared} {W₀ W : Addr → Prop} {ad : Str → Addr} {p : Int} {b : Bool} {ch : Slot} {X : Addr → Prop}, (∀ q ∈ ps, q.1.length ≤ 1000) → SFlat ch →
    GInv prog w H (gC pm cd doc L f A n) W₀ W s₀ ad (gσ x (.val (.int p)) (.val (.bool b)) ch) s → St (encSN ps) W X s →
    SegP (model prog w) A (EndP (model prog w) H A (encIS (escO ps p b)) (WL (gC pm cd doc L f A n) W₀) s₀) (.forLoop (fTgt gFor) it (fBod gFor) [] (gC pm cd doc L f A n).env) ((model prog w).den (.forLoop (fTgt gFor) it (fBod gFor) [] (gC pm cd doc L f A n).env))
      [.ret k none false l (.func (sBody (stm 2)) (gC pm cd doc L f A n).env) p₀ []] s := by
  intro ps
  induction ps with
  | nil =>
    intro s₀ s W₀ W ad p b ch X hlen hch G st
    refine SegP.forLoop (G.done dn (fr _ _ _ W _ st) (fun _ z => z) fun s₁ G₁ => ?_)
    refine SegP.leaf (.ok .next) ?_
    rw [hk]
    exact esc_tail G₁
  | cons q ps ih =>
    intro s₀ s W₀ W ad p b ch X hlen hch G st
    obtain ⟨c, i⟩ := q
    have hc := hlen (c, i) (.head _)
    have hps : ∀ q ∈ ps, q.1.length ≤ 1000 := fun q hq => hlen q (.tail _ hq)
    refine SegP.forLoop (wpAny_mono (G.item K fr (tgt := fTgt gFor) st ⟨_, _, _, rfl⟩ (Q := fun v s₂ => wpAny (model prog w) (gC pm cd doc L f A n).A (assign (fTgt gFor) (gC pm cd doc L f A n).env v) (fun _ s₃ =>
      ∀ X, SegP (model prog w) A (EndP (model prog w) H A (encIS (escO ((c, i) :: ps) p b)) (WL (gC pm cd doc L f A n) W₀) s₀) (.forLoop (fTgt gFor) it (fBod gFor) [] (gC pm cd doc L f A n).env) ((execs (fBod gFor) (gC pm cd doc L f A n).env).wrap (forK (fTgt gFor) it (fBod gFor) [] (gC pm cd doc L f A n).env) X id id)
        [.ret k none false l (.func (sBody (stm 2)) (gC pm cd doc L f A n).env) p₀ []] s₃) (fun _ _ => False) s₂) fun v s₂ W₁ G₂ st₂ hv => ?_) (fun r s₁ h => ?_) fun _ _ z => z)
    · refine wpAny_mono ((Asg.tuple (AsgL.cons (Asg.name (.there .here) (.inl rfl)) (AsgL.cons (Asg.name (.there (.there (.there .here))) (.inl rfl)) .nil)) (fun _ => rfl)).out _ _ _ _ G₂.R hv) (fun _ s₃ x₃ X₃ => ?_) fun _ _ z => z
      have G₃ := G₂.on x₃.1 (gσ_flat (.val (.int _)) (.val (.bool _)) (.val (.str _))) x₃.2.1
      have st₃ : St (encSN ps) W₁ X s₃ := G₂.stay K fr st₂ fun a o z e => x₃.2.1.keep a o (fun q => G₂.off a z (mut_flat G₂.fl G₂.no.2 q)) e
      have kp : ∀ {ad' ad'' : Str → Addr} {σ' σ'' : List Ent} {s' s'' : Shared}, GInv prog w H (gC pm cd doc L f A n) W₀ W₁ s₀ ad' σ' s' → Go (Mut (gC pm cd doc L f A n) σ' ad') (Mut (gC pm cd doc L f A n) σ'' ad'') s' s'' → St (encSN ps) W₁ X s' → St (encSN ps) W₁ X s'' := fun G' g st' => G'.stay K fr st' fun a o z e => g.keep a o (fun q => G'.off a z (mut_flat G'.fl G'.no.2 q)) e
      refine SegP.cons (SegP.If (G₃.trit (TriT.val (Tri.name (.there (.there .here))) truthy_b) fun s₄ G₄ g₄ => ?_))
      have st₄ := kp G₃ g₄ st₃
      cases b with
      | true =>
        refine SegP.cons (SegP.Yield rfl (G₄.tri (Tri.tuple (TriL.cons (Tri.name (.there .here)) (TriL.cons (Tri.bin Tri.str (Tri.name (.there (.there (.there .here)))) (add_ss (by show 1 + c.length ≤ sizeLine; exact Nat.le_trans (Nat.add_le_add_left hc 1) (by decide)))) .nil)) (by show 2 ≤ sizeLine; decide)) fun v s₅ G₅ g₅ hv => fun l k' p hk' => ?_))
        have st₅ := kp G₄ g₅ st₄
        refine EndP.yield G₅ hv rfl fun s'' wk G₆ => ?_
        have st₆ : St (encSN ps) W₁ X s'' := G₅.stay K fr st₅ fun a o z e => wk.keep a o (.inr z) e
        rw [hk']
        refine SegP.cons (SegP.wrap (G₆.trin (TriN.assign Tri.bool (.there (.there .here)) (.inl rfl)) (gσ_flat (.val (.int _)) (.val (.bool _)) (.val (.str _))) fun ad₇ s₇ G₇ g₇ => ?_))
        have st₇ : St (encSN ps) W₁ X s₇ := G₆.stay K fr st₆ fun a o z e => g₇.keep a o (fun q => G₆.off a z (mut_flat G₆.fl G₆.no.2 q)) e
        refine SegP.nil (SegP.nil (SegP.again rfl ?_))
        exact ih hps (.val (.str _)) G₇ st₇
      | false =>
        refine SegP.cons (SegP.If (G₄.trit (TriT.cmp (Tri.name (.there (.there (.there .here)))) Tri.str eq_ss) fun s₅ G₅ g₅ => ?_))
        have st₅ := kp G₄ g₅ st₄
        unfold escO
        by_cases hcc : (c == ("\\" : Str)) = true
        · rw [if_pos hcc, if_pos hcc]
          refine SegP.cons (SegP.wrap (G₅.trin (TriN.assign Tri.bool (.there (.there .here)) (.inl rfl)) (gσ_flat (.val (.int _)) (.val (.bool _)) (.val (.str _))) fun ad₆ s₆ G₆ g₆ => ?_))
          have st₆ : St (encSN ps) W₁ X s₆ := G₅.stay K fr st₅ fun a o z e => g₆.keep a o (fun q => G₅.off a z (mut_flat G₅.fl G₅.no.2 q)) e
          refine SegP.nil (SegP.nil (SegP.nil (SegP.again rfl ?_)))
          exact ih hps (.val (.str _)) G₆ st₆
        · rw [if_neg hcc, if_neg hcc]
          refine SegP.cons (SegP.Yield rfl (G₅.tri (Tri.tuple (TriL.cons (Tri.name (.there .here)) (TriL.cons (Tri.name (.there (.there (.there .here)))) .nil)) (by show 2 ≤ sizeLine; decide)) fun v s₆ G₆ g₆ hv => fun l k' p hk' => ?_))
          have st₆ := kp G₅ g₆ st₅
          refine EndP.yield G₆ hv rfl fun s'' wk G₇ => ?_
          have st₇ : St (encSN ps) W₁ X s'' := G₆.stay K fr st₆ fun a o z e => wk.keep a o (.inr z) e
          rw [hk']
          refine SegP.nil (SegP.nil (SegP.nil (SegP.again rfl ?_)))
          exact ih hps (.val (.str _)) G₇ st₇
    · cases r with
      | none => exact h.elim
      | some v => exact h
end
end Mine

end
noncomputable section
open PySem PySem.W PyProof.Rows
set_option maxRecDepth 100000
set_option autoImplicit false
namespace Mine

noncomputable def chS (y : Str) : List Str := y.cps.toList.map fun c => ⟨#[c]⟩
theorem enum_chars (y : Str) : (enumL (chars y)).map PyData.tuple = encSN ((chS y).zipIdx) := by
  unfold enumL encSN chars chS
  simp only [List.zipIdx_map, List.map_map]
  rfl

section
variable {prog : Program} {w : World} {H : Heap} {C : Cx} {F : Addr → Prop} {ad : Str → Addr} {σ σ₁ : List Ent} {s s₀ s' : Shared} {W₀ W : Addr → Prop} {A : Around} {f L : Addr} {n : Nat} {pm cd doc : Value} {x : Str}

theorem esc_start (hE : Glo H "enumerate" (.type "enumerate")) (G : GInv prog w H (gC pm cd doc L f A n) (fun _ => False) (fun _ => False) s₀ ad (gσ x .un .un .un) s) :
    SegP (model prog w) A (EndP (model prog w) H A (encIS (escO ((chS x).zipIdx) 0 false)) (WL (gC pm cd doc L f A n) fun _ => False) s₀) (.func (sBody (stm 2)) (gC pm cd doc L f A n).env) ((model prog w).den (.func (sBody (stm 2)) (gC pm cd doc L f A n).env)) [] s := by
  refine SegP.func fun X => SegP.cons (SegP.wrap (G.trin (TriN.assign Tri.int (.there .here) (.inl rfl)) (gσ_flat (.val (.int _)) .un .un) fun ad₁ s₁ G₁ g₁ => ?_))
  refine SegP.cons (SegP.wrap (G₁.trin (TriN.assign Tri.bool (.there (.there .here)) (.inl rfl)) (gσ_flat (.val (.int _)) (.val (.bool _)) .un) fun ad₂ s₂ G₂ g₂ => ?_))
  refine SegP.cons (SegP.For (wpAny_mono (ItE0.enumS (x := "enumerate") (.head _) hE (Tri.name .here) G₂.R) (fun xv s₃ h => wpAny_mono h (fun it s₄ h => ?_) fun _ _ z => z) fun _ _ z => z))
  obtain ⟨W, St, K, fr, dn, hW, R, g, hM, st⟩ := h
  intro p l k hk
  have dead₀ : ∀ a, W a → s₀.heap.get? a = none := fun a z => by
    cases e : s₀.heap.get? a with
    | none => rfl
    | some o => obtain ⟨o', e'⟩ := G₂.R.aliveF a (.inl ⟨o, e⟩); rw [hW a z] at e'; cases e'
  have G₃ : GInv prog w H (gC pm cd doc L f A n) (fun _ => False) W s₀ ad₂ (gσ x (.val (.int 0)) (.val (.bool false)) .un) s₄ := by
    refine ⟨R.wake G₂.fl G₂.no.1 (fun _ e => e) R.top R.bare fun a z => R.aliveF a (z.imp .inl id), G₂.fl, G₂.no, fun a z q => hM a z (.inl q), fun a z => G₂.R.notH (hW a z), fun _ z => z.elim, fun a z => .inr (dead₀ a z), ?_, fun a z => R.aliveF a (.inr z)⟩
    exact ⟨fun a o n e => g.keep a o (fun z => n (.inl (mut_flat G₂.fl G₂.no.2 z))) (G₂.stp.heap a o n e), fun k x n e => g.gens k x (G₂.stp.gens k x n e), fun _ => R.bare, g.os.trans G₂.stp.os⟩
  rw [enum_chars] at st
  refine esc_loop K fr dn (hk .next) _ (fun q hq => ?_) .un G₃ st
  have : q.1 ∈ ((chS x).zipIdx).map (·.1) := List.mem_map.mpr ⟨q, hq, rfl⟩
  rw [List.zipIdx_map_fst] at this
  obtain ⟨c, _, e⟩ := List.mem_map.mp this
  rw [← e]
  show 1 ≤ 1000
  decide

theorem gC_no : (gC pm cd doc L f A n).env.cells = [] ∧ (gC pm cd doc L f A n).mine = [] := ⟨by rfl, by rfl⟩

theorem ItE.escs {xn : Str} {p pos : Pos} {e : Expr} {y : Str} (hx : xn ∈ C.gl) (hg : Glo H xn (.ref f)) (hf : FnK H f 2) (hE : Glo H "enumerate" (.type "enumerate")) (ha : Tri prog w H C σ e (.str y) σ₁) (hn : 5 ≤ C.n) (he : starEach [e] C.env = (false, eval e C.env) :: starEach [] C.env := by rfl) :
    ItE prog w H C σ (.Call (.Name xn p) [e] [] pos) (encIS (escO ((chS y).zipIdx) 0 false)) σ₁ ttAny := by
  refine Box.of fun F ad s R => ?_
  refine wpAny_Call_NameR (glo_run R hx hg (callF_run hf.is (wpAny_mono ((TriL.cons ha TriL.nil he).out F ad s pos R) (fun vs s₁ y => ?_) fun _ _ z => z) he))
  obtain ⟨R₁, g₁, hv⟩ := y
  obtain ⟨_, _, rfl, q, r⟩ := hv.inv
  (first | obtain rfl := r.inv | obtain ⟨_, rfl⟩ := r.inv | cases r)
  obtain ⟨t, rfl⟩ := q.inv
  refine ⟨R₁.top, ?_⟩
  obtain ⟨o, pm, cd, doc, ho, hd, hcd⟩ := hf.fn
  have hlim := hf.lim.keeps R₁.top
  refine wpAny_call (codeAny_call_generator (A := C.A) (by have := R₁.ok.room; lia) (R₁.top _ _ ho) hd (by kernel_rfl) (by kernel_rfl) rfl (hcd.keeps R₁.top) ?_)
  rw [show bindArgs (gfd pm cd doc) ⟨[Value.str y t], []⟩ = pure [(("addr" : Str), Value.str y t)] from rfl]
  refine wpAny_pure ?_
  refine wpAny_newFunctionEnv_cells (by kernel_rfl) (fun z hz => .inl ?_) fun env he' s₂ I => ?_
  · rw [List.mem_singleton.mp hz]; kernel_rfl
  · subst he'
    have hA : AN C.A.in1 (3 + 1) := ⟨R₁.ok.hh, by have := R₁.ok.room; show C.A.depth + 4 < _; lia, by have := R₁.ok.units; show C.A.units + 1 + 8 * 4 + 200 < _; lia⟩
    have hpar : ∀ (i : Nat) (p : Str × Slot) (v : Value), [(("addr" : Str), Slot.val (.str y))][i]? = some p → [Value.str y t][i]? = some v → ParOk s₁.heap (fun _ => False) 0 p.2 v := fun i p v hp hv => by
      cases i with
      | zero => cases hp; cases hv; exact .val (.str _ _)
      | succ i => simp at hp
    obtain ⟨R₂, k₂, hM₂⟩ := Rep.fn (prog := prog) (w := w) (H := H) (X := fun _ => False) (a := 0) (n := 3) (A := C.A.in1) (fd := gfd pm cd doc) (ps := [("addr", .val (.str y))]) (vs := ["pos", "escape", "ch"]) (gl := ["enumerate"]) (vals := [Value.str y t]) rfl rfl
      (FnOk.of (show fnOk (sScope (stm 2)) ["addr"] ["pos", "escape", "ch"] ["enumerate"] = true by decide +kernel)) hA R₁.top R₁.bare (fun _ z => z.elim) rfl hpar
      (fun p hp q hq h => absurd h (by rw [List.mem_singleton.mp hp]; exact Bool.false_ne_true)) (fun p hp h => absurd h (by rw [List.mem_singleton.mp hp]; exact Bool.false_ne_true)) I rfl (fun n c h => nomatch (show (n, c) ∈ ([] : List (Str × Addr)) from h))
    have hs₂ : s₂.gens = s₁.gens ∧ s₂.os = s₁.os := by obtain ⟨h, tk, rfl⟩ := I.toInCall.same; exact ⟨rfl, rfl⟩
    generalize hL : s₁.heap.objs.size = L at R₂ hM₂ I ⊢
    have hLd : s₁.heap.get? L = none := hL ▸ size_none _
    obtain ⟨oL, hoL⟩ := R₂.aliveMut (a := L) (.inl rfl)
    have hLlt : L < s₂.heap.objs.size := Heap.lt_size hoL
    have dead : ∀ {a}, s₁.heap.get? a = none → s.heap.get? a = none := fun {a} z => by
      cases e : s.heap.get? a with
      | none => rfl
      | some o => obtain ⟨o', e'⟩ := g₁.alive a o e; rw [z] at e'; cases e'
    have hgd : s₁.heap.get? s₂.heap.objs.size = none := by
      cases e : s₁.heap.get? s₂.heap.objs.size with
      | none => rfl
      | some o => exact absurd (Heap.lt_size (k₂.heap _ o e)) (Nat.lt_irrefl _)
    refine ⟨(hf.lim.keeps R₂.top), ?_⟩
    refine wpAny_pyIter_gen (g := s₂.gens.size) ⟨_, _, _, Heap.get?_push_size _ rfl, rfl, rfl, rfl⟩ ?_
    have k₃ : Kp s₁ { s₂ with gens := s₂.gens.push (.fresh (.func (sBody (stm 2)) (callEnvC (gfd pm cd doc) L f))), toks := s₂.toks + 1 + 1, heap := s₂.heap.push { cls := .type "generator", data := .fields #[.int s₂.gens.size 0, .str (gfd pm cd doc).name s₂.toks, .str (gfd pm cd doc).qualname (s₂.toks + 1)] } } := by
      refine ⟨fun a o e => Heap.get?_push_of_some _ (k₂.heap a o e), fun k x e => ?_, fun b z hz => ?_, hs₂.2⟩
      · show (s₂.gens.push _)[k]? = some x
        rw [hs₂.1, Array.getElem?_push_lt (Array.getElem?_eq_some_iff.mp e).1]
        exact congrArg some (Array.getElem?_eq_some_iff.mp e).2
      · rcases Array.mem_push.mp hz with hz | rfl
        · exact b z (hs₂.1 ▸ hz)
        · rfl
    refine ⟨(· ∈ [s₂.heap.objs.size, L]), fun n => n = s₂.gens.size, _, Wk.gen hf.lim R₁.ok.hh (by have := R₁.ok.room; lia), fun a z => ?_, fun k z => ?_, R₁.forbidL k₃ fun a z => ?_, g₁.trans k₃.go, fun a z q => ?_, ?_⟩
    · simp at z
      rcases z with rfl | rfl
      · exact dead hgd
      · exact dead hLd
    · cases e : s.gens[k]? with
      | none => rfl
      | some x =>
        have := (Array.getElem?_eq_some_iff.mp (g₁.gens k x e)).1
        rw [z, hs₂.1] at this
        exact absurd this (Nat.lt_irrefl _)
    · simp at z
      rcases z with rfl | rfl
      · exact ⟨hgd, _, Heap.get?_push_size _ rfl⟩
      · exact ⟨hLd, _, Heap.get?_push_of_some _ hoL⟩
    · simp at z
      rcases z with rfl | rfl
      · exact R₁.new _ hgd (.inr q)
      · exact R₁.new _ hLd (.inr q)
    · refine ⟨WL (gC pm cd doc L f C.A.in1 3) fun _ => False, fun a => ⟨fun z => ?_, fun z => ?_⟩, fun z => ?_, fun a z => ?_, ⟨_, _, _, Heap.get?_push_size _ rfl, rfl, rfl, rfl⟩, _, Array.getElem?_push_size .., fun s'' wk => ?_⟩
      · simp at z
        exact z.imp id .inl
      · simp
        exact z.imp id fun z => z.elim id False.elim
      · exact z.elim (fun z => Nat.lt_irrefl _ ((show s₂.heap.objs.size = L from z) ▸ hLlt)) id
      · exact z.elim (fun z => ⟨oL, Heap.get?_push_of_some _ ((show a = L from z) ▸ hoL)⟩) False.elim
      · refine esc_start (x := y) hE (ad := fun _ => 0) ⟨?_, gσ_flat .un .un .un, gC_no, fun _ z => z.elim, fun _ z => z.elim, fun _ z => z, fun _ z => z.elim, ⟨fun _ _ _ e => e, fun _ _ _ e => e, id, rfl⟩, fun _ z => z.elim⟩
        exact R₂.wake (gσ_flat .un .un .un) gC_no.1 (fun o e => wk.keep _ o (.inl rfl) (Heap.get?_push_of_some _ e)) wk.top wk.bare fun a z => z.elim id False.elim
end
end Mine

end
noncomputable section
open PySem PySem.W PyProof.Rows
set_option maxRecDepth 100000
set_option autoImplicit false
namespace Mine
section
variable {prog : Program} {w : World} {H : Heap}

theorem rc_isterminal {f : Addr} {i : Int} {t : Tok} (hf : FnK H f 62) (hg : Glo H "NT_OFFSET" (.int 256 t)) : RC prog w H (.ref f) 1 [.int i] (.bool (decide (i < 256))) :=
  RC.fk (ps := [("x", .int i)]) (vs := []) (gl := ["NT_OFFSET"]) hf (by kernel_rfl) (by decide +kernel) (by kernel_rfl) (fun vals hl pm cd doc => by obtain ⟨a, rfl⟩ := one_of hl; rfl)
    fun C hC => TriB.last (TriS.ret (Tri.cmp (Tri.name .here) (Tri.glo_int (hC.mem (by simp)) hg) lt_ii) rfl)
theorem rc_isnonterminal {f : Addr} {i : Int} {t : Tok} (hf : FnK H f 63) (hg : Glo H "NT_OFFSET" (.int 256 t)) : RC prog w H (.ref f) 1 [.int i] (.bool (decide (256 ≤ i))) :=
  RC.fk (ps := [("x", .int i)]) (vs := []) (gl := ["NT_OFFSET"]) hf (by kernel_rfl) (by decide +kernel) (by kernel_rfl) (fun vals hl pm cd doc => by obtain ⟨a, rfl⟩ := one_of hl; rfl)
    fun C hC => TriB.last (TriS.ret (Tri.cmp (Tri.name .here) (Tri.glo_int (hC.mem (by simp)) hg) ge_ii) rfl)
theorem rc_iseof {f : Addr} {i : Int} {t : Tok} (hf : FnK H f 64) (hg : Glo H "ENDMARKER" (.int 0 t)) : RC prog w H (.ref f) 1 [.int i] (.bool (i == 0)) :=
  RC.fk (ps := [("x", .int i)]) (vs := []) (gl := ["ENDMARKER"]) hf (by kernel_rfl) (by decide +kernel) (by kernel_rfl) (fun vals hl pm cd doc => by obtain ⟨a, rfl⟩ := one_of hl; rfl)
    fun C hC => TriB.last (TriS.ret (Tri.cmp (Tri.name .here) (Tri.glo_int (hC.mem (by simp)) hg) eq_ii) rfl)

theorem foldl_len : ∀ (ys : List Str) (n : Nat) (sep : Str), ys.foldl (fun a x => a + x.length + sep.length) n = n + (ys.map (·.length)).sum + ys.length * sep.length
  | [], n, sep => by simp
  | y :: ys, n, sep => by
    rw [List.foldl_cons, foldl_len ys, List.map_cons, List.sum_cons, List.length_cons, Nat.succ_mul]
    lia
theorem joinOk_of {sep : Str} {ys : List Str} (h : (ys.map (·.length)).sum + ys.length * sep.length ≤ 2 ^ 20) : JoinOk sep ys = true := by
  unfold JoinOk
  rw [List.foldl_toArray' _ _ _ rfl, foldl_len]
  unfold Builtin.Str.tooLong sizeLine
  simp
  lia

/-! quoted names stripped -/
noncomputable def stripGo (y : Str) : List (Int × Str) → Int → Option Int → List Str → Int × List Str
  | [], st, _, res => (st, res)
  | (p, c) :: r, st, op, res => if (c == ("\"" : Str)) = true then match op with
      | none => stripGo y r st (some p) res
      | some o => stripGo y r (p + 1) none (if (st != o) = true then res ++ [Txt.slice y (some st) (some o)] else res)
    else stripGo y r st op res
noncomputable def hasQ (y : Str) : Bool := !(Builtin.Str.occurrences y "\"" 0 y.length 1).isEmpty
noncomputable def stripR (y : Str) : Str := if hasQ y = true then
    let q := stripGo y (escO ((chS y).zipIdx) 0 false) 0 none []
    Txt.join "" (if q.1 < (y.length : Int) then q.2 ++ [Txt.slice y (some q.1) none] else q.2)
  else y

noncomputable def optD : Option Int → PyData
  | none => .none
  | some i => .int i
noncomputable def sσ (y : Str) (st : Int) (op : Option Int) (res : List Str) (p c : Slot) : List Ent := [Lo "addr" (.val (.str y)), Lo "start" (.val (.int st)), Lo "open_pos" (.val (optD op)), Lo "result" (.own (encS res)), Lo "pos" p, Lo "ch" c]

theorem escO_len : ∀ (ps : List (Str × Nat)) (p : Int) (b : Bool), (escO ps p b).length ≤ ps.length + 1
  | [], p, true => by simp [escO]
  | [], p, false => by simp [escO]
  | (c, i) :: r, p, true => by unfold escO; rw [List.length_cons, List.length_cons]; have := escO_len r (i : Nat) false; lia
  | (c, i) :: r, p, false => by
    unfold escO
    split
    · have := escO_len r (i : Nat) true; rw [List.length_cons]; lia
    · rw [List.length_cons, List.length_cons]; have := escO_len r (i : Nat) false; lia
theorem stripGo_len (y : Str) : ∀ (r : List (Int × Str)) (st : Int) (op : Option Int) (res : List Str), (stripGo y r st op res).2.length ≤ res.length + r.length ∧ ((∀ x ∈ res, x.length ≤ y.length) → ∀ x ∈ (stripGo y r st op res).2, x.length ≤ y.length)
  | [], st, op, res => ⟨Nat.le_refl _, fun h => h⟩
  | (p, c) :: r, st, op, res => by
    unfold stripGo
    split
    · cases op with
      | none => have := stripGo_len y r st (some p) res; exact ⟨by rw [List.length_cons]; have := this.1; dsimp only; lia, this.2⟩
      | some o =>
        dsimp only
        split
        · have := stripGo_len y r (p + 1) none (res ++ [Txt.slice y (some st) (some o)])
          refine ⟨by have := this.1; rw [List.length_append] at this; rw [List.length_cons]; simp at this; lia, fun h => this.2 fun x hx => ?_⟩
          rcases List.mem_append.mp hx with hx | hx
          · exact h x hx
          · rw [List.mem_singleton.mp hx]; exact Txt.slice_le ..
        · have := stripGo_len y r (p + 1) none res; exact ⟨by rw [List.length_cons]; have := this.1; lia, this.2⟩
    · have := stripGo_len y r st op res; exact ⟨by rw [List.length_cons]; have := this.1; lia, this.2⟩
theorem sum_len_le (k : Nat) : ∀ (ys : List Str), (∀ x ∈ ys, x.length ≤ k) → (ys.map (·.length)).sum ≤ ys.length * k
  | [], _ => by simp
  | y :: ys, h => by
    rw [List.map_cons, List.sum_cons, List.length_cons, Nat.succ_mul]
    have := sum_len_le k ys fun x hx => h x (.tail _ hx)
    have := h y (.head _)
    lia

inductive TdEI1 (y : Str) (q : Int × List Str) (σ : List Ent) : Prop
  | mk (op : _) (p : _) (c : _) (h0 : σ = sσ y q.1 op q.2 p c)
inductive TdEI2 (y : Str) (q : Int × List Str) (ds : List PyData) (σ : List Ent) : Prop
  | mk (r : _) (st : _) (op : _) (res : _) (p : _) (c : _) (h0 : ds = encIS r) (h1 : σ = sσ y st op res p c) (h2 : stripGo y r st op res = q) (h3 : res.length + r.length ≤ 1000)
set_option maxHeartbeats 2000000 in
theorem rc_strip {f fe : Addr} {y : Str} (hf : FnK H f 3) (he : FnK H fe 2) (gE : Glo H "_iter_escaped_chars" (.ref fe)) (gEn : Glo H "enumerate" (.type "enumerate")) (gL : Glo H "len" (.builtin "len")) (hy : y.length ≤ 900) : RC prog w H (.ref f) 7 [.str y] (.str (stripR y)) := by
  refine RC.fk (ps := [("addr", .str y)]) (vs := ["start", "open_pos", "result", "pos", "ch"]) (gl := ["_iter_escaped_chars", "len"]) hf (by kernel_rfl) (by decide +kernel) (by kernel_rfl) (fun vals hl pm cd doc => by obtain ⟨a, rfl⟩ := one_of hl; rfl) fun C hC => ?_
  have hys : y.length ≤ sizeLine := Nat.le_trans hy (by decide)
  refine TriB.cons (Q := fun f σ => (f = .nx ∧ hasQ y = true ∧ σ = fnσ (sScope (stm 3)) [("addr", .val (.str y))] ["start", "open_pos", "result", "pos", "ch"]) ∨ (f = .rt (.str (stripR y)))) (TriS.ite (TriT.cmp Tri.str (Tri.name .here) notIn_ss) (fun hb => TriB.last (TriS.ret (Tri.name .here) ?_)) fun hb => .nil ?_) (fun σ' hq => ?_) fun fl σ' hn hq => ?_
  · right
    have : hasQ y = false := by unfold hasQ; cases h : (Builtin.Str.occurrences y "\"" 0 y.length 1).isEmpty <;> simp [h] at hb ⊢
    unfold stripR; rw [if_neg (by rw [this]; simp)]
  · left
    refine ⟨rfl, ?_, rfl⟩
    unfold hasQ; cases h : (Builtin.Str.occurrences y "\"" 0 y.length 1).isEmpty <;> simp [h] at hb ⊢
  · rcases hq with ⟨_, hQ, rfl⟩ | hq
    · generalize hq : stripGo y (escO ((chS y).zipIdx) 0 false) 0 none [] = q
      have hlen : (escO ((chS y).zipIdx) 0 false).length ≤ 901 := by
        have := escO_len ((chS y).zipIdx) 0 false
        rw [List.length_zipIdx, show (chS y).length = y.length from by simp [chS, Str.length]] at this
        lia
      refine TriB.next (TriN.assign Tri.int (.there .here) (.inl rfl)) (TriB.next (TriN.assign Tri.cNone (.there (.there .here)) (.inl rfl)) (TriB.next (TriN.assignOwn .nil (.there (.there (.there .here))) (.inl rfl)) ?_))
      refine TriB.cons (Q := fun f σ => f = .nx ∧ TdEI1 y q σ) (TriS.for_ (ItE.escs (hC.mem (by simp)) gE he gEn (Tri.name .here) (hC.le (by show 5 ≤ 6; lia))) (.inr ⟨_, _, _, rfl⟩)
        (TdEI2 y q) ⟨_, 0, none, [], .un, .un, rfl, rfl, hq, by simp; lia⟩ (fun d ds σ hI => ?_) fun σ hI => ?_) (fun σ' h => ?_) fun f σ' hn h => (hn h.1).elim
      · obtain ⟨r, st, op, res, p, c, hd, rfl, hg, hl⟩ := hI
        cases r with
        | nil => cases hd
        | cons pc r =>
        obtain ⟨i, ch⟩ := pc
        injection hd with hd1 hd2
        subst hd1 hd2
        refine ⟨_, Asg.tuple (AsgL.cons (Asg.name (.there (.there (.there (.there .here)))) (.inl rfl)) (AsgL.cons (Asg.name (.there (.there (.there (.there (.there .here))))) (.inl rfl)) .nil)), ?_⟩
        rw [List.length_cons] at hl
        unfold stripGo at hg
        refine TriB.last (TriS.ite (TriT.cmp (Tri.name (.there (.there (.there (.there (.there .here)))))) Tri.str eq_ss) (fun hb => ?_) fun hb => ?_)
        · rw [if_pos hb] at hg
          cases op with
          | none =>
            refine TriB.last (TriS.ite (c := true) (TriT.cmp (Tri.name (.there (.there .here))) Tri.cNone is_nn) (fun _ => ?_) fun z => nomatch z)
            refine TriB.last (TriS.mono (TriN.assign (Tri.name (.there (.there (.there (.there .here))))) (.there (.there .here)) (.inl rfl)) fun f σ' h => ?_)
            obtain ⟨rfl, rfl⟩ := h
            exact ⟨r, st, some i, res, _, _, rfl, rfl, hg, by lia⟩
          | some o =>
            refine TriB.last (TriS.ite (c := false) (TriT.cmp (Tri.name (.there (.there .here))) Tri.cNone is_in) (fun z => nomatch z) fun _ => ?_)
            dsimp only at hg
            refine TriB.cons (Q := fun f σ => f = .nx ∧ σ = sσ y st (some o) (if (st != o) = true then res ++ [Txt.slice y (some st) (some o)] else res) (.val (.int i)) (.val (.str ch))) (TriS.ite (TriT.cmp (Tri.name (.there .here)) (Tri.name (.there (.there .here))) ne_ii) (fun hb => ?_) fun hb => ?_) (fun σ' h => ?_) fun f σ' hn h => (hn h.1).elim
            · rw [if_pos hb]
              refine TriB.last (TriS.mono (TriN.append (hi := hC.int) (Tri.sliceS (Tri.name .here) ⟨st, rfl, Tri.name (.there .here)⟩ ⟨o, rfl, Tri.name (.there (.there .here))⟩ hys) (.tail _ (.tail _ (.tail _ (.head _)))) (.own _) (.there (.there (.there .here))) (by simp [encS]; exact Nat.le_trans (by lia) (show 1000 ≤ sizeLine by decide)) ⟨_, .tail _ (.tail _ (.tail _ (.head _))), _, .own _⟩) fun f σ' h => ?_)
              obtain ⟨rfl, rfl⟩ := h
              exact ⟨rfl, by simp [sσ, encS, Slot.list', optD]⟩
            · rw [if_neg (by rw [hb]; simp)]
              exact .nil ⟨rfl, rfl⟩
            · obtain ⟨_, rfl⟩ := h
              refine TriB.next (TriN.assign (Tri.bin (Tri.name (.there (.there (.there (.there .here))))) Tri.int add_ii) (.there .here) (.inl rfl)) (TriB.last (TriS.mono (TriN.assign Tri.cNone (.there (.there .here)) (.inl rfl)) fun f σ' h => ?_))
              obtain ⟨rfl, rfl⟩ := h
              refine ⟨r, i + 1, none, _, _, _, rfl, rfl, hg, ?_⟩
              split
              · rw [List.length_append]; simp; lia
              · lia
        · rw [if_neg (by rw [hb]; simp)] at hg
          exact .nil ⟨r, st, op, res, _, _, rfl, rfl, hg, by lia⟩
      · obtain ⟨r, st, op, res, p, c, hd, rfl, hg, hl⟩ := hI
        cases r with
        | cons pc r => cases hd
        | nil => exact .nil ⟨rfl, op, p, c, by rw [← hg]; rfl⟩
      · obtain ⟨_, op, p, c, rfl⟩ := h
        have hb := stripGo_len y (escO ((chS y).zipIdx) 0 false) 0 none []
        rw [hq] at hb
        have hb1 : q.2.length ≤ 901 := by have := hb.1; simp at this; lia
        have hb2 := hb.2 fun _ z => nomatch z
        have hR : stripR y = Txt.join "" (if q.1 < (y.length : Int) then q.2 ++ [Txt.slice y (some q.1) none] else q.2) := by
          unfold stripR; rw [if_pos hQ]; dsimp only; rw [hq]
        have hfin : ∀ x ∈ (if q.1 < (y.length : Int) then q.2 ++ [Txt.slice y (some q.1) none] else q.2), x.length ≤ 900 := fun x hx => by
          split at hx
          · rcases List.mem_append.mp hx with hx | hx
            · exact Nat.le_trans (hb2 x hx) hy
            · rw [List.mem_singleton.mp hx]; exact Nat.le_trans (Txt.slice_le ..) hy
          · exact Nat.le_trans (hb2 x hx) hy
        have hfl : (if q.1 < (y.length : Int) then q.2 ++ [Txt.slice y (some q.1) none] else q.2).length ≤ 902 := by
          split
          · rw [List.length_append]; simp; lia
          · lia
        refine TriB.cons (Q := fun f σ => f = .nx ∧ σ = sσ y q.1 op (if q.1 < (y.length : Int) then q.2 ++ [Txt.slice y (some q.1) none] else q.2) p c) (TriS.ite (TriT.cmp (Tri.name (.there .here)) (Tri.callB (hC.mem (by simp)) gL (TriL.cons (Tri.name .here) .nil) (rc_len_s (by lia)) (Nat.zero_le _)) lt_ii) (fun hb => ?_) fun hb => ?_) (fun σ' h => ?_) fun f σ' hn h => (hn h.1).elim
        · have hb : q.1 < (y.length : Int) := by simpa using hb
          rw [if_pos hb]
          refine TriB.last (TriS.mono (TriN.append (hi := hC.int) (Tri.sliceS (Tri.name .here) ⟨q.1, rfl, Tri.name (.there .here)⟩ ⟨rfl, rfl⟩ hys) (.tail _ (.tail _ (.tail _ (.head _)))) (.own _) (.there (.there (.there .here))) (by simp [encS]; exact Nat.le_trans (by lia) (show 1000 ≤ sizeLine by decide)) ⟨_, .tail _ (.tail _ (.tail _ (.head _))), _, .own _⟩) fun f σ' h => ?_)
          obtain ⟨rfl, rfl⟩ := h
          exact ⟨rfl, by simp [sσ, encS, Slot.list']⟩
        · have hb : ¬ q.1 < (y.length : Int) := by simpa using hb
          rw [if_neg hb]
          exact .nil ⟨rfl, rfl⟩
        · obtain ⟨_, rfl⟩ := h
          refine TriB.turn (.cons (.same _) (.cons (.same _) (.cons (.same _) (.cons (.fz _ _ _) (Turns.refl _))))) ?_
          refine TriB.last (TriS.ret (Tri.methS Tri.str PySem.F.slot_str_join PySem.F.type_str_join (TriL.cons (Tri.name (.there (.there (.there .here)))) .nil) (rc_join (joinOk_of ?_))) ?_)
          · have := sum_len_le 900 _ hfin
            simp only [show (Str.length ("" : Str)) = 0 from rfl, Nat.mul_zero, Nat.add_zero]
            refine Nat.le_trans this (Nat.le_trans (Nat.mul_le_mul_right 900 hfl) (by decide))
          · rw [hR]
    · cases hq
  · rcases hq with ⟨rfl, _⟩ | hq
    · exact (hn rfl).elim
    · exact hq
end
end Mine

end
noncomputable section
open PySem PySem.W PyProof.Rows
set_option maxRecDepth 100000
set_option autoImplicit false
namespace Mine
section
variable {prog : Program} {w : World} {H : Heap}

noncomputable def parenGo : List (Int × Str) → Int → Bool
  | [], o => o == 0
  | (_, c) :: r, o => if (c == ("(" : Str)) = true then parenGo r (o + 1) else if (c == (")" : Str)) = true then (if o - 1 < 0 then false else parenGo r (o - 1)) else parenGo r o
noncomputable def parenR (y : Str) : Bool := parenGo (escO ((chS (stripR y)).zipIdx) 0 false) 0
noncomputable def pσ (y : Str) (o : Int) (p c : Slot) : List Ent := [Lo "addr" (.val (.str y)), Lo "opens" (.val (.int o)), Lo "pos" p, Lo "ch" c]

inductive TdFI1 (y : Str) (b : Bool) (ds : List PyData) (σ : List Ent) : Prop
  | mk (r : _) (o : _) (p : _) (c : _) (h0 : ds = encIS r) (h1 : σ = pσ (stripR y) o p c) (h2 : parenGo r o = b)
set_option maxHeartbeats 2000000 in
theorem rc_paren {f fs fe : Addr} {y : Str} (hf : FnK H f 4) (hs : FnK H fs 3) (he : FnK H fe 2) (gS : Glo H "_strip_quoted_realnames" (.ref fs)) (gE : Glo H "_iter_escaped_chars" (.ref fe)) (gEn : Glo H "enumerate" (.type "enumerate")) (gL : Glo H "len" (.builtin "len")) (hy : y.length ≤ 900) :
    RC prog w H (.ref f) 8 [.str y] (.bool (parenR y)) := by
  refine RC.fk (ps := [("addr", .str y)]) (vs := ["opens", "pos", "ch"]) (gl := ["_iter_escaped_chars", "_strip_quoted_realnames"]) hf (by kernel_rfl) (by decide +kernel) (by kernel_rfl) (fun vals hl pm cd doc => by obtain ⟨a, rfl⟩ := one_of hl; rfl) fun C hC => ?_
  refine TriB.next (TriN.assign (Tri.callF (hC.mem (by simp)) gS hs.is (TriL.cons (Tri.name .here) .nil) (rc_strip hs he gE gEn gL hy) (hC.le (by show 7 ≤ 7; lia))) .here (.inl rfl)) (TriB.next (TriN.assign Tri.int (.there .here) (.inl rfl)) ?_)
  generalize hb : parenR y = b
  refine TriB.cons (Q := fun f σ => (f = .nx ∧ ∃ o p c, σ = pσ (stripR y) o p c ∧ (o == 0) = b) ∨ (f = .rt (.bool false) ∧ b = false)) (TriS.for_ (ItE.escs (hC.mem (by simp)) gE he gEn (Tri.name .here) (hC.le (by show 5 ≤ 7; lia))) (.inr ⟨_, _, _, rfl⟩)
    (TdFI1 y b) ⟨_, 0, .un, .un, rfl, rfl, hb⟩ (fun d ds σ hI => ?_) fun σ hI => ?_) (fun σ' h => ?_) fun f σ' hn h => ?_
  · obtain ⟨r, o, p, c, hd, rfl, hg⟩ := hI
    cases r with
    | nil => cases hd
    | cons pc r =>
    obtain ⟨i, ch⟩ := pc
    injection hd with hd1 hd2
    subst hd1 hd2
    refine ⟨_, Asg.tuple (AsgL.cons (Asg.name (.there (.there .here)) (.inl rfl)) (AsgL.cons (Asg.name (.there (.there (.there .here))) (.inl rfl)) .nil)), ?_⟩
    unfold parenGo at hg
    refine TriB.last (TriS.ite (TriT.cmp (Tri.name (.there (.there (.there .here)))) Tri.str eq_ss) (fun hb => ?_) fun hb => ?_)
    · rw [if_pos hb] at hg
      refine TriB.last (TriS.mono (TriN.aug (.there .here) Tri.int iadd_ii (.there .here) (.inl rfl)) fun f σ' h => ?_)
      obtain ⟨rfl, rfl⟩ := h
      exact ⟨r, _, _, _, rfl, rfl, hg⟩
    · rw [if_neg (by rw [hb]; simp)] at hg
      refine TriB.last (TriS.ite (TriT.cmp (Tri.name (.there (.there (.there .here)))) Tri.str eq_ss) (fun hb => ?_) fun hb => ?_)
      · rw [if_pos hb] at hg
        refine TriB.next (TriN.aug (.there .here) Tri.int isub_ii (.there .here) (.inl rfl)) (TriB.last (TriS.ite (TriT.cmp (Tri.name (.there .here)) Tri.int lt_ii) (fun hb => ?_) fun hb => ?_))
        · rw [if_pos (by simpa using hb)] at hg
          exact TriB.last (TriS.ret Tri.bool (.inr ⟨rfl, hg.symm⟩))
        · rw [if_neg (by simpa using hb)] at hg
          exact .nil ⟨r, _, _, _, rfl, rfl, hg⟩
      · rw [if_neg (by rw [hb]; simp)] at hg
        exact .nil ⟨r, _, _, _, rfl, rfl, hg⟩
  · obtain ⟨r, o, p, c, hd, rfl, hg⟩ := hI
    cases r with
    | cons pc r => cases hd
    | nil => exact .nil (.inl ⟨rfl, o, p, c, rfl, hg⟩)
  · rcases h with ⟨_, o, p, c, rfl, ho⟩ | h
    · exact TriB.last (TriS.ret (Tri.cmp (Tri.name (.there .here)) Tri.int eq_ii) (by rw [ho]))
    · cases h.1
  · rcases h with h | h
    · exact (hn h.1).elim
    · rw [h.1, h.2]
end
end Mine

end
noncomputable section
open PySem PySem.W PyProof.Rows
set_option maxRecDepth 100000
set_option autoImplicit false
namespace Mine
section
variable {prog : Program} {w : World} {H : Heap} {C : Cx} {σ σ₁ : List Ent}

theorem Tri.lenOwn {x y : Str} {p q pos : Pos} {l : Bool} {ds : List PyData} (hx : x ∈ C.gl) (hg : Glo H x (.builtin "len")) (hm : (⟨y, l, .own ds⟩ : Ent) ∈ σ) (hz : (ds.length : Int) < 2 ^ 63) : Tri prog w H C σ (.Call (.Name x p) [.Name y q] [] pos) (.int ds.length) σ := by
  refine Box.of fun F ad s R => ?_
  obtain ⟨m, hn, qq⟩ := R.ns
  obtain ⟨_, _, vs, ⟨n, ho⟩, hr⟩ := (qq _ hm).slot
  have e : vs.size = ds.length := by have := hr.length; simpa using this
  refine callB1_wp R hx hg hm rfl (PySem.Calls.call_len_list ⟨_, ho, rfl, n, rfl⟩ (by rw [e]; exact hz) ?_)
  rw [e]
  exact Aft.kp R .toks (.int _ _)

/-! decode_rfc2231 -/
theorem rc_decode {f : Addr} {y : Str} {t : Tok} (hf : FnK H f 5) (gT : Glo H "TICK" (.str "'" t)) (gL : Glo H "len" (.builtin "len")) (hy : y.length + 2 ≤ 2 ^ 20) (h2 : (Txt.splitMax y "'" 2).length ≤ 2) : RC prog w H (.ref f) 2 [.str y] (.tuple [.none, .none, .str y]) := by
  refine RC.fk (ps := [("s", .str y)]) (vs := ["parts"]) (gl := ["TICK", "len"]) hf (by kernel_rfl) (by decide +kernel) (by kernel_rfl) (fun vals hl pm cd doc => by obtain ⟨a, rfl⟩ := one_of hl; rfl) fun C hC => ?_
  have hl : (encS (Txt.splitMax y "'" 2)).length ≤ 2 := by simpa [encS] using h2
  refine TriB.next (TriN.assignF (TriF.methS (Tri.name .here) PySem.F.slot_str_split PySem.F.type_str_split (TriL.cons (Tri.glo_str (hC.mem (by simp)) gT) (TriL.cons Tri.int .nil)) (rf_splitMax (by rfl) (by rfl) (Nat.le_trans hy (by decide)))) (.there .here) (.inl rfl)) ?_
  refine TriB.cons (Q := fun f σ => f = .rt (.tuple [.none, .none, .str y])) (TriS.ite (TriT.cmp (Tri.lenOwn (hC.mem (by simp)) gL (.tail _ (.head _)) (by lia)) Tri.int le_ii) (fun _ => ?_) fun hb => ?_) (fun σ' h => nomatch h) fun f σ' _ h => h
  · exact TriB.last (TriS.ret (Tri.tuple (TriL.cons Tri.cNone (TriL.cons Tri.cNone (TriL.cons (Tri.name .here) .nil))) (by show 3 ≤ sizeLine; decide)) rfl)
  · exact absurd hb (by simp; lia)
theorem rf_decode {f : Addr} {y : Str} {t : Tok} (hf : FnK H f 5) (gT : Glo H "TICK" (.str "'" t)) (gL : Glo H "len" (.builtin "len")) (hy : y.length + 2 ≤ 2 ^ 20) (h2 : 2 < (Txt.splitMax y "'" 2).length) (h3 : (Txt.splitMax y "'" 2).length ≤ 1000) : RF prog w H (.ref f) 2 [.str y] (encS (Txt.splitMax y "'" 2)) := by
  refine RF.fk (ps := [("s", .str y)]) (vs := ["parts"]) (gl := ["TICK", "len"]) hf (by kernel_rfl) (by decide +kernel) (by kernel_rfl) (fun vals hl pm cd doc => by obtain ⟨a, rfl⟩ := one_of hl; rfl) fun C hC => ?_
  have hl : 2 < (encS (Txt.splitMax y "'" 2)).length := by simpa [encS] using h2
  have hl' : (encS (Txt.splitMax y "'" 2)).length ≤ 1000 := by simpa [encS] using h3
  refine TriG.next (TriN.assignF (TriF.methS (Tri.name .here) PySem.F.slot_str_split PySem.F.type_str_split (TriL.cons (Tri.glo_str (hC.mem (by simp)) gT) (TriL.cons Tri.int .nil)) (rf_splitMax (by rfl) (by rfl) (Nat.le_trans hy (by decide)))) (.there .here) (.inl rfl)) ?_
  refine TriG.next (σ₁ := [Lo "s" (.val (.str y)), Lo "parts" (.own (encS (Txt.splitMax y "'" 2)))]) (TriS.ite (TriT.cmp (Tri.lenOwn (hC.mem (by simp)) gL (.tail _ (.head _)) (by lia)) Tri.int le_ii) (fun hb => ?_) fun hb => ?_) (TriG.ret (.tail _ (.head _)))
  · exact absurd hb (by simp; lia)
  · exact .nil ⟨rfl, rfl⟩
end
end Mine

end
noncomputable section
open PySem PySem.W PyProof.Rows
set_option maxRecDepth 100000
set_option autoImplicit false
namespace Mine
section
variable {prog : Program} {w : World} {H : Heap}

/-! pretty_flags -/
noncomputable def flagK : List (Int × Str) := [(1, "OPTIMIZED"), (2, "NEWLOCALS"), (4, "VARARGS"), (8, "VARKEYWORDS"), (16, "NESTED"), (32, "GENERATOR"), (64, "NOFREE"), (128, "COROUTINE"), (256, "ITERABLE_COROUTINE"), (512, "ASYNC_GENERATOR")]
noncomputable def hexS (i : Int) : Str := baseText "0x" 16 i
noncomputable def flagN (f : Int) : Str := (flagK.lookup f).getD (hexS f)
noncomputable def prettyGo : List Nat → Int → List Str → List Str × Option Int
  | [], fl, ns => (ns, some fl)
  | i :: r, fl, ns => if (Builtin.bitAnd fl (1 * 2 ^ i) != 0) = true then
      (if (Builtin.bitXor fl (1 * 2 ^ i) != 0) = true then prettyGo r (Builtin.bitXor fl (1 * 2 ^ i)) (ns ++ [flagN (1 * 2 ^ i)]) else (ns ++ [flagN (1 * 2 ^ i)], none))
    else prettyGo r fl ns
noncomputable def endL : List Str × Option Int → List Str
  | (ns, none) => ns
  | (ns, some e) => ns ++ [hexS e]
noncomputable def endOk : List Str × Option Int → Bool
  | (_, none) => true
  | (_, some e) => decide ((hexS e).length ≤ 100)
noncomputable def prettyL (fl : Int) : List Str := endL (prettyGo (List.range 32) fl [])
noncomputable def prettyR (fl : Int) : Str := Txt.join ", " (prettyL fl)
noncomputable def prettyOk (fl : Int) : Bool := endOk (prettyGo (List.range 32) fl []) && JoinOk ", " (prettyL fl)
theorem hex_small : ∀ i < 32, (hexS (1 * 2 ^ i)).length ≤ 100 := by decide +kernel
noncomputable def fσ (fl : Int) (ns : List Str) (i g : Slot) : List Ent := [Lo "flags" (.val (.int fl)), Lo "names" (.own (encS ns)), Lo "i" i, Lo "flag" g]
theorem rc_hex' {n : Nat} {i : Int} (hz : (hexS i).length ≤ 100) : RC prog w H (.builtin "hex") n [.int i] (.str (hexS i)) := rc_hex (Nat.le_trans hz (by decide))

inductive TdHI1 (fl : Int) (σ : List Ent) : Prop
  | mk (fl' : _) (i : _) (g : _) (h0 : σ = fσ fl' (prettyL fl) i g)
inductive TdHI2 (q : List Str × Option Int) (ds : List PyData) (σ : List Ent) : Prop
  | mk (r : _) (fl' : _) (ns : _) (i : _) (g : _) (h0 : ds = (r.map fun j : Nat => PyData.int (0 + (j : Nat)))) (h1 : σ = fσ fl' ns i g) (h2 : prettyGo r fl' ns = q) (h3 : (∀ j ∈ r, j < 32)) (h4 : ns.length + r.length ≤ 40)
set_option maxHeartbeats 2000000 in
theorem rc_pretty {f : Addr} {fl : Int} (hf : FnK H f 8) (gR : Glo H "range" (.type "range")) (gH : Glo H "hex" (.builtin "hex")) (T : TabI prog w H "COMPILER_FLAG_NAMES" flagK) (hok : prettyOk fl = true) : RC prog w H (.ref f) 2 [.int fl] (.str (prettyR fl)) := by
  refine RC.fk (ps := [("flags", .int fl)]) (vs := ["names", "i", "flag"]) (gl := ["range", "hex", "COMPILER_FLAG_NAMES"]) hf (by kernel_rfl) (by decide +kernel) (by kernel_rfl) (fun vals hl pm cd doc => by obtain ⟨a, rfl⟩ := one_of hl; rfl) fun C hC => ?_
  refine TriB.next (TriN.assignOwn .nil (.there .here) (.inl rfl)) ?_
  generalize hq : prettyGo (List.range 32) fl [] = q
  have hL : prettyL fl = endL q := by unfold prettyL; rw [hq]
  have hok1 := hok
  unfold prettyOk at hok1
  rw [hq] at hok1
  rw [Bool.and_eq_true] at hok1
  obtain ⟨hoe, hoj⟩ := hok1
  refine TriB.cons (Q := fun f σ => f = .nx ∧ TdHI1 fl σ) (TriS.for_ (ItE.range1 (hC.mem (by simp)) gR Tri.int (by decide) (by decide)) ⟨_, _, rfl⟩
    (TdHI2 q) ⟨List.range 32, fl, [], .un, .un, rfl, rfl, hq, fun j hj => List.mem_range.mp hj, by decide⟩ (fun d ds σ hI => ?_) fun σ hI => ?_) (fun σ' h => ?_) fun f σ' hn h => (hn h.1).elim
  · obtain ⟨r, fl', ns, i, g, hd, rfl, hg, hr, hl⟩ := hI
    cases r with
    | nil => cases hd
    | cons j r =>
    rw [List.map_cons] at hd
    injection hd with hd1 hd2
    subst hd1 hd2
    have hj := hr j (.head _)
    have hr' : ∀ j ∈ r, j < 32 := fun k hk => hr k (.tail _ hk)
    rw [List.length_cons] at hl
    have e0 : (1 : Int) * 2 ^ (0 + (j : Int)).toNat = 1 * 2 ^ j := by simp
    refine ⟨_, Asg.name (.there (.there .here)) (.inl rfl), ?_⟩
    refine TriB.next (TriN.assign (Tri.bin Tri.int (Tri.name (.there (.there .here))) (lsh_ii (by lia) (by lia) (by decide))) (.there (.there (.there .here))) (.inl rfl)) ?_
    rw [e0]
    unfold prettyGo at hg
    refine TriB.last (TriS.ite (TriT.val (Tri.bin (Tri.name .here) (Tri.name (.there (.there (.there .here)))) and_ii) truthy_i) (fun hb => ?_) fun hb => ?_)
    · rw [if_pos hb] at hg
      refine TriB.next (TriN.append (hi := hC.int) (Tri.getGI (hC.mem (by simp)) T (Tri.name (.there (.there (.there .here)))) (Tri.callB (hC.mem (by simp)) gH (TriL.cons (Tri.name (.there (.there (.there .here)))) .nil) (rc_hex' (hex_small j hj)) (Nat.zero_le _))) (.tail _ (.head _)) (.own _) (.there .here) (by simp [encS]; exact Nat.le_trans (show ns.length ≤ 40 by lia) (by decide)) ⟨_, .tail _ (.head _), _, .own _⟩) ?_
      refine TriB.next (TriN.aug .here (Tri.name (.there (.there (.there .here)))) ixor_ii .here (.inl rfl)) ?_
      refine TriB.last (TriS.ite (TriT.not (TriT.val (Tri.name .here) truthy_i)) (fun hz => ?_) fun hz => ?_)
      · have hz : (Builtin.bitXor fl' (1 * 2 ^ j) != 0) = false := by simpa using hz
        rw [if_neg (by rw [hz]; simp)] at hg
        refine TriB.last (TriS.brk ⟨rfl, Builtin.bitXor fl' (1 * 2 ^ j), .val (.int (0 + (j : Int))), .val (.int (1 * 2 ^ j)), ?_⟩)
        rw [hL, ← hg]
        simp [fσ, encS, Slot.list', flagN, endL]
      · have hz : (Builtin.bitXor fl' (1 * 2 ^ j) != 0) = true := by simpa using hz
        rw [if_pos hz] at hg
        refine .nil ⟨r, _, ns ++ [flagN (1 * 2 ^ j)], .val (.int (0 + (j : Int))), .val (.int (1 * 2 ^ j)), rfl, ?_, hg, hr', by rw [List.length_append]; simp; lia⟩
        simp [fσ, encS, Slot.list', flagN]
    · rw [if_neg (by rw [hb]; simp)] at hg
      exact .nil ⟨r, _, ns, _, _, rfl, rfl, hg, hr', by lia⟩
  · obtain ⟨r, fl', ns, i, g, hd, rfl, hg, hr, hl⟩ := hI
    cases r with
    | cons pc r => cases hd
    | nil =>
    have hg : (ns, some fl') = q := hg
    subst hg
    refine TriB.last (TriS.mono (TriN.append (hi := hC.int) (Tri.callB (hC.mem (by simp)) gH (TriL.cons (Tri.name .here) .nil) (rc_hex' (of_decide_eq_true hoe)) (Nat.zero_le _)) (.tail _ (.head _)) (.own _) (.there .here) (by simp [encS]; exact Nat.le_trans (show ns.length ≤ 40 by lia) (by decide)) ⟨_, .tail _ (.head _), _, .own _⟩) fun f σ' h => ?_)
    obtain ⟨rfl, rfl⟩ := h
    exact ⟨rfl, fl', i, g, by rw [hL]; simp [fσ, encS, Slot.list', endL]⟩
  · obtain ⟨_, fl', i, g, rfl⟩ := h
    refine TriB.turn (.cons (.same _) (.cons (.fz _ _ _) (Turns.refl _))) ?_
    exact TriB.last (TriS.ret (Tri.methS Tri.str PySem.F.slot_str_join PySem.F.type_str_join (TriL.cons (Tri.name (.there .here)) .nil) (rc_join hoj)) rfl)
end
end Mine

end
noncomputable section
open PySem PySem.W PyProof.Rows
set_option maxRecDepth 100000
set_option autoImplicit false
namespace Mine
section
variable {prog : Program} {w : World} {H : Heap}

/-! _parse_varint -/
noncomputable def varGo : List Int → Int → Int → Option (Int × List Int)
  | [], b, v => if (Builtin.bitAnd b 64 != 0) = true then none else some (v, [])
  | c :: r, b, v => if (Builtin.bitAnd b 64 != 0) = true then (if Builtin.Int.intBits v ≤ 64 then varGo r c (Builtin.bitOr (v * 2 ^ 6) (Builtin.bitAnd c 63)) else none) else some (v, c :: r)
noncomputable def varint : List Int → Option (Int × List Int)
  | [] => none
  | b :: r => varGo r b (Builtin.bitAnd b 63)
noncomputable def vσ (r : List Int) (b v : Slot) : List Ent := [Lo "iterator" (.itr true (encI r)), Lo "b" b, Lo "val" v]

inductive TdII1 (rest : List Int) (v : Int) (σ : List Ent) : Prop
  | mk (b : _) (h0 : σ = vσ rest b (.val (.int v)))
inductive TdII2 (rest : List Int) (v : Int) (n : Nat) (σ : List Ent) : Prop
  | mk (r : _) (b : _) (u : _) (h0 : n = List.length r) (h1 : σ = vσ r (.val (.int b)) (.val (.int u))) (h2 : varGo r b u = some (v, rest))
set_option maxHeartbeats 2000000 in
theorem rm_varint {f : Addr} {t rest : List Int} {v : Int} (hf : FnK H f 9) (gN : Glo H "next" (.builtin "next")) (hv : varint t = some (v, rest)) : RM prog w H (.ref f) 2 [] [] (.itr true (encI t)) (.itr true (encI rest)) (.int v) := by
  refine RM.fk (pre := []) (post := []) (x := "iterator") (vs := ["b", "val"]) (gl := ["next"]) hf rfl (by decide +kernel) (by decide +kernel) (by kernel_rfl) (fun vals hl pm cd doc => by obtain ⟨a, rfl⟩ := one_of hl; rfl) rfl fun C hC => ?_
  cases t with
  | nil => cases hv
  | cons b₀ t =>
  unfold varint at hv
  refine TriB.next (TriN.assign (σ₁ := vσ t .un .un) (Tri.next (ds := encI t) (hC.mem (by simp)) gN (.head _) .here) (.there .here) (.inl rfl)) ?_
  refine TriB.next (TriN.assign (Tri.bin (Tri.name (.there .here)) Tri.int and_ii) (.there (.there .here)) (.inl rfl)) ?_
  refine TriB.cons (Q := fun f σ => f = .nx ∧ TdII1 rest v σ) (TriS.while_ (TdII2 rest v) t.length ⟨t, b₀, _, rfl, rfl, hv⟩ fun n σ hI => ?_) (fun σ' h => ?_) fun f σ' hn h => (hn h.1).elim
  · obtain ⟨r, b, u, rfl, rfl, hg⟩ := hI
    refine ⟨_, _, TriT.val (Tri.bin (Tri.name (.there .here)) Tri.int and_ii) truthy_i, fun hb => ?_, fun hb => ?_⟩
    · cases r with
      | nil => unfold varGo at hg; rw [if_pos hb] at hg; cases hg
      | cons c r =>
        unfold varGo at hg
        rw [if_pos hb] at hg
        split at hg
        · rename_i hz
          refine TriB.next (TriN.aug (.there (.there .here)) Tri.int (ilsh_ii (by decide) (by lia)) (.there (.there .here)) (.inl rfl)) ?_
          refine TriB.next (TriN.assign (σ₁ := vσ r (.val (.int b)) (.val (.int (u * 2 ^ (6 : Int).toNat)))) (Tri.next (ds := encI r) (hC.mem (by simp)) gN (.head _) .here) (.there .here) (.inl rfl)) ?_
          refine TriB.last (TriS.mono (TriN.aug (.there (.there .here)) (Tri.bin (Tri.name (.there .here)) Tri.int and_ii) ior_ii (.there (.there .here)) (.inl rfl)) fun f σ' h => ?_)
          obtain ⟨rfl, rfl⟩ := h
          exact ⟨r.length, Nat.lt_succ_self _, r, c, _, rfl, rfl, hg⟩
        · cases hg
    · have : some (u, r) = some (v, rest) := by
        cases r <;> (unfold varGo at hg; rw [if_neg (by rw [hb]; simp)] at hg; exact hg)
      injection this with this
      injection this with h1 h2
      subst h1 h2
      exact .nil ⟨rfl, _, rfl⟩
  · obtain ⟨_, b, rfl⟩ := h
    exact TriB.last (TriS.ret (Tri.name (.there (.there .here))) ⟨rfl, true, .head _⟩)
end
end Mine

end
noncomputable section
open PySem PySem.W PyProof.Rows
set_option maxRecDepth 100000
set_option autoImplicit false
namespace Mine
section
variable {prog : Program} {w : World} {H : Heap}

/-! words added up -/
noncomputable def encK (kvs : List Pr) : List (Str × PyData) := kvs.map fun p => (p.1, .int p.2)
theorem getK_enc (kvs : List Pr) (k : Str) : getK (encK kvs) k = (getK kvs k).map .int := by
  unfold getK encK
  induction kvs with
  | nil => rfl
  | cons p kvs ih =>
    simp only [List.map_cons, List.find?_cons]
    by_cases h : p.1 = k
    · simp [h]
    · simp only [h, decide_false]; exact ih
theorem putK_enc (kvs : List Pr) (k : Str) (v : Int) : putK (encK kvs) k (.int v) = encK (putK kvs k v) := by
  unfold putK encK
  have : (kvs.map fun p : Pr => (p.1, PyData.int p.2)).any (fun p => decide (p.1 = k)) = kvs.any fun p => decide (p.1 = k) := by simp [List.any_map, Function.comp_def]
  rw [this]
  split
  · simp only [List.map_map]
    congr 1
    funext p
    dsimp only [Function.comp]
    split <;> rfl
  · simp
noncomputable def addK (kvs : List Pr) (p : Pr) : List Pr := putK kvs p.1 ((getK kvs p.1).getD 0 + p.2)
noncomputable def sumK (ps : List Pr) : List Pr := ps.foldl addK []
noncomputable def plainR (ps : List Pr) : List Pr := sortP ((sumK ps).filter fun p => p.2 != 0)
theorem putK_len {α : Type} (kvs : List (Str × α)) (k : Str) (v : α) : (putK kvs k v).length ≤ kvs.length + 1 := by
  unfold putK; split <;> simp
theorem putK_nodup {α : Type} (kvs : List (Str × α)) (k : Str) (v : α) (h : (kvs.map (·.1)).Nodup) : ((putK kvs k v).map (·.1)).Nodup := by
  unfold putK
  split
  · rw [List.map_map, show ((fun x : Str × α => x.1) ∘ fun p => if p.1 = k then (p.1, v) else p) = (fun x => x.1) from by funext p; dsimp only [Function.comp]; split <;> rfl]
    exact h
  · rename_i hn
    rw [List.map_append, List.nodup_append]
    refine ⟨h, by simp, fun a ha b hb e => hn ?_⟩
    simp at hb
    subst hb
    obtain ⟨p, hp, he⟩ := List.mem_map.mp ha
    exact List.any_eq_true.mpr ⟨p, hp, by simp [he, e]⟩
theorem fold_nodup : ∀ (ps : List Pr) (kvs : List Pr), (kvs.map (·.1)).Nodup → ((ps.foldl addK kvs).map (·.1)).Nodup
  | [], _, h => h
  | p :: ps, kvs, h => fold_nodup ps (addK kvs p) (putK_nodup kvs _ _ h)
theorem fold_len : ∀ (ps : List Pr) (kvs : List Pr), (ps.foldl addK kvs).length ≤ kvs.length + ps.length
  | [], _ => Nat.le_refl _
  | p :: ps, kvs => by
    have h1 := fold_len ps (addK kvs p)
    have h2 := putK_len kvs p.1 ((getK kvs p.1).getD 0 + p.2)
    rw [List.foldl_cons, List.length_cons]
    unfold addK at *
    lia
theorem getK_mem {kvs : List Pr} {p : Pr} (hn : (kvs.map (·.1)).Nodup) (hp : p ∈ kvs) : getK kvs p.1 = some p.2 := by
  unfold getK
  induction kvs with
  | nil => cases hp
  | cons q kvs ih =>
    rw [List.map_cons, List.nodup_cons] at hn
    rw [List.find?_cons]
    rcases List.mem_cons.mp hp with rfl | hp
    · simp
    · have : q.1 ≠ p.1 := fun e => hn.1 (e ▸ List.mem_map.mpr ⟨p, hp, rfl⟩)
      simp only [this, decide_false]
      exact ih hn.2 hp
noncomputable def plainG (kvs : List Pr) : PyData → List PyData
  | .str k => if ((getK kvs k).getD 0 != 0) = true then [.tuple [.str k, .int ((getK kvs k).getD 0)]] else []
  | _ => []
theorem plainG_all (kvs : List Pr) (hn : (kvs.map (·.1)).Nodup) : ∀ l : List Pr, (∀ p ∈ l, p ∈ kvs) → (l.map fun p => PyData.str p.1).flatMap (plainG kvs) = encP (l.filter fun p => p.2 != 0)
  | [], _ => rfl
  | p :: l, h => by
    rw [List.map_cons, List.flatMap_cons, plainG_all kvs hn l fun q hq => h q (.tail _ hq), List.filter_cons]
    show (if ((getK kvs p.1).getD 0 != 0) = true then [PyData.tuple [.str p.1, .int ((getK kvs p.1).getD 0)]] else []) ++ _ = _
    rw [getK_mem hn (h p (.head _))]
    dsimp only [Option.getD_some]
    split <;> rfl
theorem Tri.getDictI {C : Cx} {σ : List Ent} {x : Str} {l : Bool} {i e : Expr} {p ap pos : Pos} {k : Str} {d : Int} {kvs : List Pr} {pl : Sem Bool} (hm : (⟨x, l, .dic (encK kvs)⟩ : Ent) ∈ σ) (hi : Tri prog w H C σ i (.str k) σ) (he : Tri prog w H C σ e (.int d) σ)
    (hev : eval (.Call (.Attribute (.Name x p) "get" ap) [i, e] [] pos) C.env = (do
      let ov ← eval (.Name x p) C.env
      standAt ap.atName
      let (f, first) ← holding [ov] (getMethod ov "get" pl)
      callWith pos f first (backTo pos (starEach [i, e] C.env)) []) := by rfl)
    (hs : starEach [i, e] C.env = [(false, eval i C.env), (false, eval e C.env)] := by rfl) : Tri prog w H C σ (.Call (.Attribute (.Name x p) "get" ap) [i, e] [] pos) (.int ((getK kvs k).getD d)) σ := by
  have h := Tri.getDict hm hi he hev hs
  rw [getK_enc, show ((getK kvs k).map PyData.int).getD (.int d) = .int ((getK kvs k).getD d) from by cases getK kvs k <;> rfl] at h
  exact h

noncomputable def plσ (ps : List Pr) (v : Slot) (a b : Slot) : List Ent := [Lo "pairs" (.val (.list (encP ps))), Ce "value" v, Lo "word" a, Lo "weight" b]
inductive TdJI1 (ps : List Pr) (σ : List Ent) : Prop
  | mk (a : _) (b : _) (h0 : σ = plσ ps (.dic (encK (sumK ps))) a b)
inductive TdJI2 (ps : List Pr) (ds : List PyData) (σ : List Ent) : Prop
  | mk (r : _) (kvs : _) (a : _) (b : _) (h0 : ds = encP r) (h1 : σ = plσ ps (.dic (encK kvs)) a b) (h2 : r.foldl addK kvs = sumK ps) (h3 : kvs.length + r.length ≤ 10000)
set_option maxHeartbeats 2000000 in
theorem rc_plain {f : Addr} {ps : List Pr} (hf : FnK H f 66) (gS : Glo H "sorted" (.builtin "sorted")) (hl : ps.length ≤ 10000) (h64 : ((sumK ps).filter fun p => p.2 != 0).length < 64) : RC prog w H (.ref f) 2 [.list (encP ps)] (.list (encP (plainR ps))) := by
  refine RC.fk (ps := [("pairs", .list (encP ps))]) (vs := ["value", "word", "weight"]) (gl := ["sorted"]) hf (by kernel_rfl) (by decide +kernel) (by kernel_rfl) (fun vals hl pm cd doc => by obtain ⟨a, rfl⟩ := one_of hl; rfl) fun C hC => ?_
  refine TriB.next (TriN.assignDict (.there .here) (.inr hC.fr) hf.lim) ?_
  refine TriB.cons (Q := fun f σ => f = .nx ∧ TdJI1 ps σ) (TriS.for_ (ItE.list (Tri.name .here)) (.inr ⟨_, _, _, rfl⟩)
    (TdJI2 ps) ⟨ps, [], .un, .un, rfl, rfl, rfl, by simpa using hl⟩ (fun d ds σ hI => ?_) fun σ hI => ?_) (fun σ' h => ?_) fun f σ' hn h => (hn h.1).elim
  · obtain ⟨r, kvs, a, b, hd, rfl, hg, hz⟩ := hI
    cases r with
    | nil => cases hd
    | cons p r =>
    obtain ⟨k, c⟩ := p
    injection hd with hd1 hd2
    subst hd1 hd2
    rw [List.length_cons] at hz
    refine ⟨_, Asg.tuple (AsgL.cons (Asg.name (.there (.there .here)) (.inl rfl)) (AsgL.cons (Asg.name (.there (.there (.there .here))) (.inl rfl)) .nil)), ?_⟩
    refine TriB.last (TriS.mono (TriN.setDict (Tri.bin (Tri.getDictI (.tail _ (.head _)) (Tri.name (.there (.there .here))) Tri.int) (Tri.name (.there (.there (.there .here)))) add_ii) (.tail _ (.head _)) (Tri.name (.there (.there .here))) (.there .here) (by simp [encK]; exact Nat.le_trans (show kvs.length ≤ 10000 by lia) (by decide))) fun f σ' h => ?_)
    obtain ⟨rfl, rfl⟩ := h
    refine ⟨r, addK kvs (k, c), .val (.str k), .val (.int c), rfl, ?_, hg, ?_⟩
    · rw [putK_enc]; rfl
    · have := putK_len kvs k ((getK kvs k).getD 0 + c); unfold addK; dsimp only; lia
  · obtain ⟨r, kvs, a, b, hd, rfl, hg, hz⟩ := hI
    cases r with
    | cons pc r => cases hd
    | nil => exact .nil ⟨rfl, a, b, by rw [← hg]; rfl⟩
  · obtain ⟨_, a, b, rfl⟩ := h
    refine TriB.turn (.cons (.same _) (.cons (.fd _ _ _) (Turns.refl _))) ?_
    have hn : ((sumK ps).map (·.1)).Nodup := fold_nodup ps [] .nil
    have hall := plainG_all (sumK ps) hn (sumK ps) fun _ h => h
    refine TriB.last (TriS.ret (σ₁ := plσ ps (.rdc (encK (sumK ps))) a b) (Tri.callB (hC.mem (by simp)) gS (TriL.cons (d := .list (encP ((sumK ps).filter fun p => p.2 != 0))) ?_ .nil) (rc_sorted (hn.sublist (List.Sublist.map _ List.filter_sublist)) h64) (Nat.zero_le _)) rfl)
    rw [← hall]
    have hm : (encK (sumK ps)).map (fun q => PyData.str q.1) = (sumK ps).map fun p => PyData.str p.1 := by simp [encK, Function.comp_def]
    rw [← hm]
    refine Tri.comp (ItE.dict (.tail _ (.head _))) ⟨_, _, rfl⟩ [("value", .rdc (encK (sumK ps)))] ["word"] [] (hC.kid fun _ _ _ _ _ _ => by kernel_rfl) (fun p hp => ?_) (plainG (sumK ps)) (fun L d hd => ?_) (fun L it D => rfl) ?_
    · simp at hp
      subst hp
      exact ⟨.tail _ (.head _), rfl⟩
    · obtain ⟨q, hq, rfl⟩ := List.mem_map.mp hd
      obtain ⟨q', hq', rfl⟩ := List.mem_map.mp hq
      have hg := getK_mem hn hq'
      have hge : getK (encK (sumK ps)) q'.1 = some (.int q'.2) := by rw [getK_enc, hg]; rfl
      have hG : plainG (sumK ps) (.str (q'.1, PyData.int q'.2).1) = if (q'.2 != 0) = true then [PyData.tuple [.str q'.1, .int q'.2]] else [] := by
        show (if ((getK (sumK ps) q'.1).getD 0 != 0) = true then [PyData.tuple [.str q'.1, .int ((getK (sumK ps) q'.1).getD 0)]] else []) = _
        rw [hg]; rfl
      rw [hG]
      refine ⟨_, _, Asg.name (.there .here) (.inl rfl), .cons (.same _) (.cons (.un _ _ _) .nil), TriI.one (TriT.cmp (Tri.itemDict (.head _) (Tri.name (.there .here)) hge) Tri.int ne_ii), fun hb => ?_, fun hb => ?_⟩
      · rw [if_pos hb]
        exact EmitR.elt (Tri.tuple (TriL.cons (Tri.name (.there .here)) (TriL.cons (Tri.itemDict (.head _) (Tri.name (.there .here)) hge) .nil)) (by show 2 ≤ sizeLine; decide))
      · rw [if_neg (by rw [hb]; simp)]
    · rw [hm, hall]
      unfold encP
      rw [List.length_map]
      exact Nat.le_trans (Nat.le_of_lt h64) (by decide)
end
end Mine

end
noncomputable section
open PySem PySem.W PyProof.Rows
set_option maxRecDepth 100000
set_option autoImplicit false
namespace Mine

noncomputable abbrev Cut := List Int × List Int
noncomputable def encC (cs : List Cut) : List PyData := cs.map fun q => .tuple [.list (encI q.1), .list (encI q.2)]
noncomputable def ch1 (y : Str) (k : Int) : Str := ⟨#[y.cps.getD k.toNat 0]⟩
noncomputable def laid4 (y : Str) (a b c d : Int) : Str := ch1 y a ++ ch1 y b ++ ch1 y c ++ ch1 y d
noncomputable def laidL (y : Str) : List Int → Str
  | [a, b, c, d] => laid4 y a b c d
  | _ => ""
noncomputable def cutB (q : Cut) : List Int := q.1.reverse ++ [0] ++ q.2
noncomputable abbrev In4 (k : Int) : Prop := 0 ≤ k ∧ k < 4
structure CutOk (q : Cut) : Prop where
  rev : pickL none none (some (-1)) (encI q.1) = encI q.1.reverse
  four : (cutB q).length = 4
  four' : ([0] ++ q.1 ++ q.2).length = 4
  mem : ∀ k ∈ q.1 ++ q.2, In4 k
  len : q.1.length ≤ 3
noncomputable def brT (y : Str) (c : Int) (q : Cut) : Pr := (laidL y (cutB q), c * (-1) ^ q.1.length)
noncomputable def brTerms (ps : List Pr) (cs : List Cut) : List Pr := ps.flatMap fun p => cs.map (brT p.1 p.2)

section
variable {prog : Program} {w : World} {H : Heap} {C : Cx} {σ : List Ent}

theorem item_ch1 {y : Str} {k : Int} (hy : y.cps.size = 4) (hk : In4 k) : RI prog w (.str y) (.int k) (.str (ch1 y k)) := by
  refine item_si hk.1 (by have := hk.2; lia) ?_
  have : k.toNat < y.cps.size := by have := hk.1; have := hk.2; lia
  simp [Array.getD, this]
theorem encI_append (a b : List Int) : encI (a ++ b) = encI a ++ encI b := by simp [encI]
theorem app_len (x y : Str) : (x ++ y).length = x.length + y.length := by show (x.cps ++ y.cps).size = _; rw [Array.size_append]; rfl

set_option genInjectivity false in
set_option genSizeOf false in
structure S8 where
  a : Slot := .un
  b : Slot := .un
  c : Slot := .un
  d : Slot := .un
  e : Slot := .un
  f : Slot := .un
  g : Slot := .un
  h : Slot := .un
noncomputable def brσ (ps : List Pr) (cs : List Cut) (t : List Pr) (s : S8) : List Ent :=
  [Lo "pairs" (.val (.list (encP ps))), Lo "cuts" (.val (.list (encC cs))), Lo "terms" (.own (encP t)), Lo "word" s.a, Lo "weight" s.b, Lo "chosen" s.c, Lo "others" s.d, Lo "a" s.e, Lo "b" s.f, Lo "c" s.g, Lo "d" s.h]

inductive TdKI1 (ps : List Pr) (cs : List Cut) (σ : List Ent) : Prop
  | mk (s : _) (h0 : σ = brσ ps cs (brTerms ps cs) s)
inductive TdKI2 (ps : List Pr) (cs : List Cut) (ds : List PyData) (σ : List Ent) : Prop
  | mk (r : _) (t : _) (s : _) (h0 : ds = encP r) (h1 : σ = brσ ps cs t s) (h2 : t ++ brTerms r cs = brTerms ps cs) (h3 : ∀ p ∈ r, p.1.cps.size = 4)
inductive TdKI3 (ps : List Pr) (cs : List Cut) (t : List Pr) (y : Str) (c : Int) (ds : List PyData) (σ : List Ent) : Prop
  | mk (q : _) (u : _) (s : _) (h0 : ds = encC q) (h1 : σ = brσ ps cs u ⟨.val (.str y), .val (.int c), S8.c s, s.d, s.e, s.f, s.g, s.h⟩) (h2 : u ++ q.map (brT y c) = t ++ cs.map (brT y c)) (h3 : ∀ x ∈ q, CutOk x)
set_option maxHeartbeats 4000000 in
theorem rc_bracketed {f fp : Addr} {ps : List Pr} {cs : List Cut} (hf : FnK H f 72) (hp : FnK H fp 66) (gP : Glo H "_law_plain" (.ref fp)) (gS : Glo H "sorted" (.builtin "sorted")) (gL : Glo H "len" (.builtin "len")) (h4 : ∀ p ∈ ps, p.1.cps.size = 4) (hc : ∀ q ∈ cs, CutOk q) (hl : (brTerms ps cs).length ≤ 10000)
    (h64 : ((sumK (brTerms ps cs)).filter fun p => p.2 != 0).length < 64) : RC prog w H (.ref f) 4 [.list (encP ps), .list (encC cs)] (.list (encP (plainR (brTerms ps cs)))) := by
  refine RC.fk (ps := [("pairs", .list (encP ps)), ("cuts", .list (encC cs))]) (vs := ["terms", "word", "weight", "chosen", "others", "a", "b", "c", "d"]) (gl := ["len", "_law_plain"]) hf (by kernel_rfl) (by decide +kernel) (by kernel_rfl) (fun vals hl pm cd doc => by obtain ⟨a, b, rfl⟩ := two_of hl; rfl) fun C hC => ?_
  refine TriB.next (TriN.assignOwn .nil (.there (.there .here)) (.inl rfl)) ?_
  refine TriB.cons (Q := fun f σ => f = .nx ∧ TdKI1 ps cs σ) (TriS.for_ (ItE.list (Tri.name .here)) (.inr ⟨_, _, _, rfl⟩)
    (TdKI2 ps cs) ⟨ps, [], {}, rfl, rfl, rfl, h4⟩ (fun d ds σ hI => ?_) fun σ hI => ?_) (fun σ' h => ?_) fun f σ' hn h => (hn h.1).elim
  · obtain ⟨r, t, s, hd, rfl, hg, h4⟩ := hI
    cases r with
    | nil => cases hd
    | cons p r =>
    obtain ⟨y, c⟩ := p
    injection hd with hd1 hd2
    subst hd1 hd2
    have hy : y.cps.size = 4 := h4 (y, c) (.head _)
    refine ⟨_, Asg.tuple (AsgL.cons (Asg.name (.there (.there (.there .here))) (.inl rfl)) (AsgL.cons (Asg.name (.there (.there (.there (.there .here)))) (.inl rfl)) .nil)), ?_⟩
    have hg' : (t ++ cs.map (brT y c)) ++ brTerms r cs = brTerms ps cs := by rw [← hg, List.append_assoc]; rfl
    have hlt : (t ++ cs.map (brT y c)).length ≤ 10000 := by rw [← hg'] at hl; rw [List.length_append] at hl; lia
    refine TriB.last (TriS.for_ (ItE.list (Tri.name (.there .here))) (.inr ⟨_, _, _, rfl⟩)
      (TdKI3 ps cs t y c) ⟨cs, t, s, rfl, rfl, rfl, hc⟩ (fun d ds σ hI => ?_) fun σ hI => ?_)
    · obtain ⟨q, u, s, hd, rfl, hu, hq⟩ := hI
      cases q with
      | nil => cases hd
      | cons x q =>
      injection hd with hd1 hd2
      subst hd1 hd2
      have hx := hq x (.head _)
      obtain ⟨k1, k2, k3, k4, hk⟩ := four_of hx.four
      have hmem : ∀ k ∈ cutB x, In4 k := fun k hk => by
        unfold cutB at hk
        simp only [List.mem_append, List.mem_reverse, List.mem_singleton] at hk
        rcases hk with (hk | rfl) | hk
        · exact hx.mem k (List.mem_append.mpr (.inl hk))
        · exact ⟨by lia, by lia⟩
        · exact hx.mem k (List.mem_append.mpr (.inr hk))
      rw [hk] at hmem
      have i1 := hmem k1 (by simp)
      have i2 := hmem k2 (by simp)
      have i3 := hmem k3 (by simp)
      have i4 := hmem k4 (by simp)
      refine ⟨_, Asg.tuple (AsgL.cons (Asg.name (.there (.there (.there (.there (.there .here))))) (.inl rfl)) (AsgL.cons (Asg.name (.there (.there (.there (.there (.there (.there .here)))))) (.inl rfl)) .nil)), ?_⟩
      have e : (pickL none none (some (-1)) (encI x.1) ++ [PyData.int 0]) ++ encI x.2 = encI [k1, k2, k3, k4] := by
        rw [hx.rev, ← hk]; unfold cutB; rw [encI_append, encI_append]; rfl
      have hlen : (encI x.1).length ≤ 3 := by simpa [encI] using hx.len
      have hlen2 : (encI x.2).length ≤ 3 := by have := hx.four; simp [cutB] at this; simp [encI]; lia
      have hlr : (pickL none none (some (-1)) (encI x.1)).length ≤ 3 := by rw [hx.rev]; simpa [encI] using hx.len
      refine TriB.next (TriN.assignT (σ₁ := brσ ps cs u ⟨.val (.str y), .val (.int c), .val (.list (encI x.1)), .val (.list (encI x.2)), s.e, s.f, s.g, s.h⟩) (d := .list (encI [k1, k2, k3, k4])) ?_ (Asg.list (AsgL.cons (Asg.name (.there (.there (.there (.there (.there (.there (.there .here))))))) (.inl rfl)) (AsgL.cons (Asg.name (.there (.there (.there (.there (.there (.there (.there (.there .here)))))))) (.inl rfl))
        (AsgL.cons (Asg.name (.there (.there (.there (.there (.there (.there (.there (.there (.there .here))))))))) (.inl rfl)) (AsgL.cons (Asg.name (.there (.there (.there (.there (.there (.there (.there (.there (.there (.there .here)))))))))) (.inl rfl)) .nil)))))) ?_
      · rw [← e]
        refine Tri.bin (Tri.bin (Tri.sliceL (Tri.name (.there (.there (.there (.there (.there .here)))))) ⟨rfl, rfl⟩ ⟨rfl, rfl⟩ ⟨-1, rfl, Tri.una Tri.int neg_i⟩ (by decide) (Nat.le_trans hlen (by decide)) ⟨_, fun _ _ => rfl⟩) (Tri.list (TriL.cons Tri.int .nil) (by show 1 ≤ sizeLine; decide)) (add_ll ?_)) (Tri.name (.there (.there (.there (.there (.there (.there .here))))))) (add_ll ?_)
        · exact Nat.le_trans (Nat.add_le_add_right hlr 1) (by decide)
        · rw [List.length_append]; exact Nat.le_trans (Nat.add_le_add (Nat.add_le_add_right hlr 1) hlen2) (by decide)
      · have hpw : Builtin.Int.intBits ((-1 : Int) ^ ((encI x.1).length : Int).toNat) ≤ 64 := by
          have h3 := hlen
          generalize (encI x.1).length = m at h3
          have : m = 0 ∨ m = 1 ∨ m = 2 ∨ m = 3 := by lia
          rcases this with rfl | rfl | rfl | rfl <;> decide
        have hut : u.length ≤ 10000 := by
          have := congrArg List.length hu
          rw [List.length_append] at this
          lia
        refine TriB.last (TriS.mono (TriN.append (hi := hC.int) (Tri.tuple (TriL.cons (Tri.bin (Tri.bin (Tri.bin (Tri.item (Tri.name (.there (.there (.there .here)))) (Tri.name (.there (.there (.there (.there (.there (.there (.there .here)))))))) (item_ch1 hy i1)) (Tri.item (Tri.name (.there (.there (.there .here)))) (Tri.name (.there (.there (.there (.there (.there (.there (.there (.there .here))))))))) (item_ch1 hy i2)) (add_ss (by show 2 ≤ sizeLine; decide)))
          (Tri.item (Tri.name (.there (.there (.there .here)))) (Tri.name (.there (.there (.there (.there (.there (.there (.there (.there (.there .here)))))))))) (item_ch1 hy i3)) (add_ss (by rw [app_len]; show 3 ≤ sizeLine; decide)))
          (Tri.item (Tri.name (.there (.there (.there .here)))) (Tri.name (.there (.there (.there (.there (.there (.there (.there (.there (.there (.there .here))))))))))) (item_ch1 hy i4)) (add_ss (by rw [app_len, app_len]; show 4 ≤ sizeLine; decide)))
          (TriL.cons (Tri.bin (Tri.name (.there (.there (.there (.there .here))))) (Tri.bin (Tri.una Tri.int neg_i) (Tri.callB (hC.mem (by simp)) gL (TriL.cons (Tri.name (.there (.there (.there (.there (.there .here)))))) .nil) (rc_len_l (by lia)) (Nat.zero_le _)) (pow_ii (by lia) ?_)) (mul_ii (.inr hpw))) .nil)) (by show 2 ≤ sizeLine; decide)) (.tail _ (.tail _ (.head _))) (.own _) (.there (.there .here)) (by simp [encP]; exact Nat.le_trans hut (by decide)) ⟨_, .tail _ (.tail _ (.head _)), _, .own _⟩) fun f σ' h => ?_)
        · rw [show Builtin.Int.intBits (-1) = 1 from rfl]; lia
        · obtain ⟨rfl, rfl⟩ := h
          refine ⟨q, u ++ [brT y c x], ⟨.un, .un, .val (.list (encI x.1)), .val (.list (encI x.2)), .val (.int k1), .val (.int k2), .val (.int k3), .val (.int k4)⟩, rfl, ?_, ?_, fun z hz => hq z (.tail _ hz)⟩
          · have eb : brT y c x = (ch1 y k1 ++ ch1 y k2 ++ ch1 y k3 ++ ch1 y k4, c * (-1) ^ ((encI x.1).length : Int).toNat) := by
              unfold brT; rw [hk]; simp [laidL, laid4, encI]
            rw [eb]
            simp [brσ, encP, Slot.list']
          · rw [← hu]; simp
    · obtain ⟨q, u, s, hd, rfl, hu, hq⟩ := hI
      cases q with
      | cons pc r => cases hd
      | nil =>
        refine .nil ⟨r, u, ⟨.val (.str y), .val (.int c), s.c, s.d, s.e, s.f, s.g, s.h⟩, rfl, rfl, ?_, fun p hp => h4 p (.tail _ hp)⟩
        rw [← hg', ← hu]; simp
  · obtain ⟨r, t, s, hd, rfl, hg, h4⟩ := hI
    cases r with
    | cons pc r => cases hd
    | nil => exact .nil ⟨rfl, s, by rw [← hg]; simp [brTerms]⟩
  · obtain ⟨_, s, rfl⟩ := h
    refine TriB.turn (.cons (.same _) (.cons (.same _) (.cons (.fz _ _ _) (Turns.refl _)))) ?_
    exact TriB.last (TriS.ret (Tri.callF (hC.mem (by simp)) gP hp.is (TriL.cons (Tri.name (.there (.there .here))) .nil) (rc_plain hp gS hl h64) (hC.le (by show 2 ≤ 3; lia))) rfl)
end
end Mine

end
noncomputable section
open PySem PySem.W PyProof.Rows
set_option maxRecDepth 100000
set_option autoImplicit false
namespace Mine
noncomputable def cutS (q : Cut) : List Int := [0] ++ q.1 ++ q.2
noncomputable def shW (y : Str) (q : Cut) : Str :=
  let l := laidL y (cutS q)
  let k : Int := 1 + (q.1.length : Nat)
  minS (Txt.slice l none (some k) ++ " " ++ Txt.slice l (some k) none) (Txt.slice l (some k) none ++ " " ++ Txt.slice l none (some k))
noncomputable def shT (y : Str) (c : Int) (q : Cut) : Pr := (shW y q, c)
noncomputable def shTerms (ps : List Pr) (cs : List Cut) : List Pr := ps.flatMap fun p => cs.map (shT p.1 p.2)
section
variable {prog : Program} {w : World} {H : Heap} {C : Cx} {σ : List Ent}
noncomputable def shσ (ps : List Pr) (cs : List Cut) (t : List Pr) (s : S8) (s9 s0 : Slot) : List Ent :=
  [Lo "pairs" (.val (.list (encP ps))), Lo "cuts" (.val (.list (encC cs))), Lo "terms" (.own (encP t)), Lo "word" s.a, Lo "weight" s.b, Lo "chosen" s.c, Lo "others" s.d, Lo "a" s.e, Lo "b" s.f, Lo "c" s.g, Lo "d" s.h, Lo "laid" s9, Lo "size" s0]

inductive TdLI1 (ps : List Pr) (cs₀ : List Cut) (cs : List Cut) (σ : List Ent) : Prop
  | mk (s : _) (s9 : _) (s0 : _) (h0 : σ = shσ ps cs₀ (shTerms ps cs) s s9 s0)
inductive TdLI2 (ps : List Pr) (cs₀ : List Cut) (cs : List Cut) (ds : List PyData) (σ : List Ent) : Prop
  | mk (r : _) (t : _) (s : _) (s9 : _) (s0 : _) (h0 : ds = encP r) (h1 : σ = shσ ps cs₀ t s s9 s0) (h2 : t ++ shTerms r cs = shTerms ps cs) (h3 : ∀ p ∈ r, p.1.cps.size = 4)
inductive TdLI3 (ps : List Pr) (cs₀ : List Cut) (cs : List Cut) (t : List Pr) (y : Str) (c : Int) (ds : List PyData) (σ : List Ent) : Prop
  | mk (q : _) (u : _) (s : _) (s9 : _) (s0 : _) (h0 : ds = encC q) (h1 : σ = shσ ps cs₀ u ⟨.val (.str y), .val (.int c), S8.c s, s.d, s.e, s.f, s.g, s.h⟩ s9 s0) (h2 : u ++ q.map (shT y c) = t ++ cs.map (shT y c)) (h3 : ∀ x ∈ q, CutOk x)
set_option maxHeartbeats 4000000 in
theorem rc_shuffled {f fp : Addr} {ps : List Pr} {cs₀ cs : List Cut} (h7 : pickL none (some 7) none (encC cs₀) = encC cs) (h8 : cs₀.length ≤ 1000) (hf : FnK H f 73) (hp : FnK H fp 66) (gP : Glo H "_law_plain" (.ref fp)) (gS : Glo H "sorted" (.builtin "sorted")) (gL : Glo H "len" (.builtin "len")) (gM : Glo H "min" (.builtin "min")) (h4 : ∀ p ∈ ps, p.1.cps.size = 4) (hc : ∀ q ∈ cs, CutOk q) (hl : (shTerms ps cs).length ≤ 10000)
    (h64 : ((sumK (shTerms ps cs)).filter fun p => p.2 != 0).length < 64) : RC prog w H (.ref f) 4 [.list (encP ps), .list (encC cs₀)] (.list (encP (plainR (shTerms ps cs)))) := by
  refine RC.fk (ps := [("pairs", .list (encP ps)), ("cuts", .list (encC cs₀))]) (vs := ["terms", "word", "weight", "chosen", "others", "a", "b", "c", "d", "laid", "size"]) (gl := ["len", "min", "_law_plain"]) hf (by kernel_rfl) (by decide +kernel) (by kernel_rfl) (fun vals hl pm cd doc => by obtain ⟨a, b, rfl⟩ := two_of hl; rfl) fun C hC => ?_
  refine TriB.next (TriN.assignOwn .nil (.there (.there .here)) (.inl rfl)) ?_
  refine TriB.cons (Q := fun f σ => f = .nx ∧ TdLI1 ps cs₀ cs σ) (TriS.for_ (ItE.list (Tri.name .here)) (.inr ⟨_, _, _, rfl⟩)
    (TdLI2 ps cs₀ cs) ⟨ps, [], {}, .un, .un, rfl, rfl, rfl, h4⟩ (fun d ds σ hI => ?_) fun σ hI => ?_) (fun σ' h => ?_) fun f σ' hn h => (hn h.1).elim
  · obtain ⟨r, t, s, s9, s0, hd, rfl, hg, h4⟩ := hI
    cases r with
    | nil => cases hd
    | cons p r =>
    obtain ⟨y, c⟩ := p
    injection hd with hd1 hd2
    subst hd1 hd2
    have hy : y.cps.size = 4 := h4 (y, c) (.head _)
    refine ⟨_, Asg.tuple (AsgL.cons (Asg.name (.there (.there (.there .here))) (.inl rfl)) (AsgL.cons (Asg.name (.there (.there (.there (.there .here)))) (.inl rfl)) .nil)), ?_⟩
    have hg' : (t ++ cs.map (shT y c)) ++ shTerms r cs = shTerms ps cs := by rw [← hg, List.append_assoc]; rfl
    have hlt : (t ++ cs.map (shT y c)).length ≤ 10000 := by rw [← hg'] at hl; rw [List.length_append] at hl; lia
    refine TriB.last (TriS.for_ (ds := encC cs) (ItE.list (h7 ▸ Tri.sliceL (Tri.name (.there .here)) ⟨rfl, rfl⟩ ⟨7, rfl, Tri.int⟩ ⟨rfl, rfl⟩ (by decide) (by simp [encC]; exact Nat.le_trans h8 (by decide)) ⟨_, fun _ _ => rfl⟩)) (.inr ⟨_, _, _, rfl⟩)
      (TdLI3 ps cs₀ cs t y c) ⟨cs, t, s, s9, s0, rfl, rfl, rfl, hc⟩ (fun d ds σ hI => ?_) fun σ hI => ?_)
    · obtain ⟨q, u, s, s9, s0, hd, rfl, hu, hq⟩ := hI
      cases q with
      | nil => cases hd
      | cons x q =>
      injection hd with hd1 hd2
      subst hd1 hd2
      have hx := hq x (.head _)
      obtain ⟨k1, k2, k3, k4, hk⟩ := four_of (l := cutS x) hx.four'
      have hmem : ∀ k ∈ cutS x, In4 k := fun k hk => by
        unfold cutS at hk
        simp only [List.mem_append, List.mem_singleton] at hk
        rcases hk with (rfl | hk) | hk
        · exact ⟨by lia, by lia⟩
        · exact hx.mem k (List.mem_append.mpr (.inl hk))
        · exact hx.mem k (List.mem_append.mpr (.inr hk))
      rw [hk] at hmem
      have i1 := hmem k1 (by simp)
      have i2 := hmem k2 (by simp)
      have i3 := hmem k3 (by simp)
      have i4 := hmem k4 (by simp)
      refine ⟨_, Asg.tuple (AsgL.cons (Asg.name (.there (.there (.there (.there (.there .here))))) (.inl rfl)) (AsgL.cons (Asg.name (.there (.there (.there (.there (.there (.there .here)))))) (.inl rfl)) .nil)), ?_⟩
      have e : ([PyData.int 0] ++ encI x.1) ++ encI x.2 = encI [k1, k2, k3, k4] := by
        rw [← hk]; unfold cutS; rw [encI_append, encI_append]; rfl
      have hlen : (encI x.1).length ≤ 3 := by simpa [encI] using hx.len
      have hlen2 : (encI x.2).length ≤ 3 := by have := hx.four'; simp at this; simp [encI]; lia
      have hut : u.length ≤ 10000 := by
        have := congrArg List.length hu
        rw [List.length_append] at this
        lia
      refine TriB.next (TriN.assignT (σ₁ := shσ ps cs₀ u ⟨.val (.str y), .val (.int c), .val (.list (encI x.1)), .val (.list (encI x.2)), s.e, s.f, s.g, s.h⟩ s9 s0) (d := .list (encI [k1, k2, k3, k4])) ?_ (Asg.list (AsgL.cons (Asg.name (.there (.there (.there (.there (.there (.there (.there .here))))))) (.inl rfl)) (AsgL.cons (Asg.name (.there (.there (.there (.there (.there (.there (.there (.there .here)))))))) (.inl rfl))
        (AsgL.cons (Asg.name (.there (.there (.there (.there (.there (.there (.there (.there (.there .here))))))))) (.inl rfl)) (AsgL.cons (Asg.name (.there (.there (.there (.there (.there (.there (.there (.there (.there (.there .here)))))))))) (.inl rfl)) .nil)))))) ?_
      · rw [← e]
        refine Tri.bin (Tri.bin (Tri.list (TriL.cons Tri.int .nil) (by show 1 ≤ sizeLine; decide)) (Tri.name (.there (.there (.there (.there (.there .here)))))) (add_ll ?_)) (Tri.name (.there (.there (.there (.there (.there (.there .here))))))) (add_ll ?_)
        · exact Nat.le_trans (Nat.add_le_add_left hlen 1) (by decide)
        · rw [List.length_append]; exact Nat.le_trans (Nat.add_le_add (Nat.add_le_add_left hlen 1) hlen2) (by decide)
      · have h4l : (ch1 y k1 ++ ch1 y k2 ++ ch1 y k3 ++ ch1 y k4).length = 4 := by rw [app_len, app_len, app_len]; rfl
        refine TriB.next (TriN.assign (Tri.bin (Tri.bin (Tri.bin (Tri.item (Tri.name (.there (.there (.there .here)))) (Tri.name (.there (.there (.there (.there (.there (.there (.there .here)))))))) (item_ch1 hy i1)) (Tri.item (Tri.name (.there (.there (.there .here)))) (Tri.name (.there (.there (.there (.there (.there (.there (.there (.there .here))))))))) (item_ch1 hy i2)) (add_ss (by show 2 ≤ sizeLine; decide)))
          (Tri.item (Tri.name (.there (.there (.there .here)))) (Tri.name (.there (.there (.there (.there (.there (.there (.there (.there (.there .here)))))))))) (item_ch1 hy i3)) (add_ss (by rw [app_len]; show 3 ≤ sizeLine; decide)))
          (Tri.item (Tri.name (.there (.there (.there .here)))) (Tri.name (.there (.there (.there (.there (.there (.there (.there (.there (.there (.there .here))))))))))) (item_ch1 hy i4)) (add_ss (by rw [app_len, app_len]; show 4 ≤ sizeLine; decide))) (.there (.there (.there (.there (.there (.there (.there (.there (.there (.there (.there .here))))))))))) (.inl rfl)) ?_
        have h4z : (ch1 y k1 ++ ch1 y k2 ++ ch1 y k3 ++ ch1 y k4).length ≤ sizeLine := by rw [h4l]; decide
        have hsl : ∀ l u, (Txt.slice (ch1 y k1 ++ ch1 y k2 ++ ch1 y k3 ++ ch1 y k4) l u).length ≤ 4 := fun l u => h4l ▸ Txt.slice_le _ l u
        have hz1 : ∀ l u, (Txt.slice (ch1 y k1 ++ ch1 y k2 ++ ch1 y k3 ++ ch1 y k4) l u).length + (" " : Str).length ≤ sizeLine := fun l u => Nat.le_trans (Nat.add_le_add_right (hsl l u) 1) (by decide)
        have hz2 : ∀ l u l' u', (Txt.slice (ch1 y k1 ++ ch1 y k2 ++ ch1 y k3 ++ ch1 y k4) l u ++ (" " : Str)).length + (Txt.slice (ch1 y k1 ++ ch1 y k2 ++ ch1 y k3 ++ ch1 y k4) l' u').length ≤ sizeLine := fun l u l' u' => by
          rw [app_len]; exact Nat.le_trans (Nat.add_le_add (Nat.add_le_add_right (hsl l u) 1) (hsl l' u')) (by decide)
        refine TriB.next (TriN.assign (Tri.bin Tri.int (Tri.callB (hC.mem (by simp)) gL (TriL.cons (Tri.name (.there (.there (.there (.there (.there .here)))))) .nil) (rc_len_l (by lia)) (Nat.zero_le _)) add_ii) (.there (.there (.there (.there (.there (.there (.there (.there (.there (.there (.there (.there .here)))))))))))) (.inl rfl)) ?_
        refine TriB.last (TriS.mono (TriN.append (hi := hC.int) (Tri.tuple (TriL.cons (Tri.callB (hC.mem (by simp)) gM (TriL.cons (Tri.bin (Tri.bin (Tri.sliceS (Tri.name (.there (.there (.there (.there (.there (.there (.there (.there (.there (.there (.there .here)))))))))))) ⟨rfl, rfl⟩ ⟨_, rfl, (Tri.name (.there (.there (.there (.there (.there (.there (.there (.there (.there (.there (.there (.there .here)))))))))))))⟩ h4z) Tri.str (add_ss (hz1 _ _))) (Tri.sliceS (Tri.name (.there (.there (.there (.there (.there (.there (.there (.there (.there (.there (.there .here)))))))))))) ⟨_, rfl, (Tri.name (.there (.there (.there (.there (.there (.there (.there (.there (.there (.there (.there (.there .here)))))))))))))⟩ ⟨rfl, rfl⟩ h4z) (add_ss (hz2 _ _ _ _))) (TriL.cons (Tri.bin (Tri.bin (Tri.sliceS (Tri.name (.there (.there (.there (.there (.there (.there (.there (.there (.there (.there (.there .here)))))))))))) ⟨_, rfl, (Tri.name (.there (.there (.there (.there (.there (.there (.there (.there (.there (.there (.there (.there .here)))))))))))))⟩ ⟨rfl, rfl⟩ h4z) Tri.str (add_ss (hz1 _ _))) (Tri.sliceS (Tri.name (.there (.there (.there (.there (.there (.there (.there (.there (.there (.there (.there .here)))))))))))) ⟨rfl, rfl⟩ ⟨_, rfl, (Tri.name (.there (.there (.there (.there (.there (.there (.there (.there (.there (.there (.there (.there .here)))))))))))))⟩ h4z) (add_ss (hz2 _ _ _ _))) .nil)) rc_min (Nat.zero_le _)) (TriL.cons (Tri.name (.there (.there (.there (.there .here))))) .nil)) (by show 2 ≤ sizeLine; decide)) (.tail _ (.tail _ (.head _))) (.own _) (.there (.there .here)) (by simp [encP]; exact Nat.le_trans hut (by decide)) ⟨_, .tail _ (.tail _ (.head _)), _, .own _⟩) fun f σ' h => ?_)
        obtain ⟨rfl, rfl⟩ := h
        refine ⟨q, u ++ [shT y c x], ⟨.un, .un, .val (.list (encI x.1)), .val (.list (encI x.2)), .val (.int k1), .val (.int k2), .val (.int k3), .val (.int k4)⟩, .val (.str (ch1 y k1 ++ ch1 y k2 ++ ch1 y k3 ++ ch1 y k4)), .val (.int (1 + ((encI x.1).length : Nat))), rfl, ?_, ?_, fun z hz => hq z (.tail _ hz)⟩
        · have eb : shT y c x = (minS (Txt.slice (ch1 y k1 ++ ch1 y k2 ++ ch1 y k3 ++ ch1 y k4) none (some (1 + ((encI x.1).length : Nat))) ++ " " ++ Txt.slice (ch1 y k1 ++ ch1 y k2 ++ ch1 y k3 ++ ch1 y k4) (some (1 + ((encI x.1).length : Nat))) none) (Txt.slice (ch1 y k1 ++ ch1 y k2 ++ ch1 y k3 ++ ch1 y k4) (some (1 + ((encI x.1).length : Nat))) none ++ " " ++ Txt.slice (ch1 y k1 ++ ch1 y k2 ++ ch1 y k3 ++ ch1 y k4) none (some (1 + ((encI x.1).length : Nat)))), c) := by
            unfold shT shW; rw [hk]; simp [laidL, laid4, encI]
          rw [eb]
          simp [shσ, encP, Slot.list']
        · rw [← hu]; simp
    · obtain ⟨q, u, s, s9, s0, hd, rfl, hu, hq⟩ := hI
      cases q with
      | cons pc r => cases hd
      | nil =>
        refine .nil ⟨r, u, ⟨.val (.str y), .val (.int c), s.c, s.d, s.e, s.f, s.g, s.h⟩, s9, s0, rfl, rfl, ?_, fun p hp => h4 p (.tail _ hp)⟩
        rw [← hg', ← hu]; simp
  · obtain ⟨r, t, s, s9, s0, hd, rfl, hg, h4⟩ := hI
    cases r with
    | cons pc r => cases hd
    | nil => exact .nil ⟨rfl, s, s9, s0, by rw [← hg]; simp [shTerms]⟩
  · obtain ⟨_, s, s9, s0, rfl⟩ := h
    refine TriB.turn (.cons (.same _) (.cons (.same _) (.cons (.fz _ _ _) (Turns.refl _)))) ?_
    exact TriB.last (TriS.ret (Tri.callF (hC.mem (by simp)) gP hp.is (TriL.cons (Tri.name (.there (.there .here))) .nil) (rc_plain hp gS hl h64) (hC.le (by show 2 ≤ 3; lia))) rfl)
end
end Mine

end
noncomputable section
open PySem PySem.W PyProof.Rows
set_option maxRecDepth 100000
set_option autoImplicit false
namespace Mine
/-! positions in a frame -/
section
variable {x : Str} {l : Bool} {sl : Slot} {a b c d : Ent} {σ σ' : List Ent}
theorem Look.t4 (h : Look x sl σ) : Look x sl (a :: b :: c :: d :: σ) := .there (.there (.there (.there h)))
theorem Upd.t4 (h : Upd x l sl σ σ') : Upd x l sl (a :: b :: c :: d :: σ) (a :: b :: c :: d :: σ') := .there (.there (.there (.there h)))
end
/-! pickL, of few -/
theorem range_all {α : Type} : ∀ l : List α, (List.range l.length).filterMap (l[·]?) = l
  | [] => rfl
  | a :: l => by
    rw [List.length_cons, List.range_succ_eq_map, List.filterMap_cons, List.filterMap_map]
    show a :: List.filterMap (fun k => (a :: l)[k + 1]?) (List.range l.length) = _
    simp only [List.getElem?_cons_succ]
    rw [range_all l]
theorem sliceRange1 (a b : Nat) : sliceRange (a : Int) (b : Int) 1 = (List.range (b - a)).map (a + ·) := by
  unfold sliceRange
  rw [if_pos (by decide)]
  have : (if (a : Int) < b then ((b : Int) - a + 1 - 1) / 1 else 0).toNat = b - a := by split <;> lia
  dsimp only
  rw [this]
  refine List.map_congr_left fun k _ => ?_
  lia
theorem pick_gen {α : Type} {ds : List α} {lo hi st : Option Int} {a b : Nat} (h : sliceBounds lo hi st ds.length = ((a : Int), (b : Int), 1)) (hb : b ≤ ds.length) : pickL lo hi st ds = (ds.take b).drop a := by
  unfold pickL
  rw [h]
  dsimp only
  rw [sliceRange1, List.filterMap_map]
  have e : b - a = ((ds.take b).drop a).length := by simp; lia
  conv => rhs; rw [← range_all ((ds.take b).drop a), ← e]
  have cg : ∀ (l : List Nat) (f g : Nat → Option α), (∀ k ∈ l, f k = g k) → l.filterMap f = l.filterMap g := by
    intro l f g h
    induction l with
    | nil => rfl
    | cons x l ih => rw [List.filterMap_cons, List.filterMap_cons, h x (.head _), ih fun k hk => h k (.tail _ hk)]
  refine cg _ _ _ fun k hk => ?_
  have := List.mem_range.mp hk
  show ds[a + k]? = _
  rw [List.getElem?_drop, List.getElem?_take_of_lt (by lia)]
theorem bd_hi {n k : Nat} (h : k ≤ n) : sliceBounds none (some (k : Int)) none n = (((0 : Nat) : Int), (k : Int), 1) := by
  simp only [sliceBounds, Option.getD_none, if_pos (show (1 : Int) > 0 by decide)]
  rw [if_neg (by lia)]
  refine Prod.ext rfl (Prod.ext ?_ rfl)
  dsimp only
  lia
theorem bd_lo {n k : Nat} (h : k ≤ n) : sliceBounds (some (k : Int)) none none n = ((k : Int), (n : Int), 1) := by
  simp only [sliceBounds, Option.getD_none, if_pos (show (1 : Int) > 0 by decide)]
  rw [if_neg (by lia)]
  refine Prod.ext ?_ rfl
  dsimp only
  lia
theorem bd_lohi {n a b : Nat} (ha : a ≤ n) (hb : b ≤ n) : sliceBounds (some (a : Int)) (some (b : Int)) none n = ((a : Int), (b : Int), 1) := by
  simp only [sliceBounds, Option.getD_none, if_pos (show (1 : Int) > 0 by decide)]
  rw [if_neg (by lia), if_neg (by lia)]
  refine Prod.ext ?_ (Prod.ext ?_ rfl)
  · dsimp only; lia
  · dsimp only; lia
theorem bd_lom {n a : Nat} (ha : a ≤ n) (hn : 1 ≤ n) : sliceBounds (some (a : Int)) (some (-1)) none n = ((a : Int), ((n - 1 : Nat) : Int), 1) := by
  simp only [sliceBounds, Option.getD_none, if_pos (show (1 : Int) > 0 by decide)]
  rw [if_neg (by lia), if_pos (by decide)]
  refine Prod.ext ?_ (Prod.ext ?_ rfl)
  · dsimp only; lia
  · dsimp only; lia
theorem bd_last {n : Nat} (hn : 1 ≤ n) : sliceBounds (some (-1)) none none n = (((n - 1 : Nat) : Int), (n : Int), 1) := by
  simp only [sliceBounds, Option.getD_none, if_pos (show (1 : Int) > 0 by decide)]
  rw [if_pos (by decide)]
  refine Prod.ext ?_ rfl
  dsimp only
  lia
theorem pick_take {α : Type} {ds : List α} {k : Nat} (hk : k ≤ ds.length) : pickL none (some (k : Int)) none ds = ds.take k := by
  rw [pick_gen (bd_hi hk) hk, List.drop_zero]
theorem pick_drop {α : Type} {ds : List α} {k : Nat} (hk : k ≤ ds.length) : pickL (some (k : Int)) none none ds = ds.drop k := by
  rw [pick_gen (bd_lo hk) (Nat.le_refl _), List.take_length]
theorem pick_mid {α : Type} {ds : List α} {a b : Nat} (ha : a ≤ ds.length) (hb : b ≤ ds.length) : pickL (some (a : Int)) (some (b : Int)) none ds = (ds.take b).drop a := pick_gen (bd_lohi ha hb) hb
theorem pick_midm {α : Type} {ds : List α} {a : Nat} (ha : a ≤ ds.length) (hn : 1 ≤ ds.length) : pickL (some (a : Int)) (some (-1)) none ds = (ds.take (ds.length - 1)).drop a := pick_gen (bd_lom ha hn) (by lia)
theorem pick_last {α : Type} {ds : List α} (hn : 1 ≤ ds.length) : pickL (some (-1)) none none ds = ds.drop (ds.length - 1) := by
  rw [pick_gen (bd_last hn) (Nat.le_refl _), List.take_length]
structure CellsOk (cs : List Int) : Prop where
  len : cs.length = 6
  bd : ∀ c ∈ cs, 0 ≤ c ∧ c < 2 ^ 20
theorem CellsOk.six {cs : List Int} (h : CellsOk cs) : ∃ a b c d e f, cs = [a, b, c, d, e, f] := by
  have h := h.len
  cases cs with
  | nil => cases h
  | cons a l => cases l with
    | nil => cases h
    | cons b l => obtain ⟨c, d, e, f, rfl⟩ := four_of (Nat.succ.inj (Nat.succ.inj h)); exact ⟨a, b, c, d, e, f, rfl⟩

noncomputable def signI (c : Int) : Int := (c.fdiv 3).fmod 6
theorem signI_bd (c : Int) : 0 ≤ signI c ∧ signI c < 6 := by
  unfold signI
  rw [Int.fmod_eq_emod_of_nonneg _ (by lia)]
  exact ⟨Int.emod_nonneg _ (by lia), Int.emod_lt_of_pos _ (by lia)⟩
/-! _law_signs -/
noncomputable def encR (rows : List (List Str)) : List PyData := rows.map fun r => .list (encS r)
noncomputable def sgSt (k : Nat) (m : Str) (rows : List (List Str)) : List (List Str) := rows.take k ++ [([("(" : Str)] ++ rows.getD k [] ++ [m] ++ rows.getD (k + 1) [] ++ [(")" : Str)] : List Str)] ++ rows.drop (k + 2)
noncomputable def signC (c : Int) : Str := ch1 "----+*" (signI c)
/-- the turns that are left -/
noncomputable def sgGo (cs : List Int) : List (Nat × Int) → List (List Str) → List (List Str)
  | [], rows => rows
  | (t, k) :: r, rows => sgGo cs r (sgSt k.toNat (signC (cs.getD t 0)) rows)
noncomputable def cutT (cs : List Int) : List (Nat × Int) := [(0, (cs.getD 4 0).fmod 3), (1, (cs.getD 5 0).fmod 2), (2, 0)]
noncomputable def encT (r : List (Nat × Int)) : List PyData := r.map fun p => .tuple [.int (p.1 : Nat), .int p.2]
noncomputable def signsR (cs : List Int) (ls : List Str) : List Str := (sgGo cs (cutT cs) (ls.map fun y => [y])).getD 0 []
noncomputable def TurnOk (t : Nat) (r : List (Nat × Int)) : Prop := ∀ (i : Nat) p, r[i]? = some p → p.1 = t + i ∧ 0 ≤ p.2 ∧ p.2 + (t + i : Nat) ≤ 2
theorem cutT_ok (cs : List Int) : TurnOk 0 (cutT cs) := by
  intro i p hp
  have h3 : ∀ c : Int, 0 ≤ c.fmod 3 ∧ c.fmod 3 < 3 := fun c => by
    rw [Int.fmod_eq_emod_of_nonneg _ (by lia)]
    exact ⟨Int.emod_nonneg _ (by lia), Int.emod_lt_of_pos _ (by lia)⟩
  have h2 : ∀ c : Int, 0 ≤ c.fmod 2 ∧ c.fmod 2 < 2 := fun c => by
    rw [Int.fmod_eq_emod_of_nonneg _ (by lia)]
    exact ⟨Int.emod_nonneg _ (by lia), Int.emod_lt_of_pos _ (by lia)⟩
  match i, hp with
  | 0, hp => cases hp; have := h3 (cs.getD 4 0); exact ⟨rfl, this.1, by dsimp only; lia⟩
  | 1, hp => cases hp; have := h2 (cs.getD 5 0); exact ⟨rfl, this.1, by dsimp only; lia⟩
  | 2, hp => cases hp; exact ⟨rfl, by decide, by decide⟩
  | n + 3, hp => simp [cutT] at hp
theorem TurnOk.tail {t : Nat} {p : Nat × Int} {r : List (Nat × Int)} (h : TurnOk t (p :: r)) : TurnOk (t + 1) r := fun i q hq => by
  have := h (i + 1) q (by simpa using hq)
  rw [Nat.add_right_comm, Nat.add_assoc]
  exact this
theorem sgSt_len {k : Nat} {m : Str} {rows : List (List Str)} (h : k + 1 < rows.length) : (sgSt k m rows).length + 1 = rows.length := by
  simp [sgSt]; lia
theorem sgSt_mem {k : Nat} {m : Str} {rows : List (List Str)} {B : Nat} (hk : k + 1 < rows.length) (h : ∀ r ∈ rows, r.length ≤ B) : ∀ r ∈ sgSt k m rows, r.length ≤ 2 * B + 3 := by
  intro r hr
  have hg : ∀ j, j < rows.length → (rows.getD j []).length ≤ B := fun j hj => by
    rw [List.getD_eq_getElem?_getD, List.getElem?_eq_getElem hj]
    exact h _ (List.getElem_mem hj)
  have h1 := hg k (by lia)
  have h2 := hg (k + 1) hk
  simp only [sgSt, List.mem_append, List.mem_singleton] at hr
  rcases hr with (hr | rfl) | hr
  · have := h r (List.mem_of_mem_take hr); lia
  · simp only [List.length_append, List.length_singleton]; lia
  · have := h r (List.mem_of_mem_drop hr); lia
theorem encR_get {rows : List (List Str)} {k : Nat} (hk : k < rows.length) : (encR rows)[k]? = some (.list (encS (rows.getD k []))) := by
  simp [encR, hk]
theorem encR_st {k : Nat} {m : Str} {rows : List (List Str)} (hk : k + 2 ≤ rows.length) : pickL none (some (k : Int)) none (encR rows) ++ [PyData.list ((((([PyData.str "("] ++ encS (rows.getD k [])) ++ [.str m]) ++ encS (rows.getD (k + 1) []))) ++ [.str ")"])] ++ pickL (some ((k : Int) + 2)) none none (encR rows) = encR (sgSt k m rows) := by
  rw [pick_take (by simp [encR]; lia), show ((k : Int) + 2) = ((k + 2 : Nat) : Int) from by lia, pick_drop (by simp [encR]; lia)]
  simp [sgSt, encR, encS]

section
variable {prog : Program} {w : World} {H : Heap} {C : Cx} {σ : List Ent}
theorem fdiv3 {a b : Int} (hb : b ≠ 0) (h : b.natAbs < 2 ^ 20) : Builtin.divisionGoesByPylong a b = false := by
  unfold Builtin.divisionGoesByPylong
  dsimp only
  have h1 : b.natAbs.log2 < 20 := (Nat.log2_lt (by lia)).mpr h
  have : (if (b == 0) = true then 0 else b.natAbs.log2 / 30 + 1) ≤ 300 := by split <;> lia
  simp only [Bool.and_eq_false_iff, decide_eq_false_iff_not, Nat.not_lt]
  exact .inl this
theorem item_cells {cs : List Int} {k : Int} (h0 : 0 ≤ k) (h1 : k.toNat < cs.length) (hz : cs.length ≤ 100) : RI prog w (.list (encI cs)) (.int k) (.int (cs.getD k.toNat 0)) :=
  item_li h0 (by lia) (by simp [encI, h1])
theorem item_ch1' {y : Str} {k : Int} {n : Nat} (h0 : 0 ≤ k) (h1 : k < n) (hy : n = y.cps.size := by rfl) (hn : n ≤ 1000 := by decide) : RI prog w (.str y) (.int k) (.str (ch1 y k)) := by
  subst hy
  refine item_si h0 (by lia) ?_
  have : k.toNat < y.cps.size := by lia
  simp [Array.getD, this]
theorem sgGo_pos {cs : List Int} : ∀ {r : List (Nat × Int)} {t : Nat} {rows : List (List Str)}, TurnOk t r → rows.length + t = 4 ∧ r.length + t = 3 → 0 < (sgGo cs r rows).length
  | [], t, rows, _, h => by have := h.1; have := h.2; simp at *; show 0 < rows.length; lia
  | (t', k) :: r, t, rows, ht, h => by
    have := ht 0 (t', k) rfl
    dsimp only at this
    have h2 := h.2
    rw [List.length_cons] at h2
    show 0 < (sgGo cs r (sgSt k.toNat (signC (cs.getD t' 0)) rows)).length
    refine sgGo_pos (t := t + 1) ht.tail ⟨?_, by lia⟩
    have := sgSt_len (k := k.toNat) (m := signC (cs.getD t' 0)) (rows := rows) (by lia)
    lia
noncomputable def sgσ (cs : List Int) (ls : List Str) (rows s1 s2 : Slot) : List Ent := [Lo "cells" (.val (.list (encI cs))), Lo "letters" (.val (.list (encS ls))), Lo "rows" rows, Lo "turn" s1, Lo "k" s2]
inductive TdMI1 (cs : List Int) (ls : List Str) (σ : List Ent) : Prop
  | mk (s1 : _) (s2 : _) (h0 : σ = sgσ cs ls (.val (.list (encR (sgGo cs (cutT cs) (ls.map fun y => [y]))))) s1 s2)
inductive TdMI2 (cs : List Int) (ls : List Str) (ds : List PyData) (σ : List Ent) : Prop
  | mk (t : _) (r : _) (rows : _) (s1 : _) (s2 : _) (h0 : ds = encT r) (h1 : σ = sgσ cs ls (.val (.list (encR rows))) s1 s2) (h2 : sgGo cs r rows = sgGo cs (cutT cs) (ls.map fun y => [y])) (h3 : TurnOk t r) (h4 : rows.length + t = 4) (h5 : t ≤ 3) (h6 : ∀ r ∈ rows, r.length + 3 ≤ 2 ^ (t + 2))
set_option maxHeartbeats 4000000 in
theorem rc_signs {f : Addr} {cs : List Int} {ls : List Str} (hf : FnK H f 67) (gE : Glo H "enumerate" (.type "enumerate")) (hc : CellsOk cs) (hl : ls.length = 4) : RC prog w H (.ref f) 4 [.list (encI cs), .list (encS ls)] (.list (encS (signsR cs ls))) := by
  refine RC.fk (ps := [("cells", .list (encI cs)), ("letters", .list (encS ls))]) (vs := ["rows", "turn", "k"]) (gl := ["enumerate"]) hf (by kernel_rfl) (by decide +kernel) (by kernel_rfl) (fun vals hl pm cd doc => by obtain ⟨a, b, rfl⟩ := two_of hl; rfl) fun C hC => ?_
  refine TriB.next (σ₁ := sgσ cs ls (.val (.list (encR (ls.map fun y => [y])))) .un .un) ?_ ?_
  · have hall : (encS ls).flatMap (fun d => [PyData.list [d]]) = encR (ls.map fun y => [y]) := by
      clear hl
      induction ls with
      | nil => rfl
      | cons y ls ih =>
        show PyData.list [.str y] :: List.flatMap (fun d => [PyData.list [d]]) (encS ls) = _
        rw [ih]
        rfl
    rw [← hall]
    refine TriN.assignComp (ItE.list (Tri.name (.there .here))) (.inl ⟨_, _, rfl⟩) [] ["letter"] [] (hC.kid fun _ _ _ _ _ _ => by kernel_rfl) (fun p hp => nomatch hp) (fun d => [PyData.list [d]]) (fun L d hd => ?_) (fun L it D => rfl) ?_ (.there (.there .here)) (.inl rfl) (by obtain ⟨_, _, _, _, _, _, _, rfl⟩ := hC; rfl)
    · exact ⟨_, _, Asg.name .here (.inl rfl), .cons (.un _ _ _) .nil, TriI.nil, fun hb => EmitR.elt (Tri.list (TriL.cons (Tri.name .here) .nil) (by show 1 ≤ sizeLine; decide)), fun hb => nomatch hb⟩
    · rw [hall]; simp [encR, hl]; decide
  refine TriB.cons (Q := fun f σ => f = .nx ∧ TdMI1 cs ls σ) (TriS.for_ (ds := encT (cutT cs)) (ItE.enumL (ds := [.int ((cs.getD 4 0).fmod 3), .int ((cs.getD 5 0).fmod 2), .int 0]) (hC.mem (by simp)) gE (Tri.list (TriL.cons (Tri.bin (Tri.item (Tri.name .here) Tri.int (item_cells (by decide) (by rw [hc.len]; decide) (by rw [hc.len]; decide))) Tri.int (mod_ii (by decide))) (TriL.cons (Tri.bin (Tri.item (Tri.name .here) Tri.int (item_cells (by decide) (by rw [hc.len]; decide) (by rw [hc.len]; decide))) Tri.int (mod_ii (by decide))) (TriL.cons Tri.int .nil))) (by show 3 ≤ sizeLine; decide))) ⟨_, _, _, rfl⟩
    (TdMI2 cs ls) ⟨0, cutT cs, _, .un, .un, rfl, rfl, rfl, cutT_ok cs, by simp [hl], by lia, fun r hr => ?_⟩ (fun d ds σ hI => ?_) fun σ hI => ?_) (fun σ' h => ?_) fun f σ' hn h => (hn h.1).elim
  · obtain ⟨y, _, rfl⟩ := List.mem_map.mp hr
    simp
  · obtain ⟨t, r, rows, s1, s2, hd, rfl, hg, ht, hr, ht3, hB⟩ := hI
    cases r with
    | nil => cases hd
    | cons p r =>
    obtain ⟨t', k⟩ := p
    injection hd with hd1 hd2
    subst hd1 hd2
    obtain ⟨htt, hk0, hk2⟩ := ht 0 (t', k) rfl
    have htt : t = t' := htt.symm
    subst htt
    dsimp only at hk0 hk2
    obtain ⟨k, rfl⟩ := Int.eq_ofNat_of_zero_le hk0
    refine ⟨_, Asg.tuple (AsgL.cons (Asg.name (.there (.there (.there .here))) (.inl rfl)) (AsgL.cons (Asg.name (.there (.there (.there (.there .here)))) (.inl rfl)) .nil)), ?_⟩
    have hkt : k + t ≤ 2 := by lia
    have hlen : rows.length ≤ 4 := by lia
    have hB' : ∀ j, (rows.getD j []).length ≤ 29 := fun j => by
      rw [List.getD_eq_getElem?_getD]
      by_cases hj : j < rows.length
      · rw [List.getElem?_eq_getElem hj]
        have := hB _ (List.getElem_mem hj)
        have : 2 ^ (t + 2) ≤ 2 ^ 5 := Nat.pow_le_pow_right (by decide) (by lia)
        have e : (2:Nat) ^ 5 = 32 := rfl
        rw [Option.getD_some]; lia
      · rw [List.getElem?_eq_none (by lia)]; simp
    have hz : ∀ n : Nat, n ≤ 100 → n ≤ sizeLine := fun n h => Nat.le_trans h (by decide)
    have htc : t < cs.length := by rw [hc.len]; lia
    have hsg := signI_bd (cs.getD t 0)
    refine TriB.last (TriS.mono (TriN.assign (σ₁ := sgσ cs ls (.val (.list (encR rows))) (.val (.int (t : Nat))) (.val (.int (k : Nat)))) (d := .list (encR (sgSt k (signC (cs.getD t 0)) rows))) ?_ (.there (.there .here)) (.inl rfl)) fun f σ' h => ?_)
    · rw [← encR_st (by lia)]
      have hr1 : (pickL none (some (k : Int)) none (encR rows)).length ≤ 4 := by rw [pick_take (by simp [encR]; lia)]; simp [encR]; lia
      have hr2 : (pickL (some ((k : Int) + 2)) none none (encR rows)).length ≤ 4 := by rw [show ((k : Int) + 2) = ((k + 2 : Nat) : Int) from by lia, pick_drop (by simp [encR]; lia)]; simp [encR]; lia
      have e1 := hB' k
      have e2 := hB' (k + 1)
      rw [List.getD_eq_getElem?_getD] at e1 e2
      refine Tri.bin (Tri.bin (Tri.sliceL (Tri.name (.there (.there .here))) ⟨rfl, rfl⟩ ⟨_, rfl, Tri.name (.there (.there (.there (.there .here))))⟩ ⟨rfl, rfl⟩ (by decide) (hz _ (by simp [encR]; lia)) ⟨_, fun _ _ => rfl⟩) (Tri.list (TriL.cons (Tri.bin (Tri.bin (Tri.bin (Tri.bin (Tri.list (TriL.cons Tri.str .nil) (by show 1 ≤ sizeLine; decide)) (Tri.item (Tri.name (.there (.there .here))) (Tri.name (.there (.there (.there (.there .here))))) (item_li (by lia) (by lia) (encR_get (by lia)))) (add_ll (hz _ ?_)))
        (Tri.list (TriL.cons (Tri.item Tri.str (Tri.bin (Tri.bin (Tri.item (Tri.name .here) (Tri.name (.there (.there (.there .here)))) (item_cells (by lia) htc (by rw [hc.len]; decide))) Tri.int (fdiv_ii (by decide) (fdiv3 (by decide) (by decide)))) Tri.int (mod_ii (by decide))) (item_ch1' (signI_bd _).1 (signI_bd _).2)) .nil) (by show 1 ≤ sizeLine; decide)) (add_ll (hz _ ?_)))
        (Tri.item (Tri.name (.there (.there .here))) (Tri.bin (Tri.name (.there (.there (.there (.there .here))))) Tri.int add_ii) (item_li (by lia) (by lia) (encR_get (by lia)))) (add_ll (hz _ ?_))) (Tri.list (TriL.cons Tri.str .nil) (by show 1 ≤ sizeLine; decide)) (add_ll (hz _ ?_))) .nil) (by show 1 ≤ sizeLine; decide)) (add_ll (hz _ ?_))) (Tri.sliceL (Tri.name (.there (.there .here))) ⟨_, rfl, Tri.bin (Tri.name (.there (.there (.there (.there .here))))) Tri.int add_ii⟩ ⟨rfl, rfl⟩ ⟨rfl, rfl⟩ (by decide) (hz _ (by simp [encR]; lia)) ⟨_, fun _ _ => rfl⟩) (add_ll (hz _ ?_))
      · simp [encS]; lia
      · simp [encS]; lia
      · simp [encS]; lia
      · simp [encS]; lia
      · simp; lia
      · simp; lia
    · obtain ⟨rfl, rfl⟩ := h
      refine ⟨t + 1, r, sgSt k (signC (cs.getD t 0)) rows, .val (.int (t : Nat)), .val (.int (k : Nat)), rfl, rfl, hg, ht.tail, ?_, by lia, fun q hq => ?_⟩
      · have := sgSt_len (k := k) (m := signC (cs.getD t 0)) (rows := rows) (by lia); lia
      · have := sgSt_mem (B := 2 ^ (t + 2) - 3) (by lia) (fun r hr => by have := hB r hr; lia) q hq
        have e3 : 3 ≤ 2 ^ (t + 2) := Nat.le_trans (by decide : 3 ≤ 2 ^ 2) (Nat.pow_le_pow_right (by decide) (by lia))
        have e4 : 2 ^ (t + 1 + 2) = 2 * 2 ^ (t + 2) := by rw [show t + 1 + 2 = (t + 2) + 1 from by lia, Nat.pow_succ]; lia
        lia
  · obtain ⟨t, r, rows, s1, s2, hd, rfl, hg, ht, hr, ht3, hB⟩ := hI
    cases r with
    | cons pc r => cases hd
    | nil => exact .nil ⟨rfl, s1, s2, by rw [← hg]; rfl⟩
  · obtain ⟨_, s1, s2, rfl⟩ := h
    refine TriB.last (TriS.ret (Tri.item (Tri.name (.there (.there .here))) Tri.int (item_li (by decide) (by decide) (encR_get ?_))) rfl)
    exact sgGo_pos (cutT_ok cs) (by simp [hl, cutT])
end
end Mine

end
noncomputable section
open PySem PySem.W PyProof.Rows
set_option maxRecDepth 100000
set_option autoImplicit false
namespace Mine
noncomputable def turnedB (mask : Int) (t : Nat) : Bool := (mask.fdiv (2 ^ ((t : Nat) : Int).toNat)).fmod 2 == 1
noncomputable def wtL : List Int := [-1, -1, -1, -1, 1, 0]
noncomputable def wtI (c : Int) : Int := wtL.getD (signI c).toNat 0
noncomputable def tmSt (k : Nat) (b : Bool) (rows : List Str) : List Str := rows.take k ++ [if b = true then rows.getD (k + 1) "" ++ rows.getD k "" else rows.getD k "" ++ rows.getD (k + 1) ""] ++ rows.drop (k + 2)
noncomputable def wtB (b : Bool) (c : Int) : Int := if b = true then wtI c else 1
noncomputable def tmGo (cs : List Int) (mask : Int) : List (Nat × Int) → List Str → Int → List Str × Int
  | [], rows, x => (rows, x)
  | (t, k) :: r, rows, x => tmGo cs mask r (tmSt k.toNat (turnedB mask t) rows) (x * wtB (turnedB mask t) (cs.getD t 0))
noncomputable def termOf (cs : List Int) (ls : List Str) (mask : Int) : Pr := ((tmGo cs mask (cutT cs) ls 1).1.getD 0 "", (tmGo cs mask (cutT cs) ls 1).2)
noncomputable def termsR (cs : List Int) (ls : List Str) : List Pr := (List.range 8).map fun m => termOf cs ls (0 + (m : Nat))
theorem wt_bits : ∀ k < 6, Builtin.Int.intBits (wtL.getD k 0) ≤ 64 := by decide
theorem wtB_bits (b : Bool) (c : Int) : Builtin.Int.intBits (wtB b c) ≤ 64 := by
  unfold wtB
  split
  · have := signI_bd c; exact wt_bits _ (by lia)
  · decide
theorem tmSt_len {k : Nat} {b : Bool} {rows : List Str} (h : k + 1 < rows.length) : (tmSt k b rows).length + 1 = rows.length := by
  simp [tmSt]; lia
theorem tmSt_mem {k : Nat} {b : Bool} {rows : List Str} {B : Nat} (hk : k + 1 < rows.length) (h : ∀ r ∈ rows, r.length ≤ B) : ∀ r ∈ tmSt k b rows, r.length ≤ 2 * B := by
  intro r hr
  have hg : ∀ j, j < rows.length → (rows.getD j "").length ≤ B := fun j hj => by
    rw [List.getD_eq_getElem?_getD, List.getElem?_eq_getElem hj]
    exact h _ (List.getElem_mem hj)
  have h1 := hg k (by lia)
  have h2 := hg (k + 1) hk
  simp only [tmSt, List.mem_append, List.mem_singleton] at hr
  rcases hr with (hr | rfl) | hr
  · have := h r (List.mem_of_mem_take hr); lia
  · split <;> rw [app_len] <;> lia
  · have := h r (List.mem_of_mem_drop hr); lia
theorem encS_get {rows : List Str} {k : Nat} (hk : k < rows.length) : (encS rows)[k]? = some (.str (rows.getD k "")) := by
  simp [encS, hk]
theorem tmGo_pos {cs : List Int} {mask : Int} : ∀ {r : List (Nat × Int)} {t : Nat} {rows : List Str} {x : Int}, TurnOk t r → rows.length + t = 4 ∧ r.length + t = 3 → (tmGo cs mask r rows x).1.length = 1
  | [], t, rows, x, _, h => by have := h.1; have := h.2; simp at *; show rows.length = 1; lia
  | (t', k) :: r, t, rows, x, ht, h => by
    have := ht 0 (t', k) rfl
    dsimp only at this
    have h2 := h.2
    rw [List.length_cons] at h2
    show (tmGo cs mask r (tmSt k.toNat (turnedB mask t') rows) (x * wtB (turnedB mask t') (cs.getD t' 0))).1.length = 1
    refine tmGo_pos (t := t + 1) ht.tail ⟨?_, by lia⟩
    have := tmSt_len (k := k.toNat) (b := turnedB mask t') (rows := rows) (by lia)
    lia
theorem encS_st {k : Nat} {b : Bool} {rows : List Str} (hk : k + 2 ≤ rows.length) : pickL none (some (k : Int)) none (encS rows) ++ [PyData.str (if b = true then rows.getD (k + 1) "" ++ rows.getD k "" else rows.getD k "" ++ rows.getD (k + 1) "")] ++ pickL (some ((k : Int) + 2)) none none (encS rows) = encS (tmSt k b rows) := by
  rw [pick_take (by simp [encS]; lia), show ((k : Int) + 2) = ((k + 2 : Nat) : Int) from by lia, pick_drop (by simp [encS]; lia)]
  simp [tmSt, encS]

section
variable {prog : Program} {w : World} {H : Heap} {C : Cx} {σ : List Ent}
noncomputable def tmσ (cs : List Int) (ls : List Str) (t : List Pr) (s1 s2 s3 s4 s5 s6 : Slot) : List Ent := [Lo "cells" (.val (.list (encI cs))), Lo "letters" (.val (.list (encS ls))), Lo "terms" (.own (encP t)), Lo "mask" s1, Lo "rows" s2, Lo "weight" s3, Lo "turn" s4, Lo "k" s5, Lo "turned" s6]
inductive TdNI1 (cs : List Int) (ls : List Str) (σ : List Ent) : Prop
  | mk (s1 : _) (s2 : _) (s3 : _) (s4 : _) (s5 : _) (s6 : _) (h0 : σ = tmσ cs ls (termsR cs ls) s1 s2 s3 s4 s5 s6)
inductive TdNI2 (cs : List Int) (ls : List Str) (ds : List PyData) (σ : List Ent) : Prop
  | mk (r : List Nat) (u : List Pr) (s1 : _) (s2 : _) (s3 : _) (s4 : _) (s5 : _) (s6 : _) (h0 : ds = (r.map fun j : Nat => PyData.int (0 + (j : Nat)))) (h1 : σ = tmσ cs ls u s1 s2 s3 s4 s5 s6) (h2 : (u ++ r.map fun m : Nat => termOf cs ls (0 + (m : Nat))) = termsR cs ls)
inductive TdNI3 (cs : List Int) (ls : List Str) (u : List Pr) (M : Int) (σ : List Ent) : Prop
  | mk (s4 : _) (s5 : _) (s6 : _) (h0 : σ = tmσ cs ls u (.val (.int M)) (.val (.list (encS (tmGo cs M (cutT cs) ls 1).1))) (.val (.int (tmGo cs M (cutT cs) ls 1).2)) s4 s5 s6)
inductive TdNI4 (cs : List Int) (ls : List Str) (u : List Pr) (M : Int) (ds : List PyData) (σ : List Ent) : Prop
  | mk (t : Nat) (r : _) (rows : List Str) (x : _) (s4 : _) (s5 : _) (s6 : _) (h0 : ds = encT r) (h1 : σ = tmσ cs ls u (.val (.int M)) (.val (.list (encS rows))) (.val (.int x)) s4 s5 s6) (h2 : tmGo cs M r rows x = tmGo cs M (cutT cs) ls 1) (h3 : TurnOk t r) (h4 : rows.length + t = 4) (h5 : t ≤ 3) (h6 : ∀ r ∈ rows, r.length ≤ 2 ^ t)
set_option maxHeartbeats 4000000 in
theorem rc_terms {f : Addr} {cs : List Int} {ls : List Str} (hf : FnK H f 68) (gE : Glo H "enumerate" (.type "enumerate")) (gR : Glo H "range" (.type "range")) (hc : CellsOk cs) (hl : ls.length = 4) (h1 : ∀ y ∈ ls, y.length ≤ 1) : RC prog w H (.ref f) 4 [.list (encI cs), .list (encS ls)] (.list (encP (termsR cs ls))) := by
  refine RC.fk (ps := [("cells", .list (encI cs)), ("letters", .list (encS ls))]) (vs := ["terms", "mask", "rows", "weight", "turn", "k", "turned"]) (gl := ["enumerate", "range"]) hf (by kernel_rfl) (by decide +kernel) (by kernel_rfl) (fun vals hl pm cd doc => by obtain ⟨a, b, rfl⟩ := two_of hl; rfl) fun C hC => ?_
  refine TriB.next (TriN.assignOwn .nil (.there (.there .here)) (.inl rfl)) ?_
  refine TriB.cons (Q := fun f σ => f = .nx ∧ TdNI1 cs ls σ) (TriS.for_ (ItE.range1 (hC.mem (by simp)) gR Tri.int (by decide) (by decide)) ⟨_, _, rfl⟩
    (TdNI2 cs ls) ⟨List.range 8, [], .un, .un, .un, .un, .un, .un, rfl, rfl, rfl⟩ (fun d ds σ hI => ?_) fun σ hI => ?_) (fun σ' h => ?_) fun f σ' hn h => (hn h.1).elim
  · obtain ⟨r, u, s1, s2, s3, s4, s5, s6, hd, rfl, hg⟩ := hI
    cases r with
    | nil => cases hd
    | cons j r =>
    rw [List.map_cons] at hd
    injection hd with hd1 hd2
    subst hd1 hd2
    have hul : u.length ≤ 8 := by
      have := congrArg List.length hg
      simp [termsR] at this
      lia
    generalize hM : (0 + (j : Int)) = M at hg
    rw [List.map_cons, hM] at hg
    have hM0 : 0 ≤ M := by lia
    clear hM
    refine ⟨_, Asg.name (.there (.there (.there .here))) (.inl rfl), ?_⟩
    refine TriB.next (TriN.assign (Tri.name (.there .here)) (.t4 .here) (.inl rfl)) ?_
    refine TriB.next (TriN.assign Tri.int (.t4 (.there .here)) (.inl rfl)) ?_
    refine TriB.cons (Q := fun f σ => f = .nx ∧ TdNI3 cs ls u M σ) (TriS.for_ (ds := encT (cutT cs)) (ItE.enumL (ds := [.int ((cs.getD 4 0).fmod 3), .int ((cs.getD 5 0).fmod 2), .int 0]) (hC.mem (by simp)) gE (Tri.list (TriL.cons (Tri.bin (Tri.item (Tri.name .here) Tri.int (item_cells (by decide) (by rw [hc.len]; decide) (by rw [hc.len]; decide))) Tri.int (mod_ii (by decide))) (TriL.cons (Tri.bin (Tri.item (Tri.name .here) Tri.int (item_cells (by decide) (by rw [hc.len]; decide) (by rw [hc.len]; decide))) Tri.int (mod_ii (by decide))) (TriL.cons Tri.int .nil))) (by show 3 ≤ sizeLine; decide))) ⟨_, _, _, rfl⟩
      (TdNI4 cs ls u M) ⟨0, cutT cs, ls, 1, s4, s5, s6, rfl, rfl, rfl, cutT_ok cs, by simp [hl], by lia, fun r hr => by have := h1 r hr; simpa using this⟩ (fun d ds σ hI => ?_) fun σ hI => ?_) (fun σ' h => ?_) fun f σ' hn h => (hn h.1).elim
    · obtain ⟨t, r, rows, x, s4, s5, s6, hd, rfl, hg, ht, hr, ht3, hB⟩ := hI
      cases r with
      | nil => cases hd
      | cons p r =>
      obtain ⟨t', k⟩ := p
      injection hd with hd1 hd2
      subst hd1 hd2
      obtain ⟨htt, hk0, hk2⟩ := ht 0 (t', k) rfl
      have htt : t = t' := htt.symm
      subst htt
      dsimp only at hk0 hk2
      obtain ⟨k, rfl⟩ := Int.eq_ofNat_of_zero_le hk0
      refine ⟨_, Asg.tuple (AsgL.cons (Asg.name (.t4 (.there (.there .here))) (.inl rfl)) (AsgL.cons (Asg.name (.t4 (.there (.there (.there .here)))) (.inl rfl)) .nil)), ?_⟩
      have hkt : k + t ≤ 2 := by lia
      have hlen : rows.length ≤ 4 := by lia
      have hB' : ∀ j, (rows.getD j "").length ≤ 8 := fun j => by
        rw [List.getD_eq_getElem?_getD]
        by_cases hj : j < rows.length
        · rw [List.getElem?_eq_getElem hj]
          have := hB _ (List.getElem_mem hj)
          have : 2 ^ t ≤ 2 ^ 3 := Nat.pow_le_pow_right (by decide) (by lia)
          have e : (2:Nat) ^ 3 = 8 := rfl
          rw [Option.getD_some]; lia
        · rw [List.getElem?_eq_none (by lia)]; decide
      have hz : ∀ n : Nat, n ≤ 100 → n ≤ sizeLine := fun n h => Nat.le_trans h (by decide)
      have htc : t < cs.length := by rw [hc.len]; lia
      have hpw : (2 : Int) ^ ((t : Nat) : Int).toNat ≠ 0 ∧ ((2 : Int) ^ ((t : Nat) : Int).toNat).natAbs < 2 ^ 20 := by
        have : t = 0 ∨ t = 1 ∨ t = 2 := by lia
        rcases this with rfl | rfl | rfl <;> decide
      refine TriB.next (TriN.assign (d := .bool (turnedB M t)) (Tri.cmp (Tri.bin (Tri.bin (Tri.name (.there (.there (.there .here)))) (Tri.bin Tri.int (Tri.name (.t4 (.there (.there .here)))) (pow_ii (by lia) (by rw [show Builtin.Int.intBits 2 = 2 from rfl]; lia))) (fdiv_ii hpw.1 (fdiv3 hpw.1 hpw.2))) Tri.int (mod_ii (by decide))) Tri.int eq_ii) (.t4 (.t4 .here)) (.inl rfl)) ?_
      refine TriB.next (TriN.aug (σ₁ := tmσ cs ls u (.val (.int M)) (.val (.list (encS rows))) (.val (.int x)) (.val (.int (t : Nat))) (.val (.int (k : Nat))) (.val (.bool (turnedB M t)))) (db := .int (wtB (turnedB M t) (cs.getD t 0))) (.t4 (.there .here)) (Tri.ite (TriT.val (Tri.name (.t4 (.t4 .here))) truthy_b) (fun hb => ?_) fun hb => ?_) (imul_ii (.inr (wtB_bits _ _))) (.t4 (.there .here)) (.inl rfl)) ?_
      · rw [show wtB (turnedB M t) (cs.getD t 0) = wtI (cs.getD t 0) from by unfold wtB; rw [if_pos hb]]
        refine Tri.item (da := .list (encI wtL)) (Tri.list (TriL.cons (Tri.una Tri.int neg_i) (TriL.cons (Tri.una Tri.int neg_i) (TriL.cons (Tri.una Tri.int neg_i) (TriL.cons (Tri.una Tri.int neg_i) (TriL.cons Tri.int (TriL.cons Tri.int .nil)))))) (by show 6 ≤ sizeLine; decide)) (Tri.bin (Tri.bin (Tri.item (Tri.name .here) (Tri.name (.t4 (.there (.there .here)))) (item_cells (by lia) htc (by rw [hc.len]; decide))) Tri.int (fdiv_ii (by decide) (fdiv3 (by decide) (by decide)))) Tri.int (mod_ii (by decide))) (item_cells (signI_bd _).1 ?_ (by decide))
        have := signI_bd (cs.getD t 0)
        unfold signI at this
        show _ < 6
        change (((cs.getD t 0).fdiv 3).fmod 6).toNat < 6
        lia
      · rw [show wtB (turnedB M t) (cs.getD t 0) = 1 from by unfold wtB; rw [if_neg (by rw [hb]; simp)]]
        exact Tri.int
      refine TriB.last (TriS.mono (TriN.assign (σ₁ := tmσ cs ls u (.val (.int M)) (.val (.list (encS rows))) (.val (.int (x * wtB (turnedB M t) (cs.getD t 0)))) (.val (.int (t : Nat))) (.val (.int (k : Nat))) (.val (.bool (turnedB M t)))) (d := .list (encS (tmSt k (turnedB M t) rows))) ?_ (.t4 .here) (.inl rfl)) fun f σ' h => ?_)
      · rw [← encS_st (by lia)]
        have hr1 : (pickL none (some (k : Int)) none (encS rows)).length ≤ 4 := by rw [pick_take (by simp [encS]; lia)]; simp [encS]; lia
        have hr2 : (pickL (some ((k : Int) + 2)) none none (encS rows)).length ≤ 4 := by rw [show ((k : Int) + 2) = ((k + 2 : Nat) : Int) from by lia, pick_drop (by simp [encS]; lia)]; simp [encS]; lia
        have e1 := hB' k
        have e2 := hB' (k + 1)
        have i1 : ∀ {C : Cx} {σ : List Ent} {p q pos : Pos}, Look "rows" (.val (.list (encS rows))) σ → Look "k" (.val (.int (k : Nat))) σ → Tri prog w H C σ (.Subscript (.Name "rows" p) (.Name "k" q) pos) (.str (rows.getD k "")) σ := fun a b => Tri.item (Tri.name a) (Tri.name b) (item_li (by lia) (by lia) (encS_get (by lia)))
        refine Tri.bin (Tri.bin (Tri.sliceL (Tri.name (.t4 .here)) ⟨rfl, rfl⟩ ⟨_, rfl, Tri.name (.t4 (.there (.there (.there .here))))⟩ ⟨rfl, rfl⟩ (by decide) (hz _ (by simp [encS]; lia)) ⟨_, fun _ _ => rfl⟩) (Tri.list (TriL.cons (Tri.ite (TriT.val (Tri.name (.t4 (.t4 .here))) truthy_b) (fun hb => ?_) fun hb => ?_) .nil) (by show 1 ≤ sizeLine; decide)) (add_ll (hz _ ?_))) (Tri.sliceL (Tri.name (.t4 .here)) ⟨_, rfl, Tri.bin (Tri.name (.t4 (.there (.there (.there .here))))) Tri.int add_ii⟩ ⟨rfl, rfl⟩ ⟨rfl, rfl⟩ (by decide) (hz _ (by simp [encS]; lia)) ⟨_, fun _ _ => rfl⟩) (add_ll (hz _ ?_))
        · rw [if_pos hb]
          exact Tri.bin (Tri.item (Tri.name (.t4 .here)) (Tri.bin (Tri.name (.t4 (.there (.there (.there .here))))) Tri.int add_ii) (item_li (by lia) (by lia) (encS_get (by lia)))) (Tri.item (Tri.name (.t4 .here)) (Tri.name (.t4 (.there (.there (.there .here))))) (item_li (by lia) (by lia) (encS_get (by lia)))) (add_ss (hz _ (by have := hB' ((k : Int) + 1).toNat; have := hB' ((k : Nat) : Int).toNat; lia)))
        · rw [if_neg (by rw [hb]; simp)]
          exact Tri.bin (Tri.item (Tri.name (.t4 .here)) (Tri.name (.t4 (.there (.there (.there .here))))) (item_li (by lia) (by lia) (encS_get (by lia)))) (Tri.item (Tri.name (.t4 .here)) (Tri.bin (Tri.name (.t4 (.there (.there (.there .here))))) Tri.int add_ii) (item_li (by lia) (by lia) (encS_get (by lia)))) (add_ss (hz _ (by have := hB' ((k : Int) + 1).toNat; have := hB' ((k : Nat) : Int).toNat; lia)))
        · simp; lia
        · simp; lia
      · obtain ⟨rfl, rfl⟩ := h
        refine ⟨t + 1, r, tmSt k (turnedB M t) rows, x * wtB (turnedB M t) (cs.getD t 0), .val (.int (t : Nat)), .val (.int (k : Nat)), .val (.bool (turnedB M t)), rfl, rfl, hg, ht.tail, ?_, by lia, fun q hq => ?_⟩
        · have := tmSt_len (k := k) (b := turnedB M t) (rows := rows) (by lia); lia
        · have := tmSt_mem (B := 2 ^ t) (by lia) hB q hq
          have e4 : 2 ^ (t + 1) = 2 * 2 ^ t := by rw [Nat.pow_succ]; lia
          lia
    · obtain ⟨t, r, rows, x, s4, s5, s6, hd, rfl, hg, ht, hr, ht3, hB⟩ := hI
      cases r with
      | cons pc r => cases hd
      | nil => exact .nil ⟨rfl, s4, s5, s6, by rw [← hg]; rfl⟩
    · obtain ⟨_, s4, s5, s6, rfl⟩ := h
      refine TriB.last (TriS.mono (TriN.append (hi := hC.int) (Tri.tuple (TriL.cons (Tri.item (Tri.name (.t4 .here)) Tri.int (item_li (by decide) (by decide) (encS_get (by show 0 < _; rw [tmGo_pos (cutT_ok cs) (by simp [hl, cutT])]; decide)))) (TriL.cons (Tri.name (.t4 (.there .here))) .nil)) (by show 2 ≤ sizeLine; decide)) (.tail _ (.tail _ (.head _))) (.own _) (.there (.there .here)) (by simp [encP]; exact Nat.le_trans hul (by decide)) ⟨_, .tail _ (.tail _ (.head _)), _, .own _⟩) fun f σ' h => ?_)
      obtain ⟨rfl, rfl⟩ := h
      refine ⟨r, u ++ [termOf cs ls M], .val (.int M), .val (.list (encS (tmGo cs M (cutT cs) ls 1).1)), .val (.int (tmGo cs M (cutT cs) ls 1).2), s4, s5, s6, rfl, ?_, ?_⟩
      · simp [tmσ, encP, Slot.list', termOf]
      · rw [← hg]; simp
  · obtain ⟨r, u, s1, s2, s3, s4, s5, s6, hd, rfl, hg⟩ := hI
    cases r with
    | cons pc r => cases hd
    | nil => exact .nil ⟨rfl, s1, s2, s3, s4, s5, s6, by rw [← hg]; simp⟩
  · obtain ⟨_, s1, s2, s3, s4, s5, s6, rfl⟩ := h
    refine TriB.turn (.cons (.same _) (.cons (.same _) (.cons (.fz _ _ _) (Turns.refl _)))) ?_
    exact TriB.last (TriS.ret (Tri.name (.there (.there .here))) rfl)
end
end Mine

end
noncomputable section
open PySem PySem.W PyProof.Rows
set_option maxRecDepth 100000
set_option autoImplicit false
namespace Mine
noncomputable def SignC (c : Nat) : Prop := c = 37 ∨ c = 38 ∨ c = 94 ∨ c = 126 ∨ c = 64
noncomputable def numC (c : Nat) : Int := if c = 37 then 24 else if c = 38 then 19 else if c = 94 then 32 else if c = 126 then 31 else 49
noncomputable def numW (y : Str) : List Int := y.cps.toList.map numC
noncomputable def numsR (ps : List Pr) : List Int := ps.flatMap fun p => numW p.1 ++ [320 + p.2]
noncomputable def padK (cs : List Int) (k : Nat) : Int := (((cs.getD ((k : Int).fmod 6).toNat 0).fdiv 18 + (k : Nat)).fmod 7).fdiv 6
noncomputable def octN (n : Int) : List Int := if 63 < n then [n.fdiv 64 + 64, n.fmod 64] else [n]
noncomputable def octK (cs : List Int) (q : Int × Nat) : List Int := List.replicate (padK cs q.2).toNat 64 ++ octN q.1
noncomputable def octGo (cs : List Int) (l : List (Int × Nat)) : List Int := l.flatMap (octK cs)
noncomputable def octW (total p o : Int) : Int := if (p + total).fmod 3 == 0 then o + 128 else o
noncomputable def octF (total : Int) (l : List Int) (k : Nat) : List Int := (l.zipIdx k).map fun q => octW total (q.2 : Nat) q.1
noncomputable def octsR (ps : List Pr) (cs : List Int) (total : Int) : List Int := octF total (octGo cs ((numsR ps ++ [0]).zipIdx)) 0
noncomputable def numG : PyData → List PyData
  | .str y => [.int (numC (y.cps.getD 0 0))]
  | _ => []
noncomputable def octG (total : Int) : PyData → List PyData
  | .tuple [.int p, .int o] => [.int (octW total p o)]
  | _ => []
noncomputable def enumI (l : List (Int × Nat)) : List PyData := l.map fun q => .tuple [.int (q.2 : Nat), .int q.1]
theorem enumI_eq (l : List Int) : (enumL (encI l)).map PyData.tuple = enumI l.zipIdx := by
  unfold enumL enumI encI
  rw [List.zipIdx_map, List.map_map, List.map_map]
  rfl
theorem padK_bd (cs : List Int) (k : Nat) : 0 ≤ padK cs k ∧ padK cs k ≤ 1 := by
  unfold padK
  generalize (cs.getD ((k : Int).fmod 6).toNat 0).fdiv 18 + (k : Nat) = z
  rw [Int.fmod_eq_emod_of_nonneg _ (by lia), Int.fdiv_eq_ediv_of_nonneg _ (by lia)]
  lia
theorem octK_len (cs : List Int) (q : Int × Nat) : (octK cs q).length ≤ 3 := by
  have := padK_bd cs q.2
  unfold octK octN
  rw [List.length_append, List.length_replicate]
  split <;> simp <;> lia
theorem octGo_len (cs : List Int) : ∀ l, (octGo cs l).length ≤ 3 * l.length
  | [] => Nat.le_refl _
  | q :: l => by
    have := octK_len cs q
    have := octGo_len cs l
    show (octK cs q ++ octGo cs l).length ≤ _
    rw [List.length_append, List.length_cons]; lia
theorem numG_all : ∀ l : List Nat, (l.map fun c => PyData.str ⟨#[c]⟩).flatMap numG = encI (l.map numC)
  | [] => rfl
  | c :: l => by rw [List.map_cons, List.flatMap_cons, numG_all l]; rfl
theorem octG_all (total : Int) : ∀ l : List (Int × Nat), (enumI l).flatMap (octG total) = encI (l.map fun q => octW total (q.2 : Nat) q.1)
  | [] => rfl
  | q :: l => by
    show octG total (.tuple [.int (q.2 : Nat), .int q.1]) ++ (enumI l).flatMap (octG total) = _
    rw [octG_all total l]; rfl
theorem encI_rep (n : Nat) (a : Int) : (List.replicate n [PyData.int a]).flatten = encI (List.replicate n a) := by
  induction n with
  | zero => rfl
  | succ n ih => rw [List.replicate_succ, List.flatten_cons, ih]; rfl
noncomputable def idxC (c : Nat) : Nat := if c = 37 then 0 else if c = 38 then 1 else if c = 94 then 2 else if c = 126 then 3 else 4
theorem sign_occ {c : Nat} (h : SignC c) : Builtin.Str.occurrences "%&^~@" ⟨#[c]⟩ 0 (("%&^~@" : Str).length) 1 = [idxC c] := by
  rcases h with rfl | rfl | rfl | rfl | rfl <;> decide +kernel
theorem sign_num {c : Nat} (h : SignC c) : (encI [24, 19, 32, 31, 49])[((idxC c : Nat) : Int).toNat]? = some (.int (numC c)) := by
  rcases h with rfl | rfl | rfl | rfl | rfl <;> rfl
section
variable {prog : Program} {w : World} {H : Heap} {C : Cx} {σ : List Ent}
noncomputable def ocσ (ps : List Pr) (cs : List Int) (total : Int) (a b s1 s2 s3 s4 : Slot) : List Ent := [Lo "terms" (.val (.list (encP ps))), Lo "cells" (.val (.list (encI cs))), Ce "total" (.val (.int total)), Lo "numbers" a, Lo "word" s1, Lo "weight" s2, Lo "octets" b, Lo "k" s3, Lo "number" s4]
inductive TdOI1 (ps : List Pr) (cs : List Int) (total : Int) (σ : List Ent) : Prop
  | mk (s1 : _) (s2 : _) (h0 : σ = ocσ ps cs total (.own (encI (numsR ps))) .un s1 s2 .un .un)
inductive TdOI2 (ps : List Pr) (cs : List Int) (total : Int) (ds : List PyData) (σ : List Ent) : Prop
  | mk (r : _) (u : _) (s1 : _) (s2 : _) (h0 : ds = encP r) (h1 : σ = ocσ ps cs total (.own (encI u)) .un s1 s2 .un .un) (h2 : u ++ numsR r = numsR ps) (h3 : ∀ p ∈ r, p.1.length ≤ 100 ∧ ∀ c ∈ p.1.cps.toList, SignC c)
inductive TdOI3 (ps : List Pr) (cs : List Int) (total : Int) (s1 : Slot) (s2 : Slot) (σ : List Ent) : Prop
  | mk (s3 : _) (s4 : _) (h0 : σ = ocσ ps cs total (.val (.list (encI (numsR ps)))) (.own (encI (octGo cs ((numsR ps ++ [0]).zipIdx)))) s1 s2 s3 s4)
inductive TdOI4 (ps : List Pr) (cs : List Int) (total : Int) (s1 : Slot) (s2 : Slot) (ds : List PyData) (σ : List Ent) : Prop
  | mk (r : _) (u : _) (s3 : _) (s4 : _) (h0 : ds = enumI r) (h1 : σ = ocσ ps cs total (.val (.list (encI (numsR ps)))) (.own (encI u)) s1 s2 s3 s4) (h2 : u ++ octGo cs r = octGo cs ((numsR ps ++ [0]).zipIdx))
set_option maxHeartbeats 4000000 in
theorem rc_octets {f : Addr} {cs : List Int} {ps : List Pr} {total : Int} (hf : FnK H f 69) (gE : Glo H "enumerate" (.type "enumerate")) (hc : CellsOk cs) (hw : ∀ p ∈ ps, p.1.length ≤ 100 ∧ ∀ c ∈ p.1.cps.toList, SignC c) (hz : (numsR ps).length ≤ 1000) : RC prog w H (.ref f) 4 [.list (encP ps), .list (encI cs), .int total] (.list (encI (octsR ps cs total))) := by
  refine RC.fk (ps := [("terms", .list (encP ps)), ("cells", .list (encI cs)), ("total", .int total)]) (vs := ["numbers", "word", "weight", "octets", "k", "number"]) (gl := ["enumerate"]) hf (by kernel_rfl) (by decide +kernel) (by kernel_rfl) (fun vals hl pm cd doc => by obtain ⟨a, b, c, rfl⟩ := three_of hl; rfl) fun C hC => ?_
  have hsz : ∀ n : Nat, n ≤ 100000 → n ≤ sizeLine := fun n h => Nat.le_trans h (by decide)
  refine TriB.next (TriN.assignOwn .nil (.there (.there (.there .here))) (.inl rfl)) ?_
  refine TriB.cons (Q := fun f σ => f = .nx ∧ TdOI1 ps cs total σ) (TriS.for_ (ItE.list (Tri.name .here)) (.inr ⟨_, _, _, rfl⟩)
    (TdOI2 ps cs total) ⟨ps, [], .un, .un, rfl, rfl, rfl, hw⟩ (fun d ds σ hI => ?_) fun σ hI => ?_) (fun σ' h => ?_) fun f σ' hn h => (hn h.1).elim
  · obtain ⟨r, u, s1, s2, hd, rfl, hg, hr⟩ := hI
    cases r with
    | nil => cases hd
    | cons p r =>
    obtain ⟨y, c⟩ := p
    injection hd with hd1 hd2
    subst hd1 hd2
    have hy := hr (y, c) (.head _)
    have hnw : (numW y).length ≤ 100 := by unfold numW; rw [List.length_map]; exact hy.1
    have hul : u.length ≤ 1000 := by have := congrArg List.length hg; rw [List.length_append] at this; lia
    refine ⟨_, Asg.tuple (AsgL.cons (Asg.name (.t4 .here) (.inl rfl)) (AsgL.cons (Asg.name (.t4 (.there .here)) (.inl rfl)) .nil)), ?_⟩
    refine TriB.last (TriS.mono (TriN.extend (hi := hC.int) (σ₁ := ocσ ps cs total (.own (encI u)) .un (.val (.str y)) (.val (.int c)) .un .un) (ds := encI u) (es := encI (numW y ++ [320 + c])) ?_ (.tail _ (.tail _ (.tail _ (.head _)))) (.own _) (.there (.there (.there .here))) (hsz _ ?_) ⟨_, .tail _ (.tail _ (.tail _ (.head _))), _, .own _⟩) fun f σ' h => ?_)
    · rw [encI_append]
      refine Tri.bin (da := .list (encI (numW y))) ?_ (Tri.list (TriL.cons (Tri.bin Tri.int (Tri.name (.t4 (.there .here))) add_ii) .nil) (by show 1 ≤ sizeLine; decide)) (add_ll (hsz _ (by simp [encI]; lia)))
      have hall := numG_all y.cps.toList
      show Tri prog w H _ _ _ (.list (encI (y.cps.toList.map numC))) _
      rw [← hall]
      refine Tri.comp (ItE.str (Tri.name (.t4 .here))) ⟨_, _, rfl⟩ [] ["sign"] [] (hC.kid fun _ _ _ _ _ _ => by kernel_rfl) (fun p hp => nomatch hp) numG (fun L d hd => ?_) (fun L it D => rfl) ?_
      · obtain ⟨c, hc, rfl⟩ := List.mem_map.mp hd
        have hs := hy.2 c hc
        have hi : idxC c < 5 := by unfold idxC; split <;> (try split) <;> (try split) <;> (try split) <;> decide
        refine ⟨_, _, Asg.name .here (.inl rfl), .cons (.un _ _ _) .nil, TriI.nil, fun hb => EmitR.elt (Tri.item (Tri.list (ds := encI [24, 19, 32, 31, 49]) (TriL.cons Tri.int (TriL.cons Tri.int (TriL.cons Tri.int (TriL.cons Tri.int (TriL.cons Tri.int .nil))))) (by show 5 ≤ sizeLine; decide)) (Tri.methS Tri.str PySem.F.slot_str_index PySem.F.type_str_index (TriL.cons (Tri.name .here) .nil) (rc_index (sign_occ hs))) (item_li (by lia) (by lia) (sign_num hs))), fun hb => nomatch hb⟩
      · unfold chars; rw [hall]; simp [encI]; exact hsz _ (Nat.le_trans hy.1 (by decide))
    · simp [encI]; lia
    · obtain ⟨rfl, rfl⟩ := h
      refine ⟨r, u ++ (numW y ++ [320 + c]), .val (.str y), .val (.int c), rfl, ?_, ?_, fun p hp => hr p (.tail _ hp)⟩
      · rw [encI_append u]; rfl
      · rw [← hg, List.append_assoc]; rfl
  · obtain ⟨r, u, s1, s2, hd, rfl, hg, hr⟩ := hI
    cases r with
    | cons pc r => cases hd
    | nil => exact .nil ⟨rfl, s1, s2, by rw [← hg]; simp [numsR]⟩
  · obtain ⟨_, s1, s2, rfl⟩ := h
    refine TriB.turn (.cons (.same _) (.cons (.same _) (.cons (.same _) (.cons (.fz _ _ _) (Turns.refl _))))) ?_
    refine TriB.next (TriN.assignOwn .nil (.t4 (.there (.there .here))) (.inl rfl)) ?_
    refine TriB.cons (Q := fun f σ => f = .nx ∧ TdOI3 ps cs total s1 s2 σ) (TriS.for_ (ds := enumI ((numsR ps ++ [0]).zipIdx)) (enumI_eq (numsR ps ++ [0]) ▸ ItE.enumL (hC.mem (by simp)) gE (encI_append (numsR ps) [0] ▸ Tri.bin (Tri.name (.there (.there (.there .here)))) (Tri.list (TriL.cons Tri.int .nil) (by show 1 ≤ sizeLine; decide)) (add_ll (hsz _ (by simp [encI]; lia))))) ⟨_, _, _, rfl⟩
      (TdOI4 ps cs total s1 s2) ⟨_, [], .un, .un, rfl, rfl, rfl⟩ (fun d ds σ hI => ?_) fun σ hI => ?_) (fun σ' h => ?_) fun f σ' hn h => (hn h.1).elim
    · obtain ⟨r, u, s3, s4, hd, rfl, hg⟩ := hI
      cases r with
      | nil => cases hd
      | cons q r =>
      obtain ⟨n, k⟩ := q
      injection hd with hd1 hd2
      subst hd1 hd2
      have hul : u.length ≤ 3003 := by
        have := congrArg List.length hg
        rw [List.length_append] at this
        have h2 := octGo_len cs ((numsR ps ++ [0]).zipIdx)
        rw [List.length_zipIdx, List.length_append] at h2
        simp at h2
        lia
      have hp := padK_bd cs k
      refine ⟨_, Asg.tuple (AsgL.cons (Asg.name (.t4 (.there (.there (.there .here)))) (.inl rfl)) (AsgL.cons (Asg.name (.t4 (.t4 .here)) (.inl rfl)) .nil)), ?_⟩
      have h6 : (((k : Int).fmod 6)).toNat < cs.length ∧ 0 ≤ (k : Int).fmod 6 := by
        rw [hc.len, Int.fmod_eq_emod_of_nonneg _ (by lia)]
        lia
      refine TriB.next (TriN.extend (hi := hC.int) (σ₁ := ocσ ps cs total (.val (.list (encI (numsR ps)))) (.own (encI u)) s1 s2 (.val (.int (k : Nat))) (.val (.int n))) (ds := encI u) (es := encI (List.replicate (padK cs k).toNat 64)) ?_ (.tail _ (.tail _ (.tail _ (.tail _ (.tail _ (.tail _ (.head _))))))) (.own _) (.t4 (.there (.there .here))) (hsz _ ?_) ⟨_, .tail _ (.tail _ (.tail _ (.tail _ (.tail _ (.tail _ (.head _)))))), _, .own _⟩) ?_
      · rw [← encI_rep]
        exact Tri.bin (Tri.list (TriL.cons Tri.int .nil) (by show 1 ≤ sizeLine; decide)) (Tri.bin (Tri.bin (Tri.bin (Tri.bin (Tri.item (Tri.name (.there .here)) (Tri.bin (Tri.name (.t4 (.there (.there (.there .here))))) Tri.int (mod_ii (by decide))) (item_cells h6.2 h6.1 (by rw [hc.len]; decide))) Tri.int (fdiv_ii (by decide) (fdiv3 (by decide) (by decide)))) (Tri.name (.t4 (.there (.there (.there .here))))) add_ii) Tri.int (mod_ii (by decide))) Tri.int (fdiv_ii (by decide) (fdiv3 (by decide) (by decide)))) (mul_li (Int.le_trans (by decide) hp.1) (Int.lt_of_le_of_lt hp.2 (by decide)) (by rw [List.length_singleton]; show 1 * (padK cs k).toNat ≤ _; lia))
      · simp [encI]; lia
      refine TriB.last (TriS.mono (TriN.extend (hi := hC.int) (σ₁ := ocσ ps cs total (.val (.list (encI (numsR ps)))) (.own (encI u ++ encI (List.replicate (padK cs k).toNat 64))) s1 s2 (.val (.int (k : Nat))) (.val (.int n))) (ds := encI u ++ encI (List.replicate (padK cs k).toNat 64)) (es := encI (octN n)) (Tri.ite (TriT.cmp (Tri.name (.t4 (.t4 .here))) Tri.int gt_ii) (fun hb => ?_) fun hb => ?_) (.tail _ (.tail _ (.tail _ (.tail _ (.tail _ (.tail _ (.head _))))))) (.own _) (.t4 (.there (.there .here))) (hsz _ ?_) ⟨_, .tail _ (.tail _ (.tail _ (.tail _ (.tail _ (.tail _ (.head _)))))), _, .own _⟩) fun f σ' h => ?_)
      · have hb := of_decide_eq_true hb
        unfold octN
        rw [if_pos hb]
        exact Tri.list (TriL.cons (Tri.bin (Tri.bin (Tri.name (.t4 (.t4 .here))) Tri.int (fdiv_ii (by decide) (fdiv3 (by decide) (by decide)))) Tri.int add_ii) (TriL.cons (Tri.bin (Tri.name (.t4 (.t4 .here))) Tri.int (mod_ii (by decide))) .nil)) (by show 2 ≤ sizeLine; decide)
      · have hb := of_decide_eq_false hb
        unfold octN
        rw [if_neg hb]
        exact Tri.list (TriL.cons (Tri.name (.t4 (.t4 .here))) .nil) (by show 1 ≤ sizeLine; decide)
      · have : (octN n).length ≤ 2 := by unfold octN; split <;> simp
        simp [encI]; lia
      · obtain ⟨rfl, rfl⟩ := h
        refine ⟨r, u ++ octK cs (n, k), .val (.int (k : Nat)), .val (.int n), rfl, ?_, ?_⟩
        · rw [encI_append u, show encI (octK cs (n, k)) = encI (List.replicate (padK cs k).toNat 64) ++ encI (octN n) from encI_append _ _, ← List.append_assoc]; rfl
        · rw [← hg, List.append_assoc]; rfl
    · obtain ⟨r, u, s3, s4, hd, rfl, hg⟩ := hI
      cases r with
      | cons pc r => cases hd
      | nil => exact .nil ⟨rfl, s3, s4, by rw [← hg]; simp [octGo]⟩
    · obtain ⟨_, s3, s4, rfl⟩ := h
      generalize hO : octGo cs ((numsR ps ++ [0]).zipIdx) = O
      have hOl : O.length ≤ 3003 := by
        have h2 := octGo_len cs ((numsR ps ++ [0]).zipIdx)
        rw [List.length_zipIdx, List.length_append] at h2
        simp at h2
        rw [← hO]; lia
      refine TriB.turn (.cons (.same _) (.cons (.same _) (.cons (.same _) (.cons (.same _) (.cons (.same _) (.cons (.same _) (.cons (.fz _ _ _) (Turns.refl _)))))))) ?_
      refine TriB.last (TriS.ret (σ₁ := ocσ ps cs total (.val (.list (encI (numsR ps)))) (.val (.list (encI O))) s1 s2 s3 s4) ?_ (by unfold octsR; rw [hO]))
      have hall := octG_all total O.zipIdx
      show Tri prog w H _ _ _ (.list (encI ((O.zipIdx).map fun q => octW total (q.2 : Nat) q.1))) _
      rw [← hall, ← enumI_eq]
      refine Tri.comp (ItE.enumL (hC.mem (by simp)) gE (Tri.name (.t4 (.there (.there .here))))) ⟨_, _, _, rfl⟩ [("total", .val (.int total))] ["place", "octet"] [] (hC.kid fun _ _ _ _ _ _ => by kernel_rfl) (fun p hp => ?_) (octG total) (fun L d hd => ?_) (fun L it D => rfl) ?_
      · simp at hp
        subst hp
        exact ⟨.tail _ (.tail _ (.head _)), rfl⟩
      · rw [enumI_eq] at hd
        obtain ⟨q, hq, rfl⟩ := List.mem_map.mp hd
        obtain ⟨o, pl⟩ := q
        refine ⟨_, _, Asg.tuple (AsgL.cons (Asg.name (.there .here) (.inl rfl)) (AsgL.cons (Asg.name (.there (.there .here)) (.inl rfl)) .nil)), .cons (.same _) (.cons (.un _ _ _) (.cons (.un _ _ _) .nil)), TriI.nil, fun hb => EmitR.elt (Tri.ite (TriT.cmp (Tri.bin (Tri.bin (Tri.name (.there .here)) (Tri.name .here) add_ii) Tri.int (mod_ii (by decide))) Tri.int eq_ii) (fun hb => ?_) fun hb => ?_), fun hb => nomatch hb⟩
        · show Tri prog w H _ _ _ (.int (octW total (pl : Nat) o)) _
          unfold octW
          rw [if_pos hb]
          exact Tri.bin (Tri.name (.there (.there .here))) Tri.int add_ii
        · show Tri prog w H _ _ _ (.int (octW total (pl : Nat) o)) _
          unfold octW
          rw [if_neg (by rw [hb]; simp)]
          exact Tri.name (.there (.there .here))
      · rw [enumI_eq, hall]
        simp [encI]
        exact hsz _ (by lia)
end
end Mine

end
noncomputable section
open PySem PySem.W PyProof.Rows
set_option maxRecDepth 100000
set_option autoImplicit false
namespace Mine
noncomputable def keyF (key : Str) (v : Int) : List Str := (key.cps.toList.filter fun c => numC c == v).map fun c => ⟨#[c]⟩
noncomputable def keyG (v : Int) : PyData → List PyData
  | .str y => if (numC (y.cps.getD 0 0) == v) = true then [.str y] else []
  | _ => []
theorem keyG_all (v : Int) : ∀ l : List Nat, (l.map fun c => PyData.str ⟨#[c]⟩).flatMap (keyG v) = encS ((l.filter fun c => numC c == v).map fun c => (⟨#[c]⟩ : Str))
  | [] => rfl
  | c :: l => by
    rw [List.map_cons, List.flatMap_cons, keyG_all v l, List.filter_cons]
    show (if (numC c == v) = true then [PyData.str ⟨#[c]⟩] else []) ++ _ = _
    split <;> rfl
noncomputable def wordN (key : Str) (v : Int) (u : Str) : Str := if (decide (v < 256)) = true then u ++ Txt.join "" (keyF key v) else ""
noncomputable def pairN (v : Int) (u : Str) (ps : List Pr) : List Pr := if (decide (256 ≤ v)) = true then ps ++ [(u, v - 320)] else ps
noncomputable def tapeGo (key : Str) : Nat → List Int → Str → List Pr → Option (List Pr × List Int)
  | 0, _, _, _ => none
  | n + 1, t, u, ps => match varint t with
    | none => none
    | some (v, rest) => if (v == 0) = true then some (ps, rest) else tapeGo key n rest (wordN key v u) (pairN v u ps)
structure ExOk (kvs : List (Str × Int)) : Prop where
  sign : ∀ c, SignC c → getK kvs ⟨#[c]⟩ = some (numC c)
  plus : getK kvs "+" = some 14
  minus : getK kvs "-" = some 15
  star : getK kvs "*" = some 16
  lpar : getK kvs "(" = some 7
  rpar : getK kvs ")" = some 8
  no1 : getK kvs "\\(" = none
  no2 : getK kvs "\\\\" = none
  no3 : getK kvs "\\\"" = none
  no4 : getK kvs "a" = none
  no5 : getK kvs "\\" = none
theorem keyF_len (key : Str) (v : Int) : ((keyF key v).map (·.length)).sum ≤ key.length ∧ (keyF key v).length ≤ key.length := by
  have h1 : (keyF key v).length ≤ key.length := by
    unfold keyF; rw [List.length_map]; exact Nat.le_trans (List.length_filter_le _ _) (Nat.le_refl _)
  refine ⟨?_, h1⟩
  have : ∀ l : List Nat, ((l.map fun c => (⟨#[c]⟩ : Str)).map (·.length)).sum = l.length := by
    intro l
    induction l with
    | nil => rfl
    | cons c l ih => rw [List.map_cons, List.map_cons, List.sum_cons, ih, List.length_cons, Nat.add_comm]; rfl
  unfold keyF
  rw [this]
  exact List.length_filter_le _ _
theorem join_len (key : Str) (v : Int) : (Txt.join "" (keyF key v)).length ≤ key.length := by
  have h : (Txt.join "" (keyF key v)).length ≤ ((keyF key v).map (·.length)).sum + (keyF key v).length * ("" : Str).length := by
    show (Builtin.Str.glued "" (keyF key v)).length ≤ _
    rw [StrLaws.glued_eq_join]
    exact StrLaws.join_length_le "" (keyF key v)
  have := (keyF_len key v).1
  rw [show ("" : Str).length = 0 from rfl, Nat.mul_zero] at h
  lia
section
variable {prog : Program} {w : World} {H : Heap} {C : Cx} {σ : List Ent}
noncomputable def taσ (t : List Int) (key : Str) (ps : List Pr) (u : Str) (s1 s2 : Slot) : List Ent := [Lo "tape" (.itr true (encI t)), Lo "key" (.val (.str key)), Lo "pairs" (.own (encP ps)), Lo "word" (.val (.str u)), Lo "turn" s1, Ce "number" s2]
inductive TdPI1 (key : Str) (ps : List Pr) (rest : List Int) (ds : List PyData) (σ : List Ent) : Prop
  | mk (r : List Nat) (t : List Int) (u : Str) (qs : List Pr) (s1 : _) (s2 : _) (h0 : ds = (r.map fun j : Nat => PyData.int (0 + (j : Nat)))) (h1 : σ = taσ t key qs u s1 s2) (h2 : tapeGo key r.length t u qs = some (ps, rest)) (h3 : qs.length + r.length ≤ 41) (h4 : u.length + 5 * r.length ≤ 205)
set_option maxHeartbeats 4000000 in
theorem rm_taped {f fv fe fp fn ft : Addr} {tz te : Tok} {kvs : List (Str × Int)} {t rest : List Int} {key : Str} {ps : List Pr} (hf : FnK H f 70) (gR : Glo H "range" (.type "range")) (gI : Glo H "isinstance" (.builtin "isinstance")) (gT : Glo H "int" (.type "int"))
    (hv : FnK H fv 9) (gV : Glo H "_parse_varint" (.ref fv)) (gN : Glo H "next" (.builtin "next")) (he : FnK H fe 64) (gE : Glo H "ISEOF" (.ref fe)) (gZ : Glo H "ENDMARKER" (.int 0 tz)) (hp : FnK H fp 66) (gP : Glo H "_law_plain" (.ref fp)) (gS : Glo H "sorted" (.builtin "sorted"))
    (hn : FnK H fn 63) (gNT : Glo H "ISNONTERMINAL" (.ref fn)) (hT : FnK H ft 62) (gTE : Glo H "ISTERMINAL" (.ref ft)) (gO : Glo H "NT_OFFSET" (.int 256 te)) (T : TabS prog w H "EXACT_TOKEN_TYPES" kvs) (hx : ExOk kvs)
    (hk : key.length ≤ 5) (hks : ∀ c ∈ key.cps.toList, SignC c) (hgo : tapeGo key 41 t "" [] = some (ps, rest)) : RM prog w H (.ref f) 4 [] [.str key] (.itr true (encI t)) (.itr true (encI rest)) (.list (encP (plainR ps))) := by
  refine RM.fk (pre := []) (post := [("key", .str key)]) (x := "tape") (vs := ["pairs", "word", "turn", "number"]) (gl := ["range", "_parse_varint", "ISEOF", "isinstance", "int", "_law_plain", "ISNONTERMINAL", "ISTERMINAL"]) hf rfl (by kernel_rfl) (by decide +kernel) (by kernel_rfl) (fun vals hl pm cd doc => by obtain ⟨a, b, rfl⟩ := two_of hl; rfl) rfl fun C hC => ?_
  have hsz : ∀ n : Nat, n ≤ 100000 → n ≤ sizeLine := fun n h => Nat.le_trans h (by decide)
  refine TriB.next (TriN.assignOwn .nil (.there (.there .here)) (.inl rfl)) ?_
  refine TriB.next (TriN.assign Tri.str (.there (.there (.there .here))) (.inl rfl)) ?_
  refine TriB.cons (Q := fun f σ => f = .rt (.list (encP (plainR ps))) ∧ ∃ l, (⟨"tape", l, .itr true (encI rest)⟩ : Ent) ∈ σ) (TriS.for_ (ItE.range1 (hC.mem (by simp)) gR Tri.int (by decide) (by decide)) ⟨_, _, rfl⟩
    (TdPI1 key ps rest) ⟨List.range 41, t, "", [], .un, .un, rfl, rfl, hgo, by decide, by decide⟩ (fun d ds σ hI => ?_) fun σ hI => ?_) (fun σ' h => nomatch h.1) fun f σ' hn h => h
  · obtain ⟨r, t, u, qs, s1, s2, hd, rfl, hg, hq, hu⟩ := hI
    cases r with
    | nil => cases hd
    | cons j r =>
    rw [List.map_cons] at hd
    injection hd with hd1 hd2
    subst hd1 hd2
    rw [List.length_cons] at hg hq hu
    refine ⟨_, Asg.name (.t4 .here) (.inl rfl), ?_⟩
    unfold tapeGo at hg
    cases hvi : varint t with
    | none => rw [hvi] at hg; cases hg
    | some q =>
    obtain ⟨v, t'⟩ := q
    rw [hvi] at hg
    dsimp only at hg
    refine TriB.next (TriN.assign (σ₁ := taσ t' key qs u (.val (.int (0 + (j : Nat)))) s2) (Tri.callM (par' := .itr true (encI t')) (hC.mem (by simp)) gV hv.is (.head _) (.itr true _ _) .here (TriLM.here (.head _) rfl .nil) (rm_varint hv gN hvi) (hC.le (by show 2 ≤ 3; lia))) (.t4 (.there .here)) (.inr hC.fr)) ?_
    refine TriB.cons (Q := fun f σ => ((v == 0) = true ∧ f = .rt (.list (encP (plainR ps))) ∧ ∃ l, (⟨"tape", l, .itr true (encI rest)⟩ : Ent) ∈ σ) ∨ ((v == 0) = false ∧ f = .nx ∧ σ = taσ t' key qs u (.val (.int (0 + (j : Nat)))) (.val (.int v)))) (TriS.ite (σ₁ := taσ t' key qs u (.val (.int (0 + (j : Nat)))) (.val (.int v))) (c := v == 0) ?_ (fun hb => ?_) fun hb => ?_) (fun σ' h => ?_) fun f σ' hn h => ?_
    · have e : (v == 0) = ((v == 0) || !true) := by simp
      rw [e]
      exact TriT.or2 (TriT.val (Tri.callF (hC.mem (by simp)) gE he.is (TriL.cons (Tri.name (.t4 (.there .here))) .nil) (rc_iseof he gZ) (hC.le (by show 1 ≤ 3; lia))) truthy_b) (fun _ => TriT.not (TriT.val (Tri.isinst (hC.mem (by simp)) gI (hC.mem (by simp)) gT (Tri.name (.t4 (.there .here))) (.inl ⟨_, rfl, rfl⟩)) truthy_b)) (fun _ => rfl)
    · rw [if_pos hb] at hg
      injection hg with hg
      injection hg with h1 h2
      subst h1 h2
      refine TriB.turn (.cons (.same _) (.cons (.same _) (.cons (.fz _ _ _) (Turns.refl _)))) ?_
      refine TriB.last (TriS.ret (Tri.callF (hC.mem (by simp)) gP hp.is (TriL.cons (Tri.name (.there (.there .here))) .nil) (rc_plain hp gS (by lia) ?_) (hC.le (by show 2 ≤ 3; lia))) (.inl ⟨hb, rfl, true, .head _⟩))
      have h1 := fold_len qs []
      have h2 := List.length_filter_le (fun p : Pr => p.2 != 0) (sumK qs)
      unfold sumK at *
      simp at h1
      lia
    · exact .nil (.inr ⟨hb, rfl, rfl⟩)
    · rcases h with h | ⟨hb, _, rfl⟩
      · exact nomatch h.2.1
      rw [if_neg (by rw [hb]; simp)] at hg
      refine TriB.next (σ₁ := taσ t' key (pairN v u qs) u (.val (.int (0 + (j : Nat)))) (.val (.int v))) (TriS.ite (TriT.val (Tri.callF (hC.mem (by simp)) gNT hn.is (TriL.cons (Tri.name (.t4 (.there .here))) .nil) (rc_isnonterminal hn gO) (hC.le (by show 1 ≤ 3; lia))) truthy_b) (fun hb => ?_) fun hb => ?_) ?_
      · refine TriB.last (TriS.mono (TriN.append (hi := hC.int) (Tri.tuple (TriL.cons (Tri.name (.there (.there (.there .here)))) (TriL.cons (Tri.bin (Tri.name (.t4 (.there .here))) Tri.int sub_ii) .nil)) (by show 2 ≤ sizeLine; decide)) (.tail _ (.tail _ (.head _))) (.own _) (.there (.there .here)) (hsz _ (by simp [encP]; lia)) ⟨_, .tail _ (.tail _ (.head _)), _, .own _⟩) fun f σ' h => ?_)
        obtain ⟨rfl, rfl⟩ := h
        refine ⟨rfl, ?_⟩
        unfold pairN
        rw [if_pos hb]
        simp [taσ, encP, Slot.list']
      · refine .nil ⟨rfl, ?_⟩
        unfold pairN
        rw [if_neg (by rw [hb]; simp)]
      have hw : (wordN key v u).length ≤ u.length + 5 := by
        unfold wordN
        split
        · rw [app_len]; have := join_len key v; lia
        · exact Nat.zero_le _
      refine TriB.last (TriS.mono (TriN.assign (σ₁ := taσ t' key (pairN v u qs) u (.val (.int (0 + (j : Nat)))) (.val (.int v))) (d := .str (wordN key v u)) (Tri.ite (TriT.val (Tri.callF (hC.mem (by simp)) gTE hT.is (TriL.cons (Tri.name (.t4 (.there .here))) .nil) (rc_isterminal hT gO) (hC.le (by show 1 ≤ 3; lia))) truthy_b) (fun hb => ?_) fun hb => ?_) (.there (.there (.there .here))) (.inl rfl)) fun f σ' h => ?_)
      · unfold wordN
        rw [if_pos hb]
        refine Tri.bin (Tri.name (.there (.there (.there .here)))) (Tri.methS (ds := [.list (encS (keyF key v))]) Tri.str PySem.F.slot_str_join PySem.F.type_str_join (TriL.cons ?_ .nil) (rc_join (joinOk_of ?_))) (add_ss (hsz _ ?_))
        · have hall := keyG_all v key.cps.toList
          show Tri prog w H _ _ _ (.list (encS ((key.cps.toList.filter fun c => numC c == v).map fun c => (⟨#[c]⟩ : Str)))) _
          rw [← hall]
          refine Tri.comp (ItE.str (Tri.name (.there .here))) ⟨_, _, rfl⟩ [("number", .val (.int v))] ["sign"] ["EXACT_TOKEN_TYPES"] (hC.kid fun _ _ _ _ _ _ => by kernel_rfl) (fun p hp => ?_) (keyG v) (fun L d hd => ?_) (fun L it D => rfl) ?_
          · simp at hp
            subst hp
            exact ⟨.tail _ (.tail _ (.tail _ (.tail _ (.tail _ (.head _))))), rfl⟩
          · obtain ⟨c, hc, rfl⟩ := List.mem_map.mp hd
            have hs := hks c hc
            refine ⟨_, _, Asg.name (.there .here) (.inl rfl), .cons (.same _) (.cons (.un _ _ _) .nil), TriI.one (TriT.cmp (Tri.itemG (by simp [kid]) T (Tri.name (.there .here)) (hx.sign c hs)) (Tri.name .here) eq_ii), fun hb => ?_, fun hb => ?_⟩
            · show EmitR _ _ _ _ _ _ (if (numC c == v) = true then [.str ⟨#[c]⟩] else [])
              rw [if_pos hb]
              exact EmitR.elt (Tri.name (.there .here))
            · show (if (numC c == v) = true then [PyData.str ⟨#[c]⟩] else []) = []
              rw [if_neg (by rw [hb]; simp)]
          · unfold chars; rw [hall]
            have : (key.cps.toList.filter fun c => numC c == v).length ≤ 5 := Nat.le_trans (List.length_filter_le _ _) hk
            simp [encS]; exact hsz _ (by simpa using Nat.le_trans this (by decide))
        · have := keyF_len key v
          rw [show ("" : Str).length = 0 from rfl, Nat.mul_zero]
          lia
        · have := join_len key v; lia
      · unfold wordN
        rw [if_neg (by rw [hb]; simp)]
        exact Tri.str
      · obtain ⟨rfl, rfl⟩ := h
        refine ⟨r, t', wordN key v u, pairN v u qs, .val (.int (0 + (j : Nat))), .val (.int v), rfl, rfl, hg, ?_, by lia⟩
        unfold pairN
        split
        · rw [List.length_append]; simp; lia
        · lia
    · rcases h with h | ⟨_, rfl, _⟩
      · obtain ⟨_, rfl, h⟩ := h; exact ⟨rfl, h⟩
      · exact absurd rfl hn
  · obtain ⟨r, t, u, qs, s1, s2, hd, rfl, hg, hq, hu⟩ := hI
    cases r with
    | cons pc r => cases hd
    | nil => cases hg
end
end Mine

end
noncomputable section
open PySem PySem.W PyProof.Rows
set_option maxRecDepth 100000
set_option autoImplicit false
namespace Mine
/-! sums of words, as what they give to a function of words -/
noncomputable def ev (ps : List Pr) (g : Str → Int) : Int := (ps.map fun p => p.2 * g p.1).sum
noncomputable def tot (ps : List Pr) : Nat := (ps.map fun p => p.2.natAbs).sum
theorem ev_nil (g : Str → Int) : ev [] g = 0 := rfl
theorem ev_cons (p : Pr) (ps : List Pr) (g : Str → Int) : ev (p :: ps) g = p.2 * g p.1 + ev ps g := by simp [ev]
theorem ev_append (a b : List Pr) (g : Str → Int) : ev (a ++ b) g = ev a g + ev b g := by
  induction a with
  | nil => simp [ev]
  | cons p a ih => rw [List.cons_append, ev_cons, ih, ev_cons]; lia
theorem ev_perm {a b : List Pr} (h : a.Perm b) (g : Str → Int) : ev a g = ev b g := by
  induction h with
  | nil => rfl
  | cons x _ ih => rw [ev_cons, ev_cons, ih]
  | swap x y l => rw [ev_cons, ev_cons, ev_cons, ev_cons]; lia
  | trans _ _ h1 h2 => rw [h1, h2]
theorem tot_cons (p : Pr) (ps : List Pr) : tot (p :: ps) = p.2.natAbs + tot ps := by simp [tot]
theorem tot_append (a b : List Pr) : tot (a ++ b) = tot a + tot b := by simp [tot]
theorem tot_perm {a b : List Pr} (h : a.Perm b) : tot a = tot b := by
  induction h with
  | nil => rfl
  | cons x _ ih => rw [tot_cons, tot_cons, ih]
  | swap x y l => simp only [tot_cons]; lia
  | trans _ _ h1 h2 => rw [h1, h2]
theorem addK_split {kvs : List Pr} (p : Pr) (hn : (kvs.map (·.1)).Nodup) :
    (p.1 ∉ kvs.map (·.1) ∧ addK kvs p = kvs ++ [p]) ∨ ∃ l₁ v l₂, kvs = l₁ ++ (p.1, v) :: l₂ ∧ addK kvs p = l₁ ++ (p.1, v + p.2) :: l₂ := by
  obtain ⟨k, c⟩ := p
  by_cases hk : k ∈ kvs.map (·.1)
  · right
    obtain ⟨⟨k', v⟩, hm, rfl⟩ := List.mem_map.mp hk
    obtain ⟨l₁, l₂, rfl⟩ := List.append_of_mem hm
    refine ⟨l₁, v, l₂, rfl, ?_⟩
    have hg := getK_mem hn hm
    dsimp only at hg ⊢
    unfold addK putK
    dsimp only
    rw [hg, Option.getD_some, if_pos (List.any_eq_true.mpr ⟨_, hm, by simp⟩)]
    rw [List.map_append, List.map_cons, List.nodup_append, List.nodup_cons] at hn
    obtain ⟨_, ⟨h2, _⟩, h3⟩ := hn
    rw [List.map_append, List.map_cons, if_pos rfl]
    have e1 : l₁.map (fun p => if p.1 = k' then (p.1, v + c) else p) = l₁ := by
      conv => rhs; rw [← List.map_id l₁]
      refine List.map_congr_left fun q hq => ?_
      rw [if_neg fun e => h3 q.1 (List.mem_map.mpr ⟨q, hq, rfl⟩) k' (.head _) e]; rfl
    have e2 : l₂.map (fun p => if p.1 = k' then (p.1, v + c) else p) = l₂ := by
      conv => rhs; rw [← List.map_id l₂]
      refine List.map_congr_left fun q hq => ?_
      rw [if_neg fun e => h2 (List.mem_map.mpr ⟨q, hq, e⟩)]; rfl
    rw [e1, e2]
  · left
    refine ⟨hk, ?_⟩
    have hf : kvs.any (fun p => decide (p.1 = k)) = false := by
      rw [Bool.eq_false_iff]
      intro h
      obtain ⟨q, hq, he⟩ := List.any_eq_true.mp h
      exact hk (List.mem_map.mpr ⟨q, hq, of_decide_eq_true he⟩)
    have hg : getK kvs k = none := by
      unfold getK
      rw [List.find?_eq_none.mpr fun q hq he => hk (List.mem_map.mpr ⟨q, hq, of_decide_eq_true he⟩)]
      rfl
    unfold addK putK
    dsimp only
    rw [hf, hg]
    simp
theorem ev_addK {kvs : List Pr} (p : Pr) (hn : (kvs.map (·.1)).Nodup) (g : Str → Int) : ev (addK kvs p) g = ev kvs g + p.2 * g p.1 := by
  rcases addK_split p hn with ⟨_, h⟩ | ⟨l₁, v, l₂, h1, h2⟩
  · rw [h, ev_append, ev_cons, ev_nil]; lia
  · rw [h2, h1, ev_append, ev_append, ev_cons, ev_cons]
    dsimp only
    rw [Int.add_mul]; lia
theorem tot_addK {kvs : List Pr} (p : Pr) (hn : (kvs.map (·.1)).Nodup) : tot (addK kvs p) ≤ tot kvs + p.2.natAbs := by
  rcases addK_split p hn with ⟨_, h⟩ | ⟨l₁, v, l₂, h1, h2⟩
  · rw [h, tot_append, tot_cons]; simp [tot]
  · rw [h2, h1, tot_append, tot_append, tot_cons, tot_cons]
    dsimp only
    have h3 := Int.natAbs_add_le v p.2
    revert h3
    generalize (v + p.2).natAbs = A
    generalize v.natAbs = B
    generalize p.2.natAbs = D
    clear h1 h2
    intro h3
    lia
theorem key_addK {kvs : List Pr} (p : Pr) (hn : (kvs.map (·.1)).Nodup) : ∀ q ∈ addK kvs p, q.1 = p.1 ∨ q.1 ∈ kvs.map (·.1) := by
  intro q hq
  rcases addK_split p hn with ⟨_, h⟩ | ⟨l₁, v, l₂, h1, h2⟩
  · rw [h] at hq
    rcases List.mem_append.mp hq with hq | hq
    · exact .inr (List.mem_map.mpr ⟨q, hq, rfl⟩)
    · exact .inl (by rw [List.mem_singleton.mp hq])
  · rw [h2] at hq
    rw [h1]
    rcases List.mem_append.mp hq with hq | hq
    · exact .inr (List.mem_map.mpr ⟨q, List.mem_append.mpr (.inl hq), rfl⟩)
    · rcases List.mem_cons.mp hq with rfl | hq
      · exact .inl rfl
      · exact .inr (List.mem_map.mpr ⟨q, List.mem_append.mpr (.inr (.tail _ hq)), rfl⟩)
theorem nodup_addK {kvs : List Pr} (p : Pr) (hn : (kvs.map (·.1)).Nodup) : ((addK kvs p).map (·.1)).Nodup := putK_nodup kvs _ _ hn
theorem ev_fold (g : Str → Int) : ∀ (ps kvs : List Pr), (kvs.map (·.1)).Nodup → ev (ps.foldl addK kvs) g = ev kvs g + ev ps g
  | [], kvs, _ => by simp [ev]
  | p :: ps, kvs, h => by rw [List.foldl_cons, ev_fold g ps _ (nodup_addK p h), ev_addK p h, ev_cons]; lia
theorem tot_fold : ∀ (ps kvs : List Pr), (kvs.map (·.1)).Nodup → tot (ps.foldl addK kvs) ≤ tot kvs + tot ps
  | [], kvs, _ => by simp [tot]
  | p :: ps, kvs, h => by have h1 := tot_fold ps _ (nodup_addK p h); have h2 := tot_addK p h; rw [List.foldl_cons, tot_cons]; lia
theorem key_fold : ∀ (ps kvs : List Pr), (kvs.map (·.1)).Nodup → ∀ q ∈ ps.foldl addK kvs, q.1 ∈ ps.map (·.1) ∨ q.1 ∈ kvs.map (·.1)
  | [], kvs, _, q, hq => .inr (List.mem_map.mpr ⟨q, hq, rfl⟩)
  | p :: ps, kvs, h, q, hq => by
    rcases key_fold ps _ (nodup_addK p h) q hq with hk | hk
    · exact .inl (.tail _ hk)
    · obtain ⟨r, hr, he⟩ := List.mem_map.mp hk
      rcases key_addK p h r hr with e | e
      · exact .inl (he ▸ e ▸ .head _)
      · exact .inr (he ▸ e)
theorem sum_nodup (ps : List Pr) : ((sumK ps).map (·.1)).Nodup := fold_nodup ps [] .nil
theorem ev_filter (ps : List Pr) (g : Str → Int) : ev (ps.filter fun p => p.2 != 0) g = ev ps g := by
  induction ps with
  | nil => rfl
  | cons p ps ih =>
    rw [List.filter_cons, ev_cons]
    split
    · rw [ev_cons, ih]
    · rename_i h
      have : p.2 = 0 := by simpa using h
      rw [ih, this]; lia
theorem ev_plain (ps : List Pr) (g : Str → Int) : ev (plainR ps) g = ev ps g := by
  unfold plainR
  rw [ev_perm (sortP_perm _) g, ev_filter]
  unfold sumK
  rw [ev_fold g ps [] .nil]
  simp [ev]
theorem tot_filter (ps : List Pr) (f : Pr → Bool) : tot (ps.filter f) ≤ tot ps := by
  induction ps with
  | nil => exact Nat.le_refl _
  | cons p ps ih =>
    rw [List.filter_cons, tot_cons]
    split
    · rw [tot_cons]; lia
    · lia
theorem tot_plain (ps : List Pr) : tot (plainR ps) ≤ tot ps := by
  unfold plainR
  rw [tot_perm (sortP_perm _)]
  have h1 := tot_filter (sumK ps) fun p => p.2 != 0
  have h2 := tot_fold ps [] .nil
  unfold sumK at *
  simp [tot] at h2 h1 ⊢
  lia
theorem len_nz {ps : List Pr} (h : ∀ p ∈ ps, p.2 ≠ 0) : ps.length ≤ tot ps := by
  induction ps with
  | nil => exact Nat.le_refl _
  | cons p ps ih =>
    have := ih fun q hq => h q (.tail _ hq)
    have h0 := h p (.head _)
    rw [List.length_cons, tot_cons]; lia
theorem filt_nz (ps : List Pr) : ∀ p ∈ ps.filter (fun p => p.2 != 0), p.2 ≠ 0 := fun p hp => by simpa using (List.mem_filter.mp hp).2
theorem plain_nz (ps : List Pr) : ∀ p ∈ plainR ps, p.2 ≠ 0 := fun p hp => filt_nz _ p ((sortP_perm _).mem_iff.mp hp)
theorem filt_len' (ps : List Pr) : ((sumK ps).filter fun p => p.2 != 0).length ≤ ps.length := by
  refine Nat.le_trans (List.length_filter_le _ _) ?_
  have := fold_len ps []
  unfold sumK
  simpa using this
theorem plain_key (ps : List Pr) : ∀ p ∈ plainR ps, p.1 ∈ ps.map (·.1) := fun p hp => by
  have h1 := (List.mem_filter.mp ((sortP_perm _).mem_iff.mp hp)).1
  rcases key_fold ps [] .nil p h1 with h | h
  · exact h
  · cases h
theorem plain_sorted (ps : List Pr) : (plainR ps).Pairwise plt := sortP_sorted ((sum_nodup ps).sublist (List.Sublist.map _ List.filter_sublist))
theorem mem_tot {ps : List Pr} {p : Pr} (h : p ∈ ps) : p.2.natAbs ≤ tot ps := by
  induction ps with
  | nil => cases h
  | cons q ps ih =>
    rw [tot_cons]
    rcases List.mem_cons.mp h with rfl | h
    · lia
    · have := ih h; lia

/-! a sum is known by what it gives -/
structure Canon (ps : List Pr) : Prop where
  srt : ps.Pairwise plt
  nz : ∀ p ∈ ps, p.2 ≠ 0
theorem plain_canon (ps : List Pr) : Canon (plainR ps) := ⟨plain_sorted ps, plain_nz ps⟩
noncomputable def ind (x y : Str) : Int := if y = x then 1 else 0
theorem ev_out {ps : List Pr} {x : Str} (h : ∀ p ∈ ps, p.1 ≠ x) : ev ps (ind x) = 0 := by
  induction ps with
  | nil => rfl
  | cons p ps ih =>
    rw [ev_cons, ih fun q hq => h q (.tail _ hq)]
    unfold ind
    rw [if_neg (h p (.head _))]; lia
theorem Canon.tail {p : Pr} {ps : List Pr} (h : Canon (p :: ps)) : Canon ps := ⟨(List.pairwise_cons.mp h.srt).2, fun q hq => h.nz q (.tail _ hq)⟩
theorem Canon.head {p : Pr} {ps : List Pr} (h : Canon (p :: ps)) : ∀ q ∈ ps, q.1 ≠ p.1 := fun q hq e => by
  have := (List.pairwise_cons.mp h.srt).1 q hq
  unfold plt at this
  rw [e] at this
  exact List.lt_irrefl _ this
theorem Canon.ev_head {p : Pr} {ps : List Pr} (h : Canon (p :: ps)) : ev (p :: ps) (ind p.1) = p.2 := by
  rw [ev_cons, ev_out h.head]
  unfold ind
  rw [if_pos rfl]; lia
theorem canon_eq : ∀ {a b : List Pr}, Canon a → Canon b → (∀ g, ev a g = ev b g) → a = b
  | [], [], _, _, _ => rfl
  | [], q :: b, _, hb, h => by
    have := h (ind q.1)
    rw [hb.ev_head] at this
    exact absurd this.symm (hb.nz q (.head _))
  | p :: a, [], ha, _, h => by
    have := h (ind p.1)
    rw [ha.ev_head] at this
    exact absurd this (ha.nz p (.head _))
  | p :: a, q :: b, ha, hb, h => by
    have key : ∀ {p q : Pr} {a b : List Pr}, Canon (p :: a) → Canon (q :: b) → (∀ g, ev (p :: a) g = ev (q :: b) g) → p.1 = q.1 ∨ plt q p := by
      intro p q a b ha hb h
      by_cases e : p.1 = q.1
      · exact .inl e
      · right
        have h1 := h (ind p.1)
        rw [ha.ev_head, ev_cons] at h1
        rw [show ind p.1 q.1 = 0 from if_neg fun z => e z.symm] at h1
        have : ∃ r ∈ b, r.1 = p.1 := Classical.byContradiction fun z => by
          rw [ev_out fun r hr hre => z ⟨r, hr, hre⟩] at h1
          exact ha.nz p (.head _) (by lia)
        obtain ⟨r, hr, hre⟩ := this
        have := (List.pairwise_cons.mp hb.srt).1 r hr
        unfold plt at *
        rw [← hre]; exact this
    have e : p.1 = q.1 := by
      rcases key ha hb h with e | e
      · exact e
      · rcases key hb ha (fun g => (h g).symm) with e' | e'
        · exact e'.symm
        · exact absurd e (List.lt_asymm e')
    have e2 : p.2 = q.2 := by
      have := h (ind p.1)
      rw [ha.ev_head] at this
      rw [e, hb.ev_head] at this
      exact this
    have e3 : p = q := Prod.ext e e2
    subst e3
    rw [canon_eq ha.tail hb.tail fun g => by have := h g; rw [ev_cons, ev_cons] at this; lia]
noncomputable def mulP (c : Int) (ps : List Pr) : List Pr := ps.map fun p => (p.1, c * p.2)
theorem ev_mulP (c : Int) (ps : List Pr) (g : Str → Int) : ev (mulP c ps) g = c * ev ps g := by
  induction ps with
  | nil => simp [mulP, ev]
  | cons p ps ih =>
    show ev ((p.1, c * p.2) :: mulP c ps) g = _
    rw [ev_cons, ih, ev_cons, Int.mul_add, Int.mul_assoc]
theorem canon_mulP {c : Int} (hc : c ≠ 0) {ps : List Pr} (h : Canon ps) : Canon (mulP c ps) := by
  refine ⟨?_, fun p hp => ?_⟩
  · unfold mulP
    rw [List.pairwise_map]
    exact h.srt
  · obtain ⟨q, hq, rfl⟩ := List.mem_map.mp hp
    exact Int.mul_ne_zero hc (h.nz q hq)
end Mine

end
noncomputable section
open PySem PySem.W PyProof.Rows
set_option maxRecDepth 100000
set_option autoImplicit false
namespace Mine
/-! texts in units: what stands ahead of a sign, and the sign -/
noncomputable def mk (l : List Nat) : Str := ⟨l.toArray⟩
theorem mk_list (l : List Nat) : (mk l).cps.toList = l := by simp [mk]
theorem mk_len (l : List Nat) : (mk l).length = l.length := by simp [mk, Str.length]
theorem mk_app (a b : List Nat) : mk a ++ mk b = mk (a ++ b) := by
  show (⟨(a.toArray ++ b.toArray)⟩ : Str) = ⟨(a ++ b).toArray⟩
  simp
theorem mk_eta (y : Str) : mk y.cps.toList = y := by simp [mk]
theorem mk_inj {a b : List Nat} (h : mk a = mk b) : a = b := by rw [← mk_list a, h, mk_list]
noncomputable def chL (l : List Nat) : List Str := l.map fun c => ⟨#[c]⟩
theorem chS_mk (l : List Nat) : chS (mk l) = chL l := by unfold chS chL; rw [mk_list]
theorem one_eq (c d : Nat) : ((⟨#[c]⟩ : Str) == ⟨#[d]⟩) = (c == d) := by
  by_cases h : c = d
  · subst h; simp
  · have : (⟨#[c]⟩ : Str) ≠ ⟨#[d]⟩ := fun e => h (by have := mk_inj (a := [c]) (b := [d]) e; simpa using this)
    rw [beq_false_of_ne this, beq_false_of_ne h]
noncomputable def SgC (c : Nat) : Prop := c = 40 ∨ c = 41 ∨ c = 42 ∨ c = 43 ∨ c = 45 ∨ SignC c
theorem SgC.ne {c : Nat} (h : SgC c) : c ≠ 34 ∧ c ≠ 92 ∧ c ≠ 97 ∧ c ≠ 39 ∧ c ≠ 32 := by
  rcases h with rfl | rfl | rfl | rfl | rfl | rfl | rfl | rfl | rfl | rfl <;> decide
noncomputable abbrev Un := Nat × Nat
noncomputable def pcs : List (List Nat) := [[], [92, 40], [34, 41, 34], [92, 92], [34, 92, 34, 41, 34], [97, 92, 34], [34, 34]]
noncomputable def pcN (k : Nat) : List Nat := pcs.getD k []
noncomputable def skN (k : Nat) : Nat := [0, 1, 0, 3, 0, 5, 0].getD k 0
noncomputable def uc (u : Un) : List Nat := pcN u.1 ++ [u.2]
noncomputable def ucs (us : List Un) : List Nat := us.flatMap uc
noncomputable def sk (u : Un) : Un := (skN u.1, u.2)
noncomputable def UnOk (u : Un) : Prop := u.1 < 7 ∧ SgC u.2
theorem UnOk.sk {u : Un} (h : UnOk u) : UnOk (sk u) := by
  obtain ⟨k, c⟩ := u
  obtain ⟨h1, h2⟩ := h
  refine ⟨?_, h2⟩
  show skN k < 7
  have : k = 0 ∨ k = 1 ∨ k = 2 ∨ k = 3 ∨ k = 4 ∨ k = 5 ∨ k = 6 := by dsimp only at h1; lia
  rcases this with rfl | rfl | rfl | rfl | rfl | rfl | rfl <;> decide
noncomputable def ptk (k : Nat) : List (Nat × Str) := ([[], [(1, "\\(")], [(0, "\""), (1, ")"), (2, "\"")], [(1, "\\\\")], [(0, "\""), (2, "\\\""), (3, ")"), (4, "\"")], [(0, "a"), (2, "\\\"")], [(0, "\""), (1, "\"")]] : List (List (Nat × Str))).getD k []
noncomputable def utk (u : Un) (o : Nat) : List (Int × Str) := ((ptk u.1).map fun q => (((o + q.1 : Nat) : Int), q.2)) ++ [(((o + (pcN u.1).length : Nat) : Int), ⟨#[u.2]⟩)]
noncomputable def utks : List Un → Nat → List (Int × Str)
  | [], _ => []
  | u :: us, o => utk u o ++ utks us (o + (uc u).length)
theorem esc_one {c o : Nat} {r : List Nat} {p : Int} (h : c ≠ 92) : escO ((chL (c :: r)).zipIdx o) p false = ((o : Int), ⟨#[c]⟩) :: escO ((chL r).zipIdx (o + 1)) (o : Nat) false := by
  show escO (((⟨#[c]⟩ : Str), o) :: (chL r).zipIdx (o + 1)) p false = _
  rw [escO, if_neg (by rw [show ("\\" : Str) = ⟨#[92]⟩ from rfl, one_eq]; simpa using h)]
theorem esc_two {c o : Nat} {r : List Nat} {p : Int} : escO ((chL (92 :: c :: r)).zipIdx o) p false = (((o + 1 : Nat) : Int), ⟨#[92, c]⟩) :: escO ((chL r).zipIdx (o + 1 + 1)) ((o + 1 : Nat) : Int) false := by
  show escO (((⟨#[92]⟩ : Str), o) :: ((⟨#[c]⟩ : Str), o + 1) :: (chL r).zipIdx (o + 1 + 1)) p false = _
  rw [escO, if_pos (by rw [show ("\\" : Str) = ⟨#[92]⟩ from rfl, one_eq]; rfl), escO]
  rfl
theorem esc_unit {u : Un} (hu : UnOk u) {o : Nat} {r : List Nat} {p : Int} : escO ((chL (uc u ++ r)).zipIdx o) p false = utk u o ++ escO ((chL r).zipIdx (o + (uc u).length)) ((o + (pcN u.1).length : Nat) : Int) false := by
  obtain ⟨k, c⟩ := u
  obtain ⟨h1, h2⟩ := hu
  have hc := h2.ne.2.1
  dsimp only at h1 hc
  have : k = 0 ∨ k = 1 ∨ k = 2 ∨ k = 3 ∨ k = 4 ∨ k = 5 ∨ k = 6 := by lia
  rcases this with rfl | rfl | rfl | rfl | rfl | rfl | rfl
  · show escO ((chL (c :: r)).zipIdx o) p false = _
    rw [esc_one hc]; rfl
  · show escO ((chL (92 :: 40 :: c :: r)).zipIdx o) p false = _
    rw [esc_two, esc_one hc]; rfl
  · show escO ((chL (34 :: 41 :: 34 :: c :: r)).zipIdx o) p false = _
    rw [esc_one (by decide), esc_one (by decide), esc_one (by decide), esc_one hc]; rfl
  · show escO ((chL (92 :: 92 :: c :: r)).zipIdx o) p false = _
    rw [esc_two, esc_one hc]; rfl
  · show escO ((chL (34 :: 92 :: 34 :: 41 :: 34 :: c :: r)).zipIdx o) p false = _
    rw [esc_one (by decide), esc_two, esc_one (by decide), esc_one (by decide), esc_one hc]; rfl
  · show escO ((chL (97 :: 92 :: 34 :: c :: r)).zipIdx o) p false = _
    rw [esc_one (by decide), esc_two, esc_one hc]; rfl
  · show escO ((chL (34 :: 34 :: c :: r)).zipIdx o) p false = _
    rw [esc_one (by decide), esc_one (by decide), esc_one hc]; rfl
theorem ucs_cons (u : Un) (us : List Un) : ucs (u :: us) = uc u ++ ucs us := rfl
theorem esc_units : ∀ (us : List Un) (o : Nat) (r : List Nat) (p : Int), (∀ u ∈ us, UnOk u) → ∃ p', escO ((chL (ucs us ++ r)).zipIdx o) p false = utks us o ++ escO ((chL r).zipIdx (o + (ucs us).length)) p' false
  | [], o, r, p, _ => ⟨p, rfl⟩
  | u :: us, o, r, p, h => by
    obtain ⟨p', e⟩ := esc_units us (o + (uc u).length) r ((o + (pcN u.1).length : Nat) : Int) fun v hv => h v (.tail _ hv)
    refine ⟨p', ?_⟩
    rw [ucs_cons, List.append_assoc, esc_unit (h u (.head _)), e]
    show _ = utk u o ++ utks us (o + (uc u).length) ++ _
    rw [List.append_assoc, List.length_append, Nat.add_assoc]
theorem esc_all (us : List Un) (h : ∀ u ∈ us, UnOk u) : escO ((chS (mk (ucs us))).zipIdx) 0 false = utks us 0 := by
  obtain ⟨p', e⟩ := esc_units us 0 [] 0 h
  rw [List.append_nil] at e
  rw [chS_mk, e]
  show utks us 0 ++ [] = _
  rw [List.append_nil]
theorem esc_all' (us : List Un) (h : ∀ u ∈ us, UnOk u) : escO ((chS (mk (ucs us ++ [92]))).zipIdx) 0 false = utks us 0 ++ [((((ucs us).length : Nat) : Int), ("\\" : Str))] := by
  obtain ⟨p', e⟩ := esc_units us 0 [92] 0 h
  rw [chS_mk, e, Nat.zero_add]
  rfl

/-! the signs that open and close -/
noncomputable def balGo : List Nat → Int → Bool
  | [], o => o == 0
  | c :: r, o => if c = 40 then balGo r (o + 1) else if c = 41 then (if o - 1 < 0 then false else balGo r (o - 1)) else balGo r o
noncomputable def stripped (k : Nat) : Prop := k = 0 ∨ k = 1 ∨ k = 3 ∨ k = 5
theorem paren_skip {s : Str} {p : Int} {r : List (Int × Str)} {o : Int} (h1 : (s == ("(" : Str)) = false) (h2 : (s == (")" : Str)) = false) : parenGo ((p, s) :: r) o = parenGo r o := by
  rw [parenGo, if_neg (by rw [h1]; simp), if_neg (by rw [h2]; simp)]
theorem paren_unit {u : Un} (hu : UnOk u) (hs : stripped u.1) {o : Nat} {r : List (Int × Str)} {q : Int} : parenGo (utk u o ++ r) q = parenGo ((((o + (pcN u.1).length : Nat) : Int), ⟨#[u.2]⟩) :: r) q := by
  obtain ⟨k, c⟩ := u
  dsimp only [stripped] at hs
  rcases hs with rfl | rfl | rfl | rfl
  · rfl
  · exact paren_skip (by decide) (by decide)
  · exact paren_skip (by decide) (by decide)
  · exact (paren_skip (by decide) (by decide)).trans (paren_skip (by decide) (by decide))
theorem paren_units : ∀ (us : List Un) (o : Nat) (q : Int), (∀ u ∈ us, UnOk u ∧ stripped u.1) → parenGo (utks us o) q = balGo (us.map (·.2)) q
  | [], o, q, _ => rfl
  | u :: us, o, q, h => by
    show parenGo (utk u o ++ utks us (o + (uc u).length)) q = balGo (u.2 :: us.map (·.2)) q
    rw [paren_unit (h u (.head _)).1 (h u (.head _)).2]
    have ih := fun q => paren_units us (o + (uc u).length) q fun v hv => h v (.tail _ hv)
    rw [parenGo, balGo, show ("(" : Str) = ⟨#[40]⟩ from rfl, show (")" : Str) = ⟨#[41]⟩ from rfl, one_eq, one_eq]
    rw [ih, ih, ih]
    by_cases h1 : u.2 = 40
    · simp [h1]
    · by_cases h2 : u.2 = 41
      · simp [h2]
      · simp [h1, h2]

/-! quoted parts go -/
noncomputable def J (res : List Str) : List Nat := res.flatMap fun y => y.cps.toList
theorem J_app (a b : List Str) : J (a ++ b) = J a ++ J b := by simp [J]
theorem strIdx1 {l u : Option Int} {n a b : Nat} (h : sliceBounds l u none n = ((a : Int), (b : Int), 1)) : Builtin.Str.strSliceIndices l u 1 n = sliceRange a b 1 := by
  have : Builtin.Str.strSliceIndices l u 1 n = sliceRange (sliceBounds l u none n).1 (sliceBounds l u none n).2.1 1 := by cases l <;> cases u <;> rfl
  rw [this, h]
theorem slice_gen {y : Str} {l u : Option Int} {a b : Nat} (h : sliceBounds l u none y.length = ((a : Int), (b : Int), 1)) (hb : b ≤ y.length) : (Txt.slice y l u).cps.toList = (y.cps.toList.take b).drop a := by
  have hn : y.length = y.cps.toList.length := by simp [Str.length]
  have hp := pick_gen (ds := y.cps.toList) (lo := l) (hi := u) (st := none) (a := a) (b := b) (by rw [← hn]; exact h) (by lia)
  unfold pickL at hp
  rw [← hn, h] at hp
  dsimp only at hp
  have hf : (sliceRange (a : Int) (b : Int) 1).filterMap (y.cps[·]?) = (y.cps.toList.take b).drop a := by
    rw [← hp]
    congr 1
    funext i
    simp
  unfold Txt.slice
  rw [strIdx1 h]
  split
  · rename_i hl
    rw [← hf, sliceRange1]
    have : (List.map (a + ·) (List.range (b - a))).length = y.length := by
      rw [← sliceRange1]
      simpa using hl
    rw [List.length_map, List.length_range] at this
    have hz : (a = 0 ∧ b = y.length) ∨ y.length = 0 := by lia
    rcases hz with ⟨rfl, rfl⟩ | hz
    · rw [← sliceRange1, hf, hn, List.take_length, List.drop_zero]
    · have e : y.cps.toList = [] := List.eq_nil_of_length_eq_zero (by lia)
      rw [← sliceRange1, hf, e]; simp
  · simpa using hf
theorem slice_mid {y : Str} {a b : Nat} (ha : a ≤ y.length) (hb : b ≤ y.length) : (Txt.slice y (some (a : Int)) (some (b : Int))).cps.toList = (y.cps.toList.take b).drop a := slice_gen (bd_lohi ha hb) hb
theorem slice_to {y : Str} {b : Nat} (hb : b ≤ y.length) : (Txt.slice y none (some (b : Int))).cps.toList = y.cps.toList.take b := by
  rw [slice_gen (bd_hi hb) hb, List.drop_zero]
theorem slice_from {y : Str} {a : Nat} (ha : a ≤ y.length) : (Txt.slice y (some (a : Int)) none).cps.toList = y.cps.toList.drop a := by
  rw [slice_gen (bd_lo ha) (Nat.le_refl _)]
  rw [show y.length = y.cps.toList.length from by simp [Str.length], List.take_length]
theorem strip_skip {y s : Str} {p : Int} {r : List (Int × Str)} {st : Int} {op : Option Int} {res : List Str} (h : (s == ("\"" : Str)) = false) : stripGo y ((p, s) :: r) st op res = stripGo y r st op res := by
  cases op <;> rw [stripGo, if_neg (by rw [h]; simp)] <;> simp
theorem strip_open {y : Str} {p : Int} {r : List (Int × Str)} {st : Int} {res : List Str} : stripGo y ((p, "\"") :: r) st none res = stripGo y r st (some p) res := by
  rw [stripGo, if_pos (by decide)]
theorem strip_close {y : Str} {p o : Int} {r : List (Int × Str)} {st : Int} {res : List Str} : stripGo y ((p, "\"") :: r) st (some o) res = stripGo y r (p + 1) none (if (st != o) = true then res ++ [Txt.slice y (some st) (some o)] else res) := by
  rw [stripGo, if_pos (by decide)]
theorem cut_J {A B : List Nat} {st : Nat} {res : List Str} (h : st ≤ A.length) : J (if ((st : Int) != ((A.length : Nat) : Int)) = true then res ++ [Txt.slice (mk (A ++ B)) (some (st : Int)) (some ((A.length : Nat) : Int))] else res) = J res ++ A.drop st := by
  split
  · rw [J_app]
    congr 1
    show (Txt.slice (mk (A ++ B)) (some (st : Int)) (some ((A.length : Nat) : Int))).cps.toList ++ [] = _
    rw [List.append_nil, slice_mid (by rw [mk_len, List.length_append]; lia) (by rw [mk_len, List.length_append]; lia), mk_list]
    simp
  · rename_i hn
    have : (st : Int) = A.length := by simpa using hn
    have : st = A.length := by lia
    rw [this]; simp
theorem strip_unit {u : Un} (hu : UnOk u) {A B : List Nat} {r : List (Int × Str)} {st : Nat} {res : List Str} (h : st ≤ A.length) : ∃ st' res', st' ≤ (A ++ uc u).length ∧ stripGo (mk (A ++ B)) (utk u A.length ++ r) st none res = stripGo (mk (A ++ B)) r (st' : Nat) none res' ∧ J res' ++ (A ++ uc u).drop st' = J res ++ A.drop st ++ uc (sk u) := by
  obtain ⟨k, c⟩ := u
  obtain ⟨h1, h2⟩ := hu
  have hc : ((⟨#[c]⟩ : Str) == ("\"" : Str)) = false := by
    rw [show ("\"" : Str) = ⟨#[34]⟩ from rfl, one_eq]
    simpa using h2.ne.1
  dsimp only at h1
  have hk : k = 0 ∨ k = 1 ∨ k = 2 ∨ k = 3 ∨ k = 4 ∨ k = 5 ∨ k = 6 := by lia
  have plain : ∀ k, sk (k, c) = (k, c) → J res ++ (A ++ uc (k, c)).drop st = J res ++ A.drop st ++ uc (sk (k, c)) := fun k e => by
    rw [e, List.drop_append_of_le_length h, List.append_assoc]
  have hle : ∀ l : List Nat, st ≤ (A ++ l).length := fun l => by rw [List.length_append]; lia
  have after : ∀ l : List Nat, (A ++ (l ++ [c])).drop (A.length + l.length) = [c] := fun l => by
    rw [← List.append_assoc, ← List.length_append, List.drop_left]
  rcases hk with rfl | rfl | rfl | rfl | rfl | rfl | rfl
  · exact ⟨st, res, hle _, strip_skip hc, plain 0 rfl⟩
  · exact ⟨st, res, hle _, (strip_skip (by decide)).trans (strip_skip hc), plain 1 rfl⟩
  · refine ⟨A.length + 3, _, by simp [uc, pcN, pcs], strip_open.trans ((strip_skip (by decide)).trans (strip_close.trans (strip_skip hc))), ?_⟩
    show J (if ((st : Int) != ((A.length : Nat) : Int)) = true then res ++ [Txt.slice (mk (A ++ B)) (some (st : Int)) (some ((A.length : Nat) : Int))] else res) ++ _ = _
    rw [cut_J h]
    exact congrArg _ (after [34, 41, 34])
  · exact ⟨st, res, hle _, (strip_skip (by decide)).trans (strip_skip hc), plain 3 rfl⟩
  · refine ⟨A.length + 5, _, by simp [uc, pcN, pcs], strip_open.trans ((strip_skip (by decide)).trans ((strip_skip (by decide)).trans (strip_close.trans (strip_skip hc)))), ?_⟩
    show J (if ((st : Int) != ((A.length : Nat) : Int)) = true then res ++ [Txt.slice (mk (A ++ B)) (some (st : Int)) (some ((A.length : Nat) : Int))] else res) ++ _ = _
    rw [cut_J h]
    exact congrArg _ (after [34, 92, 34, 41, 34])
  · exact ⟨st, res, hle _, (strip_skip (by decide)).trans ((strip_skip (by decide)).trans (strip_skip hc)), plain 5 rfl⟩
  · refine ⟨A.length + 2, _, by simp [uc, pcN, pcs], strip_open.trans (strip_close.trans (strip_skip hc)), ?_⟩
    show J (if ((st : Int) != ((A.length : Nat) : Int)) = true then res ++ [Txt.slice (mk (A ++ B)) (some (st : Int)) (some ((A.length : Nat) : Int))] else res) ++ _ = _
    rw [cut_J h]
    exact congrArg _ (after [34, 34])
theorem strip_units : ∀ (us : List Un) (A : List Nat) (st : Nat) (res : List Str), (∀ u ∈ us, UnOk u) → st ≤ A.length →
    ∃ st' res', st' ≤ (A ++ ucs us).length ∧ stripGo (mk (A ++ ucs us)) (utks us A.length) st none res = (((st' : Nat) : Int), res') ∧ J res' ++ (A ++ ucs us).drop st' = J res ++ A.drop st ++ ucs (us.map sk)
  | [], A, st, res, _, h => ⟨st, res, by rw [List.length_append]; lia, rfl, by simp [ucs]⟩
  | u :: us, A, st, res, hu, h => by
    obtain ⟨st1, res1, h1, e1, j1⟩ := strip_unit (hu u (.head _)) (B := ucs (u :: us)) (r := utks us (A.length + (uc u).length)) (res := res) h
    obtain ⟨st2, res2, h2, e2, j2⟩ := strip_units us (A ++ uc u) st1 res1 (fun v hv => hu v (.tail _ hv)) h1
    have eA : A ++ uc u ++ ucs us = A ++ ucs (u :: us) := by rw [ucs_cons, List.append_assoc]
    rw [eA] at h2 e2 j2
    refine ⟨st2, res2, h2, ?_, ?_⟩
    · show stripGo _ (utk u A.length ++ utks us (A.length + (uc u).length)) _ _ _ = _
      rw [e1, ← List.length_append, e2]
    · rw [j2, j1, List.map_cons, ucs_cons, List.append_assoc]
theorem join_J (ys : List Str) : (Txt.join "" ys).cps.toList = J ys := by
  show (Builtin.Str.glued "" ys).cps.toList = _
  rw [StrLaws.glued_eq_join]
  have : ∀ (a b : Str), (a ++ b).cps.toList = a.cps.toList ++ b.cps.toList := fun a b => Array.toList_append
  induction ys with
  | nil => rfl
  | cons y ys ih =>
    cases ys with
    | nil => simp [Str.join, J]
    | cons z ys =>
      rw [Str.join.eq_3 _ _ _ (by simp), this, this, ih]
      simp [J]
      rfl
theorem ucs_sk {us : List Un} (h : ∀ u ∈ us, UnOk u) (hq : 34 ∉ ucs us) : ucs (us.map sk) = ucs us := by
  induction us with
  | nil => rfl
  | cons u us ih =>
    rw [ucs_cons, List.mem_append] at hq
    rw [List.map_cons, ucs_cons, ucs_cons, ih (fun v hv => h v (.tail _ hv)) fun z => hq (.inr z)]
    congr 1
    have hu := (h u (.head _)).1
    obtain ⟨k, c⟩ := u
    have hk : k = 0 ∨ k = 1 ∨ k = 2 ∨ k = 3 ∨ k = 4 ∨ k = 5 ∨ k = 6 := by dsimp only at hu; lia
    rcases hk with rfl | rfl | rfl | rfl | rfl | rfl | rfl
    · rfl
    · rfl
    · exact absurd (.inl (by simp [uc, pcN, pcs])) hq
    · rfl
    · exact absurd (.inl (by simp [uc, pcN, pcs])) hq
    · exact absurd (.inl (by simp [uc, pcN, pcs])) hq
    · exact absurd (.inl (by simp [uc, pcN, pcs])) hq
theorem strip_all {us : List Un} (h : ∀ u ∈ us, UnOk u) : stripR (mk (ucs us)) = mk (ucs (us.map sk)) := by
  unfold stripR
  split
  · rw [esc_all us h]
    obtain ⟨st, res, h1, e, j⟩ := strip_units us [] 0 [] h (Nat.le_refl _)
    rw [List.nil_append] at h1 e j
    have e' : stripGo (mk (ucs us)) (utks us 0) 0 none [] = (((st : Nat) : Int), res) := e
    rw [e']
    dsimp only
    rw [← mk_eta (Txt.join "" _), join_J]
    congr 1
    have j' : J res ++ (ucs us).drop st = ucs (us.map sk) := j
    split
    · rw [J_app, ← j']
      congr 1
      show (Txt.slice (mk (ucs us)) (some (st : Int)) none).cps.toList ++ [] = _
      rw [List.append_nil, slice_from (by rw [mk_len]; exact h1), mk_list]
    · rename_i hn
      rw [mk_len] at hn
      have : st = (ucs us).length := by lia
      rw [← j', this]; simp
  · rename_i hn
    have hq : hasQ (mk (ucs us)) = decide (34 ∈ ucs us) := by
      unfold hasQ
      rw [show ("\"" : Str) = ⟨#[34]⟩ from rfl, StrLaws.found_one, mk_list]
    rw [hq] at hn
    rw [ucs_sk h (by simpa using hn)]
theorem sk_stripped {u : Un} (h : UnOk u) : stripped (sk u).1 := by
  have hu := h.1
  obtain ⟨k, c⟩ := u
  show stripped (skN k)
  have hk : k = 0 ∨ k = 1 ∨ k = 2 ∨ k = 3 ∨ k = 4 ∨ k = 5 ∨ k = 6 := by dsimp only at hu; lia
  unfold stripped
  rcases hk with rfl | rfl | rfl | rfl | rfl | rfl | rfl <;> decide
theorem paren_all {us : List Un} (h : ∀ u ∈ us, UnOk u) : parenR (mk (ucs us)) = balGo (us.map (·.2)) 0 := by
  unfold parenR
  have h' : ∀ v ∈ us.map sk, UnOk v ∧ stripped v.1 := fun v hv => by
    obtain ⟨u, hu, rfl⟩ := List.mem_map.mp hv
    exact ⟨(h u hu).sk, sk_stripped (h u hu)⟩
  rw [strip_all h, esc_all _ fun v hv => (h' v hv).1, paren_units _ _ _ h', List.map_map]
  rfl
end Mine

end
noncomputable section
open PySem PySem.W PyProof.Rows
set_option maxRecDepth 100000
set_option autoImplicit false
namespace Mine
/-! expressions -/
inductive Ex where
  | leaf (c : Nat)
  | node (m : Nat) (l r : Ex)
namespace Ex
noncomputable def sg : Ex → List Nat
  | leaf c => [c]
  | node m l r => 40 :: (l.sg ++ m :: (r.sg ++ [41]))
noncomputable def nn : Ex → Nat
  | leaf _ => 0
  | node _ l r => l.nn + r.nn + 1
noncomputable def ht : Ex → Nat
  | leaf _ => 0
  | node _ l r => max l.ht r.ht + 1
noncomputable def ok : Ex → Prop
  | leaf c => SignC c
  | node m l r => (m = 43 ∨ m = 45 ∨ m = 42) ∧ l.ok ∧ r.ok
end Ex
noncomputable def trnI (m : Nat) : Int := if m = 43 then 1 else if m = 45 then -1 else 0
noncomputable def opI (m : Nat) : Int := if m = 43 then 14 else if m = 45 then 15 else 16
noncomputable def prod1 (a b : List Pr) : List Pr := a.flatMap fun p => b.map fun q => (p.1 ++ q.1, p.2 * q.2)
noncomputable def prod2 (t : Int) (a b : List Pr) : List Pr := a.flatMap fun p => b.map fun q => (q.1 ++ p.1, t * p.2 * q.2)
noncomputable def prodT (t : Int) (a b : List Pr) : List Pr := prod1 a b ++ prod2 t a b
noncomputable def Ex.val : Ex → List Pr
  | .leaf c => [(mk [c], 1)]
  | .node m l r => plainR (prodT (trnI m) l.val r.val)
theorem Ex.len : ∀ T : Ex, T.sg.length = 4 * T.nn + 1
  | leaf c => rfl
  | node m l r => by simp [sg, nn, l.len, r.len]; lia
theorem SignC.ne2 {c : Nat} (h : SignC c) : c ≠ 40 ∧ c ≠ 41 := by unfold SignC at h; lia
theorem bal_skip {c : Nat} {r : List Nat} {o : Int} (h : c ≠ 40 ∧ c ≠ 41) : balGo (c :: r) o = balGo r o := by rw [balGo, if_neg h.1, if_neg h.2]
theorem bal_open {r : List Nat} {o : Int} : balGo (40 :: r) o = balGo r (o + 1) := by rw [balGo, if_pos rfl]
theorem bal_close {r : List Nat} {o : Int} (h : 0 < o) : balGo (41 :: r) o = balGo r (o - 1) := by rw [balGo, if_neg (by decide), if_pos rfl, if_neg (by lia)]
theorem bal_low {r : List Nat} : balGo (41 :: r) 0 = false := by rw [balGo, if_neg (by decide), if_pos rfl, if_pos (by decide)]
theorem op_ne {m : Nat} (h : m = 43 ∨ m = 45 ∨ m = 42) : m ≠ 40 ∧ m ≠ 41 := by lia
theorem Ex.bal : ∀ (T : Ex) (r : List Nat) (o : Int), T.ok → 0 ≤ o → balGo (T.sg ++ r) o = balGo r o
  | leaf c, r, o, h, _ => bal_skip (SignC.ne2 h)
  | node m l r', r, o, h, ho => by
    show balGo (40 :: ((l.sg ++ m :: (r'.sg ++ [41])) ++ r)) o = _
    rw [bal_open, List.append_assoc, l.bal _ _ h.2.1 (by lia), List.cons_append, bal_skip (op_ne h.1), List.append_assoc, r'.bal _ _ h.2.2 (by lia), List.singleton_append, bal_close (by lia)]
    congr 1; lia
theorem Ex.pre : ∀ (T : Ex) (n : Nat) (o : Int), T.ok → 1 ≤ o → balGo (T.sg.take n) o = false
  | leaf c, n, o, h, ho => by
    cases n with
    | zero => show (o == 0) = false; simp; lia
    | succ n => show balGo (c :: [].take n) o = false; rw [bal_skip (SignC.ne2 h), List.take_nil]; show (o == 0) = false; simp; lia
  | node m l r, n, o, h, ho => by
    cases n with
    | zero => show (o == 0) = false; simp; lia
    | succ n =>
    show balGo (40 :: (l.sg ++ m :: (r.sg ++ [41])).take n) o = false
    rw [bal_open, List.take_append]
    by_cases h1 : n ≤ l.sg.length
    · rw [Nat.sub_eq_zero_of_le h1, List.take_zero, List.append_nil]
      exact l.pre n _ h.2.1 (by lia)
    · rw [List.take_of_length_le (by lia), l.bal _ _ h.2.1 (by lia)]
      obtain ⟨k, hk⟩ : ∃ k, n - l.sg.length = k + 1 := ⟨n - l.sg.length - 1, by lia⟩
      rw [hk, List.take_succ_cons, bal_skip (op_ne h.1), List.take_append]
      by_cases h2 : k ≤ r.sg.length
      · rw [Nat.sub_eq_zero_of_le h2, List.take_zero, List.append_nil]
        exact r.pre k _ h.2.2 (by lia)
      · rw [List.take_of_length_le (by lia), r.bal _ _ h.2.2 (by lia)]
        obtain ⟨j, hj⟩ : ∃ j, k - r.sg.length = j + 1 := ⟨k - r.sg.length - 1, by lia⟩
        rw [hj, List.take_succ_cons, List.take_nil, bal_close (by lia)]
        show (o + 1 - 1 == 0) = false
        simp; lia
theorem Ex.pre' {m : Nat} {l r : Ex} (h : (Ex.node m l r).ok) {n : Nat} (h1 : 1 ≤ n) (hn : n < (Ex.node m l r).sg.length) : balGo ((Ex.node m l r).sg.take n) 0 = false := by
  obtain ⟨n, rfl⟩ : ∃ k, n = k + 1 := ⟨n - 1, by lia⟩
  show balGo (40 :: (l.sg ++ m :: (r.sg ++ [41])).take n) 0 = false
  have hl : (Ex.node m l r).sg.length = l.sg.length + r.sg.length + 3 := by simp [Ex.sg]; lia
  rw [bal_open, List.take_append]
  by_cases h1 : n ≤ l.sg.length
  · rw [Nat.sub_eq_zero_of_le h1, List.take_zero, List.append_nil]
    exact l.pre n _ h.2.1 (by lia)
  · rw [List.take_of_length_le (by lia), l.bal _ _ h.2.1 (by lia)]
    obtain ⟨k, hk⟩ : ∃ k, n - l.sg.length = k + 1 := ⟨n - l.sg.length - 1, by lia⟩
    rw [hk, List.take_succ_cons, bal_skip (op_ne h.1), List.take_append, Nat.sub_eq_zero_of_le (by lia), List.take_zero, List.append_nil]
    exact r.pre k _ h.2.2 (by lia)
theorem Ex.whole {T : Ex} (h : T.ok) : balGo T.sg 0 = true := by
  have := T.bal [] 0 h (by lia)
  rw [List.append_nil] at this
  rw [this]; rfl
theorem Ex.front {m : Nat} {l r : Ex} (h : (Ex.node m l r).ok) : balGo ((Ex.node m l r).sg.drop 1) 0 = false := by
  show balGo (l.sg ++ m :: (r.sg ++ [41])) 0 = false
  rw [l.bal _ _ h.2.1 (by lia), bal_skip (op_ne h.1), r.bal _ _ h.2.2 (by lia), bal_low]
/-! sizes -/
theorem tot_map_mul (c : Int) (b : List Pr) (f : Pr → Str) : tot (b.map fun q => (f q, c * q.2)) = c.natAbs * tot b := by
  induction b with
  | nil => simp [tot]
  | cons q b ih => rw [List.map_cons, tot_cons, ih, tot_cons, Nat.mul_add, Int.natAbs_mul]
theorem tot_prod1 (a b : List Pr) : tot (prod1 a b) = tot a * tot b := by
  induction a with
  | nil => simp [prod1, tot]
  | cons p a ih =>
    show tot ((b.map fun q => (p.1 ++ q.1, p.2 * q.2)) ++ prod1 a b) = _
    rw [tot_append, ih, tot_map_mul, tot_cons, Nat.add_mul]
theorem tot_prod2 {t : Int} (ht : t.natAbs ≤ 1) (a b : List Pr) : tot (prod2 t a b) ≤ tot a * tot b := by
  induction a with
  | nil => simp [prod2, tot]
  | cons p a ih =>
    show tot ((b.map fun q => (q.1 ++ p.1, t * p.2 * q.2)) ++ prod2 t a b) ≤ _
    rw [tot_append, tot_map_mul, tot_cons, Nat.add_mul, Int.natAbs_mul]
    have : t.natAbs * p.2.natAbs * tot b ≤ 1 * p.2.natAbs * tot b := Nat.mul_le_mul_right _ (Nat.mul_le_mul_right _ ht)
    rw [Nat.one_mul] at this
    lia
theorem trn_abs (m : Nat) : (trnI m).natAbs ≤ 1 := by unfold trnI; split <;> (try split) <;> decide
theorem Ex.tot : ∀ T : Ex, Mine.tot T.val ≤ 2 ^ T.nn
  | leaf c => Nat.le_refl 1
  | node m l r => by
    have h1 := l.tot
    have h2 := r.tot
    show Mine.tot (plainR (prodT (trnI m) l.val r.val)) ≤ 2 ^ (l.nn + r.nn + 1)
    refine Nat.le_trans (tot_plain _) ?_
    unfold prodT
    rw [tot_append, tot_prod1]
    have h3 := tot_prod2 (trn_abs m) l.val r.val
    have h4 : Mine.tot l.val * Mine.tot r.val ≤ 2 ^ l.nn * 2 ^ r.nn := Nat.mul_le_mul h1 h2
    rw [Nat.pow_succ, Nat.pow_add]
    lia
theorem prod_mem {t : Int} {a b : List Pr} {p : Pr} (h : p ∈ prodT t a b) : ∃ x ∈ a, ∃ y ∈ b, p.1 = x.1 ++ y.1 ∨ p.1 = y.1 ++ x.1 := by
  unfold prodT prod1 prod2 at h
  rcases List.mem_append.mp h with h | h
  · obtain ⟨x, hx, h⟩ := List.mem_flatMap.mp h
    obtain ⟨y, hy, rfl⟩ := List.mem_map.mp h
    exact ⟨x, hx, y, hy, .inl rfl⟩
  · obtain ⟨x, hx, h⟩ := List.mem_flatMap.mp h
    obtain ⟨y, hy, rfl⟩ := List.mem_map.mp h
    exact ⟨x, hx, y, hy, .inr rfl⟩
theorem Ex.words : ∀ (T : Ex) (p : Pr), p ∈ T.val → p.1.length = T.nn + 1
  | leaf c, p, h => by rw [List.mem_singleton.mp h]; rfl
  | node m l r, p, h => by
    obtain ⟨q, hq, he⟩ := List.mem_map.mp (plain_key _ p h)
    obtain ⟨x, hx, y, hy, e⟩ := prod_mem hq
    have h1 := l.words x hx
    have h2 := r.words y hy
    show p.1.length = l.nn + r.nn + 1 + 1
    rw [← he]
    rcases e with e | e <;> rw [e, app_len] <;> lia
theorem Ex.vlen (T : Ex) : T.val.length ≤ 2 ^ T.nn := by
  cases T with
  | leaf c => exact Nat.le_refl 1
  | node m l r =>
    refine Nat.le_trans (len_nz (plain_nz _)) ?_
    exact (Ex.node m l r).tot
theorem prodT_len (t : Int) (a b : List Pr) : (prodT t a b).length = 2 * (a.length * b.length) := by
  have h1 : ∀ (f : Pr → Pr → Pr), (a.flatMap fun p => b.map (f p)).length = a.length * b.length := by
    intro f
    induction a with
    | nil => simp
    | cons p a ih => rw [List.flatMap_cons, List.length_append, ih, List.length_map, List.length_cons, Nat.add_mul]; lia
  unfold prodT prod1 prod2
  rw [List.length_append, h1, h1]; lia
theorem bits_le {z : Int} (h : z.natAbs ≤ 8) : Builtin.Int.intBits z ≤ 64 := by
  unfold Builtin.Int.intBits
  split
  · decide
  · exact Nat.le_trans (Nat.succ_le_succ (Nat.le_trans (Nat.log2_le_self _) h)) (by decide)
/-! the places where the first half may end -/
noncomputable def endsN (sg : List Nat) : List Nat := ((List.range (sg.length - 1 - 3)).map (3 + ·)).filter fun e => sg.getD (e - 1) 0 == 41
theorem Ex.last : ∀ {T : Ex}, T.nn ≠ 0 → T.sg.getD (T.sg.length - 1) 0 = 41
  | leaf c, h => absurd rfl h
  | node m l r, _ => by
    have e : (node m l r).sg = (40 :: (l.sg ++ m :: r.sg)) ++ [41] := by simp [sg]
    rw [e, List.length_append, List.length_singleton, Nat.add_sub_cancel]
    simp
theorem ends_split {m : Nat} {l r : Ex} (h : (Ex.node m l r).ok) : ∃ pre post, 2 :: endsN (Ex.node m l r).sg = pre ++ (1 + l.sg.length) :: post ∧ ∀ k ∈ pre, 2 ≤ k ∧ balGo (((Ex.node m l r).sg.take k).drop 1) 0 = false ∧ k < (Ex.node m l r).sg.length := by
  have hL : (Ex.node m l r).sg.length = l.sg.length + r.sg.length + 3 := by simp [Ex.sg]; lia
  have hrl := r.len
  cases hc : l with
  | leaf c => exact ⟨[], _, rfl, fun k hk => nomatch hk⟩
  | node m' l' r' =>
    rw [← hc]
    have hln : l.nn ≠ 0 := by rw [hc]; simp [Ex.nn]
    have hll := l.len
    have hn : (Ex.node m l r).sg.length - 1 - 3 = (l.sg.length - 2) + (1 + (r.sg.length)) := by lia
    have hlok : (Ex.node m' l' r').ok := hc ▸ h.2.1
    have htk : ∀ k, 2 ≤ k → k < 1 + l.sg.length → balGo (((Ex.node m l r).sg.take k).drop 1) 0 = false := fun k h1 h2 => by
      obtain ⟨k, rfl⟩ : ∃ j, k = j + 1 := ⟨k - 1, by lia⟩
      show balGo ((l.sg ++ m :: (r.sg ++ [41])).take k) 0 = false
      rw [List.take_append_of_le_length (by lia)]
      rw [hc] at h2 ⊢
      exact Ex.pre' hlok (by lia) (by lia)
    refine ⟨2 :: ((List.range (l.sg.length - 2)).map (3 + ·)).filter (fun e => (Ex.node m l r).sg.getD (e - 1) 0 == 41), (((List.range (r.sg.length)).map Nat.succ).map ((3 + ·) ∘ (l.sg.length - 2 + ·))).filter (fun e => (Ex.node m l r).sg.getD (e - 1) 0 == 41), ?_, fun k hk => ?_⟩
    · unfold endsN
      rw [hn, List.range_add, List.map_append, List.filter_append, List.map_map, Nat.add_comm 1 (r.sg.length), List.range_succ_eq_map, List.map_cons, List.filter_cons]
      have e1 : ((3 + ·) ∘ (l.sg.length - 2 + ·)) 0 = 1 + l.sg.length := by show 3 + (l.sg.length - 2 + 0) = _; lia
      rw [e1]
      have e2 : ((Ex.node m l r).sg.getD (1 + l.sg.length - 1) 0 == 41) = true := by
        have : (Ex.node m l r).sg.getD (1 + l.sg.length - 1) 0 = l.sg.getD (l.sg.length - 1) 0 := by
          rw [show 1 + l.sg.length - 1 = (l.sg.length - 1) + 1 from by lia]
          show (l.sg ++ m :: (r.sg ++ [41])).getD (l.sg.length - 1) 0 = _
          simp [List.getElem?_append_left (show l.sg.length - 1 < l.sg.length by lia)]
        rw [this, Ex.last hln]; rfl
      rw [if_pos e2]
      rfl
    · rcases List.mem_cons.mp hk with rfl | hk
      · exact ⟨by lia, htk 2 (by lia) (by lia), by lia⟩
      · obtain ⟨i, hi, rfl⟩ := List.mem_map.mp (List.mem_filter.mp hk).1
        have := List.mem_range.mp hi
        exact ⟨by lia, htk _ (by lia) (by lia), by lia⟩
end Mine

end
noncomputable section
open PySem PySem.W PyProof.Rows
set_option maxRecDepth 100000
set_option autoImplicit false
namespace Mine
noncomputable def tx (u : Un) : Str := mk (uc u)
noncomputable def encU (us : List Un) : List PyData := encS (us.map tx)
noncomputable def encL (l : List Nat) : List PyData := encS (chL l)
noncomputable def okM : PyData := .tuple [.bool true, .bool true]
noncomputable def Ex.marks (T : Ex) : List PyData := List.replicate (3 * T.nn) okM
theorem encU_take (us : List Un) (k : Nat) : (encU us).take k = encU (us.take k) := by simp [encU, encS, List.map_take]
theorem encU_drop (us : List Un) (k : Nat) : (encU us).drop k = encU (us.drop k) := by simp [encU, encS, List.map_drop]
theorem encL_take (us : List Nat) (k : Nat) : (encL us).take k = encL (us.take k) := by simp [encL, encS, chL, List.map_take]
theorem encL_drop (us : List Nat) (k : Nat) : (encL us).drop k = encL (us.drop k) := by simp [encL, encS, chL, List.map_drop]
theorem encU_len (us : List Un) : (encU us).length = us.length := by simp [encU, encS]
theorem encL_len (us : List Nat) : (encL us).length = us.length := by simp [encL, encS, chL]
theorem encL_get {l : List Nat} {k : Nat} (h : k < l.length) : (encL l)[k]? = some (.str ⟨#[l.getD k 0]⟩) := by simp [encL, encS, chL, h]
theorem join_tx (us : List Un) : Txt.join "" (us.map tx) = mk (ucs us) := by
  rw [← mk_eta (Txt.join "" _), join_J]
  congr 1
  induction us with
  | nil => rfl
  | cons u us ih =>
    show (mk (uc u)).cps.toList ++ J (us.map tx) = uc u ++ ucs us
    rw [ih, mk_list]
theorem pcN_len (k : Nat) : (pcN k).length ≤ 5 := by
  unfold pcN pcs
  match k with
  | 0 => decide
  | 1 => decide
  | 2 => decide
  | 3 => decide
  | 4 => decide
  | 5 => decide
  | 6 => decide
  | n + 7 => exact Nat.zero_le _
theorem uc_len (u : Un) : (uc u).length ≤ 6 := by
  have := pcN_len u.1
  unfold uc; rw [List.length_append, List.length_singleton]; lia
theorem ucs_len : ∀ us : List Un, (ucs us).length ≤ 6 * us.length
  | [] => Nat.le_refl _
  | u :: us => by
    have := ucs_len us
    have := uc_len u
    rw [ucs_cons, List.length_append, List.length_cons]; lia
theorem tx_sum (us : List Un) : ((us.map tx).map (·.length)).sum ≤ us.length * 6 := by
  have := sum_len_le 6 (us.map tx) fun x hx => by
    obtain ⟨u, _, rfl⟩ := List.mem_map.mp hx
    unfold tx; rw [mk_len]; exact uc_len u
  simpa using this
theorem tx_joinOk {us : List Un} (h : us.length ≤ 100) : JoinOk "" (us.map tx) = true := by
  refine joinOk_of ?_
  have := tx_sum us
  rw [show ("" : Str).length = 0 from rfl, Nat.mul_zero]
  lia
theorem TurnEq.two {elt tgt it tgt2 it2 : Expr} {ifs ifs2 : List Expr} {scope : Scope} {pos : Pos} {env : Env} : TurnEq (.ListComp elt [⟨tgt, it, ifs, 0⟩, ⟨tgt2, it2, ifs2, 0⟩] scope pos) 0 it.pos tgt ifs (fun D => do
      let x ← eval it2 env
      standAt it2.pos
      let x ← foldedSetIterable it2 env x
      let _ ← runOwn (.compStart (.ListComp elt [⟨tgt, it, ifs, 0⟩, ⟨tgt2, it2, ifs2, 0⟩] scope pos) 1 (← holding [x] (pyIter x)) (.ref D) env) env) env := by
  intro i D
  unfold compTurn
  simp only [bind_assoc]
  rfl
/-- what every walk of the checks leans on -/
structure Ck (prog : Program) (w : World) (H : Heap) (fc : Addr) : Prop where
  rc : ∀ us : List Un, (∀ u ∈ us, UnOk u) → us.length ≤ 100 → RC prog w H (.ref fc) 8 [.str (mk (ucs us))] (.bool (balGo (us.map (·.2)) 0))
theorem rep_add (a b : Nat) : List.replicate a okM ++ List.replicate b okM = List.replicate (a + b) okM := by rw [List.replicate_append_replicate]
noncomputable def prG (b : List Pr) : PyData → List PyData
  | .tuple [.str x, .int c] => encP (b.map fun q => (x ++ q.1, c * q.2))
  | _ => []
noncomputable def prG2 (t : Int) (b : List Pr) : PyData → List PyData
  | .tuple [.str x, .int c] => encP (b.map fun q => (q.1 ++ x, t * c * q.2))
  | _ => []
noncomputable def prH (x : Str) (c : Int) : PyData → List PyData
  | .tuple [.str y, .int d] => [.tuple [.str (x ++ y), .int (c * d)]]
  | _ => []
noncomputable def prH2 (t : Int) (x : Str) (c : Int) : PyData → List PyData
  | .tuple [.str y, .int d] => [.tuple [.str (y ++ x), .int (t * c * d)]]
  | _ => []
theorem encP_append (a b : List Pr) : encP (a ++ b) = encP a ++ encP b := by simp [encP]
theorem prG_all (b : List Pr) : ∀ a : List Pr, (encP a).flatMap (prG b) = encP (prod1 a b)
  | [] => rfl
  | p :: a => by
    show encP (b.map fun q => (p.1 ++ q.1, p.2 * q.2)) ++ (encP a).flatMap (prG b) = encP ((b.map fun q => (p.1 ++ q.1, p.2 * q.2)) ++ prod1 a b)
    rw [prG_all b a, encP_append]
theorem prG2_all (t : Int) (b : List Pr) : ∀ a : List Pr, (encP a).flatMap (prG2 t b) = encP (prod2 t a b)
  | [] => rfl
  | p :: a => by
    show encP (b.map fun q => (q.1 ++ p.1, t * p.2 * q.2)) ++ (encP a).flatMap (prG2 t b) = encP ((b.map fun q => (q.1 ++ p.1, t * p.2 * q.2)) ++ prod2 t a b)
    rw [prG2_all t b a, encP_append]
theorem prH_all (x : Str) (c : Int) : ∀ b : List Pr, (encP b).flatMap (prH x c) = encP (b.map fun q => (x ++ q.1, c * q.2))
  | [] => rfl
  | p :: b => by rw [show encP (p :: b) = .tuple [.str p.1, .int p.2] :: encP b from rfl, List.flatMap_cons, prH_all x c b]; rfl
theorem prH2_all (t : Int) (x : Str) (c : Int) : ∀ b : List Pr, (encP b).flatMap (prH2 t x c) = encP (b.map fun q => (q.1 ++ x, t * c * q.2))
  | [] => rfl
  | p :: b => by rw [show encP (p :: b) = .tuple [.str p.1, .int p.2] :: encP b from rfl, List.flatMap_cons, prH2_all t x c b]; rfl
noncomputable def endG (sg : List Nat) : PyData → List PyData
  | .int e => if (sg.getD (e.toNat - 1) 0 == 41) = true then [.int e] else []
  | _ => []
theorem endG_all (sg : List Nat) : ∀ l : List Nat, (l.map fun i : Nat => PyData.int (3 + (i : Int))).flatMap (endG sg) = encI (((l.map (3 + ·)).filter fun e => sg.getD (e - 1) 0 == 41).map fun n : Nat => (n : Int))
  | [] => rfl
  | i :: l => by
    rw [List.map_cons, List.flatMap_cons, endG_all sg l, List.map_cons, List.filter_cons]
    have : (3 + (i : Int)).toNat = 3 + i := by lia
    show (if (sg.getD ((3 + (i : Int)).toNat - 1) 0 == 41) = true then [PyData.int (3 + (i : Int))] else []) ++ _ = _
    rw [this]
    split
    · rfl
    · rfl
section
variable {prog : Program} {w : World} {H : Heap}
theorem Tri.join {C : Cx} {σ σ₁ : List Ent} {pl : Sem Bool} {k : Nat} {p1 ap pos : Pos} {sep : Str} {ys : List Str} {e : Expr} (he : Tri prog w H C σ e (.list (encS ys)) σ₁) (hok : JoinOk sep ys = true)
    (hev : eval (.Call (.Attribute (.Constant (.str sep) k p1) "join" ap) [e] [] pos) C.env = (do
      let ov ← eval (.Constant (.str sep) k p1) C.env
      standAt ap.atName
      let (f, first) ← holding [ov] (getMethod ov "join" pl)
      callWith pos f first (backTo pos (starEach [e] C.env)) []) := by rfl)
    (hs : starEach [e] C.env = (false, eval e C.env) :: starEach [] C.env := by rfl) : Tri prog w H C σ (.Call (.Attribute (.Constant (.str sep) k p1) "join" ap) [e] [] pos) (.str (Txt.join sep ys)) σ₁ := by
  refine Tri.methS (σ₁ := σ) (ds := [.list (encS ys)]) (x := sep) (id := "str.join") ?_ ?_ ?_ ?_ ?_ hev hs ?_
  · exact Tri.str
  · exact PySem.F.slot_str_join
  · exact PySem.F.type_str_join
  · exact TriL.cons he .nil hs
  · exact rc_join hok
  · rfl
noncomputable def vaσ (us : List Un) (sg : List Nat) (as : List PyData) (s1 s2 s3 s4 s5 : Slot) : List Ent := [Lo "texts" (.val (.list (encU us))), Ce "signs" (.val (.list (encL sg))), Lo "asked" (.io as), Lo "part" s1, Lo "k" s2, Lo "left" s3, Ce "right" s4, Ce "turn" s5]
end
end Mine

end
noncomputable section
open PySem PySem.W PyProof.Rows
set_option maxRecDepth 100000
set_option autoImplicit false
namespace Mine
section
variable {prog : Program} {w : World} {H : Heap}
theorem op_get {kvs : List (Str × Int)} (hx : ExOk kvs) {m : Nat} (h : m = 43 ∨ m = 45 ∨ m = 42) : getK kvs ⟨#[m]⟩ = some (opI m) := by
  rcases h with rfl | rfl | rfl
  · exact hx.plus
  · exact hx.minus
  · exact hx.star
theorem op_turn {m : Nat} (h : m = 43 ∨ m = 45 ∨ m = 42) : ([(14, 1), (15, -1), (16, 0)] : List (Int × Int)).lookup (opI m) = some (trnI m) := by
  rcases h with rfl | rfl | rfl <;> rfl
inductive TdRI1 (us : List Un) (sg : List Nat) (as : List PyData) (σ : List Ent) : Prop
  | mk (s1 : _) (h0 : σ = vaσ us sg (as ++ List.replicate 3 okM) s1 .un .un .un .un)
inductive TdRI2 (us : List Un) (sg : List Nat) (as : List PyData) (ds : List PyData) (σ : List Ent) : Prop
  | mk (q : List (List Un)) (j : Nat) (s1 : Slot) (h0 : ds = q.map (fun v => PyData.list (encU v))) (h1 : σ = vaσ us sg (as ++ List.replicate j okM) s1 .un .un .un .un) (h2 : j + q.length = 3) (h3 : ∀ v ∈ q, (∀ u ∈ v, UnOk u) ∧ v.length ≤ 100 ∧ balGo (v.map (·.2)) 0 = false)
inductive TdRI3 (us : List Un) (sg : List Nat) (as : List PyData) (l : Ex) (post : List Nat) (s1 : Slot) (ds : List PyData) (σ : List Ent) : Prop
  | mk (pre : List Nat) (s2 : Slot) (h0 : ds = encI ((pre ++ (1 + l.sg.length) :: post).map fun n : Nat => (n : Int))) (h1 : σ = vaσ us sg (as ++ List.replicate 3 okM) s1 s2 .un .un .un) (h2 : ∀ k ∈ pre, 2 ≤ k ∧ balGo ((sg.take k).drop 1) 0 = false ∧ k < sg.length)
set_option maxHeartbeats 8000000 in
theorem rm_value {f fc fp : Addr} {kvs : List (Str × Int)} (hf : FnK H f 71) (gF : Glo H "_law_value" (.ref f)) (hc : FnK H fc 4) (gC : Glo H "_check_parenthesis" (.ref fc)) (K : Ck prog w H fc) (hp : FnK H fp 66) (gP : Glo H "_law_plain" (.ref fp)) (gS : Glo H "sorted" (.builtin "sorted"))
    (gL : Glo H "len" (.builtin "len")) (gR : Glo H "range" (.type "range")) (TS : TabS prog w H "EXACT_TOKEN_TYPES" kvs) (hx : ExOk kvs) :
    ∀ (T : Ex) (us : List Un) (as : List PyData), T.ok → T.nn ≤ 3 → (∀ u ∈ us, UnOk u) → us.map (·.2) = T.sg → as.length + 3 * T.nn ≤ 1000 → RM prog w H (.ref f) (9 + T.ht) [.list (encU us), .list (encL T.sg)] [] (.io as) (.io (as ++ T.marks)) (.list (encP T.val)) := by
  have hsz : ∀ n : Nat, n ≤ 100000 → n ≤ sizeLine := fun n h => Nat.le_trans h (by decide)
  intro T
  induction T with
  | leaf c =>
    intro us as hok hn hu hus has
    show RM prog w H (.ref f) (8 + 1) _ _ _ _ _
    refine RM.fk (pre := [("texts", .list (encU us)), ("signs", .list (encL [c]))]) (post := []) (x := "asked") (vs := ["part", "k", "left", "right", "turn"]) (gl := ["len", "_check_parenthesis", "range", "_law_value", "EXACT_TOKEN_TYPES", "_law_plain"]) hf rfl (by kernel_rfl) (by decide +kernel) (by kernel_rfl) (fun vals hl pm cd doc => by obtain ⟨a, b, c, rfl⟩ := three_of hl; rfl) rfl fun C hC => ?_
    refine TriB.cons (Q := fun f σ => f = .rt (.list (encP (Ex.leaf c).val)) ∧ ∃ l, (⟨"asked", l, .io (as ++ (Ex.leaf c).marks)⟩ : Ent) ∈ σ) (TriS.ite (TriT.cmp (Tri.callB (hC.mem (by simp)) gL (TriL.cons (Tri.name (.there .here)) .nil) (rc_len_l (by show (1 : Int) < 2 ^ 63; decide)) (Nat.zero_le _)) Tri.int eq_ii) (fun _ => ?_) fun hb => nomatch hb) (fun σ' h => nomatch h.1) fun f σ' _ h => h
    refine TriB.last (TriS.ret (d := .list (encP (Ex.leaf c).val)) (σ₁ := vaσ us [c] as .un .un .un .un .un) (Tri.list (TriL.cons (Tri.tuple (TriL.cons (Tri.item (Tri.name (.there .here)) Tri.int (item_li (by decide) (by decide) rfl)) (TriL.cons Tri.int .nil)) (by show 2 ≤ sizeLine; decide)) .nil) (by show 1 ≤ sizeLine; decide)) ⟨rfl, true, ?_⟩)
    rw [show as ++ (Ex.leaf c).marks = as from List.append_nil as]
    exact .tail _ (.tail _ (.head _))
  | node m l r ihl ihr =>
    intro us as hok hn hu hus has
    have hlr : l.nn + r.nn + 1 ≤ 3 := hn
    show RM prog w H (.ref f) (9 + max l.ht r.ht + 1) _ _ _ _ _
    generalize hsg : (Ex.node m l r).sg = sg at hus
    have hll := l.len
    have hrl := r.len
    have hsl : sg.length = l.sg.length + r.sg.length + 3 := by rw [← hsg]; simp [Ex.sg]; lia
    have hul : us.length = sg.length := by rw [← hus, List.length_map]
    have hs20 : sg.length ≤ 20 := by lia
    refine RM.fk (pre := [("texts", .list (encU us)), ("signs", .list (encL sg))]) (post := []) (x := "asked") (vs := ["part", "k", "left", "right", "turn"]) (gl := ["len", "_check_parenthesis", "range", "_law_value", "EXACT_TOKEN_TYPES", "_law_plain"]) hf rfl (by kernel_rfl) (by decide +kernel) (by kernel_rfl) (fun vals hl pm cd doc => by obtain ⟨a, b, c, rfl⟩ := three_of hl; rfl) rfl fun C hC => ?_
    have n8 : 8 ≤ 9 + max l.ht r.ht := by lia
    have chk : ∀ {us' : List Un} {b : Bool}, (∀ u ∈ us', UnOk u) → us'.length ≤ 100 → balGo (us'.map (·.2)) 0 = b → RC prog w H (.ref fc) 8 [.str (Txt.join "" (us'.map tx))] (.bool b) := fun h1 h2 h3 => by
      rw [join_tx, ← h3]; exact K.rc _ h1 h2
    have hrep : ∀ j, j ≤ 100 → (as ++ List.replicate j okM).length ≤ 2000 := fun j hj => by rw [List.length_append, List.length_replicate]; lia
    have encj : ∀ j, as ++ List.replicate j okM ++ [okM] = as ++ List.replicate (j + 1) okM := fun j => by rw [List.append_assoc, List.replicate_succ']
    refine TriB.cons (Q := fun f σ => f = .nx ∧ σ = vaσ us sg as .un .un .un .un .un) (TriS.ite (TriT.cmp (Tri.callB (hC.mem (by simp)) gL (TriL.cons (Tri.name (.there .here)) .nil) (rc_len_l (by rw [encL_len]; lia)) (Nat.zero_le _)) Tri.int eq_ii) (fun hb => ?_) fun hb => .nil ⟨rfl, rfl⟩) (fun σ' h => ?_) fun f σ' hn h => (hn h.1).elim
    · rw [encL_len] at hb
      have : (sg.length : Int) = 1 := by simpa using hb
      exact absurd this (by lia)
    obtain ⟨_, rfl⟩ := h
    have h1 : balGo (us.map (·.2)) 0 = true := by rw [hus, ← hsg]; exact Ex.whole hok
    refine TriB.next (σ₁ := vaσ us sg (as ++ List.replicate 1 okM) .un .un .un .un .un) (TriN.append (hi := hC.int) (d := okM) (Tri.tuple (TriL.cons (Tri.cmp (Tri.callF (hC.mem (by simp)) gC hc.is (TriL.cons (d := .str (Txt.join "" (us.map tx))) ?_ .nil) (chk hu (by lia) h1) (hC.le n8)) Tri.bool is_bb) (TriL.cons Tri.bool .nil)) (by show 2 ≤ sizeLine; decide)) (.tail _ (.tail _ (.head _))) (.io _) (.there (.there .here)) (hsz _ (by lia)) ⟨_, .tail _ (.tail _ (.head _)), _, .io _⟩) ?_
    · refine Tri.join ?_ ?_
      · exact Tri.name .here
      · exact tx_joinOk (by lia)
    -- the two parts
    have hu1 : ∀ u ∈ us.drop 1, UnOk u := fun u h => hu u (List.mem_of_mem_drop h)
    have hb1 : balGo ((us.drop 1).map (·.2)) 0 = false := by rw [List.map_drop, hus, ← hsg]; exact Ex.front hok
    have hu2 : ∀ u ∈ us.drop (us.length - 1) ++ us.take 1, UnOk u := fun u h => by
      rcases List.mem_append.mp h with h | h
      · exact hu u (List.mem_of_mem_drop h)
      · exact hu u (List.mem_of_mem_take h)
    have hb2 : balGo ((us.drop (us.length - 1) ++ us.take 1).map (·.2)) 0 = false := by
      rw [List.map_append, List.map_drop, List.map_take, hus, hul]
      have e : sg = (40 :: (l.sg ++ m :: r.sg)) ++ [41] := by rw [← hsg]; simp [Ex.sg]
      have : sg.drop (sg.length - 1) = [41] := by
        rw [e, List.length_append, List.length_singleton, Nat.add_sub_cancel, List.drop_left]
      rw [this]
      exact bal_low
    refine TriB.cons (Q := fun f σ => f = .nx ∧ TdRI1 us sg as σ) (TriS.for_ (ds := ([us.drop 1, us.drop (us.length - 1) ++ us.take 1].map fun v => PyData.list (encU v))) (σ₁ := vaσ us sg (as ++ List.replicate 1 okM) .un .un .un .un .un) (ItE.list (Tri.list (TriL.cons (σ₁ := vaσ us sg (as ++ List.replicate 1 okM) .un .un .un .un .un) (d := .list (encU (us.drop 1))) ?_ (TriL.cons (d := .list (encU (us.drop (us.length - 1) ++ us.take 1))) ?_ .nil)) (by show 2 ≤ sizeLine; decide))) (.inl ⟨_, _, rfl⟩)
      (TdRI2 us sg as) ⟨_, 1, .un, rfl, rfl, rfl, fun v hv => ?_⟩ (fun d ds σ hI => ?_) fun σ hI => ?_) (fun σ' h => ?_) fun f σ' hn h => (hn h.1).elim
    · rw [← encU_drop, ← pick_drop (by rw [encU_len]; lia)]
      exact Tri.sliceL (Tri.name .here) ⟨_, rfl, Tri.int⟩ ⟨rfl, rfl⟩ ⟨rfl, rfl⟩ (by decide) (hsz _ (by rw [encU_len]; lia)) ⟨_, fun _ _ => rfl⟩
    · have : encU (us.drop (us.length - 1) ++ us.take 1) = pickL (some (-1)) none none (encU us) ++ pickL none (some ((1 : Nat) : Int)) none (encU us) := by
        rw [pick_last (by rw [encU_len]; lia), pick_take (by rw [encU_len]; lia), encU_len, encU_drop, encU_take]
        simp [encU, encS]
      rw [this]
      refine Tri.bin (Tri.sliceL (Tri.name .here) ⟨_, rfl, Tri.una Tri.int neg_i⟩ ⟨rfl, rfl⟩ ⟨rfl, rfl⟩ (by decide) (hsz _ (by rw [encU_len]; lia)) ⟨_, fun _ _ => rfl⟩) (Tri.sliceL (Tri.name .here) ⟨rfl, rfl⟩ ⟨_, rfl, Tri.int⟩ ⟨rfl, rfl⟩ (by decide) (hsz _ (by rw [encU_len]; lia)) ⟨_, fun _ _ => rfl⟩) (add_ll (hsz _ ?_))
      have e := congrArg List.length this
      rw [List.length_append, encU_len, List.length_append, List.length_drop, List.length_take] at e
      have e' : (pickL (some (-1)) none none (encU us)).length + (pickL none (some 1) none (encU us)).length ≤ 100000 := by
        rw [show (some (1 : Int)) = some ((1 : Nat) : Int) from rfl]; lia
      exact e'
    · rcases List.mem_cons.mp hv with rfl | hv
      · exact ⟨hu1, by rw [List.length_drop]; lia, hb1⟩
      · rw [List.mem_singleton.mp hv]
        exact ⟨hu2, by rw [List.length_append, List.length_drop, List.length_take]; lia, hb2⟩
    · obtain ⟨q, j, s1, hd, rfl, hj, hq⟩ := hI
      cases q with
      | nil => cases hd
      | cons v q =>
      injection hd with hd1 hd2
      subst hd1 hd2
      have hv := hq v (.head _)
      rw [List.length_cons] at hj
      refine ⟨_, Asg.name (.there (.there (.there .here))) (.inl rfl), ?_⟩
      refine TriB.last (TriS.mono (TriN.append (hi := hC.int) (σ₁ := vaσ us sg (as ++ List.replicate j okM) (.val (.list (encU v))) .un .un .un .un) (d := okM) (Tri.tuple (TriL.cons (Tri.cmp (Tri.callF (hC.mem (by simp)) gC hc.is (TriL.cons (d := .str (Txt.join "" (v.map tx))) ?_ .nil) (chk hv.1 hv.2.1 hv.2.2) (hC.le n8)) Tri.bool is_bb) (TriL.cons Tri.bool .nil)) (by show 2 ≤ sizeLine; decide)) (.tail _ (.tail _ (.head _))) (.io _) (.there (.there .here)) (hsz _ (Nat.le_trans (hrep j (by lia)) (by lia))) ⟨_, .tail _ (.tail _ (.head _)), _, .io _⟩) fun f σ' h => ?_)
      · refine Tri.join ?_ ?_
        · exact Tri.name (.there (.there (.there .here)))
        · exact tx_joinOk hv.2.1
      obtain ⟨rfl, rfl⟩ := h
      refine ⟨q, j + 1, .val (.list (encU v)), rfl, ?_, by lia, fun z hz => hq z (.tail _ hz)⟩
      rw [← encj]; rfl
    · obtain ⟨q, j, s1, hd, rfl, hj, hq⟩ := hI
      cases q with
      | cons v q => cases hd
      | nil =>
        obtain rfl : j = 3 := hj
        exact .nil ⟨rfl, s1, rfl⟩
    obtain ⟨_, s1, rfl⟩ := h
    -- the places
    obtain ⟨pre, post, hsp, hpre⟩ := ends_split hok
    rw [hsg] at hsp hpre
    have hlt : endsN sg = ((List.range (sg.length - 1 - 3)).map (3 + ·)).filter fun e => sg.getD (e - 1) 0 == 41 := rfl
    have helen : (endsN sg).length ≤ 20 := by
      rw [hlt]
      refine Nat.le_trans (List.length_filter_le _ _) ?_
      rw [List.length_map, List.length_range]; lia
    refine TriB.cons (Q := fun f σ => f = .rt (.list (encP (Ex.node m l r).val)) ∧ ∃ l', (⟨"asked", l', .io (as ++ (Ex.node m l r).marks)⟩ : Ent) ∈ σ) (TriS.for_ (ds := encI ((2 :: endsN sg).map fun n : Nat => (n : Int))) (σ₁ := vaσ us sg (as ++ List.replicate 3 okM) s1 .un .un .un .un) (ItE.list ?_) (.inl ⟨_, _, rfl⟩)
      (TdRI3 us sg as l post s1) ⟨pre, .un, by rw [← hsp], rfl, hpre⟩ (fun d ds σ hI => ?_) fun σ hI => ?_) (fun σ' h => nomatch h.1) fun f σ' hn h => h
    · show Tri prog w H _ _ _ (.list (encI ([2] ++ (endsN sg).map fun n : Nat => (n : Int)))) _
      rw [encI_append]
      refine Tri.bin (Tri.list (TriL.cons Tri.int .nil) (by show 1 ≤ sizeLine; decide)) (db := .list (encI ((endsN sg).map fun n : Nat => (n : Int)))) ?_ (add_ll (hsz _ (by simp [encI]; lia)))
      have hall := endG_all sg (List.range (sg.length - 1 - 3))
      rw [← hlt] at hall
      rw [← hall]
      have hr : (List.range (sg.length - 1 - 3)).map (fun i : Nat => PyData.int (3 + (i : Int))) = rngL 3 ((((encL sg).length : Int) - 1 - 3).toNat) := by
        unfold rngL
        rw [encL_len]
        congr 2
        lia
      rw [hr]
      refine Tri.comp (ItE.range2 (hC.mem (by simp)) gR Tri.int (Tri.bin (Tri.callB (hC.mem (by simp)) gL (TriL.cons (Tri.name (.there .here)) .nil) (rc_len_l (by rw [encL_len]; lia)) (Nat.zero_le _)) Tri.int sub_ii) (by rw [encL_len]; lia) (by rw [encL_len]; lia) (by decide) (by decide)) ⟨_, _, rfl⟩ [("signs", .val (.list (encL sg)))] ["end"] [] (hC.kid fun _ _ _ _ _ _ => by kernel_rfl) (fun p hp => ?_) (endG sg) (fun L d hd => ?_) (fun L it D => rfl) ?_
      · simp at hp
        subst hp
        exact ⟨.tail _ (.head _), rfl⟩
      · rw [← hr] at hd
        obtain ⟨i, hi, rfl⟩ := List.mem_map.mp hd
        have hi := List.mem_range.mp hi
        have e1 : (3 + (i : Int)).toNat - 1 = (3 + (i : Int) - 1).toNat := by lia
        have e2 : ((⟨#[sg.getD (3 + (i : Int) - 1).toNat 0]⟩ : Str) == (")" : Str)) = (sg.getD ((3 + (i : Int)).toNat - 1) 0 == 41) := by
          rw [show (")" : Str) = ⟨#[41]⟩ from rfl, one_eq, e1]
        refine ⟨_, _, Asg.name (.there .here) (.inl rfl), .cons (.same _) (.cons (.un _ _ _) .nil), TriI.one (e2 ▸ TriT.cmp (Tri.item (Tri.name .here) (Tri.bin (Tri.name (.there .here)) Tri.int sub_ii) (item_li (by lia) (by lia) (encL_get (by lia)))) Tri.str eq_ss), fun hb => ?_, fun hb => ?_⟩
        · show EmitR _ _ _ _ _ _ (if (sg.getD ((3 + (i : Int)).toNat - 1) 0 == 41) = true then [PyData.int (3 + (i : Int))] else [])
          rw [if_pos hb]
          exact EmitR.elt (Tri.name (.there .here))
        · show (if (sg.getD ((3 + (i : Int)).toNat - 1) 0 == 41) = true then [PyData.int (3 + (i : Int))] else []) = []
          rw [if_neg (by rw [hb]; simp)]
      · rw [← hr, hall]
        simp [encI]
        exact hsz _ (by lia)
    · obtain ⟨pre, s2, hd, rfl, hpre⟩ := hI
      have eU : ∀ k : Nat, k ≤ us.length → encU ((us.take k).drop 1) = pickL (some 1) (some (k : Int)) none (encU us) := fun k hk => by
        have := pick_mid (ds := encU us) (a := 1) (b := k) (by rw [encU_len]; lia) (by rw [encU_len]; lia)
        rw [show (some (1 : Int)) = some (((1 : Nat)) : Int) from rfl, this, encU_take, encU_drop]
      have eL : ∀ k : Nat, k ≤ sg.length → encL ((sg.take k).drop 1) = pickL (some 1) (some (k : Int)) none (encL sg) := fun k hk => by
        have := pick_mid (ds := encL sg) (a := 1) (b := k) (by rw [encL_len]; lia) (by rw [encL_len]; lia)
        rw [show (some (1 : Int)) = some (((1 : Nat)) : Int) from rfl, this, encL_take, encL_drop]
      have hmid : ∀ k, ∀ u ∈ (us.take k).drop 1, UnOk u := fun k u h => hu u (List.mem_of_mem_take (List.mem_of_mem_drop h))
      have hmlen : ∀ k, ((us.take k).drop 1).length ≤ 100 := fun k => by rw [List.length_drop, List.length_take]; lia
      have hmmap : ∀ k, ((us.take k).drop 1).map (·.2) = (sg.take k).drop 1 := fun k => by rw [List.map_drop, List.map_take, hus]
      cases pre with
      | cons k0 pre =>
        rw [List.cons_append, List.map_cons] at hd
        injection hd with hd1 hd2
        subst hd1 hd2
        obtain ⟨h2, hbal, hlt0⟩ := hpre k0 (.head _)
        refine ⟨_, Asg.name (.t4 .here) (.inl rfl), ?_⟩
        refine TriB.last (TriS.ite (c := false) (σ₁ := vaσ us sg (as ++ List.replicate 3 okM) s1 (.val (.int (k0 : Nat))) .un .un .un) (TriT.val (Tri.callF (hC.mem (by simp)) gC hc.is (TriL.cons (d := .str (Txt.join "" (((us.take k0).drop 1).map tx))) ?_ .nil) (chk (hmid _) (hmlen _) (by rw [hmmap]; exact hbal)) (hC.le n8)) truthy_b) (fun hb => nomatch hb) fun _ => .nil ⟨pre, _, rfl, rfl, fun k hk => hpre k (.tail _ hk)⟩)
        refine Tri.join ?_ (tx_joinOk (hmlen _))
        show Tri prog w H _ _ _ (.list (encU ((us.take k0).drop 1))) _
        rw [eU _ (by lia)]
        exact Tri.sliceL (Tri.name .here) ⟨_, rfl, Tri.int⟩ ⟨_, rfl, Tri.name (.t4 .here)⟩ ⟨rfl, rfl⟩ (by decide) (hsz _ (by rw [encU_len]; lia)) ⟨_, fun _ _ => rfl⟩
      | nil =>
        rw [List.nil_append, List.map_cons] at hd
        injection hd with hd1 hd2
        subst hd1 hd2
        generalize hk : 1 + l.sg.length = k
        have htk : (sg.take k).drop 1 = l.sg := by
          rw [← hsg, ← hk, Nat.add_comm]
          show (l.sg ++ m :: (r.sg ++ [41])).take l.sg.length = l.sg
          rw [List.take_left]
        have hmk : sg.getD k 0 = m := by
          rw [← hsg, ← hk, Nat.add_comm]
          show (l.sg ++ m :: (r.sg ++ [41])).getD l.sg.length 0 = m
          simp
        have hrk : (sg.take (sg.length - 1)).drop (k + 1) = r.sg := by
          have e : sg = (40 :: (l.sg ++ m :: r.sg)) ++ [41] := by rw [← hsg]; simp [Ex.sg]
          have e2 : sg.take (sg.length - 1) = 40 :: (l.sg ++ m :: r.sg) := by
            conv => lhs; rw [e]
            rw [List.length_append, List.length_singleton, Nat.add_sub_cancel, List.take_left]
          rw [e2, ← hk]
          show (l.sg ++ m :: r.sg).drop (1 + l.sg.length) = _
          rw [show 1 + l.sg.length = l.sg.length + 1 from Nat.add_comm _ _, List.drop_append]
          simp
        have eUr : encU ((us.take (us.length - 1)).drop (k + 1)) = pickL (some (k + 1 : Int)) (some (-1)) none (encU us) := by
          have := pick_midm (ds := encU us) (a := k + 1) (by rw [encU_len]; lia) (by rw [encU_len]; lia)
          rw [show (some ((k : Int) + 1)) = some (((k + 1 : Nat)) : Int) from rfl, this, encU_take, encU_drop, encU_len]
        have eLr : encL r.sg = pickL (some (k + 1 : Int)) (some (-1)) none (encL sg) := by
          have := pick_midm (ds := encL sg) (a := k + 1) (by rw [encL_len]; lia) (by rw [encL_len]; lia)
          rw [show (some ((k : Int) + 1)) = some (((k + 1 : Nat)) : Int) from rfl, this, encL_take, encL_drop, encL_len, hrk]
        have hmr : ((us.take (us.length - 1)).drop (k + 1)).map (·.2) = r.sg := by rw [List.map_drop, List.map_take, hus, hul, hrk]
        have hur : ∀ u ∈ (us.take (us.length - 1)).drop (k + 1), UnOk u := fun u h => hu u (List.mem_of_mem_take (List.mem_of_mem_drop h))
        refine ⟨_, Asg.name (.t4 .here) (.inl rfl), ?_⟩
        refine TriB.last (TriS.ite (c := true) (σ₁ := vaσ us sg (as ++ List.replicate 3 okM) s1 (.val (.int (k : Nat))) .un .un .un) (TriT.val (Tri.callF (hC.mem (by simp)) gC hc.is (TriL.cons (d := .str (Txt.join "" (((us.take k).drop 1).map tx))) ?_ .nil) (chk (hmid _) (hmlen _) (by rw [hmmap, htk]; exact Ex.whole hok.2.1)) (hC.le n8)) truthy_b) (fun _ => ?_) fun hb => nomatch hb)
        · refine Tri.join ?_ (tx_joinOk (hmlen _))
          show Tri prog w H _ _ _ (.list (encU ((us.take k).drop 1))) _
          rw [eU _ (by lia)]
          exact Tri.sliceL (Tri.name .here) ⟨_, rfl, Tri.int⟩ ⟨_, rfl, Tri.name (.t4 .here)⟩ ⟨rfl, rfl⟩ (by decide) (hsz _ (by rw [encU_len]; lia)) ⟨_, fun _ _ => rfl⟩
        have hl3 : (as ++ List.replicate 3 okM).length + 3 * l.nn ≤ 1000 := by
          have : (Ex.node m l r).nn = l.nn + r.nn + 1 := rfl
          rw [List.length_append, List.length_replicate]; lia
        have hr3 : (as ++ List.replicate 3 okM ++ l.marks).length + 3 * r.nn ≤ 1000 := by
          have : (Ex.node m l r).nn = l.nn + r.nn + 1 := rfl
          unfold Ex.marks
          rw [List.length_append, List.length_append, List.length_replicate, List.length_replicate]; lia
        refine TriB.next (σ₁ := vaσ us sg (as ++ List.replicate 3 okM ++ l.marks) s1 (.val (.int (k : Nat))) (.val (.list (encP l.val))) .un .un) (TriN.assign (σ₁ := vaσ us sg (as ++ List.replicate 3 okM ++ l.marks) s1 (.val (.int (k : Nat))) .un .un .un) (Tri.callM (sl' := .io (as ++ List.replicate 3 okM ++ l.marks)) (hC.mem (by simp)) gF hf.is (.tail _ (.tail _ (.head _))) (.io _ _) (.there (.there .here)) (TriLM.cons (d := .list (encU ((us.take k).drop 1))) ?_ (TriLM.cons (d := .list (encL l.sg)) ?_ (TriLM.here (.tail _ (.tail _ (.head _))) rfl .nil))) (ihl ((us.take k).drop 1) (as ++ List.replicate 3 okM) hok.2.1 (by lia) (hmid _) (by rw [hmmap, htk]) hl3) (hC.le (by show 9 + l.ht ≤ 9 + max l.ht r.ht; lia))) (.t4 (.there .here)) (.inl rfl)) ?_
        · rw [eU _ (by lia)]
          exact Tri.sliceL (Tri.name .here) ⟨_, rfl, Tri.int⟩ ⟨_, rfl, Tri.name (.t4 .here)⟩ ⟨rfl, rfl⟩ (by decide) (hsz _ (by rw [encU_len]; lia)) ⟨_, fun _ _ => rfl⟩
        · rw [← htk, eL _ (by lia)]
          exact Tri.sliceL (Tri.name (.there .here)) ⟨_, rfl, Tri.int⟩ ⟨_, rfl, Tri.name (.t4 .here)⟩ ⟨rfl, rfl⟩ (by decide) (hsz _ (by rw [encL_len]; lia)) ⟨_, fun _ _ => rfl⟩
        refine TriB.next (σ₁ := vaσ us sg (as ++ (Ex.node m l r).marks) s1 (.val (.int (k : Nat))) (.val (.list (encP l.val))) (.val (.list (encP r.val))) .un) (TriN.assign (σ₁ := vaσ us sg (as ++ (Ex.node m l r).marks) s1 (.val (.int (k : Nat))) (.val (.list (encP l.val))) .un .un) (Tri.callM (sl' := .io (as ++ (Ex.node m l r).marks)) (par' := .io (as ++ List.replicate 3 okM ++ l.marks ++ r.marks)) (hC.mem (by simp)) gF hf.is (.tail _ (.tail _ (.head _))) ?_ (.there (.there .here)) (TriLM.cons (d := .list (encU ((us.take (us.length - 1)).drop (k + 1)))) ?_ (TriLM.cons (d := .list (encL r.sg)) ?_ (TriLM.here (.tail _ (.tail _ (.head _))) rfl .nil))) (ihr ((us.take (us.length - 1)).drop (k + 1)) (as ++ List.replicate 3 okM ++ l.marks) hok.2.2 (by lia) hur hmr hr3) (hC.le (by show 9 + r.ht ≤ 9 + max l.ht r.ht; lia))) (.t4 (.there (.there .here))) (.inr hC.fr)) ?_
        · have : as ++ List.replicate 3 okM ++ l.marks ++ r.marks = as ++ (Ex.node m l r).marks := by
            unfold Ex.marks
            rw [List.append_assoc, List.append_assoc, rep_add, rep_add]
            congr 2
            show _ = 3 * (l.nn + r.nn + 1)
            lia
          rw [this]
          exact .io _ _
        · rw [eUr]
          exact Tri.sliceL (Tri.name .here) ⟨_, rfl, Tri.bin (Tri.name (.t4 .here)) Tri.int add_ii⟩ ⟨_, rfl, Tri.una Tri.int neg_i⟩ ⟨rfl, rfl⟩ (by decide) (hsz _ (by rw [encU_len]; lia)) ⟨_, fun _ _ => rfl⟩
        · rw [eLr]
          exact Tri.sliceL (Tri.name (.there .here)) ⟨_, rfl, Tri.bin (Tri.name (.t4 .here)) Tri.int add_ii⟩ ⟨_, rfl, Tri.una Tri.int neg_i⟩ ⟨rfl, rfl⟩ (by decide) (hsz _ (by rw [encL_len]; lia)) ⟨_, fun _ _ => rfl⟩
        refine TriB.next (σ₁ := vaσ us sg (as ++ (Ex.node m l r).marks) s1 (.val (.int (k : Nat))) (.val (.list (encP l.val))) (.val (.list (encP r.val))) (.val (.int (trnI m)))) (TriN.assign (Tri.itemDisp (kvs := [(14, 1), (15, -1), (16, 0)]) (TriKV.cons Tri.int Tri.int (TriKV.cons Tri.int (Tri.una Tri.int neg_i) (TriKV.cons Tri.int Tri.int TriKV.nil))) rfl rfl (by simp) (by decide) (by decide) (Tri.itemG (hC.mem (by simp)) TS (Tri.item (Tri.name (.there .here)) (Tri.name (.t4 .here)) (item_li (by lia) (by lia) (encL_get (by lia)))) (by rw [Int.toNat_natCast, hmk]; exact op_get hx hok.1)) (op_turn hok.1)) (.t4 (.there (.there (.there .here)))) (.inr hC.fr)) ?_
        have hlt1 := l.tot
        have hrt1 := r.tot
        have h8l : (2 : Nat) ^ l.nn ≤ 2 ^ 2 := Nat.pow_le_pow_right (by decide) (by lia)
        have h8r : (2 : Nat) ^ r.nn ≤ 2 ^ 2 := Nat.pow_le_pow_right (by decide) (by lia)
        have e4 : (2 : Nat) ^ 2 = 4 := rfl
        have hvl := l.vlen
        have hvr := r.vlen
        have hbl : ∀ p ∈ l.val, p.2.natAbs ≤ 4 := fun p hp => Nat.le_trans (mem_tot hp) (by lia)
        have hbr : ∀ p ∈ r.val, p.2.natAbs ≤ 4 := fun p hp => Nat.le_trans (mem_tot hp) (by lia)
        have hwl : ∀ p ∈ l.val, p.1.length ≤ 3 := fun p hp => by rw [l.words p hp]; lia
        have hwr : ∀ p ∈ r.val, p.1.length ≤ 3 := fun p hp => by rw [r.words p hp]; lia
        have hp16 : ∀ a b : Nat, a ≤ 4 → b ≤ 4 → a * b ≤ 16 := fun a b h1 h2 => Nat.mul_le_mul h1 h2
        have hmul := hp16 _ _ (Nat.le_trans hvl (by lia)) (Nat.le_trans hvr (by lia))
        have hpl : (prodT (trnI m) l.val r.val).length ≤ 32 := by rw [prodT_len]; lia
        have hp12 : (prodT (trnI m) l.val r.val) = prod1 l.val r.val ++ prod2 (trnI m) l.val r.val := rfl
        have hpa : (prod1 l.val r.val).length ≤ 32 ∧ (prod2 (trnI m) l.val r.val).length ≤ 32 ∧ (prod1 l.val r.val).length + (prod2 (trnI m) l.val r.val).length ≤ 32 := by rw [hp12, List.length_append] at hpl; lia
        refine TriB.last (TriS.ret (σ₁ := vaσ us sg (as ++ (Ex.node m l r).marks) s1 (.val (.int (k : Nat))) (.val (.list (encP l.val))) (.val (.list (encP r.val))) (.val (.int (trnI m)))) (Tri.callF (hC.mem (by simp)) gP hp.is (TriL.cons (d := .list (encP (prodT (trnI m) l.val r.val))) ?_ .nil) (rc_plain hp gS (by lia) (Nat.lt_of_le_of_lt (filt_len' _) (by lia))) (hC.le (by show 2 ≤ 9 + max l.ht r.ht; lia))) ⟨rfl, true, .tail _ (.tail _ (.head _))⟩)
        rw [hp12, encP_append]
        refine Tri.bin (da := .list (encP (prod1 l.val r.val))) (db := .list (encP (prod2 (trnI m) l.val r.val))) (σ₁ := vaσ us sg (as ++ (Ex.node m l r).marks) s1 (.val (.int (k : Nat))) (.val (.list (encP l.val))) (.val (.list (encP r.val))) (.val (.int (trnI m)))) ?_ ?_ (add_ll (hsz _ (by simp [encP]; lia)))
        · have hall := prG_all r.val l.val
          rw [← hall]
          refine Tri.comp (ItE.list (Tri.name (.t4 (.there .here)))) (.inr ⟨_, _, _, rfl⟩) [("right", .val (.list (encP r.val)))] ["one", "x", "two", "y"] [] (hC.kid fun _ _ _ _ _ _ => by kernel_rfl) (fun p hp => ?_) (prG r.val) (fun L d hd => ?_) (fun L => TurnEq.two) ?_
          · simp at hp
            subst hp
            exact ⟨.tail _ (.tail _ (.tail _ (.tail _ (.tail _ (.tail _ (.head _)))))), rfl⟩
          · obtain ⟨p, hp, rfl⟩ := List.mem_map.mp hd
            obtain ⟨y, c⟩ := p
            have hy := hwl _ hp
            have hc := hbl _ hp
            dsimp only at hy hc
            refine ⟨_, _, Asg.tuple (AsgL.cons (Asg.name (.there .here) (.inl rfl)) (AsgL.cons (Asg.name (.there (.there .here)) (.inl rfl)) .nil)), .cons (.same _) (.cons (.un _ _ _) (.cons (.un _ _ _) (.cons (.same _) (.cons (.same _) .nil)))), TriI.nil, fun hb => ?_, fun hb => nomatch hb⟩
            show EmitR _ _ _ _ _ _ (encP (r.val.map fun q => (y ++ q.1, c * q.2)))
            rw [← prH_all]
            refine EmitR.nest (ItE.list (Tri.name .here)) (.inr ⟨_, _, _, rfl⟩) (prH y c) (fun d hd => ?_) (fun it D => rfl) rfl
            obtain ⟨q, hq, rfl⟩ := List.mem_map.mp hd
            obtain ⟨z, e⟩ := q
            have hz := hwr _ hq
            dsimp only at hz
            refine ⟨_, _, Asg.tuple (AsgL.cons (Asg.name (.there (.there (.there .here))) (.inl rfl)) (AsgL.cons (Asg.name (.t4 .here) (.inl rfl)) .nil)), .cons (.same _) (.cons (.same _) (.cons (.same _) (.cons (.un _ _ _) (.cons (.un _ _ _) .nil)))), TriI.nil, fun hb => EmitR.elt (Tri.tuple (TriL.cons (Tri.bin (Tri.name (.there .here)) (Tri.name (.there (.there (.there .here)))) (add_ss (hsz _ (Nat.le_trans (Nat.add_le_add hy hz) (by decide))))) (TriL.cons (Tri.bin (Tri.name (.there (.there .here))) (Tri.name (.t4 .here)) (mul_ii (.inl (bits_le (by lia))))) .nil)) (by show 2 ≤ sizeLine; decide)), fun hb => nomatch hb⟩
          · rw [hall]; simp [encP]; exact hsz _ (by lia)
        · have hall := prG2_all (trnI m) r.val l.val
          rw [← hall]
          refine Tri.comp (ItE.list (Tri.name (.t4 (.there .here)))) (.inr ⟨_, _, _, rfl⟩) [("right", .val (.list (encP r.val))), ("turn", .val (.int (trnI m)))] ["one", "x", "two", "y"] [] (hC.kid fun _ _ _ _ _ _ => by kernel_rfl) (fun p hp => ?_) (prG2 (trnI m) r.val) (fun L d hd => ?_) (fun L => TurnEq.two) ?_
          · simp at hp
            rcases hp with rfl | rfl
            · exact ⟨.tail _ (.tail _ (.tail _ (.tail _ (.tail _ (.tail _ (.head _)))))), rfl⟩
            · exact ⟨.tail _ (.tail _ (.tail _ (.tail _ (.tail _ (.tail _ (.tail _ (.head _))))))), rfl⟩
          · obtain ⟨p, hp, rfl⟩ := List.mem_map.mp hd
            obtain ⟨y, c⟩ := p
            have hy := hwl _ hp
            have hc := hbl _ hp
            dsimp only at hy hc
            have htm := trn_abs m
            refine ⟨_, _, Asg.tuple (AsgL.cons (Asg.name (.there (.there .here)) (.inl rfl)) (AsgL.cons (Asg.name (.there (.there (.there .here))) (.inl rfl)) .nil)), .cons (.same _) (.cons (.same _) (.cons (.un _ _ _) (.cons (.un _ _ _) (.cons (.same _) (.cons (.same _) .nil))))), TriI.nil, fun hb => ?_, fun hb => nomatch hb⟩
            show EmitR _ _ _ _ _ _ (encP (r.val.map fun q => (q.1 ++ y, trnI m * c * q.2)))
            rw [← prH2_all]
            refine EmitR.nest (ItE.list (Tri.name .here)) (.inr ⟨_, _, _, rfl⟩) (prH2 (trnI m) y c) (fun d hd => ?_) (fun it D => rfl) rfl
            obtain ⟨q, hq, rfl⟩ := List.mem_map.mp hd
            obtain ⟨z, e⟩ := q
            have hz := hwr _ hq
            have he := hbr _ hq
            dsimp only at hz he
            refine ⟨_, _, Asg.tuple (AsgL.cons (Asg.name (.t4 .here) (.inl rfl)) (AsgL.cons (Asg.name (.t4 (.there .here)) (.inl rfl)) .nil)), .cons (.same _) (.cons (.same _) (.cons (.same _) (.cons (.same _) (.cons (.un _ _ _) (.cons (.un _ _ _) .nil))))), TriI.nil, fun hb => EmitR.elt (Tri.tuple (TriL.cons (Tri.bin (Tri.name (.t4 .here)) (Tri.name (.there (.there .here))) (add_ss (hsz _ (Nat.le_trans (Nat.add_le_add hz hy) (by decide))))) (TriL.cons (Tri.bin (Tri.bin (Tri.name (.there .here)) (Tri.name (.there (.there (.there .here)))) (mul_ii (.inl (bits_le (by lia))))) (Tri.name (.t4 (.there .here))) (mul_ii (.inr (bits_le (by lia))))) .nil)) (by show 2 ≤ sizeLine; decide)), fun hb => nomatch hb⟩
          · rw [hall]; simp [encP]; exact hsz _ (by lia)
    · obtain ⟨pre, s2, hd, rfl, hpre⟩ := hI
      cases pre <;> cases hd
end
end Mine

end
noncomputable section
open PySem PySem.W PyProof.Rows
set_option maxRecDepth 100000
set_option autoImplicit false
namespace Mine
/-! data that may be compared -/
noncomputable def OkS (x : Str) : Prop := PyData.canLay0 (.str x) = true
inductive Dat : Nat → PyData → Prop
  | none {n : Nat} : Dat n .none
  | bool {n : Nat} (b : Bool) : Dat n (.bool b)
  | int {n : Nat} (i : Int) : Dat n (.int i)
  | str {n : Nat} {x : Str} (h : OkS x) : Dat n (.str x)
  | list {n : Nat} {xs : List PyData} (h : ∀ x ∈ xs, Dat n x) : Dat (n + 1) (.list xs)
  | tuple {n : Nat} {xs : List PyData} (h : ∀ x ∈ xs, Dat n x) : Dat (n + 1) (.tuple xs)
theorem lay_all {xs : List PyData} (h : ∀ x ∈ xs, x.canLay0 = true) : PyData.canLayAll0 xs = true := by
  induction xs with
  | nil => rfl
  | cons x xs ih => rw [PyData.canLayAll0, h x (.head _), ih fun y hy => h y (.tail _ hy)]; rfl
theorem depth_all {xs : List PyData} {n : Nat} (h : ∀ x ∈ xs, x.depth ≤ n) : PyData.depthAll xs ≤ n := by
  induction xs with
  | nil => exact Nat.zero_le _
  | cons x xs ih =>
    have h1 := h x (.head _)
    have h2 := ih fun y hy => h y (.tail _ hy)
    rw [PyData.depthAll]; lia
theorem eqv_all {xs : List PyData} (h : ∀ x ∈ xs, x.eqv x = true) : PyData.eqvAll xs xs = true := by
  induction xs with
  | nil => rfl
  | cons x xs ih => rw [PyData.eqvAll, h x (.head _), ih fun y hy => h y (.tail _ hy)]; rfl
theorem Dat.lay {n : Nat} {d : PyData} (h : Dat n d) : d.canLay0 = true ∧ d.depth ≤ n ∧ d.eqv d = true := by
  induction h with
  | none => exact ⟨rfl, Nat.zero_le _, rfl⟩
  | bool b => exact ⟨rfl, Nat.zero_le _, by simp [PyData.eqv]⟩
  | int i => exact ⟨rfl, Nat.zero_le _, by simp [PyData.eqv]⟩
  | str h => exact ⟨h, Nat.zero_le _, by simp [PyData.eqv]⟩
  | list h ih => exact ⟨lay_all fun x hx => (ih x hx).1, by rw [PyData.depth]; exact Nat.succ_le_succ (depth_all fun x hx => (ih x hx).2.1), by rw [PyData.eqv]; exact eqv_all fun x hx => (ih x hx).2.2⟩
  | tuple h ih => exact ⟨lay_all fun x hx => (ih x hx).1, by rw [PyData.depth]; exact Nat.succ_le_succ (depth_all fun x hx => (ih x hx).2.1), by rw [PyData.eqv]; exact eqv_all fun x hx => (ih x hx).2.2⟩
theorem Dat.shaped {n : Nat} {d : PyData} (h : Dat n d) (hn : n ≤ 64) : SeqAt.shaped d = true := by
  unfold SeqAt.shaped
  rw [h.lay.1, decide_eq_true (Nat.le_trans h.lay.2.1 hn)]
  rfl
theorem Dat.refl {n : Nat} {d : PyData} (h : Dat n d) : d.eqv d = true := h.lay.2.2
theorem Dat.encS {ys : List Str} (h : ∀ y ∈ ys, OkS y) {n : Nat} : Dat (n + 1) (.list (Mine.encS ys)) := .list fun x hx => by
  obtain ⟨y, hy, rfl⟩ := List.mem_map.mp hx
  exact .str (h y hy)
theorem Dat.encI {ys : List Int} {n : Nat} : Dat (n + 1) (.list (Mine.encI ys)) := .list fun x hx => by
  obtain ⟨y, hy, rfl⟩ := List.mem_map.mp hx
  exact .int y
theorem Dat.pair {n : Nat} {a b : PyData} (ha : Dat n a) (hb : Dat n b) : Dat (n + 1) (.tuple [a, b]) := .tuple fun x hx => by
  rcases List.mem_cons.mp hx with rfl | hx
  · exact ha
  · rw [List.mem_singleton.mp hx]; exact hb
theorem Dat.encP {ps : List Pr} (h : ∀ p ∈ ps, OkS p.1) {n : Nat} : Dat (n + 2) (.list (Mine.encP ps)) := .list fun x hx => by
  obtain ⟨y, hy, rfl⟩ := List.mem_map.mp hx
  exact .pair (.str (h y hy)) (.int _)
/-- an entry of what is asked: two alike -/
noncomputable def Ask (d : PyData) : Prop := ∃ x n, d = .tuple [x, x] ∧ Dat n x ∧ n ≤ 60
theorem Ask.mk {n : Nat} {x y : PyData} (e : x = y) (h : Dat n x) (hn : n ≤ 60 := by decide) : Ask (.tuple [x, y]) := ⟨x, n, by rw [e], h, hn⟩
theorem okM_ask : Ask okM := Ask.mk (n := 0) rfl (.bool _)
end Mine

end
noncomputable section
open PySem PySem.W PyProof.Rows
set_option maxRecDepth 100000
set_option autoImplicit false
namespace Mine
set_option genInjectivity false in
set_option genSizeOf false in
structure LS where
  script : Slot := .un
  cells : Slot := .un
  total : Slot := .un
  key : Slot := .un
  letters : Slot := .un
  signs : Slot := .un
  terms : Slot := .un
  pieces : Slot := .un
  texts : Slot := .un
  text : Slot := .un
  tail : Slot := .un
  told : Slot := .un
  asked : Slot := .un
  tape : Slot := .un
  tests : Slot := .un
  shorn : Slot := .un
  left : Slot := .un
  found : Slot := .un
  read : Slot := .un
  value : Slot := .un
  low : Slot := .un
  names : Slot := .un
  words : Slot := .un
  cuts : Slot := .un
  mask : Slot := .un
  said : Slot := .un
  chosen : Slot := .un
  turned : Slot := .un
  made : Slot := .un
noncomputable def LS.σ (s : LS) : List Ent := [Ce "script" s.script, Ce "cells" s.cells, Lo "total" s.total, Ce "key" s.key, Lo "letters" s.letters, Lo "signs" s.signs, Lo "terms" s.terms, Ce "pieces" s.pieces, Lo "texts" s.texts, Lo "text" s.text, Lo "tail" s.tail, Lo "told" s.told, Lo "asked" s.asked, Lo "tape" s.tape, Lo "tests" s.tests, Ce "shorn" s.shorn, Lo "left" s.left, Lo "found" s.found, Lo "read" s.read, Lo "value" s.value, Lo "low" s.low, Lo "names" s.names, Lo "words" s.words, Lo "cuts" s.cuts, Ce "mask" s.mask, Ce "said" s.said, Ce "chosen" s.chosen, Lo "turned" s.turned, Lo "made" s.made]
section
variable (s : LS) (d : Slot)
theorem LS.m_script : (⟨"script", false, s.script⟩ : Ent) ∈ s.σ := .head _
theorem LS.l_cells : Look "cells" s.cells s.σ := .there .here
theorem LS.u_cells : Upd "cells" false d s.σ ({s with cells := d} : LS).σ := .there .here
theorem LS.m_cells : (⟨"cells", false, s.cells⟩ : Ent) ∈ s.σ := .tail _ (.head _)
theorem LS.l_total : Look "total" s.total s.σ := .there (.there .here)
theorem LS.u_total : Upd "total" true d s.σ ({s with total := d} : LS).σ := .there (.there .here)
theorem LS.l_key : Look "key" s.key s.σ := .there (.there (.there .here))
theorem LS.u_key : Upd "key" false d s.σ ({s with key := d} : LS).σ := .there (.there (.there .here))
theorem LS.m_key : (⟨"key", false, s.key⟩ : Ent) ∈ s.σ := .tail _ (.tail _ (.tail _ (.head _)))
theorem LS.l_letters : Look "letters" s.letters s.σ := .t4 .here
theorem LS.u_letters : Upd "letters" true d s.σ ({s with letters := d} : LS).σ := .t4 .here
theorem LS.l_signs : Look "signs" s.signs s.σ := .t4 (.there .here)
theorem LS.u_signs : Upd "signs" true d s.σ ({s with signs := d} : LS).σ := .t4 (.there .here)
theorem LS.l_terms : Look "terms" s.terms s.σ := .t4 (.there (.there .here))
theorem LS.u_terms : Upd "terms" true d s.σ ({s with terms := d} : LS).σ := .t4 (.there (.there .here))
theorem LS.u_pieces : Upd "pieces" false d s.σ ({s with pieces := d} : LS).σ := .t4 (.there (.there (.there .here)))
theorem LS.m_pieces : (⟨"pieces", false, s.pieces⟩ : Ent) ∈ s.σ := .tail _ (.tail _ (.tail _ (.tail _ (.tail _ (.tail _ (.tail _ (.head _)))))))
theorem LS.l_texts : Look "texts" s.texts s.σ := .t4 (.t4 .here)
theorem LS.u_texts : Upd "texts" true d s.σ ({s with texts := d} : LS).σ := .t4 (.t4 .here)
theorem LS.l_text : Look "text" s.text s.σ := .t4 (.t4 (.there .here))
theorem LS.u_text : Upd "text" true d s.σ ({s with text := d} : LS).σ := .t4 (.t4 (.there .here))
theorem LS.l_tail : Look "tail" s.tail s.σ := .t4 (.t4 (.there (.there .here)))
theorem LS.u_tail : Upd "tail" true d s.σ ({s with tail := d} : LS).σ := .t4 (.t4 (.there (.there .here)))
theorem LS.u_told : Upd "told" true d s.σ ({s with told := d} : LS).σ := .t4 (.t4 (.there (.there (.there .here))))
theorem LS.m_told : (⟨"told", true, s.told⟩ : Ent) ∈ s.σ := .tail _ (.tail _ (.tail _ (.tail _ (.tail _ (.tail _ (.tail _ (.tail _ (.tail _ (.tail _ (.tail _ (.head _)))))))))))
theorem LS.l_asked : Look "asked" s.asked s.σ := .t4 (.t4 (.t4 .here))
theorem LS.u_asked : Upd "asked" true d s.σ ({s with asked := d} : LS).σ := .t4 (.t4 (.t4 .here))
theorem LS.m_asked : (⟨"asked", true, s.asked⟩ : Ent) ∈ s.σ := .tail _ (.tail _ (.tail _ (.tail _ (.tail _ (.tail _ (.tail _ (.tail _ (.tail _ (.tail _ (.tail _ (.tail _ (.head _))))))))))))
theorem LS.u_tape : Upd "tape" true d s.σ ({s with tape := d} : LS).σ := .t4 (.t4 (.t4 (.there .here)))
theorem LS.l_tests : Look "tests" s.tests s.σ := .t4 (.t4 (.t4 (.there (.there .here))))
theorem LS.u_tests : Upd "tests" true d s.σ ({s with tests := d} : LS).σ := .t4 (.t4 (.t4 (.there (.there .here))))
theorem LS.l_shorn : Look "shorn" s.shorn s.σ := .t4 (.t4 (.t4 (.there (.there (.there .here)))))
theorem LS.u_shorn : Upd "shorn" false d s.σ ({s with shorn := d} : LS).σ := .t4 (.t4 (.t4 (.there (.there (.there .here)))))
theorem LS.m_shorn : (⟨"shorn", false, s.shorn⟩ : Ent) ∈ s.σ := .tail _ (.tail _ (.tail _ (.tail _ (.tail _ (.tail _ (.tail _ (.tail _ (.tail _ (.tail _ (.tail _ (.tail _ (.tail _ (.tail _ (.tail _ (.head _)))))))))))))))
theorem LS.l_left : Look "left" s.left s.σ := .t4 (.t4 (.t4 (.t4 .here)))
theorem LS.u_left : Upd "left" true d s.σ ({s with left := d} : LS).σ := .t4 (.t4 (.t4 (.t4 .here)))
theorem LS.l_found : Look "found" s.found s.σ := .t4 (.t4 (.t4 (.t4 (.there .here))))
theorem LS.u_found : Upd "found" true d s.σ ({s with found := d} : LS).σ := .t4 (.t4 (.t4 (.t4 (.there .here))))
theorem LS.l_read : Look "read" s.read s.σ := .t4 (.t4 (.t4 (.t4 (.there (.there .here)))))
theorem LS.u_read : Upd "read" true d s.σ ({s with read := d} : LS).σ := .t4 (.t4 (.t4 (.t4 (.there (.there .here)))))
theorem LS.l_value : Look "value" s.value s.σ := .t4 (.t4 (.t4 (.t4 (.there (.there (.there .here))))))
theorem LS.u_value : Upd "value" true d s.σ ({s with value := d} : LS).σ := .t4 (.t4 (.t4 (.t4 (.there (.there (.there .here))))))
theorem LS.l_low : Look "low" s.low s.σ := .t4 (.t4 (.t4 (.t4 (.t4 .here))))
theorem LS.u_low : Upd "low" true d s.σ ({s with low := d} : LS).σ := .t4 (.t4 (.t4 (.t4 (.t4 .here))))
theorem LS.l_names : Look "names" s.names s.σ := .t4 (.t4 (.t4 (.t4 (.t4 (.there .here)))))
theorem LS.u_names : Upd "names" true d s.σ ({s with names := d} : LS).σ := .t4 (.t4 (.t4 (.t4 (.t4 (.there .here)))))
theorem LS.l_words : Look "words" s.words s.σ := .t4 (.t4 (.t4 (.t4 (.t4 (.there (.there .here))))))
theorem LS.u_words : Upd "words" true d s.σ ({s with words := d} : LS).σ := .t4 (.t4 (.t4 (.t4 (.t4 (.there (.there .here))))))
theorem LS.l_cuts : Look "cuts" s.cuts s.σ := .t4 (.t4 (.t4 (.t4 (.t4 (.there (.there (.there .here)))))))
theorem LS.u_cuts : Upd "cuts" true d s.σ ({s with cuts := d} : LS).σ := .t4 (.t4 (.t4 (.t4 (.t4 (.there (.there (.there .here)))))))
theorem LS.m_cuts : (⟨"cuts", true, s.cuts⟩ : Ent) ∈ s.σ := .tail _ (.tail _ (.tail _ (.tail _ (.tail _ (.tail _ (.tail _ (.tail _ (.tail _ (.tail _ (.tail _ (.tail _ (.tail _ (.tail _ (.tail _ (.tail _ (.tail _ (.tail _ (.tail _ (.tail _ (.tail _ (.tail _ (.tail _ (.head _)))))))))))))))))))))))
theorem LS.l_mask : Look "mask" s.mask s.σ := .t4 (.t4 (.t4 (.t4 (.t4 (.t4 .here)))))
theorem LS.u_mask : Upd "mask" false d s.σ ({s with mask := d} : LS).σ := .t4 (.t4 (.t4 (.t4 (.t4 (.t4 .here)))))
theorem LS.m_mask : (⟨"mask", false, s.mask⟩ : Ent) ∈ s.σ := .tail _ (.tail _ (.tail _ (.tail _ (.tail _ (.tail _ (.tail _ (.tail _ (.tail _ (.tail _ (.tail _ (.tail _ (.tail _ (.tail _ (.tail _ (.tail _ (.tail _ (.tail _ (.tail _ (.tail _ (.tail _ (.tail _ (.tail _ (.tail _ (.head _))))))))))))))))))))))))
theorem LS.l_said : Look "said" s.said s.σ := .t4 (.t4 (.t4 (.t4 (.t4 (.t4 (.there .here))))))
theorem LS.u_said : Upd "said" false d s.σ ({s with said := d} : LS).σ := .t4 (.t4 (.t4 (.t4 (.t4 (.t4 (.there .here))))))
theorem LS.m_said : (⟨"said", false, s.said⟩ : Ent) ∈ s.σ := .tail _ (.tail _ (.tail _ (.tail _ (.tail _ (.tail _ (.tail _ (.tail _ (.tail _ (.tail _ (.tail _ (.tail _ (.tail _ (.tail _ (.tail _ (.tail _ (.tail _ (.tail _ (.tail _ (.tail _ (.tail _ (.tail _ (.tail _ (.tail _ (.tail _ (.head _)))))))))))))))))))))))))
theorem LS.l_chosen : Look "chosen" s.chosen s.σ := .t4 (.t4 (.t4 (.t4 (.t4 (.t4 (.there (.there .here)))))))
theorem LS.u_chosen : Upd "chosen" false d s.σ ({s with chosen := d} : LS).σ := .t4 (.t4 (.t4 (.t4 (.t4 (.t4 (.there (.there .here)))))))
theorem LS.m_chosen : (⟨"chosen", false, s.chosen⟩ : Ent) ∈ s.σ := .tail _ (.tail _ (.tail _ (.tail _ (.tail _ (.tail _ (.tail _ (.tail _ (.tail _ (.tail _ (.tail _ (.tail _ (.tail _ (.tail _ (.tail _ (.tail _ (.tail _ (.tail _ (.tail _ (.tail _ (.tail _ (.tail _ (.tail _ (.tail _ (.tail _ (.tail _ (.head _))))))))))))))))))))))))))
theorem LS.l_turned : Look "turned" s.turned s.σ := .t4 (.t4 (.t4 (.t4 (.t4 (.t4 (.there (.there (.there .here))))))))
theorem LS.u_turned : Upd "turned" true d s.σ ({s with turned := d} : LS).σ := .t4 (.t4 (.t4 (.t4 (.t4 (.t4 (.there (.there (.there .here))))))))
theorem LS.l_made : Look "made" s.made s.σ := .t4 (.t4 (.t4 (.t4 (.t4 (.t4 (.t4 .here))))))
theorem LS.u_made : Upd "made" true d s.σ ({s with made := d} : LS).σ := .t4 (.t4 (.t4 (.t4 (.t4 (.t4 (.t4 .here))))))
end
noncomputable def lawGl : List Str := ["enumerate", "sum", "_law_signs", "_law_terms", "decode_rfc2231", "list", "iter", "_law_octets", "_law_taped", "_law_plain", "_strip_quoted_realnames", "_iter_escaped_chars", "_law_value", "range", "pretty_flags", "zip", "_law_bracketed", "_law_shuffled"]
theorem gl_enumerate : ("enumerate" : Str) ∈ lawGl := .head _
theorem gl_sum : ("sum" : Str) ∈ lawGl := .tail _ (.head _)
theorem gl_law_signs : ("_law_signs" : Str) ∈ lawGl := .tail _ (.tail _ (.head _))
theorem gl_law_terms : ("_law_terms" : Str) ∈ lawGl := .tail _ (.tail _ (.tail _ (.head _)))
theorem gl_decode_rfc2231 : ("decode_rfc2231" : Str) ∈ lawGl := .tail _ (.tail _ (.tail _ (.tail _ (.head _))))
theorem gl_list : ("list" : Str) ∈ lawGl := .tail _ (.tail _ (.tail _ (.tail _ (.tail _ (.head _)))))
theorem gl_iter : ("iter" : Str) ∈ lawGl := .tail _ (.tail _ (.tail _ (.tail _ (.tail _ (.tail _ (.head _))))))
theorem gl_law_octets : ("_law_octets" : Str) ∈ lawGl := .tail _ (.tail _ (.tail _ (.tail _ (.tail _ (.tail _ (.tail _ (.head _)))))))
theorem gl_law_taped : ("_law_taped" : Str) ∈ lawGl := .tail _ (.tail _ (.tail _ (.tail _ (.tail _ (.tail _ (.tail _ (.tail _ (.head _))))))))
theorem gl_law_plain : ("_law_plain" : Str) ∈ lawGl := .tail _ (.tail _ (.tail _ (.tail _ (.tail _ (.tail _ (.tail _ (.tail _ (.tail _ (.head _)))))))))
theorem gl_strip_quoted_realnames : ("_strip_quoted_realnames" : Str) ∈ lawGl := .tail _ (.tail _ (.tail _ (.tail _ (.tail _ (.tail _ (.tail _ (.tail _ (.tail _ (.tail _ (.head _))))))))))
theorem gl_iter_escaped_chars : ("_iter_escaped_chars" : Str) ∈ lawGl := .tail _ (.tail _ (.tail _ (.tail _ (.tail _ (.tail _ (.tail _ (.tail _ (.tail _ (.tail _ (.tail _ (.head _)))))))))))
theorem gl_law_value : ("_law_value" : Str) ∈ lawGl := .tail _ (.tail _ (.tail _ (.tail _ (.tail _ (.tail _ (.tail _ (.tail _ (.tail _ (.tail _ (.tail _ (.tail _ (.head _))))))))))))
theorem gl_range : ("range" : Str) ∈ lawGl := .tail _ (.tail _ (.tail _ (.tail _ (.tail _ (.tail _ (.tail _ (.tail _ (.tail _ (.tail _ (.tail _ (.tail _ (.tail _ (.head _)))))))))))))
theorem gl_pretty_flags : ("pretty_flags" : Str) ∈ lawGl := .tail _ (.tail _ (.tail _ (.tail _ (.tail _ (.tail _ (.tail _ (.tail _ (.tail _ (.tail _ (.tail _ (.tail _ (.tail _ (.tail _ (.head _))))))))))))))
theorem gl_zip : ("zip" : Str) ∈ lawGl := .tail _ (.tail _ (.tail _ (.tail _ (.tail _ (.tail _ (.tail _ (.tail _ (.tail _ (.tail _ (.tail _ (.tail _ (.tail _ (.tail _ (.tail _ (.head _)))))))))))))))
theorem gl_law_bracketed : ("_law_bracketed" : Str) ∈ lawGl := .tail _ (.tail _ (.tail _ (.tail _ (.tail _ (.tail _ (.tail _ (.tail _ (.tail _ (.tail _ (.tail _ (.tail _ (.tail _ (.tail _ (.tail _ (.tail _ (.head _))))))))))))))))
theorem gl_law_shuffled : ("_law_shuffled" : Str) ∈ lawGl := .tail _ (.tail _ (.tail _ (.tail _ (.tail _ (.tail _ (.tail _ (.tail _ (.tail _ (.tail _ (.tail _ (.tail _ (.tail _ (.tail _ (.tail _ (.tail _ (.tail _ (.head _)))))))))))))))))
noncomputable def lawVs : List Str := ["cells", "total", "key", "letters", "signs", "terms", "pieces", "texts", "text", "tail", "told", "asked", "tape", "tests", "shorn", "left", "found", "read", "value", "low", "names", "words", "cuts", "mask", "said", "chosen", "turned", "made"]
noncomputable abbrev LB : List Stmt := sBody (stm 74)
noncomputable abbrev LC (pm cd doc : Value) (L f : Addr) (A : Around) : Cx := fnCx (Calls.docDef (sName (stm 74)) (sParams (stm 74)) (sBody (stm 74)) (sScope (stm 74)) pm cd doc) L f A 20 lawGl 0
set_option genInjectivity false in
set_option genSizeOf false in
structure LG (prog : Program) (w : World) (H : Heap) (kvs : List (Str × Int)) where
  esc : Addr
  strip : Addr
  paren : Addr
  dec : Addr
  pretty : Addr
  var : Addr
  term : Addr
  non : Addr
  eof : Addr
  plain : Addr
  signs : Addr
  terms : Addr
  octs : Addr
  taped : Addr
  value : Addr
  br : Addr
  sh : Addr
  f_esc : FnK H esc 2
  f_strip : FnK H strip 3
  f_paren : FnK H paren 4
  f_dec : FnK H dec 5
  f_pretty : FnK H pretty 8
  f_var : FnK H var 9
  f_term : FnK H term 62
  f_non : FnK H non 63
  f_eof : FnK H eof 64
  f_plain : FnK H plain 66
  f_signs : FnK H signs 67
  f_terms : FnK H terms 68
  f_octs : FnK H octs 69
  f_taped : FnK H taped 70
  f_value : FnK H value 71
  f_br : FnK H br 72
  f_sh : FnK H sh 73
  g_esc : Glo H "_iter_escaped_chars" (.ref esc)
  g_strip : Glo H "_strip_quoted_realnames" (.ref strip)
  g_paren : Glo H "_check_parenthesis" (.ref paren)
  g_dec : Glo H "decode_rfc2231" (.ref dec)
  g_pretty : Glo H "pretty_flags" (.ref pretty)
  g_var : Glo H "_parse_varint" (.ref var)
  g_term : Glo H "ISTERMINAL" (.ref term)
  g_non : Glo H "ISNONTERMINAL" (.ref non)
  g_eof : Glo H "ISEOF" (.ref eof)
  g_plain : Glo H "_law_plain" (.ref plain)
  g_signs : Glo H "_law_signs" (.ref signs)
  g_terms : Glo H "_law_terms" (.ref terms)
  g_octs : Glo H "_law_octets" (.ref octs)
  g_taped : Glo H "_law_taped" (.ref taped)
  g_value : Glo H "_law_value" (.ref value)
  g_br : Glo H "_law_bracketed" (.ref br)
  g_sh : Glo H "_law_shuffled" (.ref sh)
  t_tick : Tok
  t_nt : Tok
  t_end : Tok
  g_tick : Glo H "TICK" (.str "'" t_tick)
  g_nt : Glo H "NT_OFFSET" (.int 256 t_nt)
  g_end : Glo H "ENDMARKER" (.int 0 t_end)
  g_ex : TabS prog w H "EXACT_TOKEN_TYPES" kvs
  g_fl : TabI prog w H "COMPILER_FLAG_NAMES" flagK
  ex : ExOk kvs
  b_sum : Glo H "sum" (.builtin "sum")
  b_len : Glo H "len" (.builtin "len")
  b_sorted : Glo H "sorted" (.builtin "sorted")
  b_min : Glo H "min" (.builtin "min")
  b_next : Glo H "next" (.builtin "next")
  b_iter : Glo H "iter" (.builtin "iter")
  b_hex : Glo H "hex" (.builtin "hex")
  b_isinstance : Glo H "isinstance" (.builtin "isinstance")
  b_enumerate : Glo H "enumerate" (.type "enumerate")
  b_range : Glo H "range" (.type "range")
  b_zip : Glo H "zip" (.type "zip")
  b_list : Glo H "list" (.type "list")
  b_int : Glo H "int" (.type "int")
  b_bool : Glo H "bool" (.type "bool")
theorem Tri.eq {prog : Program} {w : World} {H : Heap} {C : Cx} {σ σ' : List Ent} {e : Expr} {d d' : PyData} (h : Tri prog w H C σ e d σ') (q : d = d') : Tri prog w H C σ e d' σ' := q ▸ h
theorem Tri.nm {prog : Program} {w : World} {H : Heap} {C : Cx} {σ : List Ent} {x : Str} {pos : Pos} {sl : Slot} {d : PyData} (h : Look x sl σ) (q : sl = .val d) : Tri prog w H C σ (.Name x pos) d σ := Tri.name (q ▸ h)
theorem pickL_map {α β : Type} (f : α → β) (lo hi st : Option Int) (ds : List α) : pickL lo hi st (ds.map f) = (pickL lo hi st ds).map f := by
  unfold pickL
  rw [List.length_map, List.map_filterMap]
  congr 1
  funext i
  simp
theorem pickL_len {α : Type} {lo hi : Option Int} {c : Int} (hc : 0 < c) (ds : List α) : (pickL lo hi (some c) ds).length ≤ ds.length := by
  unfold pickL
  refine Nat.le_trans (List.length_filterMap_le _ _) ?_
  refine sliceRange_length_le _ _ _ _ (fun _ => ?_) fun h => absurd hc h
  unfold sliceBounds
  simp only [Option.getD_some, gt_iff_lt, hc, if_true]
  constructor
  · cases lo with
    | none => exact Int.le_refl 0
    | some i => dsimp only; omega
  · cases hi with
    | none => exact Int.le_refl _
    | some i => dsimp only; omega
end Mine

end
noncomputable section
open PySem PySem.W PyProof.Rows
set_option maxRecDepth 100000
set_option autoImplicit false
namespace Mine
noncomputable def cell0 : List Int := [33, 4, 24, 250, 9, 26]
noncomputable def cellR (xs : List Int) (c : Int) (k : Nat) : Int := c + ((pickL (some (k : Int)) (some 60) (some 6) xs).map fun x => x.fmod 5040).sum
noncomputable def cellsR (xs : List Int) : List Int := cell0.zipIdx.map fun q => cellR xs q.1 q.2
noncomputable def cellG (xs : List Int) : PyData → List PyData
  | .tuple [.int k, .int c] => [.int (cellR xs c k.toNat)]
  | _ => []
noncomputable def modG : PyData → List PyData
  | .int x => [.int (x.fmod 5040)]
  | _ => []
theorem modG_all : ∀ l : List Int, (encI l).flatMap modG = encI (l.map fun x => x.fmod 5040)
  | [] => rfl
  | x :: l => by rw [show encI (x :: l) = .int x :: encI l from rfl, List.flatMap_cons, modG_all l]; rfl
theorem cellG_all (xs : List Int) : (enumI cell0.zipIdx).flatMap (cellG xs) = encI (cellsR xs) := rfl
/-! three of five signs that stand side by side -/
noncomputable def keyC (t : Int) : List Nat := ([37, 38, 94, 126, 64].drop (t.fmod 3).toNat).take 3
noncomputable def lettC (t c : Int) : Nat := (keyC t).getD (c.fmod 3).toNat 0
noncomputable def lettG (t : Int) : PyData → List PyData
  | .int c => [.str (ch1 (mk (keyC t)) (c.fmod 3))]
  | _ => []
theorem fmod3 (c : Int) : 0 ≤ c.fmod 3 ∧ c.fmod 3 < 3 := by
  rw [Int.fmod_eq_emod_of_nonneg _ (by lia)]
  exact ⟨Int.emod_nonneg _ (by lia), Int.emod_lt_of_pos _ (by lia)⟩
theorem key_slice (t : Int) : Txt.slice "%&^~@" (some (t.fmod 3)) (some (t.fmod 3 + 3)) = mk (keyC t) := by
  unfold keyC
  have := fmod3 t
  generalize t.fmod 3 = z at this
  have : z = 0 ∨ z = 1 ∨ z = 2 := by lia
  rcases this with rfl | rfl | rfl <;> decide +kernel
theorem key_len (t : Int) : (keyC t).length = 3 := by
  unfold keyC
  have := fmod3 t
  generalize t.fmod 3 = z at this
  have : z = 0 ∨ z = 1 ∨ z = 2 := by lia
  rcases this with rfl | rfl | rfl <;> rfl
theorem key_sign (t : Int) : ∀ c ∈ keyC t, SignC c := by
  unfold keyC
  have := fmod3 t
  generalize t.fmod 3 = z at this
  have : z = 0 ∨ z = 1 ∨ z = 2 := by lia
  intro c hc
  rcases this with rfl | rfl | rfl <;> (simp at hc; unfold SignC; lia)
theorem ch1_mk {l : List Nat} {k : Int} (h0 : 0 ≤ k) (h : k.toNat < l.length) : ch1 (mk l) k = mk [l.getD k.toNat 0] := by
  unfold ch1 mk
  congr 2
  simp [Array.getD, h]
theorem lett_ch (t c : Int) : ch1 (mk (keyC t)) (c.fmod 3) = mk [lettC t c] := by
  have := fmod3 c
  exact ch1_mk this.1 (by rw [key_len]; lia)
theorem lettG_all (t : Int) : ∀ l : List Int, (encI l).flatMap (lettG t) = encL (l.map (lettC t))
  | [] => rfl
  | c :: l => by
    rw [show encI (c :: l) = .int c :: encI l from rfl, List.flatMap_cons, lettG_all t l]
    show [PyData.str (ch1 (mk (keyC t)) (c.fmod 3))] ++ _ = _
    rw [lett_ch]; rfl
/-! what stands ahead of a sign -/
noncomputable def kindI (cs : List Int) (k : Nat) : Int := ((cs.getD ((k : Int).fmod 6).toNat 0).fdiv 18 + (k : Nat)).fmod 14
noncomputable def kind7 (z : Int) : Nat := if z < 7 then z.toNat else 0
noncomputable def unit (cs : List Int) (q : Nat × Nat) : Un := (kind7 (kindI cs q.2), q.1)
noncomputable def unitsR (cs : List Int) (sg : List Nat) : List Un := sg.zipIdx.map (unit cs)
noncomputable def piecesL : List Str := ["", "\\(", "\")\"", "\\\\", "\"\\\")\"", "a\\\"", "\"\"", "", "", "", "", "", "", ""]
theorem piece_get {z : Int} (h0 : 0 ≤ z) (h : z < 14) : piecesL.getD z.toNat "" = mk (pcN (kind7 z)) := by
  have : z = 0 ∨ z = 1 ∨ z = 2 ∨ z = 3 ∨ z = 4 ∨ z = 5 ∨ z = 6 ∨ z = 7 ∨ z = 8 ∨ z = 9 ∨ z = 10 ∨ z = 11 ∨ z = 12 ∨ z = 13 := by lia
  rcases this with rfl | rfl | rfl | rfl | rfl | rfl | rfl | rfl | rfl | rfl | rfl | rfl | rfl | rfl <;> rfl
theorem kindI_bd (cs : List Int) (k : Nat) : 0 ≤ kindI cs k ∧ kindI cs k < 14 := by
  unfold kindI
  rw [Int.fmod_eq_emod_of_nonneg _ (by lia : (0:Int) ≤ 14)]
  exact ⟨Int.emod_nonneg _ (by lia), Int.emod_lt_of_pos _ (by lia)⟩
noncomputable def textG (cs : List Int) : PyData → List PyData
  | .tuple [.int k, .str y] => [.str (mk (pcN (kind7 (kindI cs k.toNat))) ++ y)]
  | _ => []
noncomputable def enumS (l : List (Nat × Nat)) : List PyData := l.map fun q => .tuple [.int (q.2 : Nat), .str ⟨#[q.1]⟩]
theorem enumS_eq (l : List Nat) : (enumL (encL l)).map PyData.tuple = enumS l.zipIdx := by
  unfold enumL enumS encL encS chL
  rw [List.map_map, List.map_map, List.zipIdx_map, List.map_map]
  rfl
theorem textG_all (cs : List Int) : ∀ l : List (Nat × Nat), (enumS l).flatMap (textG cs) = encU (l.map (unit cs))
  | [] => rfl
  | q :: l => by
    rw [show enumS (q :: l) = .tuple [.int (q.2 : Nat), .str ⟨#[q.1]⟩] :: enumS l from rfl, List.flatMap_cons, textG_all cs l]
    show [PyData.str (mk (pcN (kind7 (kindI cs q.2))) ++ mk [q.1])] ++ _ = _
    rw [mk_app]; rfl
section
variable {prog : Program} {w : World} {H : Heap} {kvs : List (Str × Int)} {pm cd doc : Value} {L f : Addr} {A : Around} {P : Fl → List Ent → Prop} (s : LS)
theorem hsz {n : Nat} (h : n ≤ 100000) : n ≤ sizeLine := Nat.le_trans h (by decide)
set_option maxHeartbeats 2000000 in
theorem law1 (G : LG prog w H kvs) {xs : List Int} (hxs : xs.length ≤ 63) (h : s.script = .val (.list (encI xs)))
    (k : TriB prog w H (LC pm cd doc L f A) ({ s with cells := .val (.list (encI (cellsR xs))) } : LS).σ (LB.drop 1) P) : TriB prog w H (LC pm cd doc L f A) s.σ (LB.drop 0) P := by
  refine TriB.next (TriN.assign (Tri.eq (Tri.comp (ds := enumI cell0.zipIdx) (enumI_eq cell0 ▸ ItE.enumL gl_enumerate G.b_enumerate (Tri.list (TriL.cons Tri.int (TriL.cons Tri.int (TriL.cons Tri.int (TriL.cons Tri.int (TriL.cons Tri.int (TriL.cons Tri.int .nil)))))) (by show 6 ≤ sizeLine; decide))) ⟨_, _, _, rfl⟩ [("script", .val (.list (encI xs)))] ["k", "cell"] ["sum"] (KidOk.of (by kernel_rfl)) (fun p hp => ?_) (cellG xs) (fun L d hd => ?_) (fun L it D => rfl) ?_) (congrArg PyData.list (cellG_all xs))) (s.u_cells _) (.inr rfl)) k
  · simp at hp
    subst hp
    exact ⟨h ▸ s.m_script, rfl⟩
  · obtain ⟨q, hq, rfl⟩ := List.mem_map.mp hd
    obtain ⟨c, k⟩ := q
    refine ⟨_, _, Asg.tuple (AsgL.cons (Asg.name (.there .here) (.inl rfl)) (AsgL.cons (Asg.name (.there (.there .here)) (.inl rfl)) .nil)), .cons (.same _) (.cons (.un _ _ _) (.cons (.un _ _ _) .nil)), TriI.nil, fun hb => EmitR.elt (Tri.bin (Tri.name (.there (.there .here))) (Tri.callB (by simp [kid]) G.b_sum (TriL.cons (d := .list (encI ((pickL (some ((k : Nat) : Int)) (some 60) (some 6) xs).map fun x => x.fmod 5040))) ?_ .nil) rc_sum (Nat.zero_le _)) add_ii), fun hb => nomatch hb⟩
    refine Tri.eq (d := .list ((pickL (some ((k : Nat) : Int)) (some 60) (some 6) (encI xs)).flatMap modG)) ?_ (congrArg PyData.list ?_)
    refine Tri.comp (tt := ttAny) ?_ (.inl ⟨_, _, rfl⟩) [] ["x"] [] (KidOk.of (by kernel_rfl)) (fun p hp => nomatch hp) modG (fun L d hd => ?_) (fun L it D => rfl) ?_
    · exact ItE.list (Tri.sliceL (Tri.name .here) ⟨_, rfl, Tri.name (.there .here)⟩ ⟨_, rfl, Tri.int⟩ ⟨_, rfl, Tri.int⟩ (by decide) (hsz (by simp [encI]; lia)) ⟨_, fun _ _ => rfl⟩)
    · unfold encI at hd
      rw [pickL_map] at hd
      obtain ⟨x, hx, rfl⟩ := List.mem_map.mp hd
      exact ⟨_, _, Asg.name .here (.inl rfl), .cons (.un _ _ _) .nil, TriI.nil, fun hb => EmitR.elt (Tri.bin (Tri.name .here) Tri.int (mod_ii (by decide))), fun hb => nomatch hb⟩
    · unfold encI
      rw [pickL_map]
      have e := modG_all (pickL (some ((k : Nat) : Int)) (some 60) (some 6) xs)
      unfold encI at e
      rw [e, List.length_map, List.length_map]
      exact hsz (Nat.le_trans (pickL_len (by decide) xs) (by lia))
    · unfold encI
      rw [pickL_map]
      exact modG_all (pickL (some ((k : Nat) : Int)) (some 60) (some 6) xs)
  · rw [cellG_all]; exact hsz (show 6 ≤ 100000 by decide)
theorem law2 (G : LG prog w H kvs) {cs : List Int} (h : s.cells = .val (.list (encI cs)))
    (k : TriB prog w H (LC pm cd doc L f A) ({ s with total := .val (.int cs.sum) } : LS).σ (LB.drop 2) P) : TriB prog w H (LC pm cd doc L f A) s.σ (LB.drop 1) P :=
  TriB.next (TriN.assign (Tri.callB gl_sum G.b_sum (TriL.cons (Tri.nm s.l_cells h) .nil) rc_sum (Nat.zero_le _)) (s.u_total _) (.inl rfl)) k
theorem law3 {t : Int} (h : s.total = .val (.int t))
    (k : TriB prog w H (LC pm cd doc L f A) ({ s with key := .val (.str (mk (keyC t))) } : LS).σ (LB.drop 3) P) : TriB prog w H (LC pm cd doc L f A) s.σ (LB.drop 2) P :=
  TriB.next (TriN.assign (Tri.eq (Tri.sliceS Tri.str ⟨_, rfl, Tri.bin (Tri.nm s.l_total h) Tri.int (mod_ii (by decide))⟩ ⟨_, rfl, Tri.bin (Tri.bin (Tri.nm s.l_total h) Tri.int (mod_ii (by decide))) Tri.int add_ii⟩ (by decide)) (congrArg PyData.str (key_slice t))) (s.u_key _) (.inr rfl)) k
set_option maxHeartbeats 2000000 in
theorem law4 {cs : List Int} {t : Int} (hc : CellsOk cs) (h : s.cells = .val (.list (encI cs))) (hk : s.key = .val (.str (mk (keyC t))))
    (k : TriB prog w H (LC pm cd doc L f A) ({ s with letters := .val (.list (encL ((cs.take 4).map (lettC t)))) } : LS).σ (LB.drop 4) P) : TriB prog w H (LC pm cd doc L f A) s.σ (LB.drop 3) P := by
  have e4 : pickL none (some 4) none (encI cs) = encI (cs.take 4) := by
    have := pick_take (ds := encI cs) (k := 4) (by simp [encI, hc.len])
    rw [show (some (4 : Int)) = some (((4 : Nat)) : Int) from rfl, this]
    simp [encI]
  refine TriB.next (TriN.assignComp (ds := encI (cs.take 4)) (ItE.list (Tri.eq (Tri.sliceL (Tri.nm s.l_cells h) ⟨rfl, rfl⟩ ⟨_, rfl, Tri.int⟩ ⟨rfl, rfl⟩ (by decide) (hsz (by simp [encI, hc.len])) ⟨_, fun _ _ => rfl⟩) (congrArg PyData.list e4))) (.inl ⟨_, _, rfl⟩) [("key", .val (.str (mk (keyC t))))] ["cell"] [] (KidOk.of (by kernel_rfl)) (fun p hp => ?_) (lettG t) (fun L d hd => ?_) (fun L it D => rfl) ?_ (by rw [lettG_all]; exact s.u_letters _) (.inl rfl) (by rfl)) k
  · simp at hp
    subst hp
    exact ⟨hk ▸ s.m_key, rfl⟩
  · obtain ⟨c, hcm, rfl⟩ := List.mem_map.mp hd
    have := fmod3 c
    exact ⟨_, _, Asg.name (.there .here) (.inl rfl), .cons (.same _) (.cons (.un _ _ _) .nil), TriI.nil, fun hb => EmitR.elt (Tri.item (Tri.name .here) (Tri.bin (Tri.name (.there .here)) Tri.int (mod_ii (by decide))) (item_ch1' (n := 3) this.1 this.2 (by have := key_len t; simp [mk, this]))), fun hb => nomatch hb⟩
  · rw [lettG_all, encL_len, List.length_map]
    exact hsz (by simp; lia)
theorem law5 (G : LG prog w H kvs) {cs : List Int} {ls : List Nat} (hc : CellsOk cs) (hl : ls.length = 4) (h : s.cells = .val (.list (encI cs))) (hls : s.letters = .val (.list (encL ls)))
    (k : TriB prog w H (LC pm cd doc L f A) ({ s with signs := .val (.list (encS (signsR cs (chL ls)))) } : LS).σ (LB.drop 5) P) : TriB prog w H (LC pm cd doc L f A) s.σ (LB.drop 4) P :=
  TriB.next (TriN.assign (Tri.callF gl_law_signs G.g_signs G.f_signs.is (TriL.cons (Tri.nm s.l_cells h) (TriL.cons (Tri.nm s.l_letters hls) .nil)) (rc_signs G.f_signs G.b_enumerate hc (by simp [chL, hl])) (by show 4 ≤ 20; lia)) (s.u_signs _) (.inl rfl)) k
theorem law6 (G : LG prog w H kvs) {cs : List Int} {ls : List Nat} (hc : CellsOk cs) (hl : ls.length = 4) (h : s.cells = .val (.list (encI cs))) (hls : s.letters = .val (.list (encL ls)))
    (k : TriB prog w H (LC pm cd doc L f A) ({ s with terms := .val (.list (encP (termsR cs (chL ls)))) } : LS).σ (LB.drop 6) P) : TriB prog w H (LC pm cd doc L f A) s.σ (LB.drop 5) P :=
  TriB.next (TriN.assign (Tri.callF gl_law_terms G.g_terms G.f_terms.is (TriL.cons (Tri.nm s.l_cells h) (TriL.cons (Tri.nm s.l_letters hls) .nil)) (rc_terms G.f_terms G.b_enumerate G.b_range hc (by simp [chL, hl]) (fun y hy => by obtain ⟨c, _, rfl⟩ := List.mem_map.mp hy; exact Nat.le_refl 1)) (by show 4 ≤ 20; lia)) (s.u_terms _) (.inl rfl)) k
theorem law7 (k : TriB prog w H (LC pm cd doc L f A) ({ s with pieces := .val (.list (encS piecesL)) } : LS).σ (LB.drop 7) P) : TriB prog w H (LC pm cd doc L f A) s.σ (LB.drop 6) P :=
  TriB.next (TriN.assign (Tri.list (TriL.cons Tri.str (TriL.cons Tri.str (TriL.cons Tri.str (TriL.cons Tri.str (TriL.cons Tri.str (TriL.cons Tri.str (TriL.cons Tri.str (TriL.cons Tri.str (TriL.cons Tri.str (TriL.cons Tri.str (TriL.cons Tri.str (TriL.cons Tri.str (TriL.cons Tri.str (TriL.cons Tri.str .nil)))))))))))))) (by show 14 ≤ sizeLine; decide)) (s.u_pieces _) (.inr rfl)) k
set_option maxHeartbeats 2000000 in
theorem law8 (G : LG prog w H kvs) {cs : List Int} {sg : List Nat} (hc : CellsOk cs) (hl : sg.length ≤ 100) (h : s.cells = .val (.list (encI cs))) (hs : s.signs = .val (.list (encL sg))) (hp : s.pieces = .val (.list (encS piecesL)))
    (k : TriB prog w H (LC pm cd doc L f A) ({ s with texts := .val (.list (encU (unitsR cs sg))) } : LS).σ (LB.drop 8) P) : TriB prog w H (LC pm cd doc L f A) s.σ (LB.drop 7) P := by
  refine TriB.next (TriN.assignComp (ds := enumS sg.zipIdx) (enumS_eq sg ▸ ItE.enumL gl_enumerate G.b_enumerate (Tri.nm s.l_signs hs)) ⟨_, _, _, rfl⟩ [("cells", .val (.list (encI cs))), ("pieces", .val (.list (encS piecesL)))] ["k", "sign"] [] (KidOk.of (by kernel_rfl)) (fun p hpp => ?_) (textG cs) (fun L d hd => ?_) (fun L it D => rfl) ?_ (by rw [textG_all]; exact s.u_texts _) (.inl rfl) (by rfl)) k
  · simp at hpp
    rcases hpp with rfl | rfl
    · exact ⟨h ▸ s.m_cells, rfl⟩
    · exact ⟨hp ▸ s.m_pieces, rfl⟩
  · obtain ⟨q, hq, rfl⟩ := List.mem_map.mp hd
    obtain ⟨c, k⟩ := q
    have h6 : (((k : Int).fmod 6)).toNat < cs.length ∧ 0 ≤ (k : Int).fmod 6 := by
      rw [hc.len, Int.fmod_eq_emod_of_nonneg _ (by lia)]
      lia
    have hbd := kindI_bd cs k
    refine ⟨_, _, Asg.tuple (AsgL.cons (Asg.name (.there (.there .here)) (.inl rfl)) (AsgL.cons (Asg.name (.there (.there (.there .here))) (.inl rfl)) .nil)), .cons (.same _) (.cons (.same _) (.cons (.un _ _ _) (.cons (.un _ _ _) .nil))), TriI.nil, fun hb => EmitR.elt (Tri.bin (Tri.eq (Tri.item (Tri.name (.there .here)) (Tri.bin (Tri.bin (Tri.bin (Tri.item (Tri.name .here) (Tri.bin (Tri.name (.there (.there .here))) Tri.int (mod_ii (by decide))) (item_cells h6.2 h6.1 (by rw [hc.len]; decide))) Tri.int (fdiv_ii (by decide) (fdiv3 (by decide) (by decide)))) (Tri.name (.there (.there .here))) add_ii) Tri.int (mod_ii (by decide))) (item_li (d := .str (piecesL.getD (kindI cs k).toNat "")) hbd.1 (Int.lt_trans hbd.2 (by decide)) (encS_get ?_))) (congrArg PyData.str (piece_get hbd.1 hbd.2))) (Tri.name (.there (.there (.there .here)))) (add_ss ?_)), fun hb => nomatch hb⟩
    · show (kindI cs k).toNat < 14; lia
    · have := pcN_len (kind7 (kindI cs k))
      rw [mk_len]
      exact hsz (Nat.le_trans (Nat.add_le_add this (Nat.le_refl 1)) (by decide))
  · rw [textG_all, encU_len, List.length_map, List.length_zipIdx]
    exact hsz (by lia)
end
end Mine

end
noncomputable section
open PySem PySem.W PyProof.Rows
set_option maxRecDepth 100000
set_option autoImplicit false
namespace Mine
noncomputable def itsC : List Nat := [32, 73, 116, 39, 115, 32, 40, 32]
noncomputable def tailC (t : Int) : List Nat := keyC t ++ 39 :: itsC
theorem ok_mk {l : List Nat} (h : ∀ c ∈ l, c < 1114112) : OkS (mk l) := by
  unfold OkS
  rw [PyData.canLay0]
  show (l.toArray.all fun c => decide (c < 1114112)) = true
  simpa using h
theorem key_lt (t : Int) : ∀ c ∈ keyC t, c < 1114112 := fun c hc => by have := key_sign t c hc; unfold SignC at this; lia
theorem tail_lt (t : Int) : ∀ c ∈ tailC t, c < 1114112 := fun c hc => by
  rcases List.mem_append.mp hc with hc | hc
  · exact key_lt t c hc
  · exact (by decide : ∀ c ∈ 39 :: itsC, c < 1114112) c hc
theorem pcN_lt (k : Nat) : ∀ c ∈ pcN k, c < 128 := by
  unfold pcN pcs
  match k with
  | 0 => decide
  | 1 => decide
  | 2 => decide
  | 3 => decide
  | 4 => decide
  | 5 => decide
  | 6 => decide
  | n + 7 => intro c hc; cases hc
theorem SgC.lt {c : Nat} (h : SgC c) : c < 128 := by unfold SgC SignC at h; lia
theorem uc_lt {u : Un} (h : UnOk u) : ∀ c ∈ uc u, c < 128 := fun c hc => by
  rcases List.mem_append.mp hc with hc | hc
  · exact pcN_lt _ c hc
  · rw [List.mem_singleton.mp hc]; exact h.2.lt
theorem ucs_lt {us : List Un} (h : ∀ u ∈ us, UnOk u) : ∀ c ∈ ucs us, c < 128 := fun c hc => by
  obtain ⟨u, hu, hc⟩ := List.mem_flatMap.mp hc
  exact uc_lt (h u hu) c hc
theorem ucs_ok {us : List Un} (h : ∀ u ∈ us, UnOk u) : OkS (mk (ucs us)) := ok_mk fun c hc => Nat.lt_trans (ucs_lt h c hc) (by decide)
/-- the pieces that the text falls into -/
structure Cuts (X : List Nat) (t : Int) : Prop where
  three : Txt.splitMax (mk (X ++ 39 :: tailC t)) "'" 2 = [mk X, mk (keyC t), mk itsC]
  front : Txt.splitMax (mk (39 :: (X ++ 39 :: tailC t))) "'" 2 = [("" : Str), mk X, mk (tailC t)]
  one : (Txt.splitMax (mk X) "'" 2).length ≤ 2
  two : (Txt.splitMax (mk (X ++ 39 :: keyC t)) "'" 2).length ≤ 2
noncomputable def Asks (as : List PyData) : Prop := ∀ d ∈ as, Ask d
theorem Asks.app {as bs : List PyData} (h : Asks as) (h' : Asks bs) : Asks (as ++ bs) := fun d hd => (List.mem_append.mp hd).elim (h d) (h' d)
theorem Asks.one {d : PyData} (h : Ask d) : Asks [d] := fun e he => by rw [List.mem_singleton.mp he]; exact h
theorem Asks.two {d e : PyData} (h : Ask d) (h' : Ask e) : Asks [d, e] := fun x hx => by
  rcases List.mem_cons.mp hx with rfl | hx
  · exact h
  · rw [List.mem_singleton.mp hx]; exact h'
noncomputable def oneG : PyData → List PyData
  | .str y => [.tuple [.tuple [.none, .none, .str y], .tuple [.none, .none, .str y]]]
  | _ => []
noncomputable def testG : PyData → List PyData
  | .int n => [.bool (decide (n < 256)), .bool (decide (256 ≤ n)), .bool (n == 0)]
  | _ => []
noncomputable def idG (d : PyData) : List PyData := [d]
theorem idG_all : ∀ l : List PyData, l.flatMap idG = l
  | [] => rfl
  | d :: l => by rw [List.flatMap_cons, idG_all l]; rfl
noncomputable def tests9 : List PyData := [true, false, true, true, false, false, false, true, false].map .bool
noncomputable def told3 (X : List Nat) (t : Int) : List PyData := encS [mk X, mk (keyC t), mk itsC]
noncomputable def itrue (_ : PyData) : List PyData := [.bool true]
section
variable {prog : Program} {w : World} {H : Heap} {kvs : List (Str × Int)} {pm cd doc : Value} {L f : Addr} {A : Around} {P : Fl → List Ent → Prop} (s : LS)
theorem law9 {us : List Un} (hu : us.length ≤ 100) (h : s.texts = .val (.list (encU us)))
    (k : TriB prog w H (LC pm cd doc L f A) ({ s with text := .val (.str (mk (ucs us))) } : LS).σ (LB.drop 9) P) : TriB prog w H (LC pm cd doc L f A) s.σ (LB.drop 8) P := by
  refine TriB.next (TriN.assign (σ₁ := s.σ) (d := .str (mk (ucs us))) ?_ (s.u_text _) (.inl rfl)) k
  rw [← join_tx]
  refine Tri.join ?_ (tx_joinOk hu)
  exact Tri.nm s.l_texts h
theorem law10 {t : Int} (h : s.key = .val (.str (mk (keyC t))))
    (k : TriB prog w H (LC pm cd doc L f A) ({ s with tail := .val (.str (mk (tailC t))) } : LS).σ (LB.drop 10) P) : TriB prog w H (LC pm cd doc L f A) s.σ (LB.drop 9) P :=
  TriB.next (TriN.assign (Tri.eq (Tri.bin (Tri.nm s.l_key h) Tri.str (add_ss (by rw [mk_len, key_len]; exact hsz (by decide)))) (congrArg PyData.str (show mk (keyC t) ++ mk (39 :: itsC) = mk (tailC t) from mk_app _ _))) (s.u_tail _) (.inl rfl)) k
theorem len_tail (t : Int) : (tailC t).length = 12 := by unfold tailC; rw [List.length_append, key_len]; rfl
theorem arg1 {X : List Nat} (t : Int) : (mk X ++ "'") ++ mk (tailC t) = mk (X ++ 39 :: tailC t) := by
  show (mk X ++ mk [39]) ++ mk (tailC t) = _
  rw [mk_app, mk_app, List.append_assoc]; rfl
theorem arg2 {X : List Nat} (t : Int) : (("'" : Str) ++ mk X ++ "'") ++ mk (tailC t) = mk (39 :: (X ++ 39 :: tailC t)) := by
  show ((mk [39] ++ mk X) ++ mk [39]) ++ mk (tailC t) = _
  rw [mk_app, mk_app, mk_app, List.append_assoc, List.append_assoc]; rfl
theorem arg3 {X : List Nat} (t : Int) : (mk X ++ "'") ++ mk (keyC t) = mk (X ++ 39 :: keyC t) := by
  show (mk X ++ mk [39]) ++ mk (keyC t) = _
  rw [mk_app, mk_app, List.append_assoc]; rfl
section
variable {X : List Nat} {t : Int}
theorem tri1 {C : Cx} {σ : List Ent} {p1 p2 p3 p4 p5 : Pos} {c : Nat} (hX : X.length ≤ 1000) (h : Look "text" (.val (.str (mk X))) σ) (h2 : Look "tail" (.val (.str (mk (tailC t)))) σ) : Tri prog w H C σ (.BinOp (.BinOp (.Name "text" p1) .Add (.Constant (.str "'") c p2) p3) .Add (.Name "tail" p4) p5) (.str (mk (X ++ 39 :: tailC t))) σ :=
  Tri.eq (Tri.bin (Tri.bin (Tri.name h) Tri.str (add_ss (by rw [mk_len]; exact hsz (Nat.le_trans (Nat.add_le_add_right hX 1) (by decide))))) (Tri.name h2) (add_ss (by rw [app_len, mk_len, mk_len, len_tail]; exact hsz (Nat.le_trans (Nat.add_le_add_right (Nat.add_le_add_right hX 1) 12) (by decide))))) (congrArg PyData.str (arg1 t))
theorem rf_told (G : LG prog w H kvs) (hX : X.length ≤ 1000) (hc : Cuts X t) : RF prog w H (.ref G.dec) 2 [.str (mk (X ++ 39 :: tailC t))] (told3 X t) := by
  have := rf_decode (prog := prog) (w := w) (y := mk (X ++ 39 :: tailC t)) G.f_dec G.g_tick G.b_len (by rw [mk_len, List.length_append, List.length_cons, len_tail]; lia) (by rw [hc.three]; show 2 < 3; lia) (by rw [hc.three]; show 3 ≤ 1000; lia)
  rw [hc.three] at this
  exact this
theorem law11 (G : LG prog w H kvs) (hX : X.length ≤ 1000) (hc : Cuts X t) (h : s.text = .val (.str (mk X))) (h2 : s.tail = .val (.str (mk (tailC t))))
    (k : TriB prog w H (LC pm cd doc L f A) ({ s with told := .own (told3 X t) } : LS).σ (LB.drop 11) P) : TriB prog w H (LC pm cd doc L f A) s.σ (LB.drop 10) P :=
  TriB.next (TriN.assignF (TriF.callF gl_decode_rfc2231 G.g_dec G.f_dec.is (TriL.cons (tri1 hX (h ▸ s.l_text) (h2 ▸ s.l_tail)) .nil) (rf_told G hX hc) (by show 2 ≤ 20; lia)) (s.u_told _) (.inl rfl)) k
set_option maxHeartbeats 2000000 in
theorem law12 (G : LG prog w H kvs) (hX : X.length ≤ 1000) (hc : Cuts X t) (hok : OkS (mk X)) (h : s.text = .val (.str (mk X))) (h2 : s.tail = .val (.str (mk (tailC t)))) (h3 : s.key = .val (.str (mk (keyC t)))) (h4 : s.told = .own (told3 X t))
    (k : ∀ as, Asks as → as.length ≤ 2 → TriB prog w H (LC pm cd doc L f A) ({ s with asked := .own as } : LS).σ (LB.drop 12) P) : TriB prog w H (LC pm cd doc L f A) s.σ (LB.drop 11) P := by
  have hr := rf_decode (prog := prog) (w := w) (y := mk (39 :: (X ++ 39 :: tailC t))) G.f_dec G.g_tick G.b_len (by rw [mk_len, List.length_cons, List.length_append, List.length_cons, len_tail]; lia) (by rw [hc.front]; show 2 < 3; lia) (by rw [hc.front]; show 3 ≤ 1000; lia)
  rw [hc.front] at hr
  have hk := ok_mk (key_lt t)
  have ht := ok_mk (tail_lt t)
  have hi : OkS (mk itsC) := ok_mk (by decide)
  have he : OkS "" := ok_mk (l := []) (by decide)
  refine TriB.next (TriN.assignOwn (ds := [.tuple [.list (told3 X t), .list [.str (mk X), .str (mk (keyC t)), .str (mk itsC)]], .tuple [.list (encS [("" : Str), mk X, mk (tailC t)]), .list [.str "", .str (mk X), .str (mk (tailC t))]]]) (TriL.cons (Tri.tuple (TriL.cons (TriF.val (TriF.listOwn gl_list G.b_list (h4 ▸ s.m_told) (.own _) (hsz (show 3 ≤ 100000 by decide)))) (TriL.cons (Tri.list (TriL.cons (Tri.nm s.l_text h) (TriL.cons (Tri.nm s.l_key h3) (TriL.cons Tri.str .nil))) (by show 3 ≤ sizeLine; decide)) .nil)) (by show 2 ≤ sizeLine; decide))
    (TriL.cons (Tri.tuple (TriL.cons (Tri.callF gl_decode_rfc2231 G.g_dec G.f_dec.is (TriL.cons (Tri.eq (Tri.bin (Tri.bin (Tri.bin Tri.str (Tri.nm s.l_text h) (add_ss ?_)) Tri.str (add_ss ?_)) (Tri.nm s.l_tail h2) (add_ss ?_)) (congrArg PyData.str (arg2 t))) .nil) hr.rc (by show 2 ≤ 20; lia)) (TriL.cons (Tri.list (TriL.cons Tri.str (TriL.cons (Tri.nm s.l_text h) (TriL.cons (Tri.nm s.l_tail h2) .nil))) (by show 3 ≤ sizeLine; decide)) .nil)) (by show 2 ≤ sizeLine; decide)) .nil)) (s.u_asked _) (.inl rfl) (by show 2 ≤ sizeLine; decide)) (k _ ?_ (by show 2 ≤ 2; lia))
  · rw [mk_len]; exact hsz (Nat.le_trans (Nat.add_le_add_left hX 1) (by decide))
  · rw [app_len, mk_len]; exact hsz (Nat.le_trans (Nat.add_le_add_right (Nat.add_le_add_left hX 1) 1) (by decide))
  · rw [app_len, app_len, mk_len, mk_len, len_tail]; exact hsz (Nat.le_trans (Nat.add_le_add_right (Nat.add_le_add_right (Nat.add_le_add_left hX 1) 1) 12) (by decide))
  · refine Asks.two (Ask.mk (n := 1) rfl (Dat.encS fun y hy => ?_)) (Ask.mk (n := 1) rfl (Dat.encS fun y hy => ?_))
    · simp at hy; rcases hy with rfl | rfl | rfl <;> assumption
    · simp at hy; rcases hy with rfl | rfl | rfl <;> assumption
set_option maxHeartbeats 2000000 in
theorem law13 (G : LG prog w H kvs) {as : List PyData} (hX : X.length ≤ 1000) (hc : Cuts X t) (hok : OkS (mk X)) (hok2 : OkS (mk (X ++ 39 :: keyC t))) (has : Asks as) (hl : as.length ≤ 1000) (h : s.text = .val (.str (mk X))) (h3 : s.key = .val (.str (mk (keyC t)))) (h4 : s.asked = .own as)
    (k : ∀ bs, Asks bs → bs.length ≤ as.length + 2 → TriB prog w H (LC pm cd doc L f A) ({ s with asked := .own bs } : LS).σ (LB.drop 13) P) : TriB prog w H (LC pm cd doc L f A) s.σ (LB.drop 12) P := by
  have h1 : ∀ y ∈ [mk X, mk (X ++ 39 :: keyC t)], y.length + 2 ≤ 2 ^ 20 ∧ (Txt.splitMax y "'" 2).length ≤ 2 ∧ OkS y := fun y hy => by
    simp at hy
    rcases hy with rfl | rfl
    · exact ⟨by rw [mk_len]; lia, hc.one, hok⟩
    · exact ⟨by rw [mk_len, List.length_append, List.length_cons, key_len]; lia, hc.two, hok2⟩
  refine TriB.next (TriN.extend (σ₁ := s.σ) (ds := as) (es := (encS [mk X, mk (X ++ 39 :: keyC t)]).flatMap oneG) ?_ (h4 ▸ s.m_asked) (.own _) (s.u_asked _) (hsz ?_) ⟨_, h4 ▸ s.m_asked, _, .own _⟩) (k _ (has.app ?_) ?_)
  · refine Tri.comp (tt := ttAny) ?_ (.inl ⟨_, _, rfl⟩) [] ["one"] ["decode_rfc2231"] (KidOk.of (by kernel_rfl)) (fun p hp => nomatch hp) oneG (fun L d hd => ?_) (fun L it D => rfl) (hsz (show 2 ≤ 100000 by decide))
    · exact ItE.list (Tri.list (TriL.cons (Tri.nm s.l_text h) (TriL.cons (Tri.eq (Tri.bin (Tri.bin (Tri.nm s.l_text h) Tri.str (add_ss (by rw [mk_len]; exact hsz (Nat.le_trans (Nat.add_le_add_right hX 1) (by decide))))) (Tri.nm s.l_key h3) (add_ss (by rw [app_len, mk_len, mk_len, key_len]; exact hsz (Nat.le_trans (Nat.add_le_add_right (Nat.add_le_add_right hX 1) 3) (by decide))))) (congrArg PyData.str (arg3 t))) .nil)) (by show 2 ≤ sizeLine; decide))
    · obtain ⟨y, hy, rfl⟩ := List.mem_map.mp hd
      have hy' := h1 y hy
      exact ⟨_, _, Asg.name .here (.inl rfl), .cons (.un _ _ _) .nil, TriI.nil, fun hb => EmitR.elt (Tri.tuple (TriL.cons (Tri.callF (by simp [kid]) G.g_dec G.f_dec.is (TriL.cons (Tri.name .here) .nil) (rc_decode G.f_dec G.g_tick G.b_len hy'.1 hy'.2.1) (by show 2 ≤ 20; lia)) (TriL.cons (Tri.tuple (TriL.cons Tri.cNone (TriL.cons Tri.cNone (TriL.cons (Tri.name .here) .nil))) (by show 3 ≤ sizeLine; decide)) .nil)) (by show 2 ≤ sizeLine; decide)), fun hb => nomatch hb⟩
  · show as.length + 2 ≤ _; lia
  · refine Asks.two (Ask.mk (n := 1) rfl (.tuple fun x hx => ?_)) (Ask.mk (n := 1) rfl (.tuple fun x hx => ?_))
    · simp at hx; rcases hx with rfl | rfl
      · exact .none
      · exact .str hok
    · simp at hx; rcases hx with rfl | rfl
      · exact .none
      · exact .str hok2
  · rw [List.length_append]; exact Nat.le_refl _
end
theorem law14 (G : LG prog w H kvs) {cs : List Int} {ps : List Pr} {t : Int} (hc : CellsOk cs) (hw : ∀ p ∈ ps, p.1.length ≤ 100 ∧ ∀ c ∈ p.1.cps.toList, SignC c) (hz : (numsR ps).length ≤ 1000) (hol : (octsR ps cs t).length ≤ 10000) (h1 : s.terms = .val (.list (encP ps))) (h2 : s.cells = .val (.list (encI cs))) (h3 : s.total = .val (.int t))
    (k : TriB prog w H (LC pm cd doc L f A) ({ s with tape := .itr false (encI (octsR ps cs t ++ [t.fmod 256])) } : LS).σ (LB.drop 14) P) : TriB prog w H (LC pm cd doc L f A) s.σ (LB.drop 13) P := by
  refine TriB.next (TriN.assignIter gl_iter G.b_iter (Tri.eq (Tri.bin (Tri.callF gl_law_octets G.g_octs G.f_octs.is (TriL.cons (Tri.nm s.l_terms h1) (TriL.cons (Tri.nm s.l_cells h2) (TriL.cons (Tri.nm s.l_total h3) .nil))) (rc_octets G.f_octs G.b_enumerate hc hw hz) (by show 4 ≤ 20; lia)) (Tri.list (TriL.cons (Tri.bin (Tri.nm s.l_total h3) Tri.int (mod_ii (by decide))) .nil) (by show 1 ≤ sizeLine; decide)) (add_ll (hsz ?_))) (congrArg PyData.list (encI_append (octsR ps cs t) [t.fmod 256]).symm)) (s.u_tape _) (.inl rfl)) k
  simp [encI]; lia
set_option maxHeartbeats 2000000 in
theorem law15 (G : LG prog w H kvs) {as : List PyData} {ps : List Pr} {X : List Nat} {t : Int} {oc : List Int} (hps : ps.length ≤ 10000) (h64 : ((sumK ps).filter fun p => p.2 != 0).length < 64) (hpo : ∀ p ∈ ps, OkS p.1) (hgo : tapeGo (mk (keyC t)) 41 (oc ++ [t.fmod 256]) "" [] = some (ps, [t.fmod 256])) (has : Asks as) (hl : as.length ≤ 1000)
    (h0 : s.tape = .itr false (encI (oc ++ [t.fmod 256]))) (h1 : s.terms = .val (.list (encP ps))) (h3 : s.total = .val (.int t)) (h5 : s.told = .own (told3 X t)) (h4 : s.asked = .own as)
    (k : ∀ bs, Asks bs → bs.length ≤ as.length + 2 → TriB prog w H (LC pm cd doc L f A) ({ s with tape := .un, asked := .own bs } : LS).σ (LB.drop 15) P) : TriB prog w H (LC pm cd doc L f A) s.σ (LB.drop 14) P := by
  obtain ⟨S0, S1, S2, S3, S4, S5, S6, S7, S8, S9, S10, S11, S12, S13, S14, S15, S16, S17, S18, S19, S20, S21, S22, S23, S24, S25, S26, S27, S28⟩ := s
  dsimp only at h0 h1 h3 h5 h4
  subst h0 h1 h3 h5 h4
  have hkl : (mk (keyC t)).length ≤ 5 := by rw [mk_len, key_len]; decide
  have hks : ∀ c ∈ (mk (keyC t)).cps.toList, SignC c := by rw [mk_list]; exact key_sign t
  refine TriB.next (TriN.extend (ds := as) (es := [.tuple [.list (encP (plainR ps)), .list (encP (plainR ps))], .tuple [.list (encI [t.fmod 256]), .list [.int (t.fmod 256)]]]) (Tri.list (TriL.cons (Tri.tuple (TriL.cons (Tri.callM (sl := .itr false (encI (oc ++ [t.fmod 256]))) (sl' := .itr false (encI [t.fmod 256])) gl_law_taped G.g_taped G.f_taped.is (.tail _ (.tail _ (.tail _ (.tail _ (.tail _ (.tail _ (.tail _ (.tail _ (.tail _ (.tail _ (.tail _ (.tail _ (.tail _ (.head _)))))))))))))) (.itr false _ _) (.t4 (.t4 (.t4 (.there .here)))) (TriLM.here (.tail _ (.tail _ (.tail _ (.tail _ (.tail _ (.tail _ (.tail _ (.tail _ (.tail _ (.tail _ (.tail _ (.tail _ (.tail _ (.head _)))))))))))))) rfl (TriL.cons (Tri.itemOwn (d := .str (mk (keyC t))) (.tail _ (.tail _ (.tail _ (.tail _ (.tail _ (.tail _ (.tail _ (.tail _ (.tail _ (.tail _ (.tail _ (.head _)))))))))))) (.own _) Tri.int (by decide) (by decide) rfl) .nil))
      (rm_taped G.f_taped G.b_range G.b_isinstance G.b_int G.f_var G.g_var G.b_next G.f_eof G.g_eof G.g_end G.f_plain G.g_plain G.b_sorted G.f_non G.g_non G.f_term G.g_term G.g_nt G.g_ex G.ex hkl hks hgo) (by show 4 ≤ 20; lia)) (TriL.cons (Tri.callF gl_law_plain G.g_plain G.f_plain.is (TriL.cons (Tri.name (.t4 (.there (.there .here)))) .nil) (rc_plain G.f_plain G.b_sorted hps h64) (by show 2 ≤ 20; lia)) .nil)) (by show 2 ≤ sizeLine; decide))
    (TriL.cons (Tri.tuple (TriL.cons (Tri.listIt gl_list G.b_list (.tail _ (.tail _ (.tail _ (.tail _ (.tail _ (.tail _ (.tail _ (.tail _ (.tail _ (.tail _ (.tail _ (.tail _ (.tail _ (.head _)))))))))))))) (.t4 (.t4 (.t4 (.there .here)))) (hsz (show 1 ≤ 100000 by decide))) (TriL.cons (Tri.list (TriL.cons (Tri.bin (Tri.name (.there (.there .here))) Tri.int (mod_ii (by decide))) .nil) (by show 1 ≤ sizeLine; decide)) .nil)) (by show 2 ≤ sizeLine; decide)) .nil)) (by show 2 ≤ sizeLine; decide)) (.tail _ (.tail _ (.tail _ (.tail _ (.tail _ (.tail _ (.tail _ (.tail _ (.tail _ (.tail _ (.tail _ (.tail _ (.head _))))))))))))) (.own _) (.t4 (.t4 (.t4 .here))) (hsz (show as.length + 2 ≤ _ by lia)) ⟨_, (.tail _ (.tail _ (.tail _ (.tail _ (.tail _ (.tail _ (.tail _ (.tail _ (.tail _ (.tail _ (.tail _ (.tail _ (.head _))))))))))))), _, .own _⟩) (k _ (has.app (Asks.two (Ask.mk (n := 2) rfl (Dat.encP fun p hp => ?_)) (Ask.mk (n := 1) rfl Dat.encI))) (by rw [List.length_append]; exact Nat.le_refl _))
  obtain ⟨q, hq, he⟩ := List.mem_map.mp (plain_key ps p hp)
  rw [← he]; exact hpo q hq
set_option maxHeartbeats 2000000 in
theorem law16 (G : LG prog w H kvs) (k : TriB prog w H (LC pm cd doc L f A) ({ s with tests := .val (.list tests9) } : LS).σ (LB.drop 16) P) : TriB prog w H (LC pm cd doc L f A) s.σ (LB.drop 15) P := by
  have hall : (encI [0, 255, 256]).flatMap testG = tests9 := rfl
  refine TriB.next (TriN.assignComp (ds := encI [0, 255, 256]) (ItE.list (Tri.list (TriL.cons Tri.int (TriL.cons Tri.int (TriL.cons Tri.int .nil))) (by show 3 ≤ sizeLine; decide))) (.inl ⟨_, _, rfl⟩) [] ["number", "test"] ["ISTERMINAL", "ISNONTERMINAL", "ISEOF"] (KidOk.of (by kernel_rfl)) (fun p hp => nomatch hp) testG (fun L d hd => ?_) (fun L => TurnEq.two) (hsz (show 9 ≤ 100000 by decide)) (s.u_tests (.val (.list tests9))) (.inl rfl) (by rfl)) k
  obtain ⟨n, hn, rfl⟩ := List.mem_map.mp hd
  refine ⟨_, _, Asg.name .here (.inl rfl), .cons (.un _ _ _) (.cons (.same _) .nil), TriI.nil, fun hb => ?_, fun hb => nomatch hb⟩
  have e := idG_all (testG (.int n))
  rw [← e]
  refine EmitR.nest (tt := ttAny) ?_ (.inl ⟨_, _, rfl⟩) idG (fun d hd => ?_) (fun it D => rfl) rfl
  · exact ItE.list (Tri.list (TriL.cons (Tri.callF (by simp [kid]) G.g_term G.f_term.is (TriL.cons (Tri.name .here) .nil) (rc_isterminal G.f_term G.g_nt) (by show 1 ≤ 20; lia)) (TriL.cons (Tri.callF (by simp [kid]) G.g_non G.f_non.is (TriL.cons (Tri.name .here) .nil) (rc_isnonterminal G.f_non G.g_nt) (by show 1 ≤ 20; lia)) (TriL.cons (Tri.callF (by simp [kid]) G.g_eof G.f_eof.is (TriL.cons (Tri.name .here) .nil) (rc_iseof G.f_eof G.g_end) (by show 1 ≤ 20; lia)) .nil))) (by show 3 ≤ sizeLine; decide))
  · exact ⟨_, _, Asg.name (.there .here) (.inl rfl), .cons (.same _) (.cons (.un _ _ _) .nil), TriI.nil, fun hb => EmitR.elt (Tri.name (.there .here)), fun hb => nomatch hb⟩
set_option maxHeartbeats 2000000 in
theorem law17 (G : LG prog w H kvs) {as : List PyData} (has : Asks as) (hl : as.length ≤ 1000) (h1 : s.tests = .val (.list tests9)) (h4 : s.asked = .own as)
    (k : ∀ bs, Asks bs → bs.length ≤ as.length + 1 → TriB prog w H (LC pm cd doc L f A) ({ s with asked := .own bs } : LS).σ (LB.drop 17) P) : TriB prog w H (LC pm cd doc L f A) s.σ (LB.drop 16) P := by
  refine TriB.next (TriN.append (σ₁ := s.σ) (ds := as) (d := .tuple [.list (tests9.flatMap itrue ++ tests9), .list ((List.replicate 9 [PyData.bool true]).flatten ++ tests9)]) (Tri.tuple (TriL.cons (Tri.bin (da := .list (tests9.flatMap itrue)) ?_ (Tri.nm s.l_tests h1) (add_ll (hsz (show 18 ≤ 100000 by decide)))) (TriL.cons (Tri.bin (Tri.bin (Tri.list (TriL.cons Tri.bool .nil) (by show 1 ≤ sizeLine; decide)) Tri.int (mul_li (by decide) (by decide) (by decide))) (Tri.list (TriL.cons Tri.bool (TriL.cons Tri.bool (TriL.cons Tri.bool (TriL.cons Tri.bool (TriL.cons Tri.bool (TriL.cons Tri.bool (TriL.cons Tri.bool (TriL.cons Tri.bool (TriL.cons Tri.bool .nil))))))))) (by show 9 ≤ sizeLine; decide)) (add_ll (hsz (show 18 ≤ 100000 by decide)))) .nil)) (by show 2 ≤ sizeLine; decide)) (h4 ▸ s.m_asked) (.own _) (s.u_asked _) (hsz (by lia)) ⟨_, h4 ▸ s.m_asked, _, .own _⟩) (k _ (has.app (Asks.one (Ask.mk (n := 1) rfl (.list fun x hx => ?_)))) (by rw [List.length_append]; exact Nat.le_refl _))
  · refine Tri.comp (tt := ttAny) ?_ (.inl ⟨_, _, rfl⟩) [] ["test"] ["isinstance", "bool"] (KidOk.of (by kernel_rfl)) (fun p hp => nomatch hp) itrue (fun L d hd => ?_) (fun L it D => rfl) (hsz (show 9 ≤ 100000 by decide))
    · exact ItE.list (Tri.nm s.l_tests h1)
    · have : ∃ b, d = .bool b := by
        obtain ⟨b, _, rfl⟩ := List.mem_map.mp hd
        exact ⟨b, rfl⟩
      obtain ⟨b, rfl⟩ := this
      exact ⟨_, _, Asg.name .here (.inl rfl), .cons (.un _ _ _) .nil, TriI.nil, fun hb => EmitR.elt (Tri.isinst (by simp [kid]) G.b_isinstance (by simp [kid]) G.b_bool (Tri.name .here) (.inr ⟨_, rfl, rfl⟩)), fun hb => nomatch hb⟩
  · have : tests9.flatMap itrue ++ tests9 = ([true, true, true, true, true, true, true, true, true] ++ [true, false, true, true, false, false, false, true, false]).map PyData.bool := rfl
    rw [this] at hx
    obtain ⟨b, _, rfl⟩ := List.mem_map.mp hx
    exact .bool b
end
end Mine

end
noncomputable section
open PySem PySem.W PyProof.Rows
set_option maxRecDepth 100000
set_option autoImplicit false
namespace Mine
/-! shorn of quotation marks -/
theorem slice1 {l : List Nat} (h : 1 ≤ l.length) : Txt.slice (mk l) none (some 1) = mk (l.take 1) := by
  rw [← mk_eta (Txt.slice _ _ _)]
  congr 1
  have := slice_to (y := mk l) (b := 1) (by rw [mk_len]; exact h)
  rw [mk_list] at this
  exact this
theorem slice_end {l : List Nat} (h : 1 ≤ l.length) : Txt.slice (mk l) (some (-1)) none = mk (l.drop (l.length - 1)) := by
  rw [← mk_eta (Txt.slice _ _ _)]
  congr 1
  have := slice_gen (y := mk l) (l := some (-1)) (u := none) (a := (mk l).length - 1) (b := (mk l).length) (bd_last (by rw [mk_len]; exact h)) (Nat.le_refl _)
  rw [mk_list, mk_len, List.take_length] at this
  exact this
noncomputable def shS (y : Str) : Str := if (Txt.slice y none (some 1) == ("\"" : Str)) = true then Txt.slice y (some (-1)) none else y
noncomputable def shG : PyData → List PyData
  | .str y => [.str (shS y)]
  | _ => []
theorem shS_tx {u : Un} (h : UnOk u) : shS (tx u) = tx (sk u) := by
  have hl : 1 ≤ (uc u).length := by unfold uc; rw [List.length_append]; simp
  unfold shS tx
  rw [slice1 hl, slice_end hl]
  obtain ⟨k, c⟩ := u
  obtain ⟨h1, h2⟩ := h
  have hc := h2.ne.1
  dsimp only at h1 hc
  have hk : k = 0 ∨ k = 1 ∨ k = 2 ∨ k = 3 ∨ k = 4 ∨ k = 5 ∨ k = 6 := by lia
  have e0 : ((⟨#[c]⟩ : Str) == ("\"" : Str)) = false := by
    rw [show ("\"" : Str) = ⟨#[34]⟩ from rfl, one_eq]
    simpa using hc
  rcases hk with rfl | rfl | rfl | rfl | rfl | rfl | rfl
  · exact if_neg (by rw [show mk ((uc (0, c)).take 1) = ⟨#[c]⟩ from rfl, e0]; simp)
  · exact if_neg (by rw [show mk ((uc (1, c)).take 1) = ⟨#[92]⟩ from rfl]; decide)
  · exact if_pos (by rw [show mk ((uc (2, c)).take 1) = ⟨#[34]⟩ from rfl]; decide)
  · exact if_neg (by rw [show mk ((uc (3, c)).take 1) = ⟨#[92]⟩ from rfl]; decide)
  · exact if_pos (by rw [show mk ((uc (4, c)).take 1) = ⟨#[34]⟩ from rfl]; decide)
  · exact if_neg (by rw [show mk ((uc (5, c)).take 1) = ⟨#[97]⟩ from rfl]; decide)
  · exact if_pos (by rw [show mk ((uc (6, c)).take 1) = ⟨#[34]⟩ from rfl]; decide)
theorem shG_all : ∀ us : List Un, (∀ u ∈ us, UnOk u) → (encU us).flatMap shG = encU (us.map sk)
  | [], _ => rfl
  | u :: us, h => by
    rw [show encU (u :: us) = .str (tx u) :: encU us from rfl, List.flatMap_cons, shG_all us fun v hv => h v (.tail _ hv)]
    show [PyData.str (shS (tx u))] ++ _ = _
    rw [shS_tx (h u (.head _))]; rfl
theorem encU_append (a b : List Un) : encU (a ++ b) = encU a ++ encU b := by simp [encU, encS]
theorem encL_append (a b : List Nat) : encL (a ++ b) = encL a ++ encL b := by simp [encL, encS, chL]
noncomputable def bs : Un := (0, 92)
/-! the signs found, with their places -/
noncomputable def foundL : List Un → Nat → List (Int × Str)
  | [], _ => []
  | u :: us, o => (((o + (pcN u.1).length : Nat) : Int), ⟨#[u.2]⟩) :: foundL us (o + (uc u).length)
theorem foundL_app : ∀ (a b : List Un) (o : Nat), foundL (a ++ b) o = foundL a o ++ foundL b (o + (ucs a).length)
  | [], b, o => rfl
  | u :: a, b, o => by
    show _ :: foundL (a ++ b) _ = _ :: (foundL a _ ++ _)
    rw [foundL_app a b, ucs_cons, List.length_append, Nat.add_assoc]
noncomputable def pairG (kvs : List (Str × Int)) : PyData → List PyData
  | .tuple [.int p, .str c] => if ((getK kvs c).isSome || c == ("\\" : Str)) = true then [.tuple [.int p, .str c]] else []
  | _ => []
theorem sg_get {kvs : List (Str × Int)} (hx : ExOk kvs) {c : Nat} (h : SgC c) : (getK kvs ⟨#[c]⟩).isSome = true := by
  rcases h with rfl | rfl | rfl | rfl | rfl | h
  · exact Option.isSome_iff_exists.mpr ⟨_, hx.lpar⟩
  · exact Option.isSome_iff_exists.mpr ⟨_, hx.rpar⟩
  · exact Option.isSome_iff_exists.mpr ⟨_, hx.star⟩
  · exact Option.isSome_iff_exists.mpr ⟨_, hx.plus⟩
  · exact Option.isSome_iff_exists.mpr ⟨_, hx.minus⟩
  · exact Option.isSome_iff_exists.mpr ⟨_, hx.sign c h⟩
theorem encIS_append (a b : List (Int × Str)) : encIS (a ++ b) = encIS a ++ encIS b := by simp [encIS]
theorem pair_no {kvs : List (Str × Int)} {c : Str} {p : Int} (h1 : getK kvs c = none) (h2 : (c == ("\\" : Str)) = false) : pairG kvs (.tuple [.int p, .str c]) = [] := by
  show (if ((getK kvs c).isSome || c == ("\\" : Str)) = true then _ else _) = _
  rw [h1, h2]; rfl
theorem pair_unit {kvs : List (Str × Int)} (hx : ExOk kvs) {u : Un} (hu : UnOk u) (hs : stripped u.1) (o : Nat) : (encIS (utk u o)).flatMap (pairG kvs) = encIS [(((o + (pcN u.1).length : Nat) : Int), ⟨#[u.2]⟩)] := by
  have last : ∀ p : Int, pairG kvs (.tuple [.int p, .str ⟨#[u.2]⟩]) = [.tuple [.int p, .str ⟨#[u.2]⟩]] := fun p => by
    show (if ((getK kvs ⟨#[u.2]⟩).isSome || _) = true then _ else _) = _
    rw [sg_get hx hu.2]; rfl
  obtain ⟨k, c⟩ := u
  dsimp only [stripped] at hs
  rcases hs with rfl | rfl | rfl | rfl
  · show pairG kvs (.tuple [_, _]) ++ [] = _
    rw [last]; rfl
  · show pairG kvs (.tuple [.int _, .str "\\("]) ++ (pairG kvs (.tuple [.int _, .str ⟨#[c]⟩]) ++ []) = _
    rw [pair_no hx.no1 (by decide), last]; rfl
  · show pairG kvs (.tuple [.int _, .str "\\\\"]) ++ (pairG kvs (.tuple [.int _, .str ⟨#[c]⟩]) ++ []) = _
    rw [pair_no hx.no2 (by decide), last]; rfl
  · show pairG kvs (.tuple [.int _, .str "a"]) ++ (pairG kvs (.tuple [.int _, .str "\\\""]) ++ (pairG kvs (.tuple [.int _, .str ⟨#[c]⟩]) ++ [])) = _
    rw [pair_no hx.no4 (by decide), pair_no hx.no3 (by decide), last]; rfl
theorem pair_units {kvs : List (Str × Int)} (hx : ExOk kvs) : ∀ (us : List Un) (o : Nat), (∀ u ∈ us, UnOk u ∧ stripped u.1) → (encIS (utks us o)).flatMap (pairG kvs) = encIS (foundL us o)
  | [], o, _ => rfl
  | u :: us, o, h => by
    show (encIS (utk u o ++ utks us (o + (uc u).length))).flatMap (pairG kvs) = encIS ([_] ++ foundL us (o + (uc u).length))
    rw [encIS_append, List.flatMap_append, pair_unit hx (h u (.head _)).1 (h u (.head _)).2, pair_units hx us _ fun v hv => h v (.tail _ hv), encIS_append]
theorem pair_all {kvs : List (Str × Int)} (hx : ExOk kvs) {vs : List Un} (h : ∀ u ∈ vs, UnOk u ∧ stripped u.1) : (encIS (escO ((chS (mk (ucs vs ++ [92]))).zipIdx) 0 false)).flatMap (pairG kvs) = encIS (foundL (vs ++ [bs]) 0) := by
  rw [esc_all' vs fun v hv => (h v hv).1, encIS_append, List.flatMap_append, pair_units hx vs 0 h, foundL_app, encIS_append]
  congr 1
  show pairG kvs (.tuple [.int _, .str "\\"]) ++ [] = _
  rw [show pairG kvs (.tuple [.int (((ucs vs).length : Nat) : Int), .str "\\"]) = [.tuple [.int (((ucs vs).length : Nat) : Int), .str "\\"]] from if_pos (by rw [Bool.or_eq_true]; exact .inr (by decide))]
  show _ = [PyData.tuple [.int (((0 + (ucs vs).length + 0 : Nat)) : Int), .str "\\"]]
  simp
noncomputable def lenG (ws : List Un) : PyData → List PyData
  | .tuple [.int k, .str c] => [.tuple [.int (((Txt.join "" ((ws.take (k + 1).toNat).map tx)).length : Nat) - 1), .str c]]
  | _ => []
theorem lenG_all : ∀ (b a : List Un), (enumS ((b.map (·.2)).zipIdx a.length)).flatMap (lenG (a ++ b)) = encIS (foundL b (ucs a).length)
  | [], a => rfl
  | u :: b, a => by
    have ih := lenG_all b (a ++ [u])
    rw [List.append_assoc, List.singleton_append] at ih
    have e1 : (ucs (a ++ [u])).length = (ucs a).length + (uc u).length := by
      unfold ucs; rw [List.flatMap_append, List.length_append]; simp
    rw [List.length_append, List.length_singleton, e1] at ih
    show lenG (a ++ u :: b) (.tuple [.int ((a.length : Nat) : Int), .str ⟨#[u.2]⟩]) ++ (enumS ((b.map (·.2)).zipIdx (a.length + 1))).flatMap (lenG (a ++ u :: b)) = encIS ([_] ++ foundL b _)
    rw [ih, encIS_append]
    congr 1
    show [PyData.tuple [.int (((Txt.join "" (((a ++ u :: b).take (((a.length : Nat) : Int) + 1).toNat).map tx)).length : Nat) - 1), .str ⟨#[u.2]⟩]] = [PyData.tuple [.int (((ucs a).length + (pcN u.1).length : Nat) : Int), .str ⟨#[u.2]⟩]]
    have e2 : (a ++ u :: b).take (((a.length : Nat) : Int) + 1).toNat = a ++ [u] := by
      rw [show (((a.length : Nat) : Int) + 1).toNat = a.length + 1 from by lia, List.take_append, List.take_of_length_le (by lia)]
      simp
    rw [e2, join_tx, mk_len, e1]
    have e3 : (uc u).length = (pcN u.1).length + 1 := by unfold uc; rw [List.length_append]; rfl
    rw [e3]
    congr 4
    lia
theorem bd_him {n : Nat} (hn : 1 ≤ n) : sliceBounds none (some (-1)) none n = (((0 : Nat) : Int), ((n - 1 : Nat) : Int), 1) := by
  simp only [sliceBounds, Option.getD_none, if_pos (show (1 : Int) > 0 by decide)]
  rw [if_pos (by decide)]
  refine Prod.ext rfl (Prod.ext ?_ rfl)
  dsimp only
  lia
theorem pick_init {α : Type} {ds : List α} (hn : 1 ≤ ds.length) : pickL none (some (-1)) none ds = ds.take (ds.length - 1) := by
  rw [pick_gen (bd_him hn) (by lia), List.drop_zero]
noncomputable def readG : PyData → List PyData
  | .tuple [.int _, .str c] => [.str c]
  | _ => []
theorem foundL_snd : ∀ (us : List Un) (o : Nat), (encIS (foundL us o)).flatMap readG = encL (us.map (·.2))
  | [], _ => rfl
  | u :: us, o => by
    show [PyData.str ⟨#[u.2]⟩] ++ (encIS (foundL us _)).flatMap readG = _
    rw [foundL_snd us]; rfl
theorem foundL_len : ∀ (us : List Un) (o : Nat), (foundL us o).length = us.length
  | [], _ => rfl
  | u :: us, o => by show (foundL us _).length + 1 = _; rw [foundL_len us]; rfl
theorem found_ok : ∀ (us : List Un) (o : Nat), (∀ u ∈ us, u.2 < 1114112) → ∀ x ∈ encIS (foundL us o), Dat 1 x
  | [], _, _, x, hx => nomatch hx
  | u :: us, o, h, x, hx => by
    rcases List.mem_cons.mp hx with rfl | hx
    · refine Dat.pair (.int _) (.str (ok_mk (l := [u.2]) fun c hc => ?_))
      rw [List.mem_singleton.mp hc]; exact h u (.head _)
    · exact found_ok us _ (fun v hv => h v (.tail _ hv)) x hx
section
variable {prog : Program} {w : World} {H : Heap} {kvs : List (Str × Int)} {pm cd doc : Value} {L f : Addr} {A : Around} {P : Fl → List Ent → Prop} (s : LS)
variable {us : List Un} {t : Int}
theorem sk_all (hu : ∀ u ∈ us, UnOk u) : ∀ v ∈ us.map sk, UnOk v ∧ stripped v.1 := fun v hv => by
  obtain ⟨u, h, rfl⟩ := List.mem_map.mp hv
  exact ⟨(hu u h).sk, sk_stripped (hu u h)⟩
theorem law18 (hu : ∀ u ∈ us, UnOk u) (hl : us.length ≤ 50) (h : s.texts = .val (.list (encU us)))
    (k : TriB prog w H (LC pm cd doc L f A) ({ s with shorn := .val (.list (encU (us.map sk ++ [bs]))) } : LS).σ (LB.drop 18) P) : TriB prog w H (LC pm cd doc L f A) s.σ (LB.drop 17) P := by
  refine TriB.next (TriN.assign (σ₁ := s.σ) (d := .list (encU (us.map sk ++ [bs]))) ?_ (s.u_shorn _) (.inr rfl)) k
  rw [encU_append]
  refine Tri.bin (da := .list (encU (us.map sk))) (σ₁ := s.σ) ?_ (Tri.list (TriL.cons Tri.str .nil) (by show 1 ≤ sizeLine; decide)) (add_ll (hsz (by rw [encU_len, List.length_map]; show us.length + 1 ≤ _; lia)))
  rw [← shG_all us hu]
  refine Tri.comp (tt := ttAny) ?_ (.inl ⟨_, _, rfl⟩) [] ["one"] [] (KidOk.of (by kernel_rfl)) (fun p hp => nomatch hp) shG (fun L d hd => ?_) (fun L it D => rfl) (hsz (by rw [shG_all us hu, encU_len, List.length_map]; lia))
  · exact ItE.list (Tri.nm s.l_texts h)
  · obtain ⟨y, hy, rfl⟩ := List.mem_map.mp hd
    obtain ⟨u, hum, rfl⟩ := List.mem_map.mp hy
    have hyl : (tx u).length ≤ sizeLine := by unfold tx; rw [mk_len]; exact hsz (Nat.le_trans (uc_len u) (by decide))
    refine ⟨_, _, Asg.name .here (.inl rfl), .cons (.un _ _ _) .nil, TriI.nil, fun hb => EmitR.elt (y := .str (shS (tx u))) ?_, fun hb => nomatch hb⟩
    refine Tri.ite (TriT.cmp (Tri.sliceS (Tri.name .here) ⟨rfl, rfl⟩ ⟨_, rfl, Tri.int⟩ hyl) Tri.str eq_ss) (fun hb => ?_) fun hb => ?_
    · unfold shS
      rw [if_pos hb]
      exact Tri.sliceS (Tri.name .here) ⟨_, rfl, Tri.una Tri.int neg_i⟩ ⟨rfl, rfl⟩ hyl
    · unfold shS
      rw [if_neg (by rw [hb]; simp)]
      exact Tri.name .here
theorem law19 (G : LG prog w H kvs) (hu : ∀ u ∈ us, UnOk u) (hl : us.length ≤ 50) (h : s.told = .own (told3 (ucs us) t))
    (k : TriB prog w H (LC pm cd doc L f A) ({ s with left := .val (.str (mk (ucs (us.map sk)))) } : LS).σ (LB.drop 19) P) : TriB prog w H (LC pm cd doc L f A) s.σ (LB.drop 18) P := by
  have hr := rc_strip (prog := prog) (w := w) (y := mk (ucs us)) G.f_strip G.f_esc G.g_esc G.b_enumerate G.b_len (by rw [mk_len]; exact Nat.le_trans (ucs_len us) (by lia))
  rw [strip_all hu] at hr
  exact TriB.next (TriN.assign (Tri.callF gl_strip_quoted_realnames G.g_strip G.f_strip.is (TriL.cons (Tri.itemOwn (h ▸ s.m_told) (.own _) Tri.int (by decide) (by decide) rfl) .nil) hr (by show 7 ≤ 20; lia)) (s.u_left _) (.inl rfl)) k
set_option maxHeartbeats 2000000 in
theorem law20 (G : LG prog w H kvs) (hu : ∀ u ∈ us, UnOk u) (hl : us.length ≤ 50) (h : s.left = .val (.str (mk (ucs (us.map sk)))))
    (k : TriB prog w H (LC pm cd doc L f A) ({ s with found := .val (.list (encIS (foundL (us.map sk ++ [bs]) 0))) } : LS).σ (LB.drop 20) P) : TriB prog w H (LC pm cd doc L f A) s.σ (LB.drop 19) P := by
  have hall := pair_all G.ex (sk_all hu)
  refine TriB.next (TriN.assignComp (σ₁ := s.σ) (tt := ttAny) (ds := encIS (escO ((chS (mk (ucs (us.map sk) ++ [92]))).zipIdx) 0 false)) ?_ (.inl ⟨_, _, rfl⟩) [] ["pair"] ["EXACT_TOKEN_TYPES"] (KidOk.of (by kernel_rfl)) (fun p hp => nomatch hp) (pairG kvs) (fun L d hd => ?_) (fun L it D => rfl) ?_ (by rw [hall]; exact s.u_found _) (.inl rfl) (by rfl)) k
  · refine ItE.escs gl_iter_escaped_chars G.g_esc G.f_esc G.b_enumerate (Tri.eq (Tri.bin (Tri.nm s.l_left h) Tri.str (add_ss ?_)) (congrArg PyData.str (mk_app _ [92]))) (by show 5 ≤ 20; lia)
    rw [mk_len]
    have := ucs_len (us.map sk)
    rw [List.length_map] at this
    exact hsz (Nat.le_trans (Nat.add_le_add_right this 1) (by lia))
  · obtain ⟨q, hq, rfl⟩ := List.mem_map.mp hd
    obtain ⟨p, c⟩ := q
    refine ⟨_, _, Asg.name .here (.inl rfl), .cons (.un _ _ _) .nil, TriI.one (TriT.or2 (TriT.inG (by simp [kid]) G.g_ex (Tri.item (Tri.name .here) Tri.int (item_ti (by decide) (by decide) rfl))) (fun _ => TriT.cmp (Tri.item (Tri.name .here) Tri.int (item_ti (by decide) (by decide) rfl)) Tri.str eq_ss) (fun _ => rfl)), fun hb => ?_, fun hb => ?_⟩
    · show EmitR _ _ _ _ _ _ (if ((getK kvs c).isSome || c == ("\\" : Str)) = true then [.tuple [.int p, .str c]] else [])
      rw [if_pos hb]
      exact EmitR.elt (Tri.name .here)
    · show (if ((getK kvs c).isSome || c == ("\\" : Str)) = true then [PyData.tuple [.int p, .str c]] else []) = []
      rw [if_neg (by rw [hb]; simp)]
  · rw [hall]
    unfold encIS
    rw [List.length_map, foundL_len, List.length_append, List.length_map]
    exact hsz (show us.length + 1 ≤ _ by lia)
theorem bs_ucs (vs : List Un) : ucs (vs ++ [bs]) = ucs vs ++ [92] := by unfold ucs; rw [List.flatMap_append]; rfl
set_option maxHeartbeats 2000000 in
theorem law21 (G : LG prog w H kvs) {as : List PyData} {sg : List Nat} (has : Asks as) (hal : as.length ≤ 1000) (hu : ∀ u ∈ us, UnOk u) (hl : us.length ≤ 50) (hsg : us.map (·.2) = sg)
    (h1 : s.left = .val (.str (mk (ucs (us.map sk))))) (h2 : s.found = .val (.list (encIS (foundL (us.map sk ++ [bs]) 0)))) (h3 : s.shorn = .val (.list (encU (us.map sk ++ [bs])))) (h5 : s.signs = .val (.list (encL sg))) (h4 : s.asked = .own as)
    (k : ∀ bs, Asks bs → bs.length ≤ as.length + 1 → TriB prog w H (LC pm cd doc L f A) ({ s with asked := .own bs } : LS).σ (LB.drop 21) P) : TriB prog w H (LC pm cd doc L f A) s.σ (LB.drop 20) P := by
  have hsl : sg.length = us.length := by rw [← hsg, List.length_map]
  have hwl : (us.map sk ++ [bs]).length = us.length + 1 := by rw [List.length_append, List.length_map]; rfl
  have hwm : (us.map sk ++ [bs]).map (·.2) = sg ++ [92] := by
    rw [List.map_append, List.map_map, ← hsg]; rfl
  have hall := lenG_all (us.map sk ++ [bs]) []
  rw [hwm, List.nil_append, show ([] : List Un).length = 0 from rfl, show (ucs []).length = 0 from rfl] at hall
  have hul : (ucs (us.map sk)).length ≤ 300 := by
    have := ucs_len (us.map sk)
    rw [List.length_map] at this
    lia
  refine TriB.next (TriN.append (σ₁ := s.σ) (ds := as) (d := .tuple [.tuple [.str (mk (ucs (us.map sk) ++ [92])), .list (encIS (foundL (us.map sk ++ [bs]) 0))], .tuple [.str (Txt.join "" ((us.map sk ++ [bs]).map tx)), .list ((enumS ((sg ++ [92]).zipIdx)).flatMap (lenG (us.map sk ++ [bs])))]]) (Tri.tuple (TriL.cons (Tri.tuple (TriL.cons (Tri.eq (Tri.bin (Tri.nm s.l_left h1) Tri.str (add_ss ?_)) (congrArg PyData.str (mk_app _ [92]))) (TriL.cons (Tri.nm s.l_found h2) .nil)) (by show 2 ≤ sizeLine; decide)) (TriL.cons (Tri.tuple (TriL.cons (σ₁ := s.σ) ?_ (TriL.cons (σ₁ := s.σ) ?_ .nil)) (by show 2 ≤ sizeLine; decide)) .nil)) (by show 2 ≤ sizeLine; decide)) (h4 ▸ s.m_asked) (.own _) (s.u_asked _) (hsz (by lia)) ⟨_, h4 ▸ s.m_asked, _, .own _⟩) (k _ (has.app (Asks.one (Ask.mk (n := 3) ?_ ?_))) (by rw [List.length_append]; exact Nat.le_refl _))
  · rw [mk_len]; exact hsz (Nat.le_trans (Nat.add_le_add_right hul 1) (by decide))
  · refine Tri.join ?_ (tx_joinOk (by rw [hwl]; lia))
    exact Tri.nm s.l_shorn h3
  · refine Tri.comp (tt := ttTup) ?_ ⟨_, _, _, rfl⟩ [("shorn", .val (.list (encU (us.map sk ++ [bs]))))] ["k", "sign"] ["len"] (KidOk.of (by kernel_rfl)) (fun p hp => ?_) (lenG (us.map sk ++ [bs])) (fun L d hd => ?_) (fun L it D => rfl) ?_
    · rw [← enumS_eq]
      refine ItE.enumL gl_enumerate G.b_enumerate (Tri.eq (Tri.bin (Tri.nm s.l_signs h5) (Tri.list (TriL.cons Tri.str .nil) (by show 1 ≤ sizeLine; decide)) (add_ll (hsz ?_))) (congrArg PyData.list (encL_append sg [92]).symm))
      rw [encL_len]; show sg.length + 1 ≤ _; lia
    · simp at hp
      subst hp
      exact ⟨h3 ▸ s.m_shorn, rfl⟩
    · obtain ⟨q, hq, rfl⟩ := List.mem_map.mp hd
      obtain ⟨c, i⟩ := q
      have hi : i < us.length + 1 := by
        have := List.mem_zipIdx hq
        rw [List.length_append, hsl] at this
        have h := this.2.1
        simpa using h
      have e1 : pickL none (some ((i : Int) + 1)) none (encU (us.map sk ++ [bs])) = encS (((us.map sk ++ [bs]).take ((i : Int) + 1).toNat).map tx) := by
        have := pick_take (ds := encU (us.map sk ++ [bs])) (k := i + 1) (by rw [encU_len, hwl]; lia)
        rw [show (some ((i : Int) + 1)) = some (((i + 1 : Nat)) : Int) from rfl, this, encU_take]
        rfl
      have hul2 : (Txt.join "" (((us.map sk ++ [bs]).take ((i : Int) + 1).toNat).map tx)).length ≤ 1000 := by
        rw [join_tx, mk_len]
        refine Nat.le_trans (ucs_len _) ?_
        rw [List.length_take, hwl]; lia
      refine ⟨_, _, Asg.tuple (AsgL.cons (Asg.name (.there .here) (.inl rfl)) (AsgL.cons (Asg.name (.there (.there .here)) (.inl rfl)) .nil)), .cons (.same _) (.cons (.un _ _ _) (.cons (.un _ _ _) .nil)), TriI.nil, fun hb => EmitR.elt (Tri.tuple (TriL.cons (Tri.bin (Tri.callB (by simp [kid]) G.b_len (TriL.cons (d := .str (Txt.join "" (((us.map sk ++ [bs]).take ((i : Int) + 1).toNat).map tx))) ?_ .nil) (rc_len_s (by lia)) (Nat.zero_le _)) Tri.int sub_ii) (TriL.cons (Tri.name (.there (.there .here))) .nil)) (by show 2 ≤ sizeLine; decide)), fun hb => nomatch hb⟩
      refine Tri.join ?_ (tx_joinOk (by rw [List.length_take, hwl]; lia))
      rw [← e1]
      exact Tri.sliceL (Tri.name .here) ⟨rfl, rfl⟩ ⟨_, rfl, Tri.bin (Tri.name (.there .here)) Tri.int add_ii⟩ ⟨rfl, rfl⟩ (by decide) (hsz (by rw [encU_len, hwl]; lia)) ⟨_, fun _ _ => rfl⟩
    · rw [hall]; unfold encIS; rw [List.length_map, foundL_len, hwl]; exact hsz (by lia)
  · rw [hall, join_tx, bs_ucs]
  · refine .pair (.str (ok_mk fun c hc => ?_)) (.list fun x hx => found_ok _ _ (fun u hu' => ?_) x hx)
    · rcases List.mem_append.mp hc with hc | hc
      · exact Nat.lt_trans (ucs_lt (fun v hv => (sk_all hu v hv).1) c hc) (by decide)
      · rw [List.mem_singleton.mp hc]; decide
    · rcases List.mem_append.mp hu' with hu' | hu'
      · exact Nat.lt_trans (sk_all hu u hu').1.2.lt (by decide)
      · rw [List.mem_singleton.mp hu']; decide
theorem law22 {sg : List Nat} (hu : ∀ u ∈ us, UnOk u) (hl : us.length ≤ 50) (hsg : us.map (·.2) = sg) (h2 : s.found = .val (.list (encIS (foundL (us.map sk ++ [bs]) 0))))
    (k : TriB prog w H (LC pm cd doc L f A) ({ s with read := .val (.list (encL sg)) } : LS).σ (LB.drop 22) P) : TriB prog w H (LC pm cd doc L f A) s.σ (LB.drop 21) P := by
  have hwl : (encIS (foundL (us.map sk ++ [bs]) 0)).length = us.length + 1 := by unfold encIS; rw [List.length_map, foundL_len, List.length_append, List.length_map]; rfl
  have e1 : pickL none (some (-1)) none (encIS (foundL (us.map sk ++ [bs]) 0)) = encIS (foundL (us.map sk) 0) := by
    rw [pick_init (by lia), hwl, foundL_app, encIS_append, Nat.add_sub_cancel]
    have : (encIS (foundL (us.map sk) 0)).length = us.length := by unfold encIS; rw [List.length_map, foundL_len, List.length_map]
    rw [← this, List.take_left]
  have hall := foundL_snd (us.map sk) 0
  rw [List.map_map, show ((fun x : Un => x.2) ∘ sk) = (fun x => x.2) from rfl, hsg] at hall
  refine TriB.next (TriN.assignComp (σ₁ := s.σ) (tt := ttAny) (ds := encIS (foundL (us.map sk) 0)) ?_ (.inr ⟨_, _, _, rfl⟩) [] ["place", "unit"] [] (KidOk.of (by kernel_rfl)) (fun p hp => nomatch hp) readG (fun L d hd => ?_) (fun L it D => rfl) ?_ (by rw [hall]; exact s.u_read _) (.inl rfl) (by rfl)) k
  · rw [← e1]
    exact ItE.list (Tri.sliceL (Tri.nm s.l_found h2) ⟨rfl, rfl⟩ ⟨_, rfl, Tri.una Tri.int neg_i⟩ ⟨rfl, rfl⟩ (by decide) (hsz (by rw [hwl]; lia)) ⟨_, fun _ _ => rfl⟩)
  · obtain ⟨q, hq, rfl⟩ := List.mem_map.mp hd
    obtain ⟨p, c⟩ := q
    exact ⟨_, _, Asg.tuple (AsgL.cons (Asg.name .here (.inl rfl)) (AsgL.cons (Asg.name (.there .here) (.inl rfl)) .nil)), .cons (.un _ _ _) (.cons (.un _ _ _) .nil), TriI.nil, fun hb => EmitR.elt (Tri.name (.there .here)), fun hb => nomatch hb⟩
  · rw [hall, encL_len, ← hsg, List.length_map]; exact hsz (by lia)
end
end Mine

end
noncomputable section
open PySem PySem.W PyProof.Rows
set_option maxRecDepth 100000
set_option autoImplicit false
namespace Mine
theorem Ex.ht_le : ∀ T : Ex, T.ht ≤ T.nn
  | .leaf c => Nat.le_refl _
  | .node m l r => by have := l.ht_le; have := r.ht_le; show max l.ht r.ht + 1 ≤ l.nn + r.nn + 1; lia
theorem Ex.marks_ask (T : Ex) : Asks T.marks := fun d hd => by rw [List.eq_of_mem_replicate hd]; exact okM_ask
theorem Ex.marks_len (T : Ex) : T.marks.length = 3 * T.nn := List.length_replicate
noncomputable def namesL : List Str := ["OPTIMIZED", "NEWLOCALS", "VARARGS", "VARKEYWORDS", "NESTED", "GENERATOR", "NOFREE", "COROUTINE", "ITERABLE_COROUTINE", "ASYNC_GENERATOR"]
noncomputable def hexesL : List Str := (List.range 5).map fun i : Nat => hexS (2 ^ (10 + (i : Int)).toNat)
noncomputable def wordsL (low : Nat) : List Str := ((namesL ++ hexesL).take (low + 3)).drop low
noncomputable def hexG : PyData → List PyData
  | .int p => [.str (hexS (2 ^ p.toNat))]
  | _ => []
theorem hex_ok : ∀ i : Nat, i < 5 → (hexS (2 ^ (10 + (i : Int)).toNat)).length ≤ 100 := by decide +kernel
theorem low_bd (t : Int) : ∃ low : Nat, t.fmod 13 = low ∧ low < 13 := by
  have : 0 ≤ t.fmod 13 ∧ t.fmod 13 < 13 := by
    rw [Int.fmod_eq_emod_of_nonneg _ (by lia)]
    exact ⟨Int.emod_nonneg _ (by lia), Int.emod_lt_of_pos _ (by lia)⟩
  exact ⟨(t.fmod 13).toNat, by lia, by lia⟩
section
variable {prog : Program} {w : World} {H : Heap} {kvs : List (Str × Int)} {pm cd doc : Value} {L f : Addr} {A : Around} {P : Fl → List Ent → Prop} (s : LS)
variable {us : List Un} {t : Int}
theorem LG.ck (G : LG prog w H kvs) : Ck prog w H G.paren := ⟨fun us hu hl => by
  rw [← paren_all hu]
  exact rc_paren G.f_paren G.f_strip G.f_esc G.g_strip G.g_esc G.b_enumerate G.b_len (by rw [mk_len]; exact Nat.le_trans (ucs_len us) (by lia))⟩
theorem law23 (G : LG prog w H kvs) {as : List PyData} {T : Ex} (hT : T.ok) (hn : T.nn ≤ 3) (has : Asks as) (hal : as.length ≤ 900) (hu : ∀ u ∈ us, UnOk u) (hsg : us.map (·.2) = T.sg)
    (h1 : s.texts = .val (.list (encU us))) (h2 : s.read = .val (.list (encL T.sg))) (h4 : s.asked = .own as)
    (k : ∀ bs, Asks bs → bs.length ≤ as.length + 9 → TriB prog w H (LC pm cd doc L f A) ({ s with asked := .own bs, value := .val (.list (encP T.val)) } : LS).σ (LB.drop 23) P) : TriB prog w H (LC pm cd doc L f A) s.σ (LB.drop 22) P := by
  have hht := T.ht_le
  refine TriB.next (TriN.assign (σ₁ := ({ s with asked := .own (as ++ T.marks) } : LS).σ) (Tri.callM (sl := .own as) (par := .io as) (sl' := .own (as ++ T.marks)) (par' := .io (as ++ T.marks)) gl_law_value G.g_value G.f_value.is (h4 ▸ s.m_asked) (.own _ _) (s.u_asked _) (TriLM.cons (Tri.nm s.l_texts h1) (TriLM.cons (Tri.nm s.l_read h2) (TriLM.here (h4 ▸ s.m_asked) rfl .nil)))
    (rm_value G.f_value G.g_value G.f_paren G.g_paren G.ck G.f_plain G.g_plain G.b_sorted G.b_len G.b_range G.g_ex G.ex T us as hT hn hu hsg (by lia)) (by show 9 + T.ht ≤ 20; lia)) (({ s with asked := .own (as ++ T.marks) } : LS).u_value _) (.inl rfl)) (k _ (has.app T.marks_ask) (by rw [List.length_append, T.marks_len]; lia))
theorem dat_encL {l : List Nat} {n : Nat} (h : ∀ c ∈ l, c < 1114112) : Dat (n + 1) (.list (encL l)) := Dat.encS fun y hy => by
  obtain ⟨c, hc, rfl⟩ := List.mem_map.mp hy
  exact ok_mk (l := [c]) fun d hd => by rw [List.mem_singleton.mp hd]; exact h c hc
theorem law24 (G : LG prog w H kvs) {as : List PyData} {ps V : List Pr} {sg : List Nat} (hps : ps.length ≤ 10000) (h64 : ((sumK ps).filter fun p => p.2 != 0).length < 64) (hV : plainR ps = V) (hVo : ∀ p ∈ V, OkS p.1) (hso : ∀ c ∈ sg, c < 1114112) (has : Asks as) (hal : as.length ≤ 1000)
    (h1 : s.read = .val (.list (encL sg))) (h2 : s.value = .val (.list (encP V))) (h3 : s.signs = .val (.list (encL sg))) (h5 : s.terms = .val (.list (encP ps))) (h4 : s.asked = .own as)
    (k : ∀ bs, Asks bs → bs.length ≤ as.length + 1 → TriB prog w H (LC pm cd doc L f A) ({ s with asked := .own bs } : LS).σ (LB.drop 24) P) : TriB prog w H (LC pm cd doc L f A) s.σ (LB.drop 23) P := by
  refine TriB.next (TriN.append (σ₁ := s.σ) (ds := as) (d := .tuple [.tuple [.list (encL sg), .list (encP V)], .tuple [.list (encL sg), .list (encP (plainR ps))]]) (Tri.tuple (TriL.cons (Tri.tuple (TriL.cons (Tri.nm s.l_read h1) (TriL.cons (Tri.nm s.l_value h2) .nil)) (by show 2 ≤ sizeLine; decide)) (TriL.cons (Tri.tuple (TriL.cons (Tri.nm s.l_signs h3) (TriL.cons (Tri.callF gl_law_plain G.g_plain G.f_plain.is (TriL.cons (Tri.nm s.l_terms h5) .nil) (rc_plain G.f_plain G.b_sorted hps h64) (by show 2 ≤ 20; lia)) .nil)) (by show 2 ≤ sizeLine; decide)) .nil)) (by show 2 ≤ sizeLine; decide)) (h4 ▸ s.m_asked) (.own _) (s.u_asked _) (hsz (by lia)) ⟨_, h4 ▸ s.m_asked, _, .own _⟩) (k _ (has.app (Asks.one (Ask.mk (n := 3) (by rw [hV]) (.pair (dat_encL hso) (Dat.encP hVo))))) (by rw [List.length_append]; exact Nat.le_refl _))
theorem law25 {X : List Nat} (h1 : s.text = .val (.str (mk X))) (h4 : s.told = .own (told3 X t))
    (k : TriB prog w H (LC pm cd doc L f A) ({ s with told := .own (told3 X t ++ [.str "", .str (mk X)]) } : LS).σ (LB.drop 25) P) : TriB prog w H (LC pm cd doc L f A) s.σ (LB.drop 24) P :=
  TriB.next (TriN.extend (σ₁ := s.σ) (ds := told3 X t) (es := [.str "", .str (mk X)]) (Tri.list (TriL.cons Tri.str (TriL.cons (Tri.nm s.l_text h1) .nil)) (by show 2 ≤ sizeLine; decide)) (h4 ▸ s.m_told) (.own _) (s.u_told _) (hsz (show 5 ≤ 100000 by decide)) ⟨_, h4 ▸ s.m_told, _, .own _⟩) k
theorem law26 (G : LG prog w H kvs) {X : List Nat} {as : List PyData} (hX : X.length ≤ 1000) (hc : Cuts X t) (hok : OkS (mk X)) (has : Asks as) (hal : as.length ≤ 1000) (h : s.text = .val (.str (mk X))) (h2 : s.tail = .val (.str (mk (tailC t)))) (h3 : s.key = .val (.str (mk (keyC t)))) (h4 : s.asked = .own as)
    (k : ∀ bs, Asks bs → bs.length ≤ as.length + 1 → TriB prog w H (LC pm cd doc L f A) ({ s with asked := .own bs } : LS).σ (LB.drop 26) P) : TriB prog w H (LC pm cd doc L f A) s.σ (LB.drop 25) P := by
  have hk := ok_mk (key_lt t)
  have hi : OkS (mk itsC) := ok_mk (by decide)
  refine TriB.next (TriN.append (σ₁ := s.σ) (ds := as) (d := .tuple [.list (told3 X t), .list [.str (mk X), .str (mk (keyC t)), .str (mk itsC)]]) (Tri.tuple (TriL.cons (Tri.callF gl_decode_rfc2231 G.g_dec G.f_dec.is (TriL.cons (tri1 hX (h ▸ s.l_text) (h2 ▸ s.l_tail)) .nil) (rf_told G hX hc).rc (by show 2 ≤ 20; lia)) (TriL.cons (Tri.list (TriL.cons (Tri.nm s.l_text h) (TriL.cons (Tri.nm s.l_key h3) (TriL.cons Tri.str .nil))) (by show 3 ≤ sizeLine; decide)) .nil)) (by show 2 ≤ sizeLine; decide)) (h4 ▸ s.m_asked) (.own _) (s.u_asked _) (hsz (by lia)) ⟨_, h4 ▸ s.m_asked, _, .own _⟩) (k _ (has.app (Asks.one (Ask.mk (n := 1) rfl (Dat.encS fun y hy => ?_)))) (by rw [List.length_append]; exact Nat.le_refl _))
  simp at hy; rcases hy with rfl | rfl | rfl <;> assumption
theorem law27 {low : Nat} (hlow : t.fmod 13 = low) (h3 : s.total = .val (.int t))
    (k : TriB prog w H (LC pm cd doc L f A) ({ s with low := .val (.int (low : Nat)) } : LS).σ (LB.drop 27) P) : TriB prog w H (LC pm cd doc L f A) s.σ (LB.drop 26) P :=
  TriB.next (TriN.assign (Tri.eq (Tri.bin (Tri.nm s.l_total h3) Tri.int (mod_ii (by decide))) (congrArg PyData.int hlow)) (s.u_low _) (.inl rfl)) k
theorem law28 (k : TriB prog w H (LC pm cd doc L f A) ({ s with names := .val (.list (encS namesL)) } : LS).σ (LB.drop 28) P) : TriB prog w H (LC pm cd doc L f A) s.σ (LB.drop 27) P :=
  TriB.next (TriN.assign (Tri.list (TriL.cons Tri.str (TriL.cons Tri.str (TriL.cons Tri.str (TriL.cons Tri.str (TriL.cons Tri.str (TriL.cons Tri.str (TriL.cons Tri.str (TriL.cons Tri.str (TriL.cons Tri.str (TriL.cons Tri.str .nil)))))))))) (by show 10 ≤ sizeLine; decide)) (s.u_names _) (.inl rfl)) k
set_option maxHeartbeats 2000000 in
theorem law29 (G : LG prog w H kvs) {low : Nat} (hl : low < 13) (h1 : s.low = .val (.int (low : Nat))) (h2 : s.names = .val (.list (encS namesL)))
    (k : TriB prog w H (LC pm cd doc L f A) ({ s with words := .val (.list (encS (wordsL low))) } : LS).σ (LB.drop 29) P) : TriB prog w H (LC pm cd doc L f A) s.σ (LB.drop 28) P := by
  have hlen : (encS (namesL ++ hexesL)).length = 15 := rfl
  have e : encS (wordsL low) = pickL (some (low : Int)) (some ((low : Int) + 3)) none (encS (namesL ++ hexesL)) := by
    have := pick_mid (ds := encS (namesL ++ hexesL)) (a := low) (b := low + 3) (by rw [hlen]; lia) (by rw [hlen]; lia)
    rw [show (some ((low : Int) + 3)) = some (((low + 3 : Nat)) : Int) from rfl, this]
    unfold wordsL encS
    rw [List.map_drop, List.map_take]
  refine TriB.next (TriN.assign (σ₁ := s.σ) (d := .list (encS (wordsL low))) ?_ (s.u_words _) (.inl rfl)) k
  rw [e]
  refine Tri.sliceL (σ' := s.σ) (σ₁ := s.σ) (σ₂ := s.σ) ?_ ⟨_, rfl, Tri.nm s.l_low h1⟩ ⟨_, rfl, Tri.bin (Tri.nm s.l_low h1) Tri.int add_ii⟩ ⟨rfl, rfl⟩ (by decide) (hsz (by rw [hlen]; decide)) ⟨_, fun _ _ => rfl⟩
  have : encS (namesL ++ hexesL) = encS namesL ++ encS hexesL := by unfold encS; rw [List.map_append]
  rw [this]
  refine Tri.bin (da := .list (encS namesL)) (σ₁ := s.σ) (Tri.nm s.l_names h2) ?_ (add_ll (hsz (show 15 ≤ 100000 by decide)))
  refine Tri.eq (d := .list ((rngL 10 5).flatMap hexG)) ?_ rfl
  refine Tri.comp (tt := ttNm) (ItE.range2 gl_range G.b_range Tri.int Tri.int (by decide) (by decide) (by decide) (by decide)) ⟨_, _, rfl⟩ [] ["place"] ["hex"] (KidOk.of (by kernel_rfl)) (fun p hp => nomatch hp) hexG (fun L d hd => ?_) (fun L it D => rfl) (hsz (show 5 ≤ 100000 by decide))
  obtain ⟨i, hi, rfl⟩ := List.mem_map.mp hd
  have hi : i < 5 := List.mem_range.mp hi
  exact ⟨_, _, Asg.name .here (.inl rfl), .cons (.un _ _ _) .nil, TriI.nil, fun hb => EmitR.elt (Tri.callB (by simp [kid]) G.b_hex (TriL.cons (Tri.bin Tri.int (Tri.name .here) (pow_ii (by lia) (by rw [show Builtin.Int.intBits 2 = 2 from rfl]; lia))) .nil) (rc_hex' (hex_ok i hi)) (Nat.zero_le _)), fun hb => nomatch hb⟩
theorem law30 (k : TriB prog w H (LC pm cd doc L f A) ({ s with cuts := .own [] } : LS).σ (LB.drop 30) P) : TriB prog w H (LC pm cd doc L f A) s.σ (LB.drop 29) P :=
  TriB.next (TriN.assignOwn .nil (s.u_cuts _) (.inl rfl)) k
end
end Mine

end
noncomputable section
open PySem PySem.W PyProof.Rows
set_option maxRecDepth 100000
set_option autoImplicit false
namespace Mine
/-! the words of the flags -/
noncomputable def bitB (j : Int) (k : Nat) : Bool := (j.fdiv (2 ^ ((k : Nat) : Int).toNat)).fmod 2 == 1
noncomputable def selL (ws : List Str) (j : Int) : List Str := (ws.zipIdx.filter fun q => bitB j q.2).map (·.1)
noncomputable def flI (low : Nat) (j : Int) : Int := j * 2 ^ ((low : Nat) : Int).toNat
noncomputable def saidT (low : Nat) (j : Int) : Str := if ((Txt.join ", " (selL (wordsL low) j)).length : Int) != 0 then Txt.join ", " (selL (wordsL low) j) else "0x0"
noncomputable def inB (said w : Str) : Bool := (encS (Txt.split said ", ")).any fun y => y.eqv (.str w)
noncomputable def choI (ws : List Str) (said : Str) : List Int := ((([1, 2, 3] : List Int).zip ws).filter fun q => inB said q.2).map (·.1)
noncomputable def othI (ch : List Int) : List Int := ([1, 2, 3] : List Int).filter fun p => !((encI ch).any fun y => y.eqv (.int p))
noncomputable def cuts8 : List Cut := [([], [1, 2, 3]), ([1], [2, 3]), ([2], [1, 3]), ([1, 2], [3]), ([3], [1, 2]), ([1, 3], [2]), ([2, 3], [1]), ([1, 2, 3], [])]
noncomputable def chk1 (low : Nat) (j : Nat) : Bool :=
  let said := prettyR (flI low j)
  prettyOk (flI low j) && (JoinOk ", " (selL (wordsL low) j) && ((said == saidT low j) && (decide (said.length + 2 ≤ 1000) && ((PyData.str said).canLay0 && ((PyData.list (encS (Txt.split said ", "))).canLay0 &&
    ((choI (wordsL low) said, othI (choI (wordsL low) said)) == cuts8.getD j ([], [])))))))
theorem chk1_all : ∀ low < 13, ∀ j < 8, chk1 low j = true := by decide +kernel
structure Chk (low j : Nat) : Prop where
  pok : prettyOk (flI low j) = true
  jok : JoinOk ", " (selL (wordsL low) j) = true
  said : prettyR (flI low j) = saidT low j
  len : (prettyR (flI low j)).length + 2 ≤ 1000
  ok : OkS (prettyR (flI low j))
  parts : (PyData.list (encS (Txt.split (prettyR (flI low j)) ", "))).canLay0 = true
  cut : (choI (wordsL low) (prettyR (flI low j)), othI (choI (wordsL low) (prettyR (flI low j)))) = cuts8.getD j ([], [])
theorem chk_of {low j : Nat} (hl : low < 13) (hj : j < 8) : Chk low j := by
  have h := chk1_all low hl j hj
  unfold chk1 at h
  simp only [Bool.and_eq_true, decide_eq_true_eq, beq_iff_eq] at h
  obtain ⟨h1, h2, h3, h4, h5, h6, h7⟩ := h
  exact ⟨h1, h2, h3, h4, h5, h6, h7⟩
noncomputable def chk2 (low : Nat) : Bool :=
  let fl : Int := 7 * 2 ^ ((low : Nat) : Int).toNat - 2 ^ (31 : Int).toNat
  let ws := wordsL low ++ [("0x80000000" : Str), ("-0x100000000" : Str)]
  prettyOk fl && (JoinOk ", " ws && ((prettyR fl == Txt.join ", " ws) && ((PyData.str (prettyR fl)).canLay0 && ((PyData.list (encS (wordsL low))).canLay0 && decide ((Txt.join ", " ws).length ≤ 1000)))))
theorem chk2_all : ∀ low < 13, chk2 low = true := by decide +kernel
structure Chl (low : Nat) : Prop where
  pok : prettyOk (7 * 2 ^ ((low : Nat) : Int).toNat - 2 ^ (31 : Int).toNat) = true
  jok : JoinOk ", " (wordsL low ++ [("0x80000000" : Str), ("-0x100000000" : Str)]) = true
  said : prettyR (7 * 2 ^ ((low : Nat) : Int).toNat - 2 ^ (31 : Int).toNat) = Txt.join ", " (wordsL low ++ [("0x80000000" : Str), ("-0x100000000" : Str)])
  ok : OkS (prettyR (7 * 2 ^ ((low : Nat) : Int).toNat - 2 ^ (31 : Int).toNat))
  words : (PyData.list (encS (wordsL low))).canLay0 = true
theorem chl_of {low : Nat} (hl : low < 13) : Chl low := by
  have h := chk2_all low hl
  unfold chk2 at h
  simp only [Bool.and_eq_true, decide_eq_true_eq, beq_iff_eq] at h
  obtain ⟨h1, h2, h3, h4, h5, h6⟩ := h
  exact ⟨h1, h2, h3, h4, h5⟩
theorem lay_mem : ∀ {xs : List PyData}, PyData.canLayAll0 xs = true → ∀ x ∈ xs, x.canLay0 = true
  | [], _, x, hx => nomatch hx
  | y :: xs, h, x, hx => by
    rw [PyData.canLayAll0, Bool.and_eq_true] at h
    rcases List.mem_cons.mp hx with rfl | hx
    · exact h.1
    · exact lay_mem h.2 x hx
theorem ok_of {ys : List Str} (h : (PyData.list (encS ys)).canLay0 = true) : ∀ y ∈ ys, OkS y := fun y hy => by
  rw [PyData.canLay0] at h
  exact lay_mem h _ (List.mem_map.mpr ⟨y, hy, rfl⟩)
theorem words_len {low : Nat} (h : low < 13) : (wordsL low).length = 3 := by
  unfold wordsL
  rw [List.length_drop, List.length_take, show (namesL ++ hexesL).length = 15 from rfl]
  lia
noncomputable def selG (j : Int) : PyData → List PyData
  | .tuple [.int k, .str y] => if bitB j k.toNat = true then [.str y] else []
  | _ => []
noncomputable def enumY (l : List (Str × Nat)) : List PyData := l.map fun q => .tuple [.int (q.2 : Nat), .str q.1]
theorem enumY_eq (l : List Str) : (enumL (encS l)).map PyData.tuple = enumY l.zipIdx := by
  unfold enumL enumY encS
  rw [List.zipIdx_map, List.map_map, List.map_map]
  rfl
theorem selG_all (j : Int) : ∀ l : List (Str × Nat), (enumY l).flatMap (selG j) = encS ((l.filter fun q => bitB j q.2).map (·.1))
  | [] => rfl
  | q :: l => by
    rw [show enumY (q :: l) = .tuple [.int (q.2 : Nat), .str q.1] :: enumY l from rfl, List.flatMap_cons, selG_all j l, List.filter_cons]
    show (if bitB j q.2 = true then [PyData.str q.1] else []) ++ _ = _
    split <;> rfl
noncomputable def choG (said : Str) : PyData → List PyData
  | .tuple [.int p, .str y] => if inB said y = true then [.int p] else []
  | _ => []
noncomputable def zipY (l : List (Int × Str)) : List PyData := l.map fun q => .tuple [.int q.1, .str q.2]
theorem zipY_eq (a : List Int) (b : List Str) : (zipL (encI a) (encS b)).map PyData.tuple = zipY (a.zip b) := by
  unfold zipL zipY encS encI
  rw [List.zip_map, List.map_map, List.map_map]
  rfl
theorem choG_all (said : Str) : ∀ l : List (Int × Str), (zipY l).flatMap (choG said) = encI ((l.filter fun q => inB said q.2).map (·.1))
  | [] => rfl
  | q :: l => by
    rw [show zipY (q :: l) = .tuple [.int q.1, .str q.2] :: zipY l from rfl, List.flatMap_cons, choG_all said l, List.filter_cons]
    show (if inB said q.2 = true then [PyData.int q.1] else []) ++ _ = _
    split <;> rfl
noncomputable def othG (ch : List Int) : PyData → List PyData
  | .int p => if (!((encI ch).any fun y => y.eqv (.int p))) = true then [.int p] else []
  | _ => []
theorem othG_all (ch : List Int) : ∀ l : List Int, (encI l).flatMap (othG ch) = encI (l.filter fun p => !((encI ch).any fun y => y.eqv (.int p)))
  | [] => rfl
  | q :: l => by
    rw [show encI (q :: l) = .int q :: encI l from rfl, List.flatMap_cons, othG_all ch l, List.filter_cons]
    show (if (!((encI ch).any fun y => y.eqv (.int q))) = true then [PyData.int q] else []) ++ _ = _
    split <;> rfl
theorem rng0 (n : Nat) : rngL 0 n = (List.range n).map fun j : Nat => PyData.int (j : Int) := by
  unfold rngL
  refine List.map_congr_left fun i _ => ?_
  rw [Int.zero_add]
end Mine

end
noncomputable section
open PySem PySem.W PyProof.Rows
set_option maxRecDepth 100000
set_option autoImplicit false
namespace Mine
section
variable {prog : Program} {w : World} {H : Heap} {kvs : List (Str × Int)} {pm cd doc : Value} {L f : Addr} {A : Around} {P : Fl → List Ent → Prop} (s : LS)
theorem choI_len (ws : List Str) (said : Str) : (choI ws said).length ≤ 3 := by
  unfold choI
  rw [List.length_map]
  refine Nat.le_trans (List.length_filter_le _ _) ?_
  rw [List.length_zip]; exact Nat.min_le_left _ _
theorem othI_len (ch : List Int) : (othI ch).length ≤ 3 := by
  unfold othI
  exact List.length_filter_le _ _
noncomputable abbrev lpS (s : LS) (as cs : List PyData) (a b c : Slot) : LS := { s with asked := .own as, cuts := .own cs, mask := a, said := b, chosen := c }
theorem Tri.orS {C : Cx} {σ σ₁ : List Ent} {a b : Expr} {pos : Pos} {x y : Str} (h : Tri prog w H C σ a (.str x) σ₁) (hb : Tri prog w H C σ₁ b (.str y) σ₁) (hz : (x.length : Int) < 2 ^ 63) :
    Tri prog w H C σ (.BoolOp .Or [a, b] pos) (.str (if ((x.length : Int) != 0) = true then x else y)) σ₁ := by
  have t := truthy_s (prog := prog) (w := w) hz
  cases hc : ((x.length : Int) != 0) with
  | true => rw [hc] at t; exact Tri.orT h t
  | false => rw [hc] at t; exact Tri.orF h t (Tri.or1 hb)
inductive TdXI1 (s : LS) (as : List PyData) (σ : List Ent) : Prop
  | mk (bs : _) (a : _) (b : _) (c : _) (h0 : σ = (lpS s bs (encC cuts8) a b c).σ) (h1 : Asks bs) (h2 : bs.length ≤ as.length + 8)
inductive TdXI2 (s : LS) (as : List PyData) (ds : List PyData) (σ : List Ent) : Prop
  | mk (i : _) (bs : _) (a : _) (b : _) (c : _) (h0 : ds = ((List.range 8).drop i).map (fun j : Nat => PyData.int (j : Int))) (h1 : σ = (lpS s bs (encC (cuts8.take i)) a b c).σ) (h2 : Asks bs) (h3 : bs.length ≤ as.length + i) (h4 : i ≤ 8)
set_option maxHeartbeats 4000000 in
theorem law31 (G : LG prog w H kvs) {as : List PyData} {low : Nat} (hl : low < 13) (has : Asks as) (hal : as.length ≤ 900) (h1 : s.low = .val (.int (low : Nat))) (h2 : s.words = .val (.list (encS (wordsL low)))) (h4 : s.asked = .own as) (h5 : s.cuts = .own [])
    (k : ∀ bs a b c, Asks bs → bs.length ≤ as.length + 8 → TriB prog w H (LC pm cd doc L f A) (lpS s bs (encC cuts8) a b c).σ (LB.drop 31) P) : TriB prog w H (LC pm cd doc L f A) s.σ (LB.drop 30) P := by
  have e0 : lpS s as [] s.mask s.said s.chosen = s := by
    show ({ s with asked := .own as, cuts := .own [] } : LS) = s
    rw [← h4, ← h5]
  have hlow := h1
  have hwords := h2
  clear h1 h2 h4 h5
  rw [← e0]
  have hwl := words_len hl
  have hwok := ok_of (chl_of hl).words
  refine TriB.cons (Q := fun f σ => f = .nx ∧ TdXI1 s as σ) (TriS.for_ (σ₁ := (lpS s as [] s.mask s.said s.chosen).σ) (tt := ttNm) (ds := (List.range 8).map fun j : Nat => PyData.int (j : Int)) (by rw [← rng0]; exact ItE.range1 gl_range G.b_range Tri.int (by decide) (by decide)) ⟨_, _, rfl⟩
    (TdXI2 s as) ⟨0, as, s.mask, s.said, s.chosen, rfl, rfl, has, Nat.le_refl _, by lia⟩ (fun d ds σ hI => ?_) fun σ hI => ?_) (fun σ' h => ?_) fun f σ' hn h => (hn h.1).elim
  · obtain ⟨i, bs, a, b, c, hd, rfl, hbs, hbl, hi⟩ := hI
    have hi8 : i < 8 := Nat.lt_of_not_le fun h => by
      rw [List.drop_of_length_le (by rw [List.length_range]; exact h)] at hd
      cases hd
    rw [List.drop_eq_getElem_cons (by rw [List.length_range]; exact hi8), List.map_cons, List.getElem_range] at hd
    injection hd with hd1 hd2
    subst hd1 hd2
    have K := chk_of hl hi8
    have hM : flI low (i : Int) = (i : Int) * 2 ^ ((low : Nat) : Int).toNat := rfl
    refine ⟨_, Asg.name ((lpS s bs (encC (cuts8.take i)) a b c).u_mask _) (.inr rfl), ?_⟩
    -- said
    refine TriB.next (σ₁ := (lpS s bs (encC (cuts8.take i)) (.val (.int (i : Int))) (.val (.str (prettyR (flI low i)))) c).σ) (TriN.assign (Tri.callF gl_pretty_flags G.g_pretty G.f_pretty.is (TriL.cons (Tri.bin (Tri.name (lpS s bs (encC (cuts8.take i)) (.val (.int (i : Int))) b c).l_mask) (Tri.bin Tri.int (Tri.nm (lpS s bs (encC (cuts8.take i)) (.val (.int (i : Int))) b c).l_low hlow) (pow_ii (by lia) (by rw [show Builtin.Int.intBits 2 = 2 from rfl]; lia))) (mul_ii (.inl (bits_le (by lia))))) .nil) (rc_pretty G.f_pretty G.b_range G.b_hex G.g_fl (hM ▸ K.pok)) (by show 2 ≤ 20; lia)) ((lpS s bs (encC (cuts8.take i)) (.val (.int (i : Int))) b c).u_said _) (.inr rfl)) ?_
    generalize hsd : prettyR (flI low i) = said at K
    have hK := K.said
    have hlen := K.len
    have hok := K.ok
    have hpa := ok_of K.parts
    have hcut := K.cut
    rw [hsd] at hK hlen hok hcut
    have hpa : ∀ y ∈ Txt.split said ", ", OkS y := by rw [hsd] at hpa; exact hpa
    clear hM
    generalize hs1 : lpS s bs (encC (cuts8.take i)) (.val (.int (i : Int))) (.val (.str said)) c = s1
    have m1 : s1.mask = .val (.int (i : Int)) := by rw [← hs1]
    have m2 : s1.said = .val (.str said) := by rw [← hs1]
    have m3 : s1.words = .val (.list (encS (wordsL low))) := by rw [← hs1]; exact hwords
    have m4 : s1.asked = .own bs := by rw [← hs1]
    have m5 : s1.cuts = .own (encC (cuts8.take i)) := by rw [← hs1]
    have m6 : ∀ as' x, ({ s1 with asked := .own as', chosen := .val x } : LS) = lpS s as' (encC (cuts8.take i)) (.val (.int (i : Int))) (.val (.str said)) (.val x) := fun as' x => by rw [← hs1]
    clear hs1
    -- asked
    have hselj : (encS (selL (wordsL low) i)).length ≤ 3 := by
      unfold encS selL
      rw [List.length_map, List.length_map]
      refine Nat.le_trans (List.length_filter_le _ _) ?_
      rw [List.length_zipIdx, hwl]
      exact Nat.le_refl 3
    have hjl : (Txt.join ", " (selL (wordsL low) i)).length < 2 ^ 40 := by
      by_cases hz : (((Txt.join ", " (selL (wordsL low) i)).length : Int) != 0) = true
      · have : saidT low i = Txt.join ", " (selL (wordsL low) i) := by unfold saidT; rw [if_pos hz]
        rw [← this, ← hK]; lia
      · have : (Txt.join ", " (selL (wordsL low) i)).length = 0 := by simpa using hz
        rw [this]; decide
    refine TriB.next (σ₁ := ({ s1 with asked := .own (bs ++ [.tuple [.str said, .str (saidT low i)]]) } : LS).σ) (TriN.append (σ₁ := s1.σ) (ds := bs) (d := .tuple [.str said, .str (saidT low i)]) (Tri.tuple (TriL.cons (Tri.nm s1.l_said m2) (TriL.cons (σ₁ := s1.σ) (d := .str (saidT low i)) ?_ .nil)) (by show 2 ≤ sizeLine; decide)) (m4 ▸ s1.m_asked) (.own _) (s1.u_asked _) (hsz (by lia)) ⟨_, m4 ▸ s1.m_asked, _, .own _⟩) ?_
    · unfold saidT
      refine Tri.orS (Tri.join (σ₁ := s1.σ) ?_ K.jok) Tri.str (by lia)
      have hall := selG_all i (wordsL low).zipIdx
      show Tri prog w H _ _ _ (.list (encS (((wordsL low).zipIdx.filter fun q => bitB i q.2).map (·.1)))) _
      rw [← hall, ← enumY_eq]
      refine Tri.comp (tt := ttTup) (ItE.enumL gl_enumerate G.b_enumerate (Tri.nm s1.l_words m3)) ⟨_, _, _, rfl⟩ [("mask", .val (.int (i : Int)))] ["k", "word"] [] (KidOk.of (by kernel_rfl)) (fun p hp => ?_) (selG i) (fun L d hd => ?_) (fun L it D => rfl) ?_
      · simp at hp
        subst hp
        exact ⟨m1 ▸ s1.m_mask, rfl⟩
      · rw [enumY_eq] at hd
        obtain ⟨q, hq, rfl⟩ := List.mem_map.mp hd
        obtain ⟨y, kk⟩ := q
        have hkk : kk < 3 := by
          have := List.mem_zipIdx hq
          have h := this.2.1
          rw [hwl] at h; lia
        have hpw : (2 : Int) ^ ((kk : Nat) : Int).toNat ≠ 0 ∧ ((2 : Int) ^ ((kk : Nat) : Int).toNat).natAbs < 2 ^ 20 := by
          have : kk = 0 ∨ kk = 1 ∨ kk = 2 := by lia
          rcases this with rfl | rfl | rfl <;> decide
        refine ⟨_, _, Asg.tuple (AsgL.cons (Asg.name (.there .here) (.inl rfl)) (AsgL.cons (Asg.name (.there (.there .here)) (.inl rfl)) .nil)), .cons (.same _) (.cons (.un _ _ _) (.cons (.un _ _ _) .nil)), TriI.one (b := bitB i kk) (TriT.cmp (Tri.bin (Tri.bin (Tri.name .here) (Tri.bin Tri.int (Tri.name (.there .here)) (pow_ii (by lia) (by rw [show Builtin.Int.intBits 2 = 2 from rfl]; lia))) (fdiv_ii hpw.1 (fdiv3 hpw.1 hpw.2))) Tri.int (mod_ii (by decide))) Tri.int eq_ii), fun hb => ?_, fun hb => ?_⟩
        · show EmitR _ _ _ _ _ _ (if bitB i kk = true then [.str y] else [])
          rw [if_pos hb]
          exact EmitR.elt (Tri.name (.there (.there .here)))
        · show (if bitB i kk = true then [PyData.str y] else []) = []
          rw [if_neg (by rw [hb]; simp)]
      · rw [enumY_eq, hall]; exact hsz (Nat.le_trans hselj (by decide))
    -- chosen
    generalize hb2 : bs ++ [PyData.tuple [.str said, .str (saidT low i)]] = bs2
    have hbs2 : Asks bs2 := by rw [← hb2]; exact hbs.app (Asks.one (Ask.mk (n := 0) (by rw [hK]) (.str hok)))
    have hbl2 : bs2.length ≤ as.length + (i + 1) := by rw [← hb2, List.length_append, List.length_singleton]; lia
    clear hb2
    have n2 : ({ s1 with asked := .own bs2 } : LS).said = .val (.str said) := m2
    have n3 : ({ s1 with asked := .own bs2 } : LS).words = .val (.list (encS (wordsL low))) := m3
    generalize hch : choI (wordsL low) said = ch at hcut
    have hchl : ch.length ≤ 3 := by rw [← hch]; exact choI_len _ _
    have hcE : encI ch = (zipY (([1, 2, 3] : List Int).zip (wordsL low))).flatMap (choG said) := by rw [choG_all, ← hch]; rfl
    refine TriB.next (σ₁ := (lpS s bs2 (encC (cuts8.take i)) (.val (.int (i : Int))) (.val (.str said)) (.val (.list (encI ch)))).σ) ?_ ?_
    · rw [← m6]
      refine TriN.assign (σ₁ := ({ s1 with asked := .own bs2 } : LS).σ) (d := .list (encI ch)) ?_ (LS.u_chosen _ _) (.inr rfl)
      rw [hcE, ← zipY_eq]
      refine Tri.comp (tt := ttTup) (ItE.zip gl_zip G.b_zip (Tri.list (TriL.cons Tri.int (TriL.cons Tri.int (TriL.cons Tri.int .nil))) (by show 3 ≤ sizeLine; decide)) (Tri.nm (LS.l_words _) n3)) ⟨_, _, _, rfl⟩ [("said", .val (.str said))] ["place", "word"] [] (KidOk.of (by kernel_rfl)) (fun p hp => ?_) (choG said) (fun L d hd => ?_) (fun L it D => rfl) ?_
      · simp at hp
        subst hp
        exact ⟨n2 ▸ LS.m_said _, rfl⟩
      · have hd : d ∈ zipY (([1, 2, 3] : List Int).zip (wordsL low)) := zipY_eq [1, 2, 3] (wordsL low) ▸ hd
        obtain ⟨q, hq, rfl⟩ := List.mem_map.mp hd
        obtain ⟨p, y⟩ := q
        have hyw : y ∈ wordsL low := (List.of_mem_zip hq).2
        refine ⟨_, _, Asg.tuple (AsgL.cons (Asg.name (.there .here) (.inl rfl)) (AsgL.cons (Asg.name (.there (.there .here)) (.inl rfl)) .nil)), .cons (.same _) (.cons (.un _ _ _) (.cons (.un _ _ _) .nil)), TriI.one (b := inB said y) (TriT.cmp (Tri.name (.there (.there .here))) (Tri.methS (Tri.name .here) PySem.F.slot_str_split PySem.F.type_str_split (TriL.cons Tri.str .nil) (rf_split (by rfl) (hsz (by lia))).rc) (in_dl (Dat.shaped (Dat.encS (n := 0) hpa) (by decide)) (Dat.shaped (n := 0) (.str (hwok y hyw)) (by decide)))), fun hb => ?_, fun hb => ?_⟩
        · show EmitR _ _ _ _ _ _ (if inB said y = true then [.int p] else [])
          rw [if_pos hb]
          exact EmitR.elt (Tri.name (.there .here))
        · show (if inB said y = true then [PyData.int p] else []) = []
          rw [if_neg (by rw [hb]; simp)]
      · show (((zipL (encI [1, 2, 3]) (encS (wordsL low))).map PyData.tuple).flatMap (choG said)).length ≤ _
        rw [zipY_eq, ← hcE]; unfold encI; rw [List.length_map]; exact hsz (by lia)
    -- cuts
    generalize hs2 : lpS s bs2 (encC (cuts8.take i)) (.val (.int (i : Int))) (.val (.str said)) (.val (.list (encI ch))) = s2
    have q1 : s2.chosen = .val (.list (encI ch)) := by rw [← hs2]
    have q2 : s2.cuts = .own (encC (cuts8.take i)) := by rw [← hs2]
    have q3 : ∀ x, ({ s2 with cuts := .own x } : LS) = lpS s bs2 x (.val (.int (i : Int))) (.val (.str said)) (.val (.list (encI ch))) := fun x => by rw [← hs2]
    clear hs2
    have hoE : encI (othI ch) = (encI [1, 2, 3]).flatMap (othG ch) := by rw [othG_all]; rfl
    have hctl : (encC (cuts8.take i)).length ≤ 8 := by unfold encC; rw [List.length_map, List.length_take]; exact Nat.min_le_right _ _
    refine TriB.last (TriS.mono (TriN.append (σ₁ := s2.σ) (ds := encC (cuts8.take i)) (d := .tuple [.list (encI ch), .list (encI (othI ch))]) (Tri.tuple (TriL.cons (Tri.nm s2.l_chosen q1) (TriL.cons (σ₁ := s2.σ) (d := .list (encI (othI ch))) ?_ .nil)) (by show 2 ≤ sizeLine; decide)) (q2 ▸ s2.m_cuts) (.own _) (s2.u_cuts _) (hsz (by lia)) ⟨_, q2 ▸ s2.m_cuts, _, .own _⟩) fun f σ' h => ?_)
    · rw [hoE]
      refine Tri.comp (tt := ttAny) (ItE.list (Tri.list (TriL.cons Tri.int (TriL.cons Tri.int (TriL.cons Tri.int .nil))) (by show 3 ≤ sizeLine; decide))) (.inl ⟨_, _, rfl⟩) [("chosen", .val (.list (encI ch)))] ["place"] [] (KidOk.of (by kernel_rfl)) (fun p hp => ?_) (othG ch) (fun L d hd => ?_) (fun L it D => rfl) ?_
      · simp at hp
        subst hp
        exact ⟨q1 ▸ s2.m_chosen, rfl⟩
      · have hd : d ∈ encI [1, 2, 3] := hd
        obtain ⟨p, hp, rfl⟩ := List.mem_map.mp hd
        refine ⟨_, _, Asg.name (.there .here) (.inl rfl), .cons (.same _) (.cons (.un _ _ _) .nil), TriI.one (TriT.cmp (Tri.name (.there .here)) (Tri.name .here) (notIn_dl (Dat.shaped (Dat.encI (n := 0)) (by decide)) (Dat.shaped (n := 0) (.int p) (by decide)))), fun hb => ?_, fun hb => ?_⟩
        · show EmitR _ _ _ _ _ _ (if (!((encI ch).any fun y => y.eqv (.int p))) = true then [.int p] else [])
          rw [if_pos hb]
          exact EmitR.elt (Tri.name (.there .here))
        · show (if (!((encI ch).any fun y => y.eqv (.int p))) = true then [PyData.int p] else []) = []
          rw [if_neg (by rw [hb]; simp)]
      · show ((encI [1, 2, 3]).flatMap (othG ch)).length ≤ _
        rw [← hoE]; unfold encI; rw [List.length_map]; exact hsz (Nat.le_trans (othI_len ch) (by decide))
    · obtain ⟨rfl, rfl⟩ := h
      refine ⟨i + 1, bs2, .val (.int (i : Int)), .val (.str said), .val (.list (encI ch)), rfl, ?_, hbs2, hbl2, by lia⟩
      have e9 : encC (cuts8.take i) ++ [.tuple [.list (encI ch), .list (encI (othI ch))]] = encC (cuts8.take (i + 1)) := by
        have : cuts8.take (i + 1) = cuts8.take i ++ [cuts8.getD i ([], [])] := by
          rw [List.take_succ, show cuts8[i]? = some (cuts8.getD i ([], [])) from by simp [List.getD_eq_getElem?_getD, show i < cuts8.length from hi8]]
          rfl
        rw [this]
        unfold encC
        rw [List.map_append, ← hcut]
        rfl
      rw [← e9, ← q3]
      rfl
  · obtain ⟨i, bs, a, b, c, hd, rfl, hbs, hbl, hi⟩ := hI
    have h8 : i = 8 := by
      have h := congrArg List.length hd
      rw [List.length_map, List.length_drop, List.length_range, List.length_nil] at h
      lia
    subst h8
    exact .nil ⟨rfl, bs, a, b, c, rfl, hbs, hbl⟩
  · obtain ⟨_, bs, a, b, c, rfl, hbs, hbl⟩ := h
    exact k bs a b c hbs hbl
end
end Mine

end
noncomputable section
open PySem PySem.W PyProof.Rows
set_option maxRecDepth 100000
set_option autoImplicit false
namespace Mine
noncomputable def cuts7 : List Cut := cuts8.take 7
theorem cuts_ok : ∀ q ∈ cuts8, CutOk q := by
  intro q hq
  simp [cuts8] at hq
  rcases hq with rfl | rfl | rfl | rfl | rfl | rfl | rfl | rfl <;> exact ⟨by unfold encI; rw [pickL_map]; exact congrArg _ (by decide +kernel), by decide, by decide, by decide, by decide⟩
theorem cuts7_ok : ∀ q ∈ cuts7, CutOk q := fun q hq => cuts_ok q (List.mem_of_mem_take hq)
theorem cuts_h7 : pickL none (some 7) none (encC cuts8) = encC cuts7 := by
  have := pick_take (ds := encC cuts8) (k := 7) (by decide)
  rw [show (some (7 : Int)) = some (((7 : Nat)) : Int) from rfl, this]
  unfold encC cuts7
  rw [List.map_take]
noncomputable def mulG : PyData → List PyData
  | .tuple [.str y, .int c] => [.tuple [.str y, .int (4 * c)]]
  | _ => []
theorem mulG_all : ∀ l : List Pr, (encP l).flatMap mulG = encP (mulP 4 l)
  | [] => rfl
  | p :: l => by rw [show encP (p :: l) = .tuple [.str p.1, .int p.2] :: encP l from rfl, List.flatMap_cons, mulG_all l]; rfl
theorem Turns.app {a b c d : List Ent} (h : Turns a b) (h' : Turns c d) : Turns (a ++ c) (b ++ d) := by
  induction h with
  | nil => exact h'
  | cons x _ ih => exact .cons x ih
noncomputable def neG : PyData → List PyData
  | .tuple [x, y] => if (!(x.eqv y)) = true then [.tuple [x, y]] else []
  | _ => []
theorem neG_all : ∀ as : List PyData, Asks as → as.flatMap neG = []
  | [], _ => rfl
  | d :: as, h => by
    obtain ⟨x, n, rfl, hx, _⟩ := h d (.head _)
    rw [List.flatMap_cons, neG_all as fun e he => h e (.tail _ he)]
    show (if (!(x.eqv x)) = true then _ else _) ++ _ = _
    rw [hx.refl]; rfl
section
variable {prog : Program} {w : World} {H : Heap} {kvs : List (Str × Int)} {pm cd doc : Value} {L f : Addr} {A : Around} {P : Fl → List Ent → Prop} (s : LS)
theorem law32 (G : LG prog w H kvs) {as : List PyData} {low : Nat} (hl : low < 13) (has : Asks as) (hal : as.length ≤ 1000) (h1 : s.low = .val (.int (low : Nat))) (h2 : s.words = .val (.list (encS (wordsL low)))) (h4 : s.asked = .own as)
    (k : ∀ bs, Asks bs → bs.length ≤ as.length + 1 → TriB prog w H (LC pm cd doc L f A) ({ s with asked := .own bs } : LS).σ (LB.drop 32) P) : TriB prog w H (LC pm cd doc L f A) s.σ (LB.drop 31) P := by
  have K := chl_of hl
  refine TriB.next (TriN.append (σ₁ := s.σ) (ds := as) (d := .tuple [.str (prettyR (7 * 2 ^ ((low : Nat) : Int).toNat - 2 ^ (31 : Int).toNat)), .str (Txt.join ", " (wordsL low ++ [("0x80000000" : Str), ("-0x100000000" : Str)]))]) (Tri.tuple (TriL.cons (Tri.callF gl_pretty_flags G.g_pretty G.f_pretty.is (TriL.cons (Tri.bin (Tri.bin Tri.int (Tri.bin Tri.int (Tri.nm s.l_low h1) (pow_ii (by lia) (by rw [show Builtin.Int.intBits 2 = 2 from rfl]; lia))) (mul_ii (.inl (by decide)))) (Tri.bin Tri.int Tri.int (pow_ii (by decide) (by decide))) sub_ii) .nil) (rc_pretty G.f_pretty G.b_range G.b_hex G.g_fl K.pok) (by show 2 ≤ 20; lia)) (TriL.cons (σ₁ := s.σ) ?_ .nil)) (by show 2 ≤ sizeLine; decide)) (h4 ▸ s.m_asked) (.own _) (s.u_asked _) (hsz (by lia)) ⟨_, h4 ▸ s.m_asked, _, .own _⟩) (k _ (has.app (Asks.one (Ask.mk (n := 0) (by rw [K.said]) (.str K.ok)))) (by rw [List.length_append]; exact Nat.le_refl _))
  refine Tri.join ?_ K.jok
  have : encS (wordsL low ++ [("0x80000000" : Str), ("-0x100000000" : Str)]) = encS (wordsL low) ++ [.str "0x80000000", .str "-0x100000000"] := by unfold encS; rw [List.map_append]; rfl
  rw [this]
  exact Tri.bin (Tri.nm s.l_words h2) (Tri.list (TriL.cons Tri.str (TriL.cons Tri.str .nil)) (by show 2 ≤ sizeLine; decide)) (add_ll (hsz (by unfold encS; rw [List.length_map, words_len hl]; decide)))
theorem freeze {cs : List PyData} (h : s.cuts = .own cs) : Turns s.σ ({ s with cuts := .val (.list cs) } : LS).σ := by
  obtain ⟨S0, S1, S2, S3, S4, S5, S6, S7, S8, S9, S10, S11, S12, S13, S14, S15, S16, S17, S18, S19, S20, S21, S22, S23, S24, S25, S26, S27, S28⟩ := s
  dsimp only at h
  subst h
  exact Turns.app (a := [Ce "script" S0, Ce "cells" S1, Lo "total" S2, Ce "key" S3, Lo "letters" S4, Lo "signs" S5, Lo "terms" S6, Ce "pieces" S7, Lo "texts" S8, Lo "text" S9, Lo "tail" S10, Lo "told" S11, Lo "asked" S12, Lo "tape" S13, Lo "tests" S14, Ce "shorn" S15, Lo "left" S16, Lo "found" S17, Lo "read" S18, Lo "value" S19, Lo "low" S20, Lo "names" S21, Lo "words" S22]) (Turns.refl _) (.cons (.fz _ _ _) (Turns.refl _))
theorem freezeA {cs : List PyData} (h : s.asked = .own cs) : Turns s.σ ({ s with asked := .val (.list cs) } : LS).σ := by
  obtain ⟨S0, S1, S2, S3, S4, S5, S6, S7, S8, S9, S10, S11, S12, S13, S14, S15, S16, S17, S18, S19, S20, S21, S22, S23, S24, S25, S26, S27, S28⟩ := s
  dsimp only at h
  subst h
  exact Turns.app (a := [Ce "script" S0, Ce "cells" S1, Lo "total" S2, Ce "key" S3, Lo "letters" S4, Lo "signs" S5, Lo "terms" S6, Ce "pieces" S7, Lo "texts" S8, Lo "text" S9, Lo "tail" S10, Lo "told" S11]) (Turns.refl _) (.cons (.fz _ _ _) (Turns.refl _))
/-- a sum of words of four letters, not too long -/
structure W4 (V : List Pr) : Prop where
  four : ∀ p ∈ V, p.1.cps.size = 4
  ok : ∀ p ∈ V, OkS p.1
  len : V.length ≤ 60
theorem br_len (V : List Pr) (cs : List Cut) : (brTerms V cs).length = V.length * cs.length := by
  unfold brTerms
  induction V with
  | nil => simp
  | cons p V ih => rw [List.flatMap_cons, List.length_append, ih, List.length_map, List.length_cons, Nat.add_mul]; lia
theorem sh_len (V : List Pr) (cs : List Cut) : (shTerms V cs).length = V.length * cs.length := by
  unfold shTerms
  induction V with
  | nil => simp
  | cons p V ih => rw [List.flatMap_cons, List.length_append, ih, List.length_map, List.length_cons, Nat.add_mul]; lia
theorem rc_br (G : LG prog w H kvs) {V : List Pr} (hV : W4 V) (h64 : ((sumK (brTerms V cuts8)).filter fun p => p.2 != 0).length < 64) : RC prog w H (.ref G.br) 4 [.list (encP V), .list (encC cuts8)] (.list (encP (plainR (brTerms V cuts8)))) :=
  rc_bracketed G.f_br G.f_plain G.g_plain G.b_sorted G.b_len hV.four cuts_ok (by rw [br_len]; have := hV.len; show V.length * 8 ≤ 10000; lia) h64
theorem rc_sh (G : LG prog w H kvs) {V : List Pr} (hV : W4 V) (h64 : ((sumK (shTerms V cuts7)).filter fun p => p.2 != 0).length < 64) : RC prog w H (.ref G.sh) 4 [.list (encP V), .list (encC cuts8)] (.list (encP (plainR (shTerms V cuts7)))) :=
  rc_shuffled cuts_h7 (by decide) G.f_sh G.f_plain G.g_plain G.b_sorted G.b_len G.b_min hV.four cuts7_ok (by rw [sh_len]; have := hV.len; show V.length * 7 ≤ 10000; lia) h64
theorem law33 (G : LG prog w H kvs) {V : List Pr} (hV : W4 V) (h64 : ((sumK (brTerms V cuts8)).filter fun p => p.2 != 0).length < 64) (h1 : s.value = .val (.list (encP V))) (h5 : s.cuts = .own (encC cuts8))
    (k : TriB prog w H (LC pm cd doc L f A) ({ s with cuts := .val (.list (encC cuts8)), turned := .val (.list (encP (plainR (brTerms V cuts8)))) } : LS).σ (LB.drop 33) P) : TriB prog w H (LC pm cd doc L f A) s.σ (LB.drop 32) P :=
  TriB.turn (freeze s h5) (TriB.next (TriN.assign (Tri.callF gl_law_bracketed G.g_br G.f_br.is (TriL.cons (Tri.nm (({ s with cuts := .val (.list (encC cuts8)) } : LS).l_value) h1) (TriL.cons (Tri.name (({ s with cuts := .val (.list (encC cuts8)) } : LS).l_cuts)) .nil)) (rc_br G hV h64) (by show 4 ≤ 20; lia)) (({ s with cuts := .val (.list (encC cuts8)) } : LS).u_turned _) (.inl rfl)) k)
set_option maxHeartbeats 2000000 in
theorem law34 {V U : List Pr} (hV : W4 V) (hU : W4 U) (h1 : s.value = .val (.list (encP V))) (h2 : s.turned = .val (.list (encP U)))
    (k : TriB prog w H (LC pm cd doc L f A) ({ s with made := .val (.bool ((PyData.list (encP U)).eqv (.list (encP (mulP 4 V))))) } : LS).σ (LB.drop 34) P) : TriB prog w H (LC pm cd doc L f A) s.σ (LB.drop 33) P := by
  have hall := mulG_all V
  refine TriB.next (TriN.assign (σ₁ := s.σ) (d := .bool ((PyData.list (encP U)).eqv (.list (encP (mulP 4 V))))) (Tri.cmp (σ₁ := s.σ) (da := .list (encP U)) (db := .list (encP (mulP 4 V))) (Tri.nm s.l_turned h2) ?_ (eq_dd (Dat.shaped (Dat.encP (n := 0) hU.ok) (by decide)) (Dat.shaped (Dat.encP (n := 0) fun p hp => ?_) (by decide)))) (s.u_made _) (.inl rfl)) k
  · rw [← hall]
    refine Tri.comp (tt := ttAny) (ItE.list (Tri.nm s.l_value h1)) (.inr ⟨_, _, _, rfl⟩) [] ["word", "weight"] [] (KidOk.of (by kernel_rfl)) (fun p hp => nomatch hp) mulG (fun L d hd => ?_) (fun L it D => rfl) (by rw [hall]; unfold encP mulP; rw [List.length_map, List.length_map]; exact hsz (Nat.le_trans hV.len (by decide)))
    obtain ⟨p, hp, rfl⟩ := List.mem_map.mp hd
    obtain ⟨y, c⟩ := p
    exact ⟨_, _, Asg.tuple (AsgL.cons (Asg.name .here (.inl rfl)) (AsgL.cons (Asg.name (.there .here) (.inl rfl)) .nil)), .cons (.un _ _ _) (.cons (.un _ _ _) .nil), TriI.nil, fun hb => EmitR.elt (Tri.tuple (TriL.cons (Tri.name .here) (TriL.cons (Tri.bin Tri.int (Tri.name (.there .here)) (mul_ii (.inl (by decide)))) .nil)) (by show 2 ≤ sizeLine; decide)), fun hb => nomatch hb⟩
  · obtain ⟨q, hq, rfl⟩ := List.mem_map.mp hp
    exact hV.ok q hq
set_option maxHeartbeats 2000000 in
theorem law35 (G : LG prog w H kvs) {as : List PyData} {U : List Pr} (hU : W4 U) (h64 : ((sumK (brTerms U cuts8)).filter fun p => p.2 != 0).length < 64) (hfour : plainR (brTerms U cuts8) = mulP 4 U) (has : Asks as) (hal : as.length ≤ 1000) (h2 : s.turned = .val (.list (encP U))) (h5 : s.cuts = .val (.list (encC cuts8))) (h4 : s.asked = .own as)
    (k : ∀ bs, Asks bs → bs.length ≤ as.length + 1 → TriB prog w H (LC pm cd doc L f A) ({ s with asked := .own bs } : LS).σ (LB.drop 35) P) : TriB prog w H (LC pm cd doc L f A) s.σ (LB.drop 34) P := by
  have hall := mulG_all U
  have hmo : ∀ p ∈ mulP 4 U, OkS p.1 := fun p hp => by
    obtain ⟨q, hq, rfl⟩ := List.mem_map.mp hp
    exact hU.ok q hq
  refine TriB.next (TriN.append (σ₁ := s.σ) (ds := as) (d := .tuple [.list (encP (plainR (brTerms U cuts8))), .list (encP (mulP 4 U))]) (Tri.tuple (TriL.cons (Tri.callF gl_law_bracketed G.g_br G.f_br.is (TriL.cons (Tri.nm s.l_turned h2) (TriL.cons (Tri.nm s.l_cuts h5) .nil)) (rc_br G hU h64) (by show 4 ≤ 20; lia)) (TriL.cons (σ₁ := s.σ) ?_ .nil)) (by show 2 ≤ sizeLine; decide)) (h4 ▸ s.m_asked) (.own _) (s.u_asked _) (hsz (by lia)) ⟨_, h4 ▸ s.m_asked, _, .own _⟩) (k _ (has.app (Asks.one (Ask.mk (n := 2) (by rw [hfour]) (Dat.encP (by rw [hfour]; exact hmo))))) (by rw [List.length_append]; exact Nat.le_refl _))
  rw [← hall]
  refine Tri.comp (tt := ttAny) (ItE.list (Tri.nm s.l_turned h2)) (.inr ⟨_, _, _, rfl⟩) [] ["word", "weight"] [] (KidOk.of (by kernel_rfl)) (fun p hp => nomatch hp) mulG (fun L d hd => ?_) (fun L it D => rfl) (by rw [hall]; unfold encP mulP; rw [List.length_map, List.length_map]; exact hsz (Nat.le_trans hU.len (by decide)))
  obtain ⟨p, hp, rfl⟩ := List.mem_map.mp hd
  obtain ⟨y, c⟩ := p
  exact ⟨_, _, Asg.tuple (AsgL.cons (Asg.name .here (.inl rfl)) (AsgL.cons (Asg.name (.there .here) (.inl rfl)) .nil)), .cons (.un _ _ _) (.cons (.un _ _ _) .nil), TriI.nil, fun hb => EmitR.elt (Tri.tuple (TriL.cons (Tri.name .here) (TriL.cons (Tri.bin Tri.int (Tri.name (.there .here)) (mul_ii (.inl (by decide)))) .nil)) (by show 2 ≤ sizeLine; decide)), fun hb => nomatch hb⟩
noncomputable def inL (sg : List Nat) (c : Nat) : Bool := (encL sg).any fun y => y.eqv (.str ⟨#[c]⟩)
set_option maxHeartbeats 2000000 in
theorem law36 (G : LG prog w H kvs) {as : List PyData} {U V : List Pr} {sg : List Nat} {m : Bool} (hU : W4 U) (hV : W4 V) (h64U : ((sumK (shTerms U cuts7)).filter fun p => p.2 != 0).length < 64) (h64V : ((sumK (shTerms V cuts7)).filter fun p => p.2 != 0).length < 64)
    (hsU : plainR (shTerms U cuts7) = []) (hsV : (PyData.list (encP (plainR (shTerms V cuts7)))).eqv (.list []) = m) (hor : m = true ∨ inL sg 43 = true ∨ inL sg 42 = true) (hso : ∀ c ∈ sg, c < 1114112) (hVs : ∀ p ∈ plainR (shTerms V cuts7), OkS p.1) (has : Asks as) (hal : as.length ≤ 1000)
    (h1 : s.value = .val (.list (encP V))) (h2 : s.turned = .val (.list (encP U))) (h3 : s.signs = .val (.list (encL sg))) (h6 : s.made = .val (.bool m)) (h5 : s.cuts = .val (.list (encC cuts8))) (h4 : s.asked = .own as)
    (k : ∀ bs, Asks bs → bs.length ≤ as.length + 1 → TriB prog w H (LC pm cd doc L f A) ({ s with asked := .own bs } : LS).σ (LB.drop 36) P) : TriB prog w H (LC pm cd doc L f A) s.σ (LB.drop 35) P := by
  have shS := Dat.shaped (dat_encL (n := 0) hso) (by decide)
  have sh1 : ∀ c, c < 1114112 → SeqAt.shaped (.str ⟨#[c]⟩) = true := fun c hc => Dat.shaped (n := 0) (.str (ok_mk (l := [c]) fun d hd => by rw [List.mem_singleton.mp hd]; exact hc)) (by decide)
  have hdat : Dat 2 (.tuple [.list [], .bool m, .bool true]) := .tuple fun x hx => by
    simp at hx
    rcases hx with rfl | rfl | rfl
    · exact .list fun x hx => nomatch hx
    · exact .bool _
    · exact .bool _
  refine TriB.next (TriN.append (σ₁ := s.σ) (ds := as) (d := .tuple [.tuple [.list (encP (plainR (shTerms U cuts7))), .bool ((PyData.list (encP (plainR (shTerms V cuts7)))).eqv (.list [])), .bool true], .tuple [.list [], .bool m, .bool true]]) (Tri.tuple (TriL.cons (Tri.tuple (TriL.cons (Tri.callF gl_law_shuffled G.g_sh G.f_sh.is (TriL.cons (Tri.nm s.l_turned h2) (TriL.cons (Tri.nm s.l_cuts h5) .nil)) (rc_sh G hU h64U) (by show 4 ≤ 20; lia)) (TriL.cons (Tri.cmp (Tri.callF gl_law_shuffled G.g_sh G.f_sh.is (TriL.cons (Tri.nm s.l_value h1) (TriL.cons (Tri.nm s.l_cuts h5) .nil)) (rc_sh G hV h64V) (by show 4 ≤ 20; lia)) (Tri.list .nil (by decide)) (eq_dd (Dat.shaped (Dat.encP (n := 0) hVs) (by decide)) (by decide))) (TriL.cons (σ₁ := s.σ) ?_ .nil))) (by show 3 ≤ sizeLine; decide)) (TriL.cons (Tri.tuple (TriL.cons (Tri.list .nil (by decide)) (TriL.cons (Tri.nm s.l_made h6) (TriL.cons Tri.bool .nil))) (by show 3 ≤ sizeLine; decide)) .nil)) (by show 2 ≤ sizeLine; decide)) (h4 ▸ s.m_asked) (.own _) (s.u_asked _) (hsz (by lia)) ⟨_, h4 ▸ s.m_asked, _, .own _⟩) (k _ (has.app (Asks.one (Ask.mk (n := 2) (by rw [hsU, hsV]; rfl) (by rw [hsU, hsV]; exact hdat)))) (by rw [List.length_append]; exact Nat.le_refl _))
  · rcases hor with rfl | hor
    · exact Tri.orT (Tri.nm s.l_made h6) truthy_b
    · cases m with
      | true => exact Tri.orT (Tri.nm s.l_made h6) truthy_b
      | false =>
        refine Tri.orF (Tri.nm s.l_made h6) truthy_b ?_
        cases hp : inL sg 43 with
        | true =>
          refine Tri.orT (d := .bool true) ?_ truthy_b
          rw [← hp]
          exact Tri.cmp Tri.str (Tri.nm s.l_signs h3) (in_dl shS (sh1 43 (by decide)))
        | false =>
          have hm : inL sg 42 = true := by rcases hor with h | h
                                           · rw [hp] at h; cases h
                                           · exact h
          refine Tri.orF (d := .bool false) (σ₁ := s.σ) ?_ truthy_b (Tri.or1 ?_)
          · rw [← hp]
            exact Tri.cmp Tri.str (Tri.nm s.l_signs h3) (in_dl shS (sh1 43 (by decide)))
          · rw [← hm]
            exact Tri.cmp Tri.str (Tri.nm s.l_signs h3) (in_dl shS (sh1 42 (by decide)))
theorem law37 {as : List PyData} (has : Asks as) (hal : as.length ≤ 1000) (h4 : s.asked = .own as) (hP : ∀ σ, P (.rt (.bool true)) σ) : TriB prog w H (LC pm cd doc L f A) s.σ (LB.drop 36) P := by
  refine TriB.turn (freezeA s h4) ?_
  have hall := neG_all as has
  have hd0 : (PyData.list (as.flatMap neG)).eqv (.list []) = true := by rw [hall]; rfl
  refine TriB.last (TriS.ret (σ₁ := ({ s with asked := .val (.list as) } : LS).σ) (d := .bool true) ?_ (hP _))
  rw [← hd0]
  refine Tri.cmp (σ₁ := ({ s with asked := .val (.list as) } : LS).σ) ?_ (Tri.list .nil (by decide)) (eq_dd (by rw [hall]; decide) (by decide))
  refine Tri.comp (tt := ttAny) (ItE.list (Tri.name (({ s with asked := .val (.list as) } : LS).l_asked))) (.inl ⟨_, _, rfl⟩) [] ["one"] [] (KidOk.of (by kernel_rfl)) (fun p hp => nomatch hp) neG (fun L d hd => ?_) (fun L it D => rfl) (by rw [hall]; exact Nat.zero_le _)
  obtain ⟨x, n, rfl, hx, hn⟩ := has d hd
  have hxs := hx.shaped (Nat.le_trans hn (by decide))
  refine ⟨_, _, Asg.name .here (.inl rfl), .cons (.un _ _ _) .nil, TriI.one (TriT.cmp (Tri.item (Tri.name .here) Tri.int (item_ti (by decide) (by decide) rfl)) (Tri.item (Tri.name .here) Tri.int (item_ti (by decide) (by decide) rfl)) (ne_dd hxs hxs)), fun hb => ?_, fun hb => ?_⟩
  · rw [hx.refl] at hb; cases hb
  · show (if (!(x.eqv x)) = true then [PyData.tuple [x, x]] else []) = []
    rw [hx.refl]; rfl
end
end Mine

end
noncomputable section
open PySem PySem.W PyProof.Rows
set_option maxRecDepth 100000
set_option autoImplicit false
namespace Mine
/-- the plain facts that the walk leans on -/
structure PF (xs : List Int) (cs : List Int) (t : Int) (lc : List Nat) (T : Ex) (ps : List Pr) (us : List Un) (U : List Pr) : Prop where
  cs_eq : cellsR xs = cs
  cells : CellsOk cs
  t_eq : cs.sum = t
  lc_eq : (cs.take 4).map (lettC t) = lc
  lc_len : lc.length = 4
  sg_eq : signsR cs (chL lc) = chL T.sg
  ok : T.ok
  nn : T.nn = 3
  sgc : ∀ c ∈ T.sg, SgC c
  us_eq : unitsR cs T.sg = us
  us_ok : ∀ u ∈ us, UnOk u
  us_sg : us.map (·.2) = T.sg
  ps_eq : termsR cs (chL lc) = ps
  ps_len : ps.length = 8
  ps_word : ∀ p ∈ ps, p.1.length = 4 ∧ ∀ c ∈ p.1.cps.toList, SignC c
  cut : Cuts (ucs us) t
  tape : tapeGo (mk (keyC t)) 41 (octsR ps cs t ++ [t.fmod 256]) "" [] = some (ps, [t.fmod 256])
  val : plainR ps = T.val
  U_eq : plainR (brTerms T.val cuts8) = U
  wV : W4 T.val
  wU : W4 U
  b1 : ((sumK (brTerms T.val cuts8)).filter fun p => p.2 != 0).length < 64
  b2 : ((sumK (brTerms U cuts8)).filter fun p => p.2 != 0).length < 64
  b3 : ((sumK (shTerms U cuts7)).filter fun p => p.2 != 0).length < 64
  b4 : ((sumK (shTerms T.val cuts7)).filter fun p => p.2 != 0).length < 64
  four : plainR (brTerms U cuts8) = mulP 4 U
  shU : plainR (shTerms U cuts7) = []
  shV : (PyData.list (encP (plainR (shTerms T.val cuts7)))).eqv (.list []) = (PyData.list (encP U)).eqv (.list (encP (mulP 4 T.val)))
  or3 : (PyData.list (encP U)).eqv (.list (encP (mulP 4 T.val))) = true ∨ inL T.sg 43 = true ∨ inL T.sg 42 = true
  shok : ∀ p ∈ plainR (shTerms T.val cuts7), OkS p.1
theorem nums_len (ps : List Pr) (h : ∀ p ∈ ps, p.1.length = 4) : (numsR ps).length = 5 * ps.length := by
  unfold numsR
  induction ps with
  | nil => rfl
  | cons p ps ih =>
    have := h p (.head _)
    have h2 : (numW p.1).length = 4 := by unfold numW; rw [List.length_map]; exact this
    rw [List.flatMap_cons, List.length_append, ih fun q hq => h q (.tail _ hq), List.length_append, List.length_cons, h2]
    simp; lia
theorem octs_len (ps : List Pr) (cs : List Int) (t : Int) : (octsR ps cs t).length ≤ 3 * ((numsR ps).length + 1) := by
  unfold octsR octF
  rw [List.length_map, List.length_zipIdx]
  have := octGo_len cs ((numsR ps ++ [0]).zipIdx)
  rw [List.length_zipIdx, List.length_append] at this
  exact this
theorem SignC.lt {c : Nat} (h : SignC c) : c < 1114112 := by unfold SignC at h; lia
theorem ok_word {y : Str} (h : ∀ c ∈ y.cps.toList, SignC c) : OkS y := by
  rw [← mk_eta y]; exact ok_mk fun c hc => (h c hc).lt
section
variable {prog : Program} {w : World} {H : Heap} {kvs : List (Str × Int)}
set_option maxHeartbeats 4000000 in
theorem rc_law (G : LG prog w H kvs) {f : Addr} (hf : FnK H f 74) {xs cs : List Int} {t : Int} {lc : List Nat} {T : Ex} {ps : List Pr} {us : List Un} {U : List Pr} (hxs : xs.length ≤ 63) (F : PF xs cs t lc T ps us U) :
    RC prog w H (.ref f) 21 [.list (encI xs)] (.bool true) := by
  refine RC.fn (ps := [("script", .list (encI xs))]) (vs := lawVs) (gl := lawGl) hf (by kernel_rfl) (by decide +kernel) (by kernel_rfl) (fun vals hl pm cd doc => by obtain ⟨a, rfl⟩ := one_of hl; rfl) fun pm cd doc L A => ?_
  have hul : us.length = 13 := by
    have := congrArg List.length F.us_sg
    rw [List.length_map, T.len, F.nn] at this
    exact this
  have hX : (ucs us).length ≤ 1000 := Nat.le_trans (ucs_len us) (by lia)
  have hXo := ucs_ok F.us_ok
  have hX2 : OkS (mk (ucs us ++ 39 :: keyC t)) := ok_mk fun c hc => by
    rcases List.mem_append.mp hc with hc | hc
    · exact Nat.lt_trans (ucs_lt F.us_ok c hc) (by decide)
    · rcases List.mem_cons.mp hc with rfl | hc
      · decide
      · exact key_lt t c hc
  have hsl : ∀ c ∈ T.sg, c < 1114112 := fun c hc => Nat.lt_trans (F.sgc c hc).lt (by decide)
  have hsgl : T.sg.length = 13 := by rw [T.len, F.nn]
  obtain ⟨low, hlow, hl13⟩ := low_bd t
  have hnl := nums_len ps fun p hp => (F.ps_word p hp).1
  have hol := octs_len ps cs t
  rw [hnl, F.ps_len] at hol
  have hp64 : ((sumK ps).filter fun p => p.2 != 0).length < 64 := Nat.lt_of_le_of_lt (filt_len' ps) (by rw [F.ps_len]; decide)
  have hp1 : ps.length ≤ 10000 := by rw [F.ps_len]; decide
  show TriB prog w H (LC pm cd doc L f A) (LS.mk (.val (.list (encI xs))) .un .un .un .un .un .un .un .un .un .un .un .un .un .un .un .un .un .un .un .un .un .un .un .un .un .un .un .un).σ (LB.drop 0) _
  refine law1 _ G hxs rfl ?_
  dsimp only
  rw [F.cs_eq]
  refine law2 _ G rfl ?_
  dsimp only
  rw [F.t_eq]
  refine law3 _ rfl ?_
  dsimp only
  refine law4 _ F.cells rfl rfl ?_
  dsimp only
  rw [F.lc_eq]
  refine law5 _ G F.cells F.lc_len rfl rfl ?_
  dsimp only
  refine law6 _ G F.cells F.lc_len rfl rfl ?_
  dsimp only
  rw [F.sg_eq, F.ps_eq]
  refine law7 _ ?_
  dsimp only
  refine law8 _ G (sg := T.sg) F.cells (by lia) rfl rfl rfl ?_
  dsimp only
  rw [F.us_eq]
  refine law9 _ (by lia) rfl ?_
  dsimp only
  refine law10 _ rfl ?_
  dsimp only
  refine law11 _ G hX F.cut rfl rfl ?_
  dsimp only
  refine law12 _ G hX F.cut hXo rfl rfl rfl rfl fun a1 h1 l1 => ?_
  dsimp only
  refine law13 _ G hX F.cut hXo hX2 h1 (by lia) rfl rfl rfl fun a2 h2 l2 => ?_
  dsimp only
  refine law14 _ G F.cells (fun p hp => ⟨by rw [(F.ps_word p hp).1]; decide, (F.ps_word p hp).2⟩) (by rw [hnl, F.ps_len]; decide) (by lia) rfl rfl rfl ?_
  dsimp only
  refine law15 _ G (oc := octsR ps cs t) (X := ucs us) hp1 hp64 (fun p hp => ok_word (F.ps_word p hp).2) F.tape h2 (by lia) rfl rfl rfl rfl rfl fun a3 h3 l3 => ?_
  dsimp only
  refine law16 _ G ?_
  dsimp only
  refine law17 _ G h3 (by lia) rfl rfl fun a4 h4 l4 => ?_
  dsimp only
  refine law18 _ F.us_ok (by lia) rfl ?_
  dsimp only
  refine law19 _ G (t := t) F.us_ok (by lia) rfl ?_
  dsimp only
  refine law20 _ G F.us_ok (by lia) rfl ?_
  dsimp only
  refine law21 _ G (sg := T.sg) h4 (by lia) F.us_ok (by lia) F.us_sg rfl rfl rfl rfl rfl fun a5 h5 l5 => ?_
  dsimp only
  refine law22 _ (sg := T.sg) F.us_ok (by lia) F.us_sg rfl ?_
  dsimp only
  refine law23 _ G (T := T) F.ok (by rw [F.nn]; decide) h5 (by lia) F.us_ok F.us_sg rfl rfl rfl fun a6 h6 l6 => ?_
  dsimp only
  refine law24 _ G (sg := T.sg) hp1 hp64 F.val F.wV.ok hsl h6 (by lia) rfl rfl rfl rfl rfl fun a7 h7 l7 => ?_
  dsimp only
  refine law25 _ rfl rfl ?_
  dsimp only
  refine law26 _ G hX F.cut hXo h7 (by lia) rfl rfl rfl rfl fun a8 h8 l8 => ?_
  dsimp only
  refine law27 _ hlow rfl ?_
  dsimp only
  refine law28 _ ?_
  dsimp only
  refine law29 _ G hl13 rfl rfl ?_
  dsimp only
  refine law30 _ ?_
  dsimp only
  refine law31 _ G hl13 h8 (by lia) rfl rfl rfl rfl fun a9 x y z h9 l9 => ?_
  refine law32 _ G hl13 h9 (by lia) rfl rfl rfl fun a10 h10 l10 => ?_
  dsimp only
  refine law33 _ G F.wV F.b1 rfl rfl ?_
  dsimp only
  rw [F.U_eq]
  refine law34 _ F.wV F.wU rfl rfl ?_
  dsimp only
  refine law35 _ G F.wU F.b2 F.four h10 (by lia) rfl rfl rfl fun a11 h11 l11 => ?_
  dsimp only
  refine law36 _ G (sg := T.sg) F.wU F.wV F.b3 F.b4 F.shU F.shV F.or3 hsl F.shok h11 (by lia) rfl rfl rfl rfl rfl rfl fun a12 h12 l12 => ?_
  dsimp only
  exact law37 _ h12 (by lia) rfl fun σ => rfl
end
end Mine

end
noncomputable section
open PySem PySem.W PyProof.Rows
open Builtin Builtin.Str
set_option maxRecDepth 100000
set_option autoImplicit false
namespace Mine
/-! where one sign stands in a text -/
noncomputable def fnd (c : Nat) : List Nat → Nat → Nat → List Nat
  | [], _, _ => []
  | x :: r, p, m => if x = c ∧ 0 < m then p :: fnd c r (p + 1) (m - 1) else fnd c r (p + 1) m
theorem fnd_none {c : Nat} : ∀ (l : List Nat) (p : Nat) (h : fnd c l p 0 = fnd c l p 0), fnd c l p 0 = []
  | [], p, _ => rfl
  | x :: r, p, _ => by rw [fnd, if_neg (by lia)]; exact fnd_none r _ rfl
theorem occ_fnd (y : Str) (c limit : Nat) : ∀ (k i free : Nat) (acc : Array Nat), i + k = y.length + 1 → free ≤ i →
    (forIn (List.range' i k) (acc, free) (StrLaws.occBody y ⟨#[c]⟩ y.length limit)).run.fst.toList = acc.toList ++ fnd c (y.cps.toList.drop i) i (limit - acc.size)
  | 0, i, free, acc, hi, hf => by
    rw [List.drop_of_length_le (by simp [Str.length] at hi ⊢; lia)]
    simp [fnd]
  | k + 1, i, free, acc, hi, hf => by
    rw [List.range'_succ, List.forIn_cons]
    have hone := StrLaws.subAt_one y c i
    have step : ∀ b, (StrLaws.occBody y ⟨#[c]⟩ y.length limit i (acc, free)) = b → (∀ acc' free', b = pure (ForInStep.yield (acc', free')) → free' ≤ i + 1 → (forIn (List.range' (i + 1) k) (acc', free') (StrLaws.occBody y ⟨#[c]⟩ y.length limit)).run.fst.toList = acc'.toList ++ fnd c (y.cps.toList.drop (i + 1)) (i + 1) (limit - acc'.size)) := fun b hb acc' free' _ hf' => occ_fnd y c limit k (i + 1) free' acc' (by lia) hf'
    cases hd : y.cps.toList[i]? with
    | none =>
      have hn : y.cps.toList.length ≤ i := List.getElem?_eq_none_iff.mp hd
      have hc : ¬ (((acc.size < limit ∧ free ≤ i) ∧ i + (⟨#[c]⟩ : Str).length ≤ y.length) ∧ subAt y ⟨#[c]⟩ i = true) := fun h => by
        have := hone.mp ⟨h.1.2, h.2⟩
        rw [hd] at this; cases this
      have e : StrLaws.occBody y ⟨#[c]⟩ y.length limit i (acc, free) = pure (ForInStep.yield (acc, free)) := by
        unfold StrLaws.occBody; rw [if_neg hc]
      rw [e]
      have := step _ e acc free rfl (by lia)
      rw [List.drop_of_length_le hn]
      rw [List.drop_of_length_le (by lia)] at this
      exact this
    | some x =>
      have hlt : i < y.cps.toList.length := (List.getElem?_eq_some_iff.mp hd).1
      have hdr : y.cps.toList.drop i = x :: y.cps.toList.drop (i + 1) := by
        rw [List.drop_eq_getElem_cons hlt]
        congr 1
        exact (List.getElem?_eq_some_iff.mp hd).2
      rw [hdr, fnd]
      by_cases hx : x = c ∧ 0 < limit - acc.size
      · have hs := hone.mpr (by rw [hd, hx.1])
        have e : StrLaws.occBody y ⟨#[c]⟩ y.length limit i (acc, free) = pure (ForInStep.yield (acc.push i, i + 1)) := by
          unfold StrLaws.occBody; rw [if_pos ⟨⟨⟨show acc.size < limit by lia, hf⟩, hs.1⟩, hs.2⟩]; rfl
        rw [e, if_pos hx]
        have := step _ e (acc.push i) (i + 1) rfl (Nat.le_refl _)
        rw [Array.size_push, Array.toList_push, List.append_assoc] at this
        rw [show limit - (acc.size + 1) = limit - acc.size - 1 from by lia] at this
        exact this
      · have hc : ¬ (((acc.size < limit ∧ free ≤ i) ∧ i + (⟨#[c]⟩ : Str).length ≤ y.length) ∧ subAt y ⟨#[c]⟩ i = true) := fun h => by
          have h1 := hone.mp ⟨h.1.2, h.2⟩
          rw [hd] at h1
          injection h1 with h1
          exact hx ⟨h1, by have := h.1.1.1; lia⟩
        have e : StrLaws.occBody y ⟨#[c]⟩ y.length limit i (acc, free) = pure (ForInStep.yield (acc, free)) := by
          unfold StrLaws.occBody; rw [if_neg hc]
        rw [e, if_neg hx]
        exact step _ e acc free rfl (by lia)
theorem occ_one (y : Str) (c limit : Nat) : occurrences y ⟨#[c]⟩ 0 y.length limit = fnd c y.cps.toList 0 limit := by
  rw [StrLaws.occ_eq]
  have := occ_fnd y c limit (y.length + 1) 0 0 #[] (by lia) (Nat.le_refl _)
  simpa using this
theorem fnd_skip {c : Nat} : ∀ (l r : List Nat) (p m : Nat), c ∉ l → fnd c (l ++ r) p m = fnd c r (p + l.length) m
  | [], r, p, m, _ => rfl
  | x :: l, r, p, m, h => by
    rw [List.cons_append, fnd, if_neg (fun (q : x = c ∧ 0 < m) => h (q.1 ▸ .head _)), fnd_skip l r (p + 1) m fun q => h (.tail _ q), List.length_cons]
    congr 1; lia
theorem fnd_hit {c : Nat} {r : List Nat} {p m : Nat} : fnd c (c :: r) p (m + 1) = p :: fnd c r (p + 1) m := by
  rw [fnd, if_pos ⟨rfl, by lia⟩]; rfl
theorem fnd_zero {c : Nat} (l : List Nat) (p : Nat) : fnd c l p 0 = [] := fnd_none l p rfl
theorem fnd_not {c : Nat} {l : List Nat} {p m : Nat} (h : c ∉ l) : fnd c l p m = [] := by
  have := fnd_skip l [] p m h
  rw [List.append_nil] at this
  rw [this]; rfl
theorem sub_mk (l : List Nat) (i j : Nat) : strSub (mk l) i j = mk ((l.take j).drop i) := by
  unfold strSub mk
  congr 1
  rw [← Array.toList_inj]
  simp [List.drop_take]
theorem split2 {l : List Nat} (h : 1 ≤ l.length) : Txt.splitMax (mk l) "'" 2 = if (fnd 39 l 0 2).isEmpty = true then [mk l] else partsBetween (mk l) (fnd 39 l 0 2) 1 := by
  unfold Txt.splitMax
  have hk : Str.strKind (mk l) < Str.strKind ("'" : Str) ↔ False := by
    have : Str.strKind ("'" : Str) = 1 := by decide +kernel
    rw [this]
    constructor
    · intro h
      unfold Str.strKind at h
      split at h <;> (try split at h) <;> lia
    · intro h; cases h
  rw [if_neg (by rw [mk_len]; simp only [hk]; simp; exact h)]
  rw [show ("'" : Str) = ⟨#[39]⟩ from rfl]
  have : limitOf (mk l) 2 = 2 := rfl
  rw [this, occ_one, mk_list]
  rfl
theorem tick_key (t : Int) : 39 ∉ keyC t := fun h => by have := key_sign t 39 h; unfold SignC at this; lia
theorem cuts_of {X : List Nat} (t : Int) (hX : 39 ∉ X) (h1 : 1 ≤ X.length) : Cuts X t where
  three := by
    rw [split2 (by rw [List.length_append]; lia), fnd_skip _ _ _ _ hX, fnd_hit]
    unfold tailC
    rw [fnd_skip _ _ _ _ (tick_key t), fnd_hit, fnd_zero, key_len]
    rw [if_neg (by simp)]
    unfold partsBetween
    rw [mk_len]
    simp only [List.map_cons, List.map_nil, List.cons_append, List.nil_append, List.zip_cons_cons, List.zip_nil_right, sub_mk]
    have hk := key_len t
    refine congr (congrArg List.cons (congrArg mk ?_)) (congr (congrArg List.cons (congrArg mk ?_)) (congr (congrArg List.cons (congrArg mk ?_)) rfl))
    · rw [Nat.zero_add, List.take_left]; rfl
    · rw [show X ++ 39 :: (keyC t ++ 39 :: itsC) = (X ++ [39] ++ keyC t) ++ 39 :: itsC from by simp]
      rw [show 0 + X.length + 1 + 3 = (X ++ [39] ++ keyC t).length from by simp [hk], List.take_left, show 0 + X.length + 1 = (X ++ [39]).length from by simp, List.drop_left]
    · rw [List.take_length, show X ++ 39 :: (keyC t ++ 39 :: itsC) = (X ++ [39] ++ keyC t ++ [39]) ++ itsC from by simp]
      rw [show 0 + X.length + 1 + 3 + 1 = (X ++ [39] ++ keyC t ++ [39]).length from by simp [hk], List.drop_left]
  front := by
    rw [split2 (by rw [List.length_cons]; lia), fnd_hit, fnd_skip _ _ _ _ hX, fnd_hit, fnd_zero]
    rw [if_neg (by simp)]
    unfold partsBetween
    rw [mk_len]
    simp only [List.map_cons, List.map_nil, List.cons_append, List.nil_append, List.zip_cons_cons, List.zip_nil_right, sub_mk]
    refine congr (congrArg List.cons ?_) (congr (congrArg List.cons (congrArg mk ?_)) (congr (congrArg List.cons (congrArg mk ?_)) rfl))
    · rfl
    · rw [show 0 + 1 + X.length = X.length + 1 from by lia]
      show (X ++ 39 :: tailC t).take X.length = X
      rw [List.take_left]
    · rw [List.take_length, show 39 :: (X ++ 39 :: tailC t) = (39 :: X ++ [39]) ++ tailC t from by simp]
      rw [show 0 + 1 + X.length + 1 = (39 :: X ++ [39]).length from by simp; lia, List.drop_left]
  one := by
    rw [split2 h1, fnd_not hX]
    show 1 ≤ 2
    lia
  two := by
    rw [split2 (by rw [List.length_append]; lia), fnd_skip _ _ _ _ hX, fnd_hit, fnd_not (tick_key t)]
    rw [if_neg (by simp)]
    exact Nat.le_refl 2
end Mine

end
noncomputable section
open PySem PySem.W PyProof.Rows
set_option maxRecDepth 100000
set_option autoImplicit false
namespace Mine
/-! the tape, read back -/
theorem var_stop {b v : Int} {r : List Int} (h : (Builtin.bitAnd b 64 != 0) = false) : varGo r b v = some (v, r) := by
  cases r with
  | nil => rw [varGo, if_neg (by rw [h]; simp)]
  | cons c r => rw [varGo, if_neg (by rw [h]; simp)]
theorem var_go {b v c : Int} {r : List Int} (h : (Builtin.bitAnd b 64 != 0) = true) (hz : Builtin.Int.intBits v ≤ 64) : varGo (c :: r) b v = varGo r c (Builtin.bitOr (v * 2 ^ 6) (Builtin.bitAnd c 63)) := by
  rw [varGo, if_pos h, if_pos hz]
/-- an octet with 128 added, or not -/
noncomputable def oc (x : Bool) (o : Int) : Int := if x = true then o + 128 else o
noncomputable def NumOk (n : Int) : Prop := n = 24 ∨ n = 19 ∨ n = 32 ∨ n = 31 ∨ n = 49 ∨ n = 319 ∨ n = 320 ∨ n = 321 ∨ n = 0
theorem small_num : ∀ n ∈ ([24, 19, 32, 31, 49, 0] : List Int), ∀ x : Bool, (Builtin.bitAnd (oc x n) 64 != 0) = false ∧ Builtin.bitAnd (oc x n) 63 = n ∧ Builtin.bitOr (0 * 2 ^ 6) (Builtin.bitAnd (oc x n) 63) = n := by decide +kernel
theorem big_num : ∀ n ∈ ([319, 320, 321] : List Int), ∀ x y : Bool, (Builtin.bitAnd (oc x (n.fdiv 64 + 64)) 64 != 0) = true ∧ (Builtin.bitAnd (oc y (n.fmod 64)) 64 != 0) = false ∧
    Builtin.Int.intBits (Builtin.bitAnd (oc x (n.fdiv 64 + 64)) 63) ≤ 64 ∧ Builtin.bitOr (Builtin.bitAnd (oc x (n.fdiv 64 + 64)) 63 * 2 ^ 6) (Builtin.bitAnd (oc y (n.fmod 64)) 63) = n ∧
    Builtin.bitOr (0 * 2 ^ 6) (Builtin.bitAnd (oc x (n.fdiv 64 + 64)) 63) = Builtin.bitAnd (oc x (n.fdiv 64 + 64)) 63 := by decide +kernel
theorem pad_num : ∀ x : Bool, (Builtin.bitAnd (oc x 64) 64 != 0) = true ∧ Builtin.bitAnd (oc x 64) 63 = 0 := by decide +kernel
theorem octW_oc (t p o : Int) : octW t p o = oc ((p + t).fmod 3 == 0) o := rfl
theorem octF_app (t : Int) (a b : List Int) (k : Nat) : octF t (a ++ b) k = octF t a k ++ octF t b (k + a.length) := by
  unfold octF
  rw [List.zipIdx_append, List.map_append, Nat.add_comm]
theorem octF_nil (t : Int) (k : Nat) : octF t [] k = [] := rfl
theorem octF_cons (t o : Int) (l : List Int) (k : Nat) : octF t (o :: l) k = octW t (k : Nat) o :: octF t l (k + 1) := rfl
theorem var_num {n : Int} (hn : NumOk n) (cs : List Int) (k p : Nat) (t : Int) (r : List Int) : varint (octF t (octK cs (n, k)) p ++ r) = some (n, r) := by
  have hpd := padK_bd cs k
  have hb : (n = 319 ∨ n = 320 ∨ n = 321) ∨ (n = 24 ∨ n = 19 ∨ n = 32 ∨ n = 31 ∨ n = 49 ∨ n = 0) := by unfold NumOk at hn; lia
  have hpc : padK cs k = 0 ∨ padK cs k = 1 := by lia
  unfold octK octN
  rcases hb with hb | hb
  · have hm : n ∈ ([319, 320, 321] : List Int) := by simp; exact hb
    have K := big_num n hm
    rw [if_pos (by lia : (63 : Int) < n)]
    dsimp only
    rcases hpc with h | h
    · rw [h]
      show varint (octF t [n.fdiv 64 + 64, n.fmod 64] p ++ r) = _
      rw [octF_cons, octF_cons, octF_nil, octW_oc, octW_oc]
      show varGo (oc _ (n.fmod 64) :: r) (oc _ (n.fdiv 64 + 64)) _ = _
      obtain ⟨k1, k2, k3, k4, k5⟩ := K (((p : Nat) : Int) + t |>.fmod 3 |> (· == 0)) ((((p + 1 : Nat)) : Int) + t |>.fmod 3 |> (· == 0))
      rw [var_go k1 k3, var_stop k2, k4]
    · rw [h]
      show varint (octF t [64, n.fdiv 64 + 64, n.fmod 64] p ++ r) = _
      rw [octF_cons, octF_cons, octF_cons, octF_nil, octW_oc, octW_oc, octW_oc]
      show varGo (oc _ (n.fdiv 64 + 64) :: oc _ (n.fmod 64) :: r) (oc _ 64) (Builtin.bitAnd (oc _ 64) 63) = _
      obtain ⟨p1, p2⟩ := pad_num (((p : Nat) : Int) + t |>.fmod 3 |> (· == 0))
      obtain ⟨k1, k2, k3, k4, k5⟩ := K ((((p + 1 : Nat)) : Int) + t |>.fmod 3 |> (· == 0)) ((((p + 1 + 1 : Nat)) : Int) + t |>.fmod 3 |> (· == 0))
      rw [p2, var_go p1 (by decide), k5, var_go k1 k3, var_stop k2, k4]
  · have hm : n ∈ ([24, 19, 32, 31, 49, 0] : List Int) := by simp; exact hb
    have K := small_num n hm
    rw [if_neg (by lia : ¬ (63 : Int) < n)]
    dsimp only
    rcases hpc with h | h
    · rw [h]
      show varint (octF t [n] p ++ r) = _
      rw [octF_cons, octF_nil, octW_oc]
      obtain ⟨k1, k2, k3⟩ := K (((p : Nat) : Int) + t |>.fmod 3 |> (· == 0))
      show varGo r (oc _ n) (Builtin.bitAnd (oc _ n) 63) = _
      rw [var_stop k1, k2]
    · rw [h]
      show varint (octF t [64, n] p ++ r) = _
      rw [octF_cons, octF_cons, octF_nil, octW_oc, octW_oc]
      obtain ⟨p1, p2⟩ := pad_num (((p : Nat) : Int) + t |>.fmod 3 |> (· == 0))
      obtain ⟨k1, k2, k3⟩ := K ((((p + 1 : Nat)) : Int) + t |>.fmod 3 |> (· == 0))
      show varGo (oc _ n :: r) (oc _ 64) (Builtin.bitAnd (oc _ 64) 63) = _
      rw [p2, var_go p1 (by decide), var_stop k1, k3]
/-- the numbers, taken in turn -/
noncomputable def nGo (key : Str) : List Int → Str → List Pr → List Pr
  | [], _, ps => ps
  | n :: ns, u, ps => nGo key ns (wordN key n u) (pairN n u ps)
theorem tape_nums (key : Str) (cs : List Int) (t : Int) (tail : List Int) : ∀ (ns : List Int) (k p : Nat) (u : Str) (ps : List Pr), (∀ n ∈ ns, NumOk n ∧ n ≠ 0) →
    tapeGo key (ns.length + 1) (octF t (octGo cs ((ns ++ [0]).zipIdx k)) p ++ tail) u ps = some (nGo key ns u ps, tail)
  | [], k, p, u, ps, _ => by
    show tapeGo key 1 (octF t (octK cs (0, k) ++ []) p ++ tail) u ps = _
    rw [List.append_nil, tapeGo, var_num (n := 0) (by unfold NumOk; lia) cs k p t tail]
    rfl
  | n :: ns, k, p, u, ps, h => by
    obtain ⟨h1, h2⟩ := h n (.head _)
    show tapeGo key (ns.length + 1 + 1) (octF t (octK cs (n, k) ++ octGo cs ((ns ++ [0]).zipIdx (k + 1))) p ++ tail) u ps = _
    rw [octF_app, List.append_assoc, tapeGo, var_num h1]
    dsimp only
    rw [if_neg (by simpa using h2), tape_nums key cs t tail ns (k + 1) _ _ _ fun m hm => h m (.tail _ hm)]
    rfl
theorem key_one (t : Int) {c : Nat} (h : c ∈ keyC t) : keyF (mk (keyC t)) (numC c) = [mk [c]] ∧ NumOk (numC c) ∧ numC c ≠ 0 ∧ numC c < 256 := by
  have h3 := fmod3 t
  unfold keyF
  rw [mk_list]
  unfold keyC at h ⊢
  generalize t.fmod 3 = z at h h3
  have : z = 0 ∨ z = 1 ∨ z = 2 := by lia
  rcases this with rfl | rfl | rfl <;> (simp at h; rcases h with rfl | rfl | rfl <;> (unfold NumOk; decide))
theorem nGo_word (t : Int) (w : Int) (hw : w = -1 ∨ w = 0 ∨ w = 1) (rest : List Int) : ∀ (l : List Nat) (u : List Nat) (ps : List Pr), (∀ c ∈ l, c ∈ keyC t) →
    nGo (mk (keyC t)) (l.map numC ++ [320 + w] ++ rest) (mk u) ps = nGo (mk (keyC t)) rest "" (ps ++ [(mk (u ++ l), w)])
  | [], u, ps, _ => by
    show nGo (mk (keyC t)) rest (wordN _ (320 + w) (mk u)) (pairN (320 + w) (mk u) ps) = _
    have e1 : wordN (mk (keyC t)) (320 + w) (mk u) = "" := by unfold wordN; rw [if_neg (by simp; lia)]
    have e2 : pairN (320 + w) (mk u) ps = ps ++ [(mk (u ++ []), w)] := by
      unfold pairN
      rw [if_pos (by simp; lia), List.append_nil, show 320 + w - 320 = w from by lia]
    rw [e1, e2]
  | c :: l, u, ps, h => by
    obtain ⟨k1, k2, k3, k4⟩ := key_one t (h c (.head _))
    show nGo (mk (keyC t)) (l.map numC ++ [320 + w] ++ rest) (wordN _ (numC c) (mk u)) (pairN (numC c) (mk u) ps) = _
    have e1 : wordN (mk (keyC t)) (numC c) (mk u) = mk (u ++ [c]) := by
      unfold wordN
      rw [if_pos (by simpa using k4), k1]
      show mk u ++ mk [c] = _
      rw [mk_app]
    have e2 : pairN (numC c) (mk u) ps = ps := by
      unfold pairN
      rw [if_neg (by simp; lia)]
    rw [e1, e2, nGo_word t w hw rest l (u ++ [c]) ps fun d hd => h d (.tail _ hd), List.append_assoc]
    rfl
theorem nGo_all (t : Int) : ∀ (ps qs : List Pr), (∀ p ∈ ps, (p.2 = -1 ∨ p.2 = 0 ∨ p.2 = 1) ∧ ∀ c ∈ p.1.cps.toList, c ∈ keyC t) → nGo (mk (keyC t)) (numsR ps) "" qs = qs ++ ps
  | [], qs, _ => by show qs = _; simp
  | p :: ps, qs, h => by
    have hp := h p (.head _)
    show nGo (mk (keyC t)) ((numW p.1 ++ [320 + p.2]) ++ numsR ps) (mk []) qs = _
    unfold numW
    rw [nGo_word t p.2 hp.1 (numsR ps) p.1.cps.toList [] qs hp.2, nGo_all t ps _ fun q hq => h q (.tail _ hq), List.nil_append, mk_eta, List.append_assoc]
    rfl
theorem tape_all {ps : List Pr} {cs : List Int} {t : Int} (h8 : ps.length = 8) (h4 : ∀ p ∈ ps, p.1.length = 4) (h : ∀ p ∈ ps, (p.2 = -1 ∨ p.2 = 0 ∨ p.2 = 1) ∧ ∀ c ∈ p.1.cps.toList, c ∈ keyC t) :
    tapeGo (mk (keyC t)) 41 (octsR ps cs t ++ [t.fmod 256]) "" [] = some (ps, [t.fmod 256]) := by
  have hn := nums_len ps h4
  rw [h8] at hn
  have := tape_nums (mk (keyC t)) cs t [t.fmod 256] (numsR ps) 0 0 "" [] fun n hnm => by
    obtain ⟨p, hp, hq⟩ := List.mem_flatMap.mp hnm
    obtain ⟨h1, h2⟩ := h p hp
    rcases List.mem_append.mp hq with hq | hq
    · obtain ⟨c, hc, rfl⟩ := List.mem_map.mp hq
      have := key_one t (h2 c hc)
      exact ⟨this.2.1, this.2.2.1⟩
    · rw [List.mem_singleton.mp hq]
      unfold NumOk; lia
  rw [hn, nGo_all t ps [] h] at this
  exact this
end Mine

end
noncomputable section
open PySem PySem.W PyProof.Rows
set_option maxRecDepth 100000
set_option autoImplicit false
namespace Mine
/-! formal sums -/
noncomputable abbrev FS (α : Type) := List (α × Int)
section
variable {α β : Type}
noncomputable def evF (F : FS α) (h : α → Int) : Int := (F.map fun q => q.2 * h q.1).sum
theorem evF_cons (q : α × Int) (F : FS α) (h : α → Int) : evF (q :: F) h = q.2 * h q.1 + evF F h := by simp [evF]
theorem evF_nil (h : α → Int) : evF ([] : FS α) h = 0 := rfl
theorem evF_app (F G : FS α) (h : α → Int) : evF (F ++ G) h = evF F h + evF G h := by
  induction F with
  | nil => rw [List.nil_append, evF_nil]; lia
  | cons q F ih => rw [List.cons_append, evF_cons, ih, evF_cons]; lia
theorem evF_map (f : α → β) (F : FS α) (h : β → Int) : evF (F.map fun q => (f q.1, q.2)) h = evF F (h ∘ f) := by
  induction F with
  | nil => rfl
  | cons q F ih => rw [List.map_cons, evF_cons, ih, evF_cons]; rfl
theorem evF_congr {F : FS α} {h k : α → Int} (e : ∀ q ∈ F, h q.1 = k q.1) : evF F h = evF F k := by
  induction F with
  | nil => rfl
  | cons q F ih => rw [evF_cons, evF_cons, e q (.head _), ih fun r hr => e r (.tail _ hr)]
theorem evF_add (F : FS α) (h k : α → Int) : evF F (fun x => h x + k x) = evF F h + evF F k := by
  induction F with
  | nil => rfl
  | cons q F ih => rw [evF_cons, evF_cons, evF_cons, ih, Int.mul_add]; lia
noncomputable def scF (c : Int) (F : FS α) : FS α := F.map fun q => (q.1, c * q.2)
theorem evF_sc (c : Int) (F : FS α) (h : α → Int) : evF (scF c F) h = c * evF F h := by
  induction F with
  | nil => rw [show scF c ([] : FS α) = [] from rfl, evF_nil]; simp
  | cons q F ih =>
    show evF ((q.1, c * q.2) :: scF c F) h = _
    rw [evF_cons, ih, evF_cons, Int.mul_add, Int.mul_assoc]
noncomputable def bindF (F : FS α) (G : α → FS β) : FS β := F.flatMap fun q => scF q.2 (G q.1)
theorem evF_bind (F : FS α) (G : α → FS β) (h : β → Int) : evF (bindF F G) h = evF F fun x => evF (G x) h := by
  induction F with
  | nil => rfl
  | cons q F ih =>
    show evF (scF q.2 (G q.1) ++ bindF F G) h = _
    rw [evF_app, evF_sc, ih, evF_cons]
section
variable [DecidableEq α]
noncomputable def cf (F : FS α) (x : α) : Int := (F.map fun q => if q.1 = x then q.2 else 0).sum
theorem cf_cons (q : α × Int) (F : FS α) (x : α) : cf (q :: F) x = (if q.1 = x then q.2 else 0) + cf F x := by simp [cf]
theorem sum_ind {K : List α} (hK : K.Nodup) {x : α} (hx : x ∈ K) (c : Int) (h : α → Int) : (K.map fun y => (if x = y then c else 0) * h y).sum = c * h x := by
  induction K with
  | nil => cases hx
  | cons y K ih =>
    rw [List.nodup_cons] at hK
    rw [List.map_cons, List.sum_cons]
    by_cases e : x = y
    · subst e
      rw [if_pos rfl]
      have : (K.map fun y => (if x = y then c else 0) * h y).sum = 0 := by
        have hz : ∀ L : List α, x ∉ L → (L.map fun y => (if x = y then c else 0) * h y).sum = 0 := by
          intro L hL
          induction L with
          | nil => rfl
          | cons z L ihL =>
            rw [List.map_cons, List.sum_cons, ihL fun q => hL (.tail _ q), if_neg fun (q : x = z) => hL (q ▸ .head _)]
            lia
        exact hz K hK.1
      lia
    · rw [if_neg e, ih hK.2 ((List.mem_cons.mp hx).resolve_left e)]
      lia
theorem evF_cf {K : List α} (hK : K.Nodup) : ∀ {F : FS α} (h : α → Int), (∀ q ∈ F, q.1 ∈ K) → evF F h = (K.map fun x => cf F x * h x).sum
  | [], h, _ => by
    rw [evF_nil]
    have : ∀ L : List α, (L.map fun x => cf ([] : FS α) x * h x).sum = 0 := by
      intro L
      induction L with
      | nil => rfl
      | cons z L ih => rw [List.map_cons, List.sum_cons, ih]; simp [cf]
    exact (this K).symm
  | q :: F, h, hq => by
    rw [evF_cons, evF_cf hK h fun r hr => hq r (.tail _ hr), ← sum_ind hK (hq q (.head _)) q.2 h]
    have : ∀ L : List α, (L.map fun y => (if q.1 = y then q.2 else 0) * h y).sum + (L.map fun x => cf F x * h x).sum = (L.map fun x => cf (q :: F) x * h x).sum := by
      intro L
      induction L with
      | nil => rfl
      | cons z L ih =>
        simp only [List.map_cons, List.sum_cons]
        rw [← ih, cf_cons, Int.add_mul]
        lia
    exact this K
noncomputable def sameF (K : List α) (F G : FS α) : Bool := decide K.Nodup && (F.all (fun q => decide (q.1 ∈ K)) && (G.all (fun q => decide (q.1 ∈ K)) && K.all fun x => cf F x == cf G x))
theorem same_ev {K : List α} {F G : FS α} (e : sameF K F G = true) (h : α → Int) : evF F h = evF G h := by
  unfold sameF at e
  simp only [Bool.and_eq_true, decide_eq_true_eq, List.all_eq_true, beq_iff_eq] at e
  obtain ⟨h1, h2, h3, h4⟩ := e
  rw [evF_cf h1 h h2, evF_cf h1 h h3]
  congr 1
  exact List.map_congr_left fun x hx => by rw [h4 x hx]
end
end
/-! words of four places -/
noncomputable def P24 : List (List Nat) := [[0,1,2,3],[0,1,3,2],[0,2,1,3],[0,2,3,1],[0,3,1,2],[0,3,2,1],[1,0,2,3],[1,0,3,2],[1,2,0,3],[1,2,3,0],[1,3,0,2],[1,3,2,0],[2,0,1,3],[2,0,3,1],[2,1,0,3],[2,1,3,0],[2,3,0,1],[2,3,1,0],[3,0,1,2],[3,0,2,1],[3,1,0,2],[3,1,2,0],[3,2,0,1],[3,2,1,0]]
noncomputable def prodF (t : Int) (a b : FS (List Nat)) : FS (List Nat) := (a.flatMap fun p => b.map fun q => (p.1 ++ q.1, p.2 * q.2)) ++ (a.flatMap fun p => b.map fun q => (q.1 ++ p.1, t * p.2 * q.2))
noncomputable def Ex.F : Ex → FS (List Nat)
  | .leaf c => [([c], 1)]
  | .node m l r => prodF (trnI m) l.F r.F
noncomputable def Ex.rel (f : Nat → Nat) : Ex → Ex
  | .leaf c => .leaf (f c)
  | .node m l r => .node m (l.rel f) (r.rel f)
theorem ev_congr {ps : List Pr} {g h : Str → Int} (e : ∀ p ∈ ps, g p.1 = h p.1) : ev ps g = ev ps h := by
  induction ps with
  | nil => rfl
  | cons p ps ih => rw [ev_cons, ev_cons, e p (.head _), ih fun q hq => e q (.tail _ hq)]
theorem ev_mul (c : Int) (ps : List Pr) (g : Str → Int) : ev ps (fun x => c * g x) = c * ev ps g := by
  induction ps with
  | nil => simp [ev]
  | cons q F ih => rw [ev_cons, ev_cons, ih, Int.mul_add, Int.mul_left_comm]
theorem ev_add (ps : List Pr) (g h : Str → Int) : ev ps (fun x => g x + h x) = ev ps g + ev ps h := by
  induction ps with
  | nil => rfl
  | cons q F ih => rw [ev_cons, ev_cons, ev_cons, ih, Int.mul_add]; lia
theorem ev_prod (t : Int) (a b : List Pr) (g : Str → Int) : ev (prodT t a b) g = ev a fun x => ev b fun y => g (x ++ y) + t * g (y ++ x) := by
  have h1 : ∀ p : Pr, ev (b.map fun q => (p.1 ++ q.1, p.2 * q.2)) g = p.2 * ev b (fun y => g (p.1 ++ y)) := by
    intro p
    induction b with
    | nil => simp [ev]
    | cons q b ih => rw [List.map_cons, ev_cons, ih, ev_cons, Int.mul_add, Int.mul_assoc]
  have h2 : ∀ p : Pr, ev (b.map fun q => (q.1 ++ p.1, t * p.2 * q.2)) g = p.2 * ev b (fun y => t * g (y ++ p.1)) := by
    intro p
    clear h1
    induction b with
    | nil => simp [ev]
    | cons q b ih =>
      rw [List.map_cons, ev_cons, ih, ev_cons, Int.mul_add]
      congr 1
      dsimp only
      rw [Int.mul_comm t p.2, Int.mul_assoc, Int.mul_assoc, Int.mul_left_comm t]
  unfold prodT
  rw [ev_append]
  induction a with
  | nil => rfl
  | cons p a ih =>
    show ev ((b.map fun q => (p.1 ++ q.1, p.2 * q.2)) ++ prod1 a b) g + ev ((b.map fun q => (q.1 ++ p.1, t * p.2 * q.2)) ++ prod2 t a b) g = _
    rw [ev_append, ev_append, h1, h2, ev_cons, ← ih, ev_add, Int.mul_add]
    lia
theorem evF_prod (t : Int) (a b : FS (List Nat)) (g : List Nat → Int) : evF (prodF t a b) g = evF a fun x => evF b fun y => g (x ++ y) + t * g (y ++ x) := by
  have h1 : ∀ p : List Nat × Int, evF (b.map fun q => (p.1 ++ q.1, p.2 * q.2)) g = p.2 * evF b (fun y => g (p.1 ++ y)) := by
    intro p
    induction b with
    | nil => simp [evF]
    | cons q b ih => rw [List.map_cons, evF_cons, ih, evF_cons, Int.mul_add, Int.mul_assoc]
  have h2 : ∀ p : List Nat × Int, evF (b.map fun q => (q.1 ++ p.1, t * p.2 * q.2)) g = p.2 * evF b (fun y => t * g (y ++ p.1)) := by
    intro p
    clear h1
    induction b with
    | nil => simp [evF]
    | cons q b ih =>
      rw [List.map_cons, evF_cons, ih, evF_cons, Int.mul_add]
      congr 1
      dsimp only
      rw [Int.mul_comm t p.2, Int.mul_assoc, Int.mul_assoc, Int.mul_left_comm t]
  unfold prodF
  rw [evF_app]
  induction a with
  | nil => rfl
  | cons p a ih =>
    rw [List.flatMap_cons, List.flatMap_cons, evF_app, evF_app, h1, h2, evF_cons, ← ih, evF_add, Int.mul_add]
    lia
theorem Ex.ev_val (f : Nat → Nat) : ∀ (T : Ex) (g : Str → Int), ev (T.rel f).val g = evF T.F fun π => g (mk (π.map f))
  | .leaf c, g => by
    show ev [(mk [f c], 1)] g = evF [([c], 1)] _
    rw [ev_cons, evF_cons]; rfl
  | .node m l r, g => by
    show ev (plainR (prodT (trnI m) (l.rel f).val (r.rel f).val)) g = evF (prodF (trnI m) l.F r.F) _
    rw [ev_plain, ev_prod, l.ev_val f, evF_prod]
    refine evF_congr fun p hp => ?_
    rw [r.ev_val f]
    refine evF_congr fun q hq => ?_
    rw [mk_app, mk_app, List.map_append, List.map_append]
theorem Ex.val_words (f : Nat → Nat) : ∀ (T : Ex) (p : Pr), p ∈ (T.rel f).val → ∃ q ∈ T.F, p.1 = mk (q.1.map f)
  | .leaf c, p, h => by
    rw [List.mem_singleton.mp h]
    exact ⟨_, .head _, rfl⟩
  | .node m l r, p, h => by
    obtain ⟨q, hq, he⟩ := List.mem_map.mp (plain_key _ p h)
    show ∃ q ∈ prodF (trnI m) l.F r.F, _
    unfold prodT prod1 prod2 at hq
    rcases List.mem_append.mp hq with hq | hq
    · obtain ⟨x, hx, hq⟩ := List.mem_flatMap.mp hq
      obtain ⟨y, hy, rfl⟩ := List.mem_map.mp hq
      obtain ⟨x', hx', e1⟩ := l.val_words f x hx
      obtain ⟨y', hy', e2⟩ := r.val_words f y hy
      refine ⟨_, List.mem_append.mpr (.inl (List.mem_flatMap.mpr ⟨x', hx', List.mem_map.mpr ⟨y', hy', rfl⟩⟩)), ?_⟩
      rw [← he]
      dsimp only
      rw [e1, e2, mk_app, List.map_append]
    · obtain ⟨x, hx, hq⟩ := List.mem_flatMap.mp hq
      obtain ⟨y, hy, rfl⟩ := List.mem_map.mp hq
      obtain ⟨x', hx', e1⟩ := l.val_words f x hx
      obtain ⟨y', hy', e2⟩ := r.val_words f y hy
      refine ⟨_, List.mem_append.mpr (.inr (List.mem_flatMap.mpr ⟨x', hx', List.mem_map.mpr ⟨y', hy', rfl⟩⟩)), ?_⟩
      rw [← he]
      dsimp only
      rw [e1, e2, mk_app, List.map_append]
/-! bracketed from the left -/
noncomputable def gv (l : List Nat) (k : Int) : Nat := l.getD k.toNat 0
noncomputable def brG (g : Str → Int) (y : Str) : Int := (cuts8.map fun q => (-1) ^ q.1.length * g (laidL y (cutB q))).sum
theorem ev_br (V : List Pr) (g : Str → Int) : ev (brTerms V cuts8) g = ev V (brG g) := by
  unfold brTerms
  induction V with
  | nil => rfl
  | cons p V ih =>
    rw [List.flatMap_cons, ev_append, ih, ev_cons]
    congr 1
    unfold brG
    have : ∀ cs : List Cut, ev (cs.map (brT p.1 p.2)) g = p.2 * (cs.map fun q => (-1) ^ q.1.length * g (laidL p.1 (cutB q))).sum := by
      intro cs
      induction cs with
      | nil => simp [ev]
      | cons q cs ih2 =>
        rw [List.map_cons, ev_cons, ih2, List.map_cons, List.sum_cons, Int.mul_add]
        unfold brT
        dsimp only
        rw [Int.mul_assoc]
    exact this cuts8
theorem ch1_gv (l : List Nat) (k : Int) : ch1 (mk l) k = mk [gv l k] := by
  unfold ch1 mk gv
  congr 2
  simp [Array.getD, List.getD_eq_getElem?_getD]
  split
  · rename_i h; rw [List.getElem?_eq_getElem h]; rfl
  · rename_i h; rw [List.getElem?_eq_none (by lia)]; rfl
theorem laid_mk (l : List Nat) (a b c d : Int) : laidL (mk l) [a, b, c, d] = mk [gv l a, gv l b, gv l c, gv l d] := by
  show ch1 (mk l) a ++ ch1 (mk l) b ++ ch1 (mk l) c ++ ch1 (mk l) d = _
  rw [ch1_gv, ch1_gv, ch1_gv, ch1_gv, mk_app, mk_app, mk_app]
  rfl
noncomputable def actB (l : List Nat) : FS (List Nat) := cuts8.map fun q => ((cutB q).map (gv l), (-1) ^ q.1.length)
theorem cutB4 : ∀ q ∈ cuts8, (cutB q).length = 4 := by decide
theorem brG_mk (g : Str → Int) (l : List Nat) : brG g (mk l) = evF (actB l) fun π => g (mk π) := by
  unfold brG actB evF
  rw [List.map_map]
  congr 1
  refine List.map_congr_left fun q hq => ?_
  obtain ⟨a, b, c, d, e⟩ := four_of (cutB4 q hq)
  dsimp only [Function.comp]
  rw [e, laid_mk]
  rfl
/-- the eight words, of four letters -/
theorem actB_nat (f : Nat → Nat) (a b c d : Nat) : actB [f a, f b, f c, f d] = (actB [a, b, c, d]).map fun q => (q.1.map f, q.2) := rfl
noncomputable def id4 : List Nat := [0, 1, 2, 3]
theorem DD : sameF P24 (bindF (actB id4) actB) (scF 4 (actB id4)) = true := by decide +kernel
noncomputable def rl (a b c d : Nat) (i : Nat) : Nat := [a, b, c, d].getD i 0
theorem bind_nat (a b c d : Nat) : bindF (actB [a, b, c, d]) actB = (bindF (actB id4) actB).map fun q => (q.1.map (rl a b c d), q.2) := rfl
theorem brG_brG (g : Str → Int) (a b c d : Nat) : brG (brG g) (mk [a, b, c, d]) = 4 * brG g (mk [a, b, c, d]) := by
  rw [brG_mk, brG_mk]
  have e1 : evF (actB [a, b, c, d]) (fun π => brG g (mk π)) = evF (bindF (actB [a, b, c, d]) actB) fun π => g (mk π) := by
    rw [evF_bind]
    exact evF_congr fun q hq => brG_mk g q.1
  rw [e1, bind_nat, evF_map, same_ev DD, evF_sc]
  congr 1
end Mine

end
noncomputable section
open PySem PySem.W PyProof.Rows
set_option maxRecDepth 100000
set_option autoImplicit false
namespace Mine
/-! shuffles -/
theorem nlt_trich (a b : List Nat) : a < b ∨ a = b ∨ b < a := by
  by_cases h : a < b
  · exact .inl h
  · by_cases h2 : b < a
    · exact .inr (.inr h2)
    · exact .inr (.inl (List.le_antisymm (List.not_lt.mp h2) (List.not_lt.mp h)))
theorem minS_comm (a b : Str) : minS a b = minS b a := by
  unfold minS
  rcases nlt_trich a.cps.toList b.cps.toList with h | h | h
  · rw [if_neg (List.lt_asymm h), if_pos h]
  · have : a = b := by rw [← mk_eta a, ← mk_eta b, h]
    subst this; rfl
  · rw [if_pos h, if_neg (List.lt_asymm h)]
noncomputable abbrev Kp2 := List Nat × List Nat
noncomputable def kS (k : Kp2) : Str := minS (mk (k.1 ++ 32 :: k.2)) (mk (k.2 ++ 32 :: k.1))
theorem kS_comm (u v : List Nat) : kS (u, v) = kS (v, u) := minS_comm _ _
noncomputable def shG2 (g : Str → Int) (y : Str) : Int := (cuts7.map fun q => g (shW y q)).sum
theorem ev_sh (V : List Pr) (g : Str → Int) : ev (shTerms V cuts7) g = ev V (shG2 g) := by
  unfold shTerms
  induction V with
  | nil => rfl
  | cons p V ih =>
    rw [List.flatMap_cons, ev_append, ih, ev_cons]
    congr 1
    unfold shG2
    have : ∀ cs : List Cut, ev (cs.map (shT p.1 p.2)) g = p.2 * (cs.map fun q => g (shW p.1 q)).sum := by
      intro cs
      induction cs with
      | nil => simp [ev]
      | cons q cs ih2 =>
        rw [List.map_cons, ev_cons, ih2, List.map_cons, List.sum_cons, Int.mul_add]
        rfl
    exact this cuts7
noncomputable def cutU (l : List Nat) (q : Cut) : Kp2 := (((cutS q).map (gv l)).take (1 + q.1.length), ((cutS q).map (gv l)).drop (1 + q.1.length))
theorem cutS4 : ∀ q ∈ cuts7, (cutS q).length = 4 ∧ q.1.length ≤ 2 := by decide
theorem sl_to (l : List Nat) {k : Nat} (h : k ≤ l.length) : Txt.slice (mk l) none (some (k : Int)) = mk (l.take k) := by
  rw [← mk_eta (Txt.slice _ _ _)]
  congr 1
  have := slice_to (y := mk l) (b := k) (by rw [mk_len]; exact h)
  rw [mk_list] at this
  exact this
theorem sl_from (l : List Nat) {k : Nat} (h : k ≤ l.length) : Txt.slice (mk l) (some (k : Int)) none = mk (l.drop k) := by
  rw [← mk_eta (Txt.slice _ _ _)]
  congr 1
  have := slice_from (y := mk l) (a := k) (by rw [mk_len]; exact h)
  rw [mk_list] at this
  exact this
theorem shW_mk (l : List Nat) {q : Cut} (hq : q ∈ cuts7) : shW (mk l) q = kS (cutU l q) := by
  obtain ⟨h4, h2⟩ := cutS4 q hq
  obtain ⟨a, b, c, d, e⟩ := four_of h4
  unfold shW
  dsimp only
  have e1 : laidL (mk l) (cutS q) = mk ((cutS q).map (gv l)) := by rw [e, laid_mk]; rfl
  have hl : 1 + q.1.length ≤ ((cutS q).map (gv l)).length := by rw [List.length_map, h4]; lia
  rw [e1, show (1 + ((q.1.length : Nat) : Int)) = ((1 + q.1.length : Nat) : Int) from by lia, sl_to _ hl, sl_from _ hl]
  rw [show (" " : Str) = mk [32] from rfl, mk_app, mk_app, mk_app, mk_app, List.append_assoc, List.append_assoc]
  rfl
noncomputable def actS (l : List Nat) : FS Kp2 := cuts7.map fun q => (cutU l q, 1)
theorem shG_mk (g : Str → Int) (l : List Nat) : shG2 g (mk l) = evF (actS l) fun k => g (kS k) := by
  unfold shG2 actS evF
  rw [List.map_map]
  congr 1
  refine List.map_congr_left fun q hq => ?_
  rw [shW_mk l hq]
  show _ = 1 * _
  rw [Int.one_mul]
noncomputable def lexB : List Nat → List Nat → Bool
  | [], _ => true
  | _ :: _, [] => false
  | a :: x, b :: y => decide (a < b) || (a == b && lexB x y)
noncomputable def nrm (k : Kp2) : Kp2 := if decide (k.1.length < k.2.length) || (k.1.length == k.2.length && lexB k.1 k.2) then k else (k.2, k.1)
noncomputable def K7 : List Kp2 := ((P24.map fun π => (π.take 1, π.drop 1)) ++ (P24.map fun π => nrm (π.take 2, π.drop 2))).eraseDups
theorem SD : sameF K7 ((bindF (actB id4) actS).map fun q => (nrm q.1, q.2)) [] = true := by decide +kernel
noncomputable def rk (a b c d : Nat) (k : Kp2) : Kp2 := (k.1.map (rl a b c d), k.2.map (rl a b c d))
theorem bindS_nat (a b c d : Nat) : bindF (actB [a, b, c, d]) actS = (bindF (actB id4) actS).map fun q => (rk a b c d q.1, q.2) := rfl
theorem kS_nrm (a b c d : Nat) (k : Kp2) : kS (rk a b c d (nrm k)) = kS (rk a b c d k) := by
  unfold nrm
  split
  · rfl
  · exact kS_comm _ _
theorem brG_shG (g : Str → Int) (a b c d : Nat) : brG (shG2 g) (mk [a, b, c, d]) = 0 := by
  rw [brG_mk]
  have e1 : evF (actB [a, b, c, d]) (fun π => shG2 g (mk π)) = evF (bindF (actB [a, b, c, d]) actS) fun k => g (kS k) := by
    rw [evF_bind]
    exact evF_congr fun q hq => shG_mk g q.1
  rw [e1, bindS_nat, evF_map]
  have e2 : evF (bindF (actB id4) actS) ((fun k => g (kS k)) ∘ rk a b c d) = evF ((bindF (actB id4) actS).map fun q => (nrm q.1, q.2)) ((fun k => g (kS k)) ∘ rk a b c d) := by
    rw [evF_map]
    refine evF_congr fun q hq => ?_
    show g (kS (rk a b c d q.1)) = g (kS (rk a b c d (nrm q.1)))
    rw [kS_nrm]
  rw [e2, same_ev SD]
  rfl
/-! what the shuffles leave -/
noncomputable def phi1 (g : Str → Int) (u a b c : Nat) : Int := - g (mk [u, a, b, c]) + g (mk [u, b, a, c]) + g (mk [u, c, a, b]) - g (mk [u, c, b, a]) + g (mk [a, b, u, c]) - g (mk [a, b, c, u]) + g (mk [a, c, u, b]) + g (mk [b, c, u, a])
noncomputable def phi2 (g : Str → Int) (a b c d : Nat) : Int := -2 * g (mk [a, b, c, d]) - 2 * g (mk [c, d, a, b])
noncomputable def phi (g : Str → Int) (k : Str) : Int := match k.cps.toList with
  | [x0, x1, x2, x3, x4] => if x1 = 32 then phi1 g x0 x2 x3 x4 else if x3 = 32 then phi1 g x4 x0 x1 x2 else phi2 g x0 x1 x3 x4
  | _ => 0
theorem phi_mk (g : Str → Int) (x0 x1 x2 x3 x4 : Nat) : phi g (mk [x0, x1, x2, x3, x4]) = if x1 = 32 then phi1 g x0 x2 x3 x4 else if x3 = 32 then phi1 g x4 x0 x1 x2 else phi2 g x0 x1 x3 x4 := rfl
theorem minS_or (a b : Str) : minS a b = a ∨ minS a b = b := by unfold minS; split <;> simp
theorem phi_13 (g : Str → Int) {u a b c : Nat} (hu : u ≠ 32) (ha : a ≠ 32) (hb : b ≠ 32) (hc : c ≠ 32) : phi g (kS ([u], [a, b, c])) = phi1 g u a b c := by
  unfold kS
  rcases minS_or (mk ([u] ++ 32 :: [a, b, c])) (mk ([a, b, c] ++ 32 :: [u])) with h | h
  · dsimp only; rw [h]
    exact (phi_mk g u 32 a b c).trans (if_pos rfl)
  · dsimp only; rw [h]
    exact (phi_mk g a b c 32 u).trans ((if_neg hb).trans (if_pos rfl))
theorem phi_22 (g : Str → Int) {a b c d : Nat} (ha : a ≠ 32) (hb : b ≠ 32) (hc : c ≠ 32) (hd : d ≠ 32) : phi g (kS ([a, b], [c, d])) = phi2 g a b c d := by
  unfold kS
  rcases minS_or (mk ([a, b] ++ 32 :: [c, d])) (mk ([c, d] ++ 32 :: [a, b])) with h | h
  · dsimp only; rw [h]
    exact (phi_mk g a b 32 c d).trans ((if_neg hb).trans (if_neg hc))
  · dsimp only; rw [h]
    refine ((phi_mk g c d 32 a b).trans ((if_neg hd).trans (if_neg ha))).trans ?_
    unfold phi2; lia
theorem phi_all (g : Str → Int) {a b c d : Nat} (ha : a ≠ 32) (hb : b ≠ 32) (hc : c ≠ 32) (hd : d ≠ 32) : shG2 (phi g) (mk [a, b, c, d]) = brG g (mk [a, b, c, d]) - 4 * g (mk [a, b, c, d]) := by
  rw [shG_mk, brG_mk]
  show 1 * phi g (kS ([a], [b, c, d])) + (1 * phi g (kS ([a, b], [c, d])) + (1 * phi g (kS ([a, c], [b, d])) + (1 * phi g (kS ([a, b, c], [d])) + (1 * phi g (kS ([a, d], [b, c])) + (1 * phi g (kS ([a, b, d], [c])) + (1 * phi g (kS ([a, c, d], [b])) + 0)))))) =
    ((1 : Int) * g (mk [a, b, c, d]) + ((-1) * g (mk [b, a, c, d]) + ((-1) * g (mk [c, a, b, d]) + (1 * g (mk [c, b, a, d]) + (-1 * g (mk [d, a, b, c]) + (1 * g (mk [d, b, a, c]) + (1 * g (mk [d, c, a, b]) + ((-1) * g (mk [d, c, b, a]) + 0)))))))) - 4 * g (mk [a, b, c, d])
  rw [kS_comm [a, b, c], kS_comm [a, b, d], kS_comm [a, c, d]]
  rw [phi_13 g ha hb hc hd, phi_22 g ha hb hc hd, phi_22 g ha hc hb hd, phi_13 g hd ha hb hc, phi_22 g ha hd hb hc, phi_13 g hc ha hb hd, phi_13 g hb ha hc hd]
  unfold phi1 phi2
  lia
end Mine

end
noncomputable section
open PySem PySem.W PyProof.Rows
set_option maxRecDepth 100000
set_option autoImplicit false
namespace Mine
theorem nodup_sub : ∀ {l K : List Str}, l.Nodup → (∀ x ∈ l, x ∈ K) → l.length ≤ K.length
  | [], K, _, _ => Nat.zero_le _
  | a :: l, K, hn, hs => by
    rw [List.nodup_cons] at hn
    obtain ⟨s, t, rfl⟩ := List.append_of_mem (hs a (.head _))
    have := nodup_sub (l := l) (K := s ++ t) hn.2 fun x hx => by
      have h := hs x (.tail _ hx)
      rcases List.mem_append.mp h with h | h
      · exact List.mem_append.mpr (.inl h)
      · rcases List.mem_cons.mp h with rfl | h
        · exact absurd hx hn.1
        · exact List.mem_append.mpr (.inr h)
    rw [List.length_append] at this
    rw [List.length_append, List.length_cons, List.length_cons]
    lia
theorem filt_sub {ps : List Pr} {K : List Str} (h : ∀ p ∈ ps, p.1 ∈ K) : ((sumK ps).filter fun p => p.2 != 0).length ≤ K.length := by
  rw [← List.length_map (f := (·.1))]
  refine nodup_sub ((sum_nodup ps).sublist (List.Sublist.map _ List.filter_sublist)) fun x hx => ?_
  obtain ⟨p, hp, rfl⟩ := List.mem_map.mp hx
  rcases key_fold ps [] .nil p (List.mem_filter.mp hp).1 with h1 | h1
  · obtain ⟨q, hq, e⟩ := List.mem_map.mp h1
    rw [← e]; exact h q hq
  · cases h1
theorem plain_sub {ps : List Pr} {K : List Str} (h : ∀ p ∈ ps, p.1 ∈ K) : ∀ p ∈ plainR ps, p.1 ∈ K := fun p hp => by
  obtain ⟨q, hq, e⟩ := List.mem_map.mp (plain_key ps p hp)
  rw [← e]; exact h q hq
theorem plain_sub_len {ps : List Pr} {K : List Str} (h : ∀ p ∈ ps, p.1 ∈ K) : (plainR ps).length ≤ K.length := by
  unfold plainR
  rw [(sortP_perm _).length_eq]
  exact filt_sub h
section
variable {f : Nat → Nat}
noncomputable def W24 (f : Nat → Nat) : List Str := P24.map fun π => mk (π.map f)
noncomputable def K48 (f : Nat → Nat) : List Str := P24.flatMap fun π => [kS ((π.map f).take 1, (π.map f).drop 1), kS ((π.map f).take 2, (π.map f).drop 2)]
theorem W24_len : (W24 f).length = 24 := rfl
theorem K48_len : (K48 f).length = 48 := rfl
theorem P24_four : ∀ π ∈ P24, π.length = 4 ∧ ∀ i ∈ π, i < 4 := by decide
theorem P24_get {π : List Nat} (h : π ∈ P24) : ∃ i j k l, π = [i, j, k, l] ∧ i < 4 ∧ j < 4 ∧ k < 4 ∧ l < 4 := by
  obtain ⟨h4, hi⟩ := P24_four π h
  obtain ⟨i, j, k, l, rfl⟩ := four_of h4
  exact ⟨i, j, k, l, rfl, hi _ (.head _), hi _ (.tail _ (.head _)), hi _ (.tail _ (.tail _ (.head _))), hi _ (.tail _ (.tail _ (.tail _ (.head _))))⟩
noncomputable def InW (f : Nat → Nat) (V : List Pr) : Prop := ∀ p ∈ V, p.1 ∈ W24 f
theorem w_four (hf : ∀ i, i < 4 → SignC (f i)) {y : Str} (h : y ∈ W24 f) : ∃ a b c d, y = mk [a, b, c, d] ∧ SignC a ∧ SignC b ∧ SignC c ∧ SignC d := by
  obtain ⟨π, hπ, rfl⟩ := List.mem_map.mp h
  obtain ⟨i, j, k, l, rfl, h1, h2, h3, h4⟩ := P24_get hπ
  exact ⟨f i, f j, f k, f l, rfl, hf i h1, hf j h2, hf k h3, hf l h4⟩
theorem P24_br : ∀ π ∈ P24, ∀ q ∈ cuts8, (cutB q).map (gv π) ∈ P24 := by decide +kernel
theorem P24_sh : ∀ π ∈ P24, ∀ q ∈ cuts7, (cutS q).map (gv π) ∈ P24 := by decide +kernel
theorem P24_rot : ∀ π ∈ P24, π.drop 3 ++ π.take 3 ∈ P24 := by decide +kernel
theorem gv_map {i j k l : Nat} (a b c d : Int) (ha : In4 a) (hb : In4 b) (hc : In4 c) (hd : In4 d) : [a, b, c, d].map (gv ([i, j, k, l].map f)) = ([a, b, c, d].map (gv [i, j, k, l])).map f := by
  have one : ∀ x : Int, In4 x → gv [f i, f j, f k, f l] x = f (gv [i, j, k, l] x) := fun x hx => by
    unfold In4 at hx
    have : x = 0 ∨ x = 1 ∨ x = 2 ∨ x = 3 := by lia
    rcases this with rfl | rfl | rfl | rfl <;> rfl
  simp only [List.map_cons, List.map_nil]
  rw [one a ha, one b hb, one c hc, one d hd]
theorem cuts_in : ∀ q ∈ cuts8, (∀ k ∈ cutB q, In4 k) ∧ (∀ k ∈ cutS q, In4 k) ∧ (cutS q).length = 4 := by decide
theorem br_in {V : List Pr} (h : InW f V) : InW f (brTerms V cuts8) := fun p hp => by
  obtain ⟨q, hq, hp⟩ := List.mem_flatMap.mp hp
  obtain ⟨c, hc, rfl⟩ := List.mem_map.mp hp
  obtain ⟨π, hπ, e⟩ := List.mem_map.mp (h q hq)
  obtain ⟨i, j, k, l, rfl, _⟩ := P24_get hπ
  have hm := P24_br _ hπ c hc
  obtain ⟨a, b, x, d, e2⟩ := four_of (cutB4 c hc)
  have hin := (cuts_in c hc).1
  show laidL q.1 (cutB c) ∈ W24 f
  rw [← e, e2, laid_mk]
  rw [e2] at hm hin
  refine List.mem_map.mpr ⟨_, hm, ?_⟩
  rw [← gv_map a b x d (hin _ (.head _)) (hin _ (.tail _ (.head _))) (hin _ (.tail _ (.tail _ (.head _)))) (hin _ (.tail _ (.tail _ (.tail _ (.head _)))))]
  rfl
theorem cuts7_sub {q : Cut} (h : q ∈ cuts7) : q ∈ cuts8 := List.mem_of_mem_take h
theorem sh_in {V : List Pr} (h : InW f V) : ∀ p ∈ shTerms V cuts7, p.1 ∈ K48 f := fun p hp => by
  obtain ⟨q, hq, hp⟩ := List.mem_flatMap.mp hp
  obtain ⟨c, hc, rfl⟩ := List.mem_map.mp hp
  obtain ⟨π, hπ, e⟩ := List.mem_map.mp (h q hq)
  obtain ⟨i, j, k, l, rfl, _⟩ := P24_get hπ
  have hm := P24_sh _ hπ c hc
  obtain ⟨h4, h2⟩ := cutS4 c hc
  obtain ⟨a, b, x, d, e2⟩ := four_of h4
  have hin := (cuts_in c (cuts7_sub hc)).2.1
  show shW q.1 c ∈ K48 f
  rw [← e, shW_mk _ hc]
  unfold cutU
  rw [e2] at hm hin ⊢
  rw [gv_map a b x d (hin _ (.head _)) (hin _ (.tail _ (.head _))) (hin _ (.tail _ (.tail _ (.head _)))) (hin _ (.tail _ (.tail _ (.tail _ (.head _)))))]
  generalize [a, b, x, d].map (gv [i, j, k, l]) = ρ at hm
  have h3 : c.1.length = 0 ∨ c.1.length = 1 ∨ c.1.length = 2 := by lia
  rcases h3 with h3 | h3 | h3
  · rw [h3]
    exact List.mem_flatMap.mpr ⟨ρ, hm, .head _⟩
  · rw [h3]
    exact List.mem_flatMap.mpr ⟨ρ, hm, .tail _ (.head _)⟩
  · rw [h3, kS_comm]
    have hr := P24_rot ρ hm
    obtain ⟨r1, r2, r3, r4, rfl, _⟩ := P24_get hm
    exact List.mem_flatMap.mpr ⟨_, hr, .head _⟩
theorem eqv_encP : ∀ a b : List Pr, PyData.eqvAll (encP a) (encP b) = decide (a = b)
  | [], [] => rfl
  | [], _ :: _ => rfl
  | _ :: _, [] => rfl
  | p :: a, q :: b => by
    show (PyData.eqv (.tuple [.str p.1, .int p.2]) (.tuple [.str q.1, .int q.2]) && PyData.eqvAll (encP a) (encP b)) = _
    rw [eqv_encP a b]
    have e : PyData.eqv (.tuple [.str p.1, .int p.2]) (.tuple [.str q.1, .int q.2]) = (p.1 == q.1 && (p.2 == q.2 && true)) := by
      simp [PyData.eqv, PyData.eqvAll]
    rw [e, Bool.and_true]
    obtain ⟨p1, p2⟩ := p
    obtain ⟨q1, q2⟩ := q
    rw [Bool.eq_iff_iff]
    simp
theorem eqv_lists (a b : List Pr) : (PyData.list (encP a)).eqv (.list (encP b)) = decide (a = b) := eqv_encP a b
theorem canon_nil : Canon [] := ⟨.nil, fun p hp => nomatch hp⟩
/-- what the algebra gives for a sum of words of four letters -/
structure Alg (V U : List Pr) : Prop where
  wV : W4 V
  wU : W4 U
  b1 : ((sumK (brTerms V cuts8)).filter fun p => p.2 != 0).length < 64
  b2 : ((sumK (brTerms U cuts8)).filter fun p => p.2 != 0).length < 64
  b3 : ((sumK (shTerms U cuts7)).filter fun p => p.2 != 0).length < 64
  b4 : ((sumK (shTerms V cuts7)).filter fun p => p.2 != 0).length < 64
  four : plainR (brTerms U cuts8) = mulP 4 U
  shU : plainR (shTerms U cuts7) = []
  shV : (PyData.list (encP (plainR (shTerms V cuts7)))).eqv (.list []) = (PyData.list (encP U)).eqv (.list (encP (mulP 4 V)))
  shok : ∀ p ∈ plainR (shTerms V cuts7), OkS p.1
theorem w4_of (hf : ∀ i, i < 4 → SignC (f i)) {V : List Pr} (h : InW f V) (hl : V.length ≤ 60) : W4 V := by
  refine ⟨fun p hp => ?_, fun p hp => ?_, hl⟩
  · obtain ⟨a, b, c, d, e, _⟩ := w_four hf (h p hp)
    rw [e]; rfl
  · obtain ⟨a, b, c, d, e, h1, h2, h3, h4⟩ := w_four hf (h p hp)
    rw [e]
    refine ok_mk fun x hx => ?_
    simp at hx
    rcases hx with rfl | rfl | rfl | rfl
    · exact h1.lt
    · exact h2.lt
    · exact h3.lt
    · exact h4.lt
theorem kS_ok {u v : List Nat} (h : ∀ c ∈ u ++ v, c < 1114112) : OkS (kS (u, v)) := by
  unfold kS
  have h1 : ∀ a b : List Nat, (∀ c ∈ a ++ b, c < 1114112) → OkS (mk (a ++ 32 :: b)) := fun a b h => ok_mk fun c hc => by
    rcases List.mem_append.mp hc with hc | hc
    · exact h c (List.mem_append.mpr (.inl hc))
    · rcases List.mem_cons.mp hc with rfl | hc
      · decide
      · exact h c (List.mem_append.mpr (.inr hc))
  rcases minS_or (mk (u ++ 32 :: v)) (mk (v ++ 32 :: u)) with e | e
  · dsimp only; rw [e]; exact h1 u v h
  · dsimp only; rw [e]; exact h1 v u fun c hc => h c (List.mem_append.mpr ((List.mem_append.mp hc).symm))
theorem ne32 {c : Nat} (h : SignC c) : c ≠ 32 := by unfold SignC at h; lia
theorem alg_of (hf : ∀ i, i < 4 → SignC (f i)) {V : List Pr} (h : InW f V) (hc : Canon V) (hl : V.length ≤ 60) : Alg V (plainR (brTerms V cuts8)) := by
  have hU : InW f (plainR (brTerms V cuts8)) := plain_sub (br_in h)
  have hUl : (plainR (brTerms V cuts8)).length ≤ 24 := plain_sub_len (br_in h)
  have evU : ∀ g, ev (plainR (brTerms V cuts8)) g = ev V (brG g) := fun g => by rw [ev_plain, ev_br]
  have evS : ∀ g, ev (plainR (brTerms V cuts8)) (shG2 g) = 0 := fun g => by
    rw [evU, ev_congr (h := fun y => 0 * (0 : Int)) fun p hp => ?_, ev_mul]
    · lia
    · obtain ⟨a, b, c, d, e, _⟩ := w_four hf (h p hp)
      rw [e, brG_shG]; rfl
  have hsU : plainR (shTerms (plainR (brTerms V cuts8)) cuts7) = [] := canon_eq (plain_canon _) canon_nil fun g => by
    rw [ev_plain, ev_sh, evS]; rfl
  refine ⟨w4_of hf h hl, w4_of hf hU (by lia), ?_, ?_, ?_, ?_, ?_, hsU, ?_, fun p hp => ?_⟩
  · exact Nat.lt_of_le_of_lt (filt_sub (br_in h)) (by rw [W24_len]; decide)
  · exact Nat.lt_of_le_of_lt (filt_sub (br_in hU)) (by rw [W24_len]; decide)
  · exact Nat.lt_of_le_of_lt (filt_sub (sh_in hU)) (by rw [K48_len]; decide)
  · exact Nat.lt_of_le_of_lt (filt_sub (sh_in h)) (by rw [K48_len]; decide)
  · refine canon_eq (plain_canon _) (canon_mulP (by decide) (plain_canon _)) fun g => ?_
    rw [ev_plain, ev_br, evU, ev_mulP, evU, ← ev_mul]
    refine ev_congr fun p hp => ?_
    obtain ⟨a, b, c, d, e, _⟩ := w_four hf (h p hp)
    rw [e, brG_brG]
  · rw [eqv_lists, show (PyData.list ([] : List PyData)) = .list (encP []) from rfl, eqv_lists]
    refine decide_eq_decide.mpr ⟨fun hs => ?_, fun he => ?_⟩
    · have hz : ∀ g, ev V (shG2 g) = 0 := fun g => by
        rw [← ev_sh, ← ev_plain, hs]; rfl
      refine canon_eq (plain_canon _) (canon_mulP (by decide) hc) fun g => ?_
      rw [evU, ev_mulP]
      have e1 : ev V (shG2 (phi g)) = ev V (fun y => brG g y + (-4) * g y) := ev_congr fun p hp => by
        obtain ⟨a, b, c, d, e, h1, h2, h3, h4⟩ := w_four hf (h p hp)
        rw [e, phi_all g (ne32 h1) (ne32 h2) (ne32 h3) (ne32 h4)]
        lia
      rw [hz, ev_add, ev_mul] at e1
      lia
    · refine canon_eq (plain_canon _) canon_nil fun g => ?_
      have e1 := evS g
      rw [he, ev_mulP] at e1
      rw [ev_plain, ev_sh]
      show _ = 0
      lia
  · have hk := plain_sub (sh_in h) p hp
    obtain ⟨π, hπ, hm⟩ := List.mem_flatMap.mp hk
    obtain ⟨i, j, k, l, rfl, h1, h2, h3, h4⟩ := P24_get hπ
    have hall : ∀ c ∈ ([i, j, k, l].map f), c < 1114112 := fun c hc => by
      simp at hc
      rcases hc with rfl | rfl | rfl | rfl
      · exact (hf i h1).lt
      · exact (hf j h2).lt
      · exact (hf k h3).lt
      · exact (hf l h4).lt
    rcases List.mem_cons.mp hm with e | hm
    · rw [e]; exact kS_ok fun c hc => hall c (by rw [List.take_append_drop] at hc; exact hc)
    · rw [List.mem_singleton.mp hm]; exact kS_ok fun c hc => hall c (by rw [List.take_append_drop] at hc; exact hc)
end
end Mine

end
noncomputable section
open PySem PySem.W PyProof.Rows
set_option maxRecDepth 100000
set_option autoImplicit false
namespace Mine
/-! the six structures -/
noncomputable def lf (i : Nat) : Ex := .leaf i
noncomputable def treeK (k0 k1 m0 m1 m2 : Nat) : Ex :=
  if k0 = 0 then (if k1 = 0 then .node m2 (.node m1 (.node m0 (lf 0) (lf 1)) (lf 2)) (lf 3) else .node m2 (.node m0 (lf 0) (lf 1)) (.node m1 (lf 2) (lf 3)))
  else if k0 = 1 then (if k1 = 0 then .node m2 (.node m1 (lf 0) (.node m0 (lf 1) (lf 2))) (lf 3) else .node m2 (lf 0) (.node m1 (.node m0 (lf 1) (lf 2)) (lf 3)))
  else (if k1 = 0 then .node m2 (.node m1 (lf 0) (lf 1)) (.node m0 (lf 2) (lf 3)) else .node m2 (lf 0) (.node m1 (lf 1) (.node m0 (lf 2) (lf 3))))
noncomputable def tmStF (k : Nat) (b : Bool) (rows : List (List Nat)) : List (List Nat) := rows.take k ++ [if b = true then rows.getD (k + 1) [] ++ rows.getD k [] else rows.getD k [] ++ rows.getD (k + 1) []] ++ rows.drop (k + 2)
noncomputable def tmGoW (w : Nat → Int) (M : Int) : List (Nat × Int) → List (List Nat) → Int → List (List Nat) × Int
  | [], rows, x => (rows, x)
  | (t, k) :: r, rows, x => tmGoW w M r (tmStF k.toNat (turnedB M t) rows) (x * if turnedB M t = true then w t else 1)
noncomputable def tW (w : Nat → Int) (r : List (Nat × Int)) (rows : List (List Nat)) (M : Int) : List Nat × Int := ((tmGoW w M r rows 1).1.getD 0 [], (tmGoW w M r rows 1).2)
noncomputable def kT (k0 k1 : Nat) : List (Nat × Int) := [(0, (k0 : Int)), (1, (k1 : Int)), (2, 0)]
noncomputable def TF (k0 k1 : Nat) (w : Nat → Int) : FS (List Nat) := (List.range 8).map fun m : Nat => tW w (kT k0 k1) [[0], [1], [2], [3]] (0 + (m : Nat))
theorem getD_map {α β : Type} (g : α → β) (l : List α) (k : Nat) (d : α) : (l.map g).getD k (g d) = g (l.getD k d) := by
  rw [List.getD_eq_getElem?_getD, List.getD_eq_getElem?_getD, List.getElem?_map]
  cases l[k]? <;> rfl
theorem tmSt_mk (k : Nat) (b : Bool) (rows : List (List Nat)) : tmSt k b (rows.map mk) = (tmStF k b rows).map mk := by
  unfold tmSt tmStF
  have e : ∀ j, (rows.map mk).getD j "" = mk (rows.getD j []) := fun j => getD_map mk rows j []
  rw [e, e, mk_app, mk_app]
  simp only [List.map_append, List.map_take, List.map_drop, List.map_cons, List.map_nil]
  cases b <;> rfl
theorem tmGo_mk (cs : List Int) (M : Int) : ∀ (r : List (Nat × Int)) (rows : List (List Nat)) (x : Int), tmGo cs M r (rows.map mk) x = ((tmGoW (fun t => wtI (cs.getD t 0)) M r rows x).1.map mk, (tmGoW (fun t => wtI (cs.getD t 0)) M r rows x).2)
  | [], rows, x => rfl
  | (t, k) :: r, rows, x => by
    show tmGo cs M r (tmSt k.toNat (turnedB M t) (rows.map mk)) (x * wtB (turnedB M t) (cs.getD t 0)) = _
    rw [tmSt_mk, tmGo_mk cs M r]
    rfl
theorem tmSt_map (f : Nat → Nat) (k : Nat) (b : Bool) (rows : List (List Nat)) : tmStF k b (rows.map (List.map f)) = (tmStF k b rows).map (List.map f) := by
  unfold tmStF
  have e : ∀ j, (rows.map (List.map f)).getD j [] = (rows.getD j []).map f := fun j => getD_map (List.map f) rows j []
  rw [e, e]
  simp only [List.map_append, List.map_take, List.map_drop, List.map_cons, List.map_nil]
  cases b <;> simp
theorem tmGo_map (f : Nat → Nat) (w : Nat → Int) (M : Int) : ∀ (r : List (Nat × Int)) (rows : List (List Nat)) (x : Int), tmGoW w M r (rows.map (List.map f)) x = ((tmGoW w M r rows x).1.map (List.map f), (tmGoW w M r rows x).2)
  | [], rows, x => rfl
  | (t, k) :: r, rows, x => by
    show tmGoW w M r (tmStF k.toNat (turnedB M t) (rows.map (List.map f))) _ = _
    rw [tmSt_map, tmGo_map f w M r]
    rfl
theorem tW_map (f : Nat → Nat) (w : Nat → Int) (r : List (Nat × Int)) (rows : List (List Nat)) (M : Int) : tW w r (rows.map (List.map f)) M = ((tW w r rows M).1.map f, (tW w r rows M).2) := by
  unfold tW
  rw [tmGo_map]
  exact Prod.ext (getD_map (List.map f) _ 0 []) rfl
theorem termOf_eq (cs : List Int) (l : List Nat) (M : Int) : termOf cs (chL l) M = (mk (tW (fun t => wtI (cs.getD t 0)) (cutT cs) (l.map fun c => [c]) M).1, (tW (fun t => wtI (cs.getD t 0)) (cutT cs) (l.map fun c => [c]) M).2) := by
  unfold termOf tW
  have e : chL l = (l.map fun c => [c]).map mk := by unfold chL; rw [List.map_map]; rfl
  rw [e, tmGo_mk]
  refine Prod.ext ?_ rfl
  dsimp only
  have h : ∀ X : List (List Nat), (X.map mk).getD 0 "" = mk (X.getD 0 []) := fun X => getD_map mk X 0 []
  exact h _
theorem tW_congr {w w' : Nat → Int} (M : Int) (h0 : w 0 = w' 0) (h1 : w 1 = w' 1) (h2 : w 2 = w' 2) (k0 k1 : Int) (rows : List (List Nat)) : tW w [(0, k0), (1, k1), (2, 0)] rows M = tW w' [(0, k0), (1, k1), (2, 0)] rows M := by
  unfold tW tmGoW tmGoW tmGoW
  rw [h0, h1, h2]
  rfl
noncomputable def wM (m0 m1 m2 : Nat) (t : Nat) : Int := trnI ([m0, m1, m2].getD t 0)
theorem terms_eq {c0 c1 c2 c3 c4 c5 : Int} {a b c d k0 k1 m0 m1 m2 : Nat} (h4 : c4.fmod 3 = k0) (h5 : c5.fmod 2 = k1) (w0 : wtI c0 = trnI m0) (w1 : wtI c1 = trnI m1) (w2 : wtI c2 = trnI m2) :
    termsR [c0, c1, c2, c3, c4, c5] (chL [a, b, c, d]) = (TF k0 k1 (wM m0 m1 m2)).map fun q => (mk (q.1.map (rl a b c d)), q.2) := by
  unfold termsR TF
  rw [List.map_map]
  refine List.map_congr_left fun m _ => ?_
  rw [termOf_eq]
  have e : cutT [c0, c1, c2, c3, c4, c5] = [(0, (k0 : Int)), (1, (k1 : Int)), (2, 0)] := by
    show [(0, c4.fmod 3), (1, c5.fmod 2), (2, 0)] = _
    rw [h4, h5]
  rw [e, show ([a, b, c, d].map fun c => [c]) = ([[0], [1], [2], [3]] : List (List Nat)).map (List.map (rl a b c d)) from rfl, tW_map, tW_congr (w' := wM m0 m1 m2) (0 + (m : Nat)) w0 w1 w2]
  rfl
noncomputable def mC (c : Int) : Nat := [45, 45, 45, 45, 43, 42].getD (signI c).toNat 0
theorem mC_all (c : Int) : (mC c = 43 ∨ mC c = 45 ∨ mC c = 42) ∧ signC c = mk [mC c] ∧ wtI c = trnI (mC c) := by
  have := signI_bd c
  unfold mC signC wtI
  generalize signI c = z at this
  have : z = 0 ∨ z = 1 ∨ z = 2 ∨ z = 3 ∨ z = 4 ∨ z = 5 := by lia
  rcases this with rfl | rfl | rfl | rfl | rfl | rfl <;> exact ⟨by decide, rfl, rfl⟩
theorem signs_eq {c0 c1 c2 c3 c4 c5 : Int} {a b c d k0 k1 m0 m1 m2 : Nat} (hk0 : k0 < 3) (hk1 : k1 < 2) (h4 : c4.fmod 3 = k0) (h5 : c5.fmod 2 = k1) (s0 : signC c0 = mk [m0]) (s1 : signC c1 = mk [m1]) (s2 : signC c2 = mk [m2]) :
    signsR [c0, c1, c2, c3, c4, c5] (chL [a, b, c, d]) = chL ((treeK k0 k1 m0 m1 m2).rel (rl a b c d)).sg := by
  unfold signsR
  have e : cutT [c0, c1, c2, c3, c4, c5] = [(0, (k0 : Int)), (1, (k1 : Int)), (2, 0)] := by
    show [(0, c4.fmod 3), (1, c5.fmod 2), (2, 0)] = _
    rw [h4, h5]
  rw [e]
  show (sgSt (0 : Int).toNat (signC c2) (sgSt (k1 : Int).toNat (signC c1) (sgSt (k0 : Int).toNat (signC c0) _))).getD 0 [] = _
  rw [s0, s1, s2]
  have h : (k0 = 0 ∨ k0 = 1 ∨ k0 = 2) ∧ (k1 = 0 ∨ k1 = 1) := by lia
  rcases h with ⟨rfl | rfl | rfl, rfl | rfl⟩ <;> rfl
theorem tree_ok {f : Nat → Nat} (hf : ∀ i, i < 4 → SignC (f i)) {k0 k1 m0 m1 m2 : Nat} (h0 : m0 = 43 ∨ m0 = 45 ∨ m0 = 42) (h1 : m1 = 43 ∨ m1 = 45 ∨ m1 = 42) (h2 : m2 = 43 ∨ m2 = 45 ∨ m2 = 42) : ((treeK k0 k1 m0 m1 m2).rel f).ok ∧ ((treeK k0 k1 m0 m1 m2).rel f).nn = 3 := by
  have a := hf 0 (by decide)
  have b := hf 1 (by decide)
  have c := hf 2 (by decide)
  have d := hf 3 (by decide)
  unfold treeK
  split
  · split
    · exact ⟨⟨h2, ⟨h1, ⟨h0, a, b⟩, c⟩, d⟩, rfl⟩
    · exact ⟨⟨h2, ⟨h0, a, b⟩, ⟨h1, c, d⟩⟩, rfl⟩
  · split
    · split
      · exact ⟨⟨h2, ⟨h1, a, ⟨h0, b, c⟩⟩, d⟩, rfl⟩
      · exact ⟨⟨h2, a, ⟨h1, ⟨h0, b, c⟩, d⟩⟩, rfl⟩
    · split
      · exact ⟨⟨h2, ⟨h1, a, b⟩, ⟨h0, c, d⟩⟩, rfl⟩
      · exact ⟨⟨h2, a, ⟨h1, b, ⟨h0, c, d⟩⟩⟩, rfl⟩
noncomputable def chkT (k0 k1 m0 m1 m2 : Nat) : Bool := sameF ((TF k0 k1 (wM m0 m1 m2)).map (·.1)) (TF k0 k1 (wM m0 m1 m2)) (treeK k0 k1 m0 m1 m2).F &&
  ((TF k0 k1 (wM m0 m1 m2)).all (fun q => decide (q.1 ∈ P24) && (decide (q.2 = -1) || (decide (q.2 = 0) || decide (q.2 = 1)))) && (treeK k0 k1 m0 m1 m2).F.all fun q => decide (q.1 ∈ P24))
theorem chkT_all : ∀ k0 < 3, ∀ k1 < 2, ∀ m0 ∈ [43, 45, 42], ∀ m1 ∈ [43, 45, 42], ∀ m2 ∈ [43, 45, 42], chkT k0 k1 m0 m1 m2 = true := by decide +kernel
theorem minus_all : ∀ k0 < 3, ∀ k1 < 2, sameF P24 (bindF (treeK k0 k1 45 45 45).F actB) (scF 4 (treeK k0 k1 45 45 45).F) = true := by decide +kernel
end Mine

end
noncomputable section
open PySem PySem.W PyProof.Rows
set_option maxRecDepth 100000
set_option autoImplicit false
namespace Mine
theorem sum_bd : ∀ l : List Int, (∀ x ∈ l, 0 ≤ x ∧ x < 5040) → 0 ≤ l.sum ∧ l.sum ≤ 5040 * l.length
  | [], _ => by simp
  | x :: l, h => by
    have h1 := h x (.head _)
    have h2 := sum_bd l fun y hy => h y (.tail _ hy)
    rw [List.sum_cons, List.length_cons]
    lia
theorem cellR_bd {xs : List Int} (hx : xs.length ≤ 63) {c : Int} (h0 : 0 ≤ c) (h1 : c ≤ 250) (k : Nat) : 0 ≤ cellR xs c k ∧ cellR xs c k < 2 ^ 20 := by
  unfold cellR
  have hb := sum_bd ((pickL (some (k : Int)) (some 60) (some 6) xs).map fun x => x.fmod 5040) fun x hx => by
    obtain ⟨y, _, rfl⟩ := List.mem_map.mp hx
    rw [Int.fmod_eq_emod_of_nonneg _ (by lia)]
    exact ⟨Int.emod_nonneg _ (by lia), Int.emod_lt_of_pos _ (by lia)⟩
  rw [List.length_map] at hb
  have hl : (pickL (some (k : Int)) (some 60) (some 6) xs).length ≤ 63 := Nat.le_trans (pickL_len (by decide) xs) hx
  lia
theorem cells_ok {xs : List Int} (hx : xs.length ≤ 63) : CellsOk (cellsR xs) := by
  refine ⟨rfl, fun c hc => ?_⟩
  obtain ⟨q, hq, rfl⟩ := List.mem_map.mp hc
  have : q.1 ∈ cell0 := by
    have := List.mem_zipIdx hq
    rw [this.2.2]
    exact List.getElem_mem _
  have h2 : ∀ c ∈ cell0, (0 : Int) ≤ c ∧ c ≤ 250 := by decide
  have := h2 _ this
  exact cellR_bd hx this.1 this.2 q.2
theorem lett_key (t c : Int) : lettC t c ∈ keyC t := by
  have h3 := fmod3 c
  have hl := key_len t
  unfold lettC
  rw [List.getD_eq_getElem?_getD, List.getElem?_eq_getElem (by lia)]
  exact List.getElem_mem _
theorem Ex.sgc : ∀ (T : Ex), T.ok → ∀ c ∈ T.sg, SgC c
  | .leaf c, h, x, hx => by
    rw [List.mem_singleton.mp hx]
    exact .inr (.inr (.inr (.inr (.inr h))))
  | .node m l r, h, x, hx => by
    rcases List.mem_cons.mp hx with rfl | hx
    · exact .inl rfl
    · rcases List.mem_append.mp hx with hx | hx
      · exact l.sgc h.2.1 x hx
      · rcases List.mem_cons.mp hx with rfl | hx
        · rcases h.1 with e | e | e <;> (rw [e]; unfold SgC; lia)
        · rcases List.mem_append.mp hx with hx | hx
          · exact r.sgc h.2.2 x hx
          · rw [List.mem_singleton.mp hx]; exact .inr (.inl rfl)
theorem kind7_lt (z : Int) : kind7 z < 7 := by unfold kind7; split <;> lia
theorem units_snd (cs : List Int) (sg : List Nat) : (unitsR cs sg).map (·.2) = sg := by
  unfold unitsR
  rw [List.map_map]
  have : ((fun x : Un => x.2) ∘ unit cs) = Prod.fst := rfl
  rw [this]
  simp
theorem units_ok (cs : List Int) (sg : List Nat) (h : ∀ c ∈ sg, SgC c) : ∀ u ∈ unitsR cs sg, UnOk u := fun u hu => by
  obtain ⟨q, hq, rfl⟩ := List.mem_map.mp hu
  refine ⟨kind7_lt _, ?_⟩
  have := List.mem_zipIdx hq
  show SgC q.1
  rw [this.2.2]
  exact h _ (List.getElem_mem _)
theorem pcN_tick (k : Nat) : ∀ c ∈ pcN k, c ≠ 39 := by
  unfold pcN pcs
  match k with
  | 0 => decide
  | 1 => decide
  | 2 => decide
  | 3 => decide
  | 4 => decide
  | 5 => decide
  | 6 => decide
  | n + 7 => intro c hc; cases hc
theorem ucs_tick {us : List Un} (h : ∀ u ∈ us, UnOk u) : 39 ∉ ucs us := fun hm => by
  obtain ⟨u, hu, hc⟩ := List.mem_flatMap.mp hm
  rcases List.mem_append.mp hc with hc | hc
  · exact pcN_tick _ 39 hc rfl
  · exact (h u hu).2.ne.2.2.2.1 (List.mem_singleton.mp hc).symm
theorem sg_node {k0 k1 m0 m1 m2 : Nat} {f : Nat → Nat} : ∃ l r, (treeK k0 k1 m0 m1 m2).rel f = .node m2 l r := by
  unfold treeK
  split
  · split <;> exact ⟨_, _, rfl⟩
  · split
    · split <;> exact ⟨_, _, rfl⟩
    · split <;> exact ⟨_, _, rfl⟩
theorem tree_ops {k0 k1 m0 m1 m2 : Nat} {f : Nat → Nat} : m0 ∈ ((treeK k0 k1 m0 m1 m2).rel f).sg ∧ m1 ∈ ((treeK k0 k1 m0 m1 m2).rel f).sg ∧ m2 ∈ ((treeK k0 k1 m0 m1 m2).rel f).sg := by
  unfold treeK
  split
  · split <;> simp [Ex.rel, Ex.sg, lf]
  · split
    · split <;> simp [Ex.rel, Ex.sg, lf]
    · split <;> simp [Ex.rel, Ex.sg, lf]
theorem inL_mem {sg : List Nat} {c : Nat} (h : c ∈ sg) : inL sg c = true := by
  unfold inL
  refine List.any_eq_true.mpr ⟨.str ⟨#[c]⟩, List.mem_map.mpr ⟨_, List.mem_map.mpr ⟨c, h, rfl⟩, rfl⟩, ?_⟩
  simp [PyData.eqv]
theorem actB_map (f : Nat → Nat) {π : List Nat} (h : π ∈ P24) (g : Str → Int) : brG g (mk (π.map f)) = evF (actB π) fun ρ => g (mk (ρ.map f)) := by
  obtain ⟨i, j, k, l, rfl, _⟩ := P24_get h
  rw [brG_mk, show [i, j, k, l].map f = [f i, f j, f k, f l] from rfl, actB_nat, evF_map]
  rfl
set_option maxHeartbeats 2000000 in
theorem pf_all {xs : List Int} (hx : xs.length ≤ 63) : ∃ cs t lc T ps us U, PF xs cs t lc T ps us U := by
  have hc := cells_ok hx
  obtain ⟨c0, c1, c2, c3, c4, c5, e⟩ := hc.six
  generalize hcs : cellsR xs = cs at hc e
  subst e
  generalize ht : ([c0, c1, c2, c3, c4, c5] : List Int).sum = t
  have h4 : ∃ k0 : Nat, c4.fmod 3 = k0 ∧ k0 < 3 := by
    have := fmod3 c4
    exact ⟨(c4.fmod 3).toNat, by lia, by lia⟩
  have h5 : ∃ k1 : Nat, c5.fmod 2 = k1 ∧ k1 < 2 := by
    have h : 0 ≤ c5.fmod 2 ∧ c5.fmod 2 < 2 := by
      rw [Int.fmod_eq_emod_of_nonneg _ (by lia)]
      exact ⟨Int.emod_nonneg _ (by lia), Int.emod_lt_of_pos _ (by lia)⟩
    exact ⟨(c5.fmod 2).toNat, by lia, by lia⟩
  obtain ⟨k0, e4, hk0⟩ := h4
  obtain ⟨k1, e5, hk1⟩ := h5
  obtain ⟨o0, s0, w0⟩ := mC_all c0
  obtain ⟨o1, s1, w1⟩ := mC_all c1
  obtain ⟨o2, s2, w2⟩ := mC_all c2
  generalize mC c0 = m0 at o0 s0 w0
  generalize mC c1 = m1 at o1 s1 w1
  generalize mC c2 = m2 at o2 s2 w2
  generalize hf : rl (lettC t c0) (lettC t c1) (lettC t c2) (lettC t c3) = f
  have hfk : ∀ i, i < 4 → f i ∈ keyC t := fun i hi => by
    have : i = 0 ∨ i = 1 ∨ i = 2 ∨ i = 3 := by lia
    rw [← hf]
    rcases this with rfl | rfl | rfl | rfl
    · exact lett_key t c0
    · exact lett_key t c1
    · exact lett_key t c2
    · exact lett_key t c3
  have hfs : ∀ i, i < 4 → SignC (f i) := fun i hi => key_sign t _ (hfk i hi)
  obtain ⟨tok, tnn⟩ := tree_ok (k0 := k0) (k1 := k1) hfs o0 o1 o2
  obtain ⟨l, r, hnode⟩ := sg_node (k0 := k0) (k1 := k1) (m0 := m0) (m1 := m1) (m2 := m2) (f := f)
  have hops := tree_ops (k0 := k0) (k1 := k1) (m0 := m0) (m1 := m1) (m2 := m2) (f := f)
  have hsg := signs_eq (a := lettC t c0) (b := lettC t c1) (c := lettC t c2) (d := lettC t c3) hk0 hk1 e4 e5 s0 s1 s2 (c3 := c3)
  have hte := terms_eq (a := lettC t c0) (b := lettC t c1) (c := lettC t c2) (d := lettC t c3) e4 e5 w0 w1 w2 (c3 := c3)
  rw [hf] at hsg hte
  have hmem : ∀ m : Nat, (m = 43 ∨ m = 45 ∨ m = 42) → m ∈ [43, 45, 42] := fun m h => by rcases h with rfl | rfl | rfl <;> decide
  have hchk := chkT_all k0 hk0 k1 hk1 m0 (hmem _ o0) m1 (hmem _ o1) m2 (hmem _ o2)
  unfold chkT at hchk
  simp only [Bool.and_eq_true, List.all_eq_true, Bool.or_eq_true, decide_eq_true_eq] at hchk
  obtain ⟨hsame, hTF, hTr⟩ := hchk
  generalize hT0 : treeK k0 k1 m0 m1 m2 = T0 at tok tnn hnode hops hsg hsame hTr
  -- the value
  have hval : plainR (termsR [c0, c1, c2, c3, c4, c5] (chL [lettC t c0, lettC t c1, lettC t c2, lettC t c3])) = (T0.rel f).val := by
    refine canon_eq (plain_canon _) ?_ fun g => ?_
    · rw [hnode]; exact plain_canon _
    · rw [ev_plain, hte, Ex.ev_val, ← same_ev hsame]
      have : ∀ F : FS (List Nat), ev (F.map fun q => (mk (q.1.map f), q.2)) g = evF F fun π => g (mk (π.map f)) := by
        intro F
        induction F with
        | nil => rfl
        | cons q F ih => rw [List.map_cons, ev_cons, ih, evF_cons]
      exact this _
  have hinW : InW f (T0.rel f).val := fun p hp => by
    obtain ⟨q, hq, e⟩ := Ex.val_words f T0 p hp
    rw [e]
    exact List.mem_map.mpr ⟨q.1, hTr q hq, rfl⟩
  have hVc : Canon (T0.rel f).val := by rw [hnode]; exact plain_canon _
  have hVl : (T0.rel f).val.length ≤ 60 := Nat.le_trans (T0.rel f).vlen (by rw [tnn]; decide)
  have hA := alg_of hfs hinW hVc hVl
  have hps : ∀ p ∈ termsR [c0, c1, c2, c3, c4, c5] (chL [lettC t c0, lettC t c1, lettC t c2, lettC t c3]), p.1.length = 4 ∧ (p.2 = -1 ∨ p.2 = 0 ∨ p.2 = 1) ∧ ∀ c ∈ p.1.cps.toList, c ∈ keyC t := fun p hp => by
    rw [hte] at hp
    obtain ⟨q, hq, rfl⟩ := List.mem_map.mp hp
    obtain ⟨h1, h2⟩ := hTF q hq
    obtain ⟨i, j, k, l, e, hi, hj, hk, hl⟩ := P24_get h1
    refine ⟨by dsimp only; rw [mk_len, e]; rfl, h2, fun c hc => ?_⟩
    dsimp only at hc
    rw [mk_list, e] at hc
    simp at hc
    rcases hc with rfl | rfl | rfl | rfl
    · exact hfk i hi
    · exact hfk j hj
    · exact hfk k hk
    · exact hfk l hl
  have hsgc := (T0.rel f).sgc tok
  have huok := units_ok [c0, c1, c2, c3, c4, c5] (T0.rel f).sg hsgc
  have husg := units_snd [c0, c1, c2, c3, c4, c5] (T0.rel f).sg
  have hul : (unitsR [c0, c1, c2, c3, c4, c5] (T0.rel f).sg).length = 13 := by
    have := congrArg List.length husg
    rw [List.length_map, (T0.rel f).len, tnn] at this
    exact this
  have hX1 : 1 ≤ (ucs (unitsR [c0, c1, c2, c3, c4, c5] (T0.rel f).sg)).length := by
    cases hu : unitsR [c0, c1, c2, c3, c4, c5] (T0.rel f).sg with
    | nil => rw [hu] at hul; cases hul
    | cons u us =>
      rw [ucs_cons, List.length_append]
      unfold uc
      rw [List.length_append, List.length_singleton]
      lia
  have hpl : (termsR [c0, c1, c2, c3, c4, c5] (chL [lettC t c0, lettC t c1, lettC t c2, lettC t c3])).length = 8 := by
    unfold termsR; rw [List.length_map, List.length_range]
  refine ⟨[c0, c1, c2, c3, c4, c5], t, [lettC t c0, lettC t c1, lettC t c2, lettC t c3], T0.rel f, termsR [c0, c1, c2, c3, c4, c5] (chL [lettC t c0, lettC t c1, lettC t c2, lettC t c3]), unitsR [c0, c1, c2, c3, c4, c5] (T0.rel f).sg, plainR (brTerms (T0.rel f).val cuts8), ?_⟩
  exact {
    cs_eq := hcs
    cells := hc
    t_eq := ht
    lc_eq := rfl
    lc_len := rfl
    sg_eq := hsg
    ok := tok
    nn := tnn
    sgc := hsgc
    us_eq := rfl
    us_ok := huok
    us_sg := husg
    ps_eq := rfl
    ps_len := hpl
    ps_word := fun p hp => ⟨(hps p hp).1, fun c hc => key_sign t c ((hps p hp).2.2 c hc)⟩
    cut := cuts_of t (ucs_tick huok) hX1
    tape := tape_all hpl (fun p hp => (hps p hp).1) fun p hp => (hps p hp).2
    val := hval
    U_eq := rfl
    wV := hA.wV
    wU := hA.wU
    b1 := hA.b1
    b2 := hA.b2
    b3 := hA.b3
    b4 := hA.b4
    four := hA.four
    shU := hA.shU
    shV := hA.shV
    or3 := by
      by_cases hm : m0 = 45 ∧ m1 = 45 ∧ m2 = 45
      · left
        obtain ⟨rfl, rfl, rfl⟩ := hm
        rw [eqv_lists]
        refine decide_eq_true (canon_eq (plain_canon _) (canon_mulP (by decide) hVc) fun g => ?_)
        rw [ev_plain, ev_br, ev_mulP, Ex.ev_val, Ex.ev_val]
        have hmin := minus_all k0 hk0 k1 hk1
        rw [hT0] at hmin
        have e1 := same_ev hmin fun π => g (mk (π.map f))
        rw [evF_sc, evF_bind] at e1
        rw [← e1]
        exact evF_congr fun q hq => actB_map f (hTr q hq) g
      · right
        have : (m0 = 43 ∨ m0 = 42) ∨ (m1 = 43 ∨ m1 = 42) ∨ (m2 = 43 ∨ m2 = 42) := by lia
        rcases this with (rfl | rfl) | (rfl | rfl) | (rfl | rfl)
        · exact .inl (inL_mem hops.1)
        · exact .inr (inL_mem hops.1)
        · exact .inl (inL_mem hops.2.1)
        · exact .inr (inL_mem hops.2.1)
        · exact .inl (inL_mem hops.2.2)
        · exact .inr (inL_mem hops.2.2)
    shok := hA.shok }
theorem rc_all {prog : Program} {w : World} {H : Heap} {kvs : List (Str × Int)} (G : LG prog w H kvs) {f : Addr} (hf : FnK H f 74) {xs : List Int} (hxs : xs.length ≤ 63) : RC prog w H (.ref f) 21 [.list (encI xs)] (.bool true) := by
  obtain ⟨cs, t, lc, T, ps, us, U, F⟩ := pf_all hxs
  exact rc_law G hf hxs F
end Mine

end
noncomputable section
open PySem PySem.W PyProof.Rows
set_option maxRecDepth 100000
set_option autoImplicit false
namespace Mine
section
variable {mean : ExcName → Option Value} {mg mb : Str → Option Value} {h : Heap} {P : Params}
theorem fn_of (T : Top Q (looseW Q LO) mean mg mb h) (j k : Nat) (x : Str) (e : (recsOf Q)[j]? = some (rec9 k)) (hx : sName (stm k) = x) : ∃ a, FnK h a k ∧ Glo h x (.ref a) ∧ mg x = some (.ref a) := by
  obtain ⟨a, o, pm, code, doc, h1, h2, h3, h4⟩ := T.fn _ (List.mem_of_getElem? e)
  subst hx
  exact ⟨a, ⟨T.nolimit, o, pm, code, doc, h2, h3, h4⟩, ⟨mg, T.g, .inl h1⟩, h1⟩
noncomputable def freeB (x : Str) : Bool := !startupNames.contains x && !(looseW Q LO).contains x && !((recsOf Q).map (·.name)).contains x && !((litsOf Q).map (·.1)).contains x && !((clssOf Q (looseW Q LO)).map (·.name)).contains x
noncomputable def biNames : List Str := ["sum", "len", "sorted", "min", "next", "iter", "hex", "isinstance", "enumerate", "range", "zip", "list", "int", "bool"]
theorem bi_free : (biNames.all fun x => freeB x) = true := by kernel_rfl
theorem bi_of (T : Top Q (looseW Q LO) mean mg mb h) (x : Str) (v : Value) (e : x ∈ biNames) (eb : bootBuiltins x = some v) (hn : x ≠ "__name__") : Glo h x v := by
  have f := List.all_eq_true.mp bi_free x e
  simp only [freeB, Bool.and_eq_true, Bool.not_eq_true', List.contains_eq_mem, decide_eq_false_iff_not] at f
  exact ⟨mg, T.g, .inr ⟨T.free x f.1.1.1.1 f.1.1.1.2 f.1.1.2 f.1.2 f.2, mb, T.b, (T.builtins x hn).trans eb⟩⟩
theorem str_of (T : Top Q (looseW Q LO) mean mg mb h) (x y : Str) (e : valOf Q x = some (.str y)) : ∃ t, Glo h x (.str y t) := by
  obtain ⟨v, h1, h2⟩ := T.const x _ e
  have r := h2 h
  cases r with
  | str _ t => exact ⟨t, mg, T.g, .inl h1⟩
theorem int_of (T : Top Q (looseW Q LO) mean mg mb h) (x : Str) (i : Int) (e : valOf Q x = some (.int i)) : ∃ t, Glo h x (.int i t) := by
  obtain ⟨v, h1, h2⟩ := T.const x _ e
  have r := h2 h
  cases r with
  | int _ t => exact ⟨t, mg, T.g, .inl h1⟩
end
/-! the two tables -/
theorem dict_at {α : Type} {h : Heap} {a : Addr} {f : List DictEntry → α} {x : α} (e : ((h.get? a).bind dict?).map f = some x) : ∃ es ep, h.get? a = some ⟨.type "dict", none, .dict es ep, #[]⟩ ∧ f es.toList = x := by
  obtain ⟨es', e1, e2⟩ := Option.map_eq_some_iff.mp e
  obtain ⟨o, e3, e4⟩ := Option.bind_eq_some_iff.mp e1
  unfold dict? at e4
  split at e4
  · rename_i c es n sl
    split at e4
    · rename_i hc
      obtain ⟨h1, h2⟩ := Bool.and_eq_true_iff.mp hc
      obtain rfl := eq_of_beq h1
      have h3 : sl = #[] := Array.eq_empty_of_size_eq_zero (beq_iff_eq.mp h2)
      subst h3
      cases e4
      exact ⟨es, n, e3, e2⟩
    · cases e4
  · cases e4
theorem ents_S (w : World) (tab : List (Str × Int)) : ∀ (es : List DictEntry), es.map eS = tab.map (fun q => some (PyData.keyHash w.params q.1, q.1, q.2)) → ∃ L : List (Str × Int × Tok × Tok), tab = L.map (fun q => (q.1, q.2.1)) ∧ es = L.map fun q => ⟨PyData.keyHash w.params q.1, .str q.1 q.2.2.2, .int q.2.1 q.2.2.1⟩ := by
  induction tab with
  | nil => intro es h; cases es with
    | nil => exact ⟨[], rfl, rfl⟩
    | cons => cases h
  | cons p tab ih => intro es h; cases es with
    | nil => cases h
    | cons e es =>
      obtain ⟨h1, h2⟩ := List.cons.inj h
      obtain ⟨L, e1, e2⟩ := ih es h2
      obtain ⟨hs, k, v⟩ := e
      unfold eS at h1; dsimp only at h1
      split at h1
      · cases h1
        exact ⟨(p.1, p.2, _, _) :: L, by rw [e1]; rfl, by rw [e2]; rfl⟩
      · cases h1
theorem ents_I (tab : List (Int × Str)) : ∀ (es : List DictEntry), es.map eI = tab.map (fun q => some (hashInt q.1, q.1, q.2)) → ∃ L : List (Int × Str × Tok × Tok), tab = L.map (fun q => (q.1, q.2.1)) ∧ es = L.map fun q => ⟨hashInt q.1, .int q.1 q.2.2.2, .str q.2.1 q.2.2.1⟩ := by
  induction tab with
  | nil => intro es h; cases es with
    | nil => exact ⟨[], rfl, rfl⟩
    | cons => cases h
  | cons p tab ih => intro es h; cases es with
    | nil => cases h
    | cons e es =>
      obtain ⟨h1, h2⟩ := List.cons.inj h
      obtain ⟨L, e1, e2⟩ := ih es h2
      obtain ⟨hs, k, v⟩ := e
      unfold eI at h1; dsimp only at h1
      split at h1
      · cases h1
        exact ⟨(p.1, p.2, _, _) :: L, by rw [e1]; rfl, by rw [e2]; rfl⟩
      · cases h1
theorem ex_nd : decide (exTab.map (·.1)).Nodup = true := by kernel_rfl
theorem fl_nd : decide (flTab.map (·.1)).Nodup = true := by kernel_rfl
theorem fl_K : flTab = flagK := by kernel_rfl
theorem ex_ok : ExOk exTab where
  sign := fun c hc => by rcases hc with rfl | rfl | rfl | rfl | rfl <;> kernel_rfl
  plus := by kernel_rfl
  minus := by kernel_rfl
  star := by kernel_rfl
  lpar := by kernel_rfl
  rpar := by kernel_rfl
  no1 := by kernel_rfl
  no2 := by kernel_rfl
  no3 := by kernel_rfl
  no4 := by kernel_rfl
  no5 := by kernel_rfl
section
variable {prog : Program} {w : World} {mean : ExcName → Option Value} {mg mb : Str → Option Value} {h : Heap}
theorem isStr_mk (x : Str) (t : Tok) : Value.isStrOf x (.str x t) = true := by simp [Value.isStrOf]
theorem isInt_mk (x : Int) (t : Tok) : Value.isInt x (.int x t) = true := by simp [Value.isInt]
theorem tabS_of (g : h.Ns mainGlobals mg) (N : named mg = true) (Y : seeS h = some (valS w)) : TabS prog w h "EXACT_TOKEN_TYPES" exTab := by
  obtain ⟨es, ep, ho, he⟩ := dict_at Y
  obtain ⟨L, e1, e2⟩ := ents_S w exTab _ he
  refine ⟨58, L.map fun q => (q.1, Value.int q.2.1 q.2.2.1), ⟨mg, g, .inl (isRef_eq (Bool.and_eq_true_iff.mp N).1)⟩, ⟨_, _, _, ho, ⟨rfl, rfl, rfl⟩, rfl, ?_, ?_, ?_⟩, by decide, ?_⟩
  · intro e he
    have he : e ∈ es.toList := by simpa using he
    rw [e2] at he
    obtain ⟨q, _, rfl⟩ := List.mem_map.mp he
    exact ⟨q.1, isStr_mk q.1 q.2.2.2, rfl⟩
  · rw [e2]
    clear e1 e2 he
    induction L with
    | nil => exact .nil
    | cons q L ih => exact .cons (isStr_mk q.1 q.2.2.2) rfl ih
  · have := of_decide_eq_true ex_nd
    rw [e1, List.map_map] at this
    rw [List.map_map]
    exact this
  · rw [e1]
    clear e1 e2 he
    refine RdK.of ?_ ?_
    · rw [List.map_map, List.map_map, List.map_map]; rfl
    · rw [List.map_map, List.map_map, List.map_map]
      induction L with
      | nil => exact .nil
      | cons q L ih => exact .cons (.int _ _) ih
theorem valueAt_I (L : List (Int × Str × Tok × Tok)) (k : Int) : (∃ v t, valueAt (L.map fun q => (q.1, Value.str q.2.1 q.2.2.1)) k = some (.str v t) ∧ (L.map fun q => (q.1, q.2.1)).lookup k = some v) ∨ (valueAt (L.map fun q => (q.1, Value.str q.2.1 q.2.2.1)) k = none ∧ (L.map fun q => (q.1, q.2.1)).lookup k = none) := by
  induction L with
  | nil => exact .inr ⟨rfl, rfl⟩
  | cons q L ih =>
    by_cases e : q.1 = k
    · left
      refine ⟨q.2.1, q.2.2.1, ?_, ?_⟩
      · unfold valueAt; simp [e]
      · simp [List.lookup, e]
    · have e' : (k == q.1) = false := by simpa using fun h : k = q.1 => e h.symm
      have h1 : valueAt ((q :: L).map fun q => (q.1, Value.str q.2.1 q.2.2.1)) k = valueAt (L.map fun q => (q.1, Value.str q.2.1 q.2.2.1)) k := by
        unfold valueAt; simp [e]
      have h2 : ((q :: L).map fun q => (q.1, q.2.1)).lookup k = (L.map fun q => (q.1, q.2.1)).lookup k := by
        simp [List.lookup, e']
      rw [h1, h2]; exact ih
theorem tabI_of (g : h.Ns mainGlobals mg) (N : named mg = true) (Y : seeI h = some valI) : TabI prog w h "COMPILER_FLAG_NAMES" flagK := by
  obtain ⟨es, ep, ho, he⟩ := dict_at Y
  obtain ⟨L, e1, e2⟩ := ents_I flTab _ he
  refine ⟨43, L.map fun q => (q.1, Value.str q.2.1 q.2.2.1), ⟨mg, g, .inl (isRef_eq (Bool.and_eq_true_iff.mp N).2)⟩, ⟨_, _, _, ho, ⟨rfl, rfl, rfl⟩, rfl, ?_, ?_, ?_⟩, by decide, ?_⟩
  · intro e he
    have he : e ∈ es.toList := by simpa using he
    rw [e2] at he
    obtain ⟨q, _, rfl⟩ := List.mem_map.mp he
    exact ⟨q.1, isInt_mk q.1 q.2.2.2, rfl⟩
  · rw [e2]
    clear e1 e2 he
    induction L with
    | nil => exact .nil
    | cons q L ih => exact .cons (isInt_mk q.1 q.2.2.2) rfl ih
  · have := of_decide_eq_true fl_nd
    rw [e1, List.map_map] at this
    rw [List.map_map]
    exact this
  · intro k
    rw [← fl_K, e1]
    exact valueAt_I _ k
theorem lg_of (T : Top Q (looseW Q LO) mean mg mb h) (N : named mg = true) (Y : HK.says w h) : Nonempty (LG prog w h exTab) := by
  obtain ⟨a1, f1, g1, _⟩ := fn_of T 0 2 "_iter_escaped_chars" (by kernel_rfl) (by kernel_rfl)
  obtain ⟨a2, f2, g2, _⟩ := fn_of T 1 3 "_strip_quoted_realnames" (by kernel_rfl) (by kernel_rfl)
  obtain ⟨a3, f3, g3, _⟩ := fn_of T 2 4 "_check_parenthesis" (by kernel_rfl) (by kernel_rfl)
  obtain ⟨a4, f4, g4, _⟩ := fn_of T 3 5 "decode_rfc2231" (by kernel_rfl) (by kernel_rfl)
  obtain ⟨a5, f5, g5, _⟩ := fn_of T 4 8 "pretty_flags" (by kernel_rfl) (by kernel_rfl)
  obtain ⟨a6, f6, g6, _⟩ := fn_of T 5 9 "_parse_varint" (by kernel_rfl) (by kernel_rfl)
  obtain ⟨a7, f7, g7, _⟩ := fn_of T 6 62 "ISTERMINAL" (by kernel_rfl) (by kernel_rfl)
  obtain ⟨a8, f8, g8, _⟩ := fn_of T 7 63 "ISNONTERMINAL" (by kernel_rfl) (by kernel_rfl)
  obtain ⟨a9, f9, g9, _⟩ := fn_of T 8 64 "ISEOF" (by kernel_rfl) (by kernel_rfl)
  obtain ⟨b1, p1, q1, _⟩ := fn_of T 9 66 "_law_plain" (by kernel_rfl) (by kernel_rfl)
  obtain ⟨b2, p2, q2, _⟩ := fn_of T 10 67 "_law_signs" (by kernel_rfl) (by kernel_rfl)
  obtain ⟨b3, p3, q3, _⟩ := fn_of T 11 68 "_law_terms" (by kernel_rfl) (by kernel_rfl)
  obtain ⟨b4, p4, q4, _⟩ := fn_of T 12 69 "_law_octets" (by kernel_rfl) (by kernel_rfl)
  obtain ⟨b5, p5, q5, _⟩ := fn_of T 13 70 "_law_taped" (by kernel_rfl) (by kernel_rfl)
  obtain ⟨b6, p6, q6, _⟩ := fn_of T 14 71 "_law_value" (by kernel_rfl) (by kernel_rfl)
  obtain ⟨b7, p7, q7, _⟩ := fn_of T 15 72 "_law_bracketed" (by kernel_rfl) (by kernel_rfl)
  obtain ⟨b8, p8, q8, _⟩ := fn_of T 16 73 "_law_shuffled" (by kernel_rfl) (by kernel_rfl)
  obtain ⟨t1, h1⟩ := str_of T "TICK" "'" (by kernel_rfl)
  obtain ⟨t2, h2⟩ := int_of T "NT_OFFSET" 256 (by kernel_rfl)
  obtain ⟨t3, h3⟩ := int_of T "ENDMARKER" 0 (by kernel_rfl)
  exact ⟨{
    esc := a1, strip := a2, paren := a3, dec := a4, pretty := a5, var := a6, term := a7, non := a8, eof := a9, plain := b1, signs := b2, terms := b3, octs := b4, taped := b5, value := b6, br := b7, sh := b8
    f_esc := f1, f_strip := f2, f_paren := f3, f_dec := f4, f_pretty := f5, f_var := f6, f_term := f7, f_non := f8, f_eof := f9, f_plain := p1, f_signs := p2, f_terms := p3, f_octs := p4, f_taped := p5, f_value := p6, f_br := p7, f_sh := p8
    g_esc := g1, g_strip := g2, g_paren := g3, g_dec := g4, g_pretty := g5, g_var := g6, g_term := g7, g_non := g8, g_eof := g9, g_plain := q1, g_signs := q2, g_terms := q3, g_octs := q4, g_taped := q5, g_value := q6, g_br := q7, g_sh := q8
    t_tick := t1, t_nt := t2, t_end := t3, g_tick := h1, g_nt := h2, g_end := h3
    g_ex := tabS_of T.g N Y.1
    g_fl := tabI_of T.g N Y.2
    ex := ex_ok
    b_sum := bi_of T _ _ (by decide +kernel) (by kernel_rfl) (by decide)
    b_len := bi_of T _ _ (by decide +kernel) (by kernel_rfl) (by decide)
    b_sorted := bi_of T _ _ (by decide +kernel) (by kernel_rfl) (by decide)
    b_min := bi_of T _ _ (by decide +kernel) (by kernel_rfl) (by decide)
    b_next := bi_of T _ _ (by decide +kernel) (by kernel_rfl) (by decide)
    b_iter := bi_of T _ _ (by decide +kernel) (by kernel_rfl) (by decide)
    b_hex := bi_of T _ _ (by decide +kernel) (by kernel_rfl) (by decide)
    b_isinstance := bi_of T _ _ (by decide +kernel) (by kernel_rfl) (by decide)
    b_enumerate := bi_of T _ _ (by decide +kernel) (by kernel_rfl) (by decide)
    b_range := bi_of T _ _ (by decide +kernel) (by kernel_rfl) (by decide)
    b_zip := bi_of T _ _ (by decide +kernel) (by kernel_rfl) (by decide)
    b_list := bi_of T _ _ (by decide +kernel) (by kernel_rfl) (by decide)
    b_int := bi_of T _ _ (by decide +kernel) (by kernel_rfl) (by decide)
    b_bool := bi_of T _ _ (by decide +kernel) (by kernel_rfl) (by decide) }⟩
theorem rd_xs {vs : List Value} {xs : List Int} (hI : IntsAre vs xs) : RdL h (fun _ => False) vs (encI xs) := by
  induction hI with
  | nil => exact .nil
  | cons n t _ ih => exact .cons (.int n t) ih
/-- the law, called -/
theorem law_call {s₁ : Shared} {fa l : Addr} {vs : List Value} {xs : List Int} {R E : Value → Shared → Prop} (T : Top Q (looseW Q LO) mean mg mb s₁.heap) (N : named mg = true) (Y : HK.says w s₁.heap) (hmg : mg "law" = some (.ref fa)) (hg : s₁.gens = #[]) (hL : s₁.heap.IsList l vs.toArray) (hI : IntsAre vs xs) (hx : xs.length ≤ 63)
    (hq : ∀ s', Kp s₁ s' → R (.bool true) s') : wpAny (model prog w) callerA (call (.ref fa) [.ref l]) R E s₁ := by
  obtain ⟨G⟩ := lg_of (prog := prog) (w := w) T N Y
  obtain ⟨a, hf, _, hm⟩ := fn_of T 17 74 "law" (by kernel_rfl) (by kernel_rfl)
  rw [hmg] at hm
  cases hm
  obtain ⟨o, ho, hc, n, hd⟩ := hL
  refine wpAny_mono (rc_all G hf hx callerA (fun _ => False) s₁ [.ref l] ⟨rfl, by decide +kernel, by decide +kernel⟩ (fun _ _ e => e) (.of_eq hg) (fun a h => h.elim) (.cons (.list (fun h => h) ho hc hd (by simpa using rd_xs hI)) .nil)) (fun v s' hv => ?_) fun _ _ z => z.elim
  obtain ⟨k, r⟩ := hv
  cases r
  exact hq s' k
end
end Mine

end
noncomputable section
open PySem PySem.W PyProof.Rows
set_option maxRecDepth 100000
set_option maxHeartbeats 0 in
theorem PySem.Challenge.cw_tc0014_01_holds : PySem.Challenge.rw_tc0014_01.Holds := by
  refine Mine.hd ?_
  intro w s₀ s₁ mg mb G Y fa o pm cd doc dV kV ho hfd hcd hD hmg hg args vals as hpre hlay hrd hwl hlo
  refine Ground.open G ?_
  intro T B D TE TW
  wrow_args hpre hlay hrd hwl hlo
  rename_i xs _ _ _ _ _ _ _ l vs _ hL _ _ _ hI _ hlen _
  have hx : xs.length ≤ 63 := by omega
  show wpAny (model Challenge.rw_tc0014_01.row.prog w) callerA (call (.ref fa) [.ref l]) _ _ s₁
  refine Mine.law_call T G.X Y hmg hg hL hI hx fun s' k => ?_
  exact ⟨.inl ⟨.bool true, .bool true, [], rfl, fun _ => rfl, .bool _, by kernel_rfl, fun _ => ⟨.nil, fun a h => nomatch h⟩⟩, .of_keep k.heap, k.os, k.bare (.of_eq hg)⟩

end
