import PyProof.Rows.All
import Wide.All
import OpenK.AllK
import Wide.FinOn
import KE.BitLaws
import KE.KBits
import KE.KUnpack
import Lean
import PySem.Challenge.RW_im0101_04
set_option Elab.async false
set_option linter.all false
set_option genInjectivity false
set_option genSizeOf false
set_option genSizeOfSpec false
section
open PySem PySem.W PySem.Calls PyProof.Rows
set_option autoImplicit false
namespace Mine


noncomputable def oTup (vs : List Value) : Obj := { cls := .type "tuple", data := .seq vs.toArray }
noncomputable def oFld (c : Value) (vs : List Value) : Obj := { cls := c, data := .fields vs.toArray }
noncomputable def fileS : Str := "/claim/cut.py"
noncomputable def strsAt : List Str → Nat → List Value
  | [], _ => []
  | x :: r, t => .str x t :: strsAt r (t + 1)
noncomputable def varsOf (sc : Scope) : List Str := sc.names.filterMap fun x => match x.2 with
  | .local => some x.1
  | .cell => some x.1
  | _ => none
noncomputable def cellsOf (sc : Scope) : List Str := sc.names.filterMap fun x => match x.2 with
  | .cell => some x.1
  | _ => none

noncomputable def defObjs (text : Nat) (pm : Value) (dv : Value) (q : Str) (n t : Nat) (name : Str) (args : Arguments) (body : List Stmt) (sc : Scope) (line : Nat) : List Obj :=
  let vs := varsOf sc
  let cs := cellsOf sc
  let u := t + 3 + vs.length + cs.length
  [oTup [], oFld .none [], oTup (strsAt vs (t + 3)), oTup (strsAt cs (t + 3 + vs.length)),
   { cls := .none, data := .func { name := name, qualname := q, params := args, body := .stmts body, scope := sc, globals := 0, closure := [], defaults := .none, kwdefaults := .none } },
   oFld (.type "code") [.str name t, .str q (t + 1), .str fileS (t + 2), .int line 0, .int args.args.length 0, .int 0 0, .int 0 0, .int 3 0, .ref n, .bool true, .int text 0, .ref (n + 1), .none, .ref (n + 2), .ref (n + 3), .ref (n + 4),
     .int u 0, .int line 0, .str fileS (u + 1)],
   { cls := .type "function", data := .func { name := name, qualname := q, params := args, body := .stmts body, scope := sc, globals := mainGlobals, closure := [], defaults := dv, kwdefaults := .none, pyModule := pm, code := .ref (n + 5) } }]
noncomputable def defToks (sc : Scope) : Nat := 3 + (varsOf sc).length + (cellsOf sc).length + 2

structure CS where
  n : Nat
  t : Nat
  objs : List Obj
  ns : List DictEntry
  tab : List Value
  deriving Inhabited

noncomputable def lookNs : List DictEntry → Str → Value
  | [], _ => .none
  | e :: r, x => match e.key with
    | .str y _ => if PySem.W.Fast.sEq x y then e.val else lookNs r x
    | _ => lookNs r x
noncomputable def constV : Const → Nat → Value
  | .int i, t => .int i t
  | .str s, t => .str s t
  | _, _ => .none
noncomputable def elemV (ns : List DictEntry) (t : Nat) : PySem.Expr → Value × Nat
  | .Name x _ => (lookNs ns x, t)
  | .Constant c _ _ => (constV c t, t + 1)
  | _ => (.none, t)
noncomputable def elemsV (ns : List DictEntry) : Nat → List PySem.Expr → List Value × Nat
  | t, [] => ([], t)
  | t, x :: r => let (v, t1) := elemV ns t x; let (vs, t2) := elemsV ns t1 r; (v :: vs, t2)

noncomputable def csStep (P : Params) (pre : Str) (text : Nat) (pm : Value) (c : CS) (st : Stmt) : CS := match st with
  | .Assign [.Name x _] (.Constant k _ _) _ => { c with t := c.t + 2, ns := c.ns ++ [⟨PyData.keyHash P x, .str x (c.t + 1), constV k c.t⟩] }
  | .Assign [.Name x _] (.List es _) _ =>
    let (vs, t1) := elemsV c.ns c.t es
    { n := c.n + 1, t := t1 + 1, objs := { cls := .type "list", data := .seq vs.toArray } :: c.objs, ns := c.ns ++ [⟨PyData.keyHash P x, .str x t1, .ref c.n⟩], tab := c.tab }
  | .FunctionDef name args body _ _ _ sc _ _ pos =>
    let (ds, n1, t1, dv) : List Obj × Nat × Nat × Value := match args.defaults with
      | [] => ([], c.n, c.t, .none)
      | ks => let (vs, t1) := elemsV [] c.t (ks.filter fun | .Constant .none _ _ => false | _ => true); ([oTup (.none :: vs)], c.n + 1, t1, .ref c.n)
    let q := pre ++ name
    let l := pos.line
    let t2 := t1 + defToks sc
    { n := n1 + 7, t := t2 + 1, objs := (defObjs text pm dv q n1 t1 name args body sc l).reverse ++ (ds ++ c.objs), ns := c.ns ++ [⟨PyData.keyHash P name, .str name t2, .ref (n1 + 6)⟩],
      tab := c.tab ++ [rawInt l, rawInt pos.col, .ref (n1 + 5)] }
  | _ => c

abbrev pE : Program := (OpenRow.toRowW (OpenLaw.row PySem.Challenge.rw_im0101_04)).prog
noncomputable def clsStmt : Stmt := match pE.main.body with | _ :: _ :: c :: _ => c | _ => .Pass ⟨0, 0, 0, 0⟩
noncomputable def clsBody : List Stmt := match clsStmt with | .ClassDef _ _ _ b .. => b | _ => []

noncomputable def cs0 (P : Params) : CS := { n := 29, t := 208, objs := [], ns := [⟨PyData.keyHash P "__module__", .str "__module__" 203, .str "py65.devices.mpu6502" 194⟩, ⟨PyData.keyHash P "__qualname__", .str "__qualname__" 205, .str "MPU" 204⟩,
  ⟨PyData.keyHash P "__firstlineno__", .str "__firstlineno__" 207, .int 5 206⟩], tab := [] }
noncomputable def csAt (P : Params) (k : Nat) : CS := (clsBody.take k).foldl (csStep P "MPU." 181 (.str "py65.devices.mpu6502" 194)) (cs0 P)

noncomputable def entry (P : Params) (x : Str) (t : Nat) (v : Value) : DictEntry := ⟨PyData.keyHash P x, .str x t, v⟩
noncomputable def oDict (es : List DictEntry) : Obj := { cls := .type "dict", data := .dict es.toArray es.length }
noncomputable def oFrame (vs : List (Option Value)) : Obj := { cls := .type "frame", slots := vs.toArray }
noncomputable def modCode (name : Str) (q : Str) (n t line text : Nat) : Obj :=
  oFld (.type "code") [.str name t, .str q (t + 1), .str fileS (t + 2), .int line 0, .int 0 0, .int 0 0, .int 0 0, .int 0 0, .ref n, .bool false, .int text 0, .ref (n + 1), .none, .none, .none, .none, .int (t + 3 : Nat) 0, .int line 0, .str fileS (t + 4)]
noncomputable def globals0 (P : Params) (nm : Value) : List DictEntry :=
  [entry P "__name__" 165 nm, entry P "__doc__" 166 .none, entry P "__package__" 167 .none, entry P "__loader__" 168 (.builtin "__main__.__loader__#opaque"), entry P "__spec__" 169 .none,
   entry P "__annotations__" 170 (.ref 6), entry P "__builtins__" 171 (.ref 4), entry P "__file__" 173 (.str fileS 172), entry P "__cached__" 174 .none]
noncomputable section
noncomputable def base0 (P : Params) (gl : List DictEntry) (tab : List Value) : List Obj :=
  [boot_o_0 P, boot_o_1 P, boot_o_2 P, oDict gl, boot_o_4 P, boot_o_5 P, boot_o_6 P, boot_o_7 P, boot_o_8 P, boot_o_9 P, boot_o_10 P,
   oTup [], oFld .none tab, modCode "<module>" "<module>" 11 182 1 181, oFrame [some (.ref 13), some (.ref 3), some (.ref 3), none, some (.str "__main__" 164), none, some (.ref 0)]]
noncomputable def wallObjs : List Obj := match pE.main.body with
  | .FunctionDef name args body _ _ _ sc _ _ pos :: _ => defObjs 181 (.str "__main__" 164) .none name 15 187 name args body sc pos.line
  | _ => []
noncomputable def base (P : Params) (gl : List DictEntry) (tab : List Value) : List Obj := base0 P gl tab ++ wallObjs
noncomputable def globals1 (P : Params) (nm : Value) : List DictEntry := globals0 P nm ++ [entry P "_wall" 193 (.ref 21)]
noncomputable def pyName : Value := .str "py65.devices.mpu6502" 194
noncomputable def objsAt (P : Params) (k : Nat) : List Obj :=
  let c := csAt P k
  base P (globals1 P pyName) [rawInt 1, rawInt 0, .ref 20, rawInt 5, rawInt 0, .ref 27] ++
  [oTup [], oFld (.type "builtin_function_or_method") [.builtin "type.__prepare__", .type "type"], oDict c.ns, oTup [], oFld .none c.tab, modCode "MPU" "MPU" 25 198 5 181,
   oFrame [some (.ref 27), some (.ref 3), some (.ref 24), none, some pyName, none, some (.ref 0)]] ++ c.objs.reverse

noncomputable def halve : List Obj → List Obj × List Obj
  | [] => ([], [])
  | x :: r => let (a, b) := halve r; (x :: b, a)
noncomputable def bt : Nat → List Obj → BT
  | 0, _ => .nil
  | _ + 1, [] => .nil
  | n + 1, x :: r => let (a, b) := halve r; .node x (bt n a) (bt n b)
noncomputable def stOf (os : OsState) (l : List Obj) (n t : Nat) : SharedT := ⟨bt 16 l, n, {}, #[], {}, t, os⟩
noncomputable def stAt (w : World) (os : OsState) (k : Nat) : SharedT := let c := csAt w.params k; stOf os (objsAt w.params k) c.n c.t

noncomputable def clsScope : Scope := match clsStmt with | .ClassDef _ _ _ _ _ _ sc .. => sc | _ => pE.main.scope
noncomputable def env2 : Env := { scope := clsScope, locals := 24, globals := 3, cells := [], qual := "MPU.", code := .ref 27, frame := some 28 }
noncomputable def env1 : Env := { scope := pE.main.scope, locals := mainNs, globals := mainNs, cells := [], code := .ref 13, frame := some 14 }
noncomputable def p0 : Pos := ⟨0, 0, 0, 0⟩
noncomputable def topF : Frame := topFrame p0
noncomputable def code1 : Code := .body (behindTheImports pE) env1
noncomputable def posOf : Stmt → Pos
  | .Assign [.Name _ p] _ _ => p
  | .FunctionDef _ _ _ _ _ _ _ _ _ p => p
  | .ClassDef _ _ _ _ _ _ _ _ _ _ p => p
  | _ => p0
noncomputable def code2 : Code := .body clsBody env2
end
end Mine
end
section
open PySem PySem.W PySem.Calls PyProof.Rows
set_option autoImplicit false
set_option maxRecDepth 100000
set_option maxHeartbeats 0
namespace Mine
noncomputable section
noncomputable def thr1 : Thread := piecesOf [clsStmt] env1 code1 ⟨4, 0, 4, 8⟩ [topF]
noncomputable def S1 (w : World) (os : OsState) : SharedT := stOf os (base w.params (globals1 w.params pyName) [rawInt 1, rawInt 0, .ref 20]) 22 196
noncomputable def cut1 (w : World) (os : OsState) : Option (SharedT × Thread) := PySem.W.Fast.tw10295753902157049106 PySem.W.Fast.tw14364793385576792824 pE w 11 (some (.ref 6)) 1 59 (S1 w os) thr1
noncomputable def frK (w : World) (os : OsState) : Frame := match cut1 w os with
  | some (_, ⟨_, _, _, f :: _⟩) => f
  | _ => topF
end
theorem cutA (w : World) (os : OsState) : cut1 w os = some (stAt w os 0, ⟨PySem.W.Fast.tw11892475500146522536 PySem.W.Fast.tw14364793385576792824 code2, code2, ⟨5, 0, 1029, 786⟩, [frK w os, topF]⟩) := by kernel_rfl
end Mine
end
section
open PySem PySem.W PySem.Calls PyProof.Rows
set_option autoImplicit false
set_option maxRecDepth 100000
set_option maxHeartbeats 0
namespace Mine
noncomputable section
noncomputable def posAt (k : Nat) : Pos := match k with
  | 0 => ⟨5, 0, 1029, 786⟩
  | k + 1 => match clsBody[k]? with
    | some st => posOf st
    | none => p0
noncomputable def thr2 (w : World) (os : OsState) (k m : Nat) : Thread := ⟨(PySem.W.Fast.tw12563942051412417395 ((clsBody.drop k).take m) env2).wrap doneF deadEnd id id, code2, posAt k, [frK w os, topF]⟩
def Chunk (k m n : Nat) : Prop := ∀ (w : World) (os : OsState), PySem.W.Fast.tw10110043849684766642 PySem.W.Fast.tw14364793385576792824 pE w 11 (some (.ref 6)) 2 n (stAt w os k) (thr2 w os k m) = some (.next, stAt w os (k + m), code2, posAt (k + m))
end
end Mine
end
section
open PySem PySem.W PySem.Calls PyProof.Rows
set_option autoImplicit false
set_option maxRecDepth 100000
set_option maxHeartbeats 0
namespace Mine
noncomputable section
noncomputable def statics : List Str := ["a", "addcycles", "addrHighMask", "addrMask", "byteMask", "excycles", "memory", "name", "p", "pc", "processorCycles", "sp", "spBase", "start_pc", "x", "y"]
noncomputable def clsNs (P : Params) : List DictEntry :=
  ((csAt P 217).ns.filter fun e => match e.key with | .str x _ => !PySem.W.Fast.sEq x "__qualname__" | _ => true) ++ [entry P "__static_attributes__" 2241 (.ref 1426), entry P "__dict__" 2243 (.ref 1429), entry P "__weakref__" 2245 (.ref 1430), entry P "__doc__" 2246 .none]
noncomputable def clsObjs (P : Params) (gl : List DictEntry) (tab : List Value) : List Obj :=
  let c := csAt P 217
  base P gl tab ++
  [oTup [], oFld (.type "builtin_function_or_method") [.builtin "type.__prepare__", .type "type"], oDict (c.ns ++ [entry P "__static_attributes__" 2241 (.ref 1426)]), oTup [], oFld .none c.tab, modCode "MPU" "MPU" 25 198 5 181,
   oFrame [some (.ref 27), some (.ref 3), some (.ref 24), none, some pyName, none, some (.ref 0)]] ++ (c.objs.reverse ++
  [oTup (strsAt statics 2225), { cls := .type "dict", data := .dict (clsNs P).toArray 4 },
   { cls := .type "type", data := .cls { name := "MPU", bases := [.type "object"], mro := [.ref 1428, .type "object"], ns := 1427, qualname := "MPU" },
     slots := #[none, none, some (.str "MPU" 196), some (.str "MPU" 204), some (.builtin "object.__new__"), some (.bool true)] },
   oFld (.type "getset_descriptor") [.str "__dict__" 2242, .ref 1428, .builtin "function.__dict__", .builtin "function.__dict__#set"],
   oFld (.type "getset_descriptor") [.str "__weakref__" 2244, .ref 1428, .builtin "ExceptionGroup.__weakref__", .none],
   oFld (.type "super") [.ref 1428, .ref 1428, .ref 1428], oFld (.type "builtin_function_or_method") [.builtin "object.__init_subclass__", .ref 1428]])
noncomputable def S2 (w : World) (os : OsState) : SharedT := stOf os (clsObjs w.params (globals1 w.params pyName ++ [entry w.params "MPU" 2248 (.ref 1428)]) [rawInt 1, rawInt 0, .ref 20, rawInt 5, rawInt 0, .ref 27]) 1433 2249
noncomputable def thr3 (w : World) (os : OsState) : Thread := ⟨doneF .next, code2, posAt 217, [frK w os, topF]⟩
def ClsEnd : Prop := ∀ (w : World) (os : OsState), PySem.W.Fast.tw10110043849684766642 PySem.W.Fast.tw14364793385576792824 pE w 11 (some (.ref 6)) 1 400 (stAt w os 217) (thr3 w os) = some (.next, S2 w os, code1, ⟨5, 0, 1029, 786⟩)

noncomputable def restSts : List Stmt := (pE.main.body).drop 3
noncomputable def lawName : Value := .str "law_im0101_04" 2249
noncomputable def fin0 (P : Params) : CS := ((pE.main.body).drop 4).foldl (csStep P "" 181 lawName) { n := 1433, t := 2251, objs := [], ns := [], tab := [] }
noncomputable def finObjs (P : Params) : List Obj :=
  let c := fin0 P
  clsObjs P (globals1 P lawName ++ (entry P "MPU" 2248 (.ref 1428) :: c.ns)) ([rawInt 1, rawInt 0, .ref 20, rawInt 5, rawInt 0, .ref 27] ++ c.tab) ++ c.objs.reverse
noncomputable def S3 (w : World) (os : OsState) : SharedT := stOf os (finObjs w.params) 1455 2349
def Last : Prop := ∀ (w : World) (os : OsState), PySem.W.Fast.tw10110043849684766642 PySem.W.Fast.tw14364793385576792824 pE w 11 (some (.ref 6)) 1 200 (S2 w os) ⟨(PySem.W.Fast.tw12563942051412417395 restSts env1).wrap doneF deadEnd id id, code1, ⟨5, 0, 1029, 786⟩, [topF]⟩ = some (.next, S3 w os, code1, ⟨1095, 0, 1170, 38⟩)
end
end Mine
open Lean Meta Mine
end
section
open PySem PySem.W PySem.Calls PyProof.Rows
set_option autoImplicit false
set_option maxRecDepth 100000
set_option maxHeartbeats 0
namespace Mine
noncomputable section
noncomputable def S0 (w : World) (os : OsState) : Shared := ⟨boot_heap w.params, #[], boot_drawn, boot_toks, os⟩
noncomputable def SA (w : World) (os : OsState) : SharedT := stOf os (base0 w.params (globals0 w.params (.str "__main__" 164)) []) 15 187
def Pre : Prop := ∀ (w : World) (os : OsState), PySem.W.Fast.tw15667345088766844465 PySem.W.Fast.tw14364793385576792824 pE w 11 (some (.ref 6)) 12 (S0 w os) (topStub pE) = some ((SA w os).abs, ⟨PySem.W.Fast.tw11892475500146522536 PySem.W.Fast.tw14364793385576792824 code1, code1, p0, [topF]⟩)
def Blk : Prop := ∀ (w : World) (os : OsState), PySem.W.Fast.tw14374325043358763698 PySem.W.Fast.tw14364793385576792824 pE w 11 (some (.ref 6)) 1 1 (SA w os).abs (blockOf (behindTheImports pE) env1 code1 p0 [topF]) = some (.next, (SA w os).abs, code1, p0)
def Fst : Prop := ∀ (w : World) (os : OsState), PySem.W.Fast.tw10110043849684766642 PySem.W.Fast.tw14364793385576792824 pE w 11 (some (.ref 6)) 1 60 (SA w os) ⟨(PySem.W.Fast.tw12563942051412417395 (pE.main.body.take 2) env1).wrap doneF deadEnd id id, code1, p0, [topF]⟩ = some (.next, S1 w os, code1, ⟨4, 0, 4, 8⟩)
def FinP : Prop := ∀ (w : World) (os : OsState), PySem.W.Fast.tw14082659384304107361 PySem.W.Fast.tw14364793385576792824 pE w 11 (some (.ref 6)) 3 (S3 w os).abs ⟨doneF .next, code1, ⟨1095, 0, 1170, 38⟩, [topF]⟩ = some (S3 w os).abs
end
end Mine
open Lean Meta Mine
end
section
open PySem PySem.W PySem.Calls PyProof.Rows
set_option autoImplicit false
namespace Mine
section
variable {α : Type} {tb : String → Option Builtin} {p : Program} {w : World} {n₀ b : Nat} {ann : Option Value} {B : List Frame} {K' : α → Sem PySem.Fin} {H' : Value → Sem PySem.Fin} {gd : Bool → Bool} {lv : List Value → List Value} {res : α → Flow}

section
variable {s s₂ : Shared} {t t₂ : Thread} {n : Nat} {r : Flow × Shared × Code × Pos}
theorem seg_inv {Z : Prop} (h : segRun tb p w n₀ ann b (n + 1) s t = some r) (k1 : ∀ g, endAt b t = some g → some (g, s, t.code, t.pos) = some r → Z) (k2 : ∀ s₂ t₂, endAt b t = none → stepOk n₀ ann t = true → step (denote tb) p w s t = .go s₂ t₂ → segRun tb p w n₀ ann b n s₂ t₂ = some r → Z) : Z := by
  unfold segRun at h
  cases he : endAt b t with
  | some f => rw [he] at h; exact k1 f he h
  | none =>
    rw [he] at h
    cases hk : stepOk n₀ ann t with
    | false => rw [hk] at h; cases h
    | true =>
      rw [hk] at h
      cases hs : step (denote tb) p w s t with
      | halt o s₂ => rw [hs] at h; cases h
      | go s₂ t₂ => rw [hs] at h; exact k2 s₂ t₂ he hk hs h
theorem seg_step (e : endAt b t = none) (k : stepOk n₀ ann t = true) (hs : step (denote tb) p w s t = .go s₂ t₂) : segRun tb p w n₀ ann b (n + 1) s t = segRun tb p w n₀ ann b n s₂ t₂ := by
  conv => lhs; unfold segRun
  rw [e, k, hs]
theorem seg_end {g : Flow} (e : endAt b t = some g) : segRun tb p w n₀ ann b (n + 1) s t = some (g, s, t.code, t.pos) := by
  conv => lhs; unfold segRun
  rw [e]
end
theorem segRun_mono (k : Nat) : ∀ (n : Nat) (s : Shared) (t : Thread) (r : Flow × Shared × Code × Pos), segRun tb p w n₀ ann b n s t = some r → segRun tb p w n₀ ann b (n + k) s t = some r
  | 0, _, _, _, h => nomatch h
  | n + 1, s, t, r, h => by
    rw [Nat.add_right_comm]
    exact seg_inv h (fun g e q => (seg_end e).trans q) fun s₂ t₂ e k1 hs q => (seg_step e k1 hs).trans (segRun_mono k n s₂ t₂ r q)

section
variable {s s₂ : Shared} {t t' t₂ : Thread} {g : Flow}
theorem seg_stop (R : Rel2 (fun a => .pure (.done (res a))) K' deadEnd H' gd lv B t t') (he : endAt B.length t = some g) : ∃ a, res a = g ∧ t' = ⟨K' a, t.code, t.pos, B⟩ := by
  obtain ⟨cur, code, pos, st⟩ := t
  obtain ⟨cur', code', pos', st'⟩ := t'
  obtain ⟨e1, e2, R⟩ := R
  dsimp only at e1 e2 R
  subst e1 e2
  rcases R with ⟨rfl, rfl, x, rfl, rfl⟩ | ⟨rfl, F⟩
  · have hx : ∃ a, x = .pure a ∧ res a = g := by
      cases x with
      | pure a => simp only [endAt, Sem.wrap, beq_self_eq_true, Option.some.injEq] at he; exact ⟨a, rfl, he⟩
      | _ => simp [endAt, Sem.wrap] at he
    obtain ⟨a, rfl, rfl⟩ := hx
    exact ⟨a, rfl, rfl⟩
  · have : ((st.length == B.length) = false) := beq_eq_false_iff_ne.mpr (Nat.ne_of_gt F.longer.1)
    simp only [endAt, this] at he
    cases he
theorem seg_key (hB : splitAtGen B = none) (hb : b < B.length) (R : Rel2 (fun a => .pure (.done (res a))) K' deadEnd H' gd lv B t t') (he : endAt B.length t = none) (hk : stepOk n₀ ann t = true) (hs : step (denote tb) p w s t = .go s₂ t₂) :
    stepOk n₀ ann t' = true ∧ endAt b t' = none ∧ ∃ t₂', step (denote tb) p w s t' = .go s₂ t₂' ∧ Rel2 (fun a => .pure (.done (res a))) K' deadEnd H' gd lv B t₂ t₂' := by
  obtain ⟨cur, code, pos, st⟩ := t
  obtain ⟨cur', code', pos', st'⟩ := t'
  obtain ⟨e1, e2, R⟩ := R
  dsimp only at e1 e2 R
  subst e1 e2
  rcases R with ⟨rfl, rfl, x, rfl, rfl⟩ | ⟨rfl, F⟩
  · have hp : ∀ a, x ≠ .pure a := by
      rintro a rfl
      simp [endAt, Sem.wrap] at he
    have hr : ∀ e, x ≠ .raise e := by
      rintro e rfl
      obtain ⟨heap, gens, drawn, toks, os⟩ := s
      simp only [Sem.wrap, step] at hs
      cases hs
    obtain ⟨k1, k2⟩ := okOuter (K' := K') (H' := H') hp hr hk
    refine ⟨k1, ?_, step_outer hB hp hs⟩
    have : ((st'.length == b) = false) := beq_eq_false_iff_ne.mpr (Nat.ne_of_gt hb)
    simp only [endAt, this]
  · obtain ⟨k1, k2⟩ := okInner hB F hk
    refine ⟨k1, ?_, step_inner hB F hs⟩
    have : ((st'.length == b) = false) := beq_eq_false_iff_ne.mpr (Nat.ne_of_gt (Nat.lt_trans hb F.longer.2))
    simp only [endAt, this]
end
theorem seg_seg (hB : splitAtGen B = none) (hb : b < B.length) : ∀ (n : Nat) (s : Shared) (t t' : Thread) (f : Flow) (s' : Shared) (c' : Code) (p' : Pos), Rel2 (fun a => .pure (.done (res a))) K' deadEnd H' gd lv B t t' →
    segRun tb p w n₀ ann B.length n s t = some (f, s', c', p') → ∃ a, res a = f ∧ ∀ N r, segRun tb p w n₀ ann b N s' ⟨K' a, c', p', B⟩ = some r → segRun tb p w n₀ ann b (n + N) s t' = some r
  | 0, _, _, _, _, _, _, _, _, h => nomatch h
  | n + 1, s, t, t', f, s', c', p', R, h => by
    refine seg_inv h (fun g he q => ?_) fun s₂ t₂ he hk hs q => ?_
    · cases q
      obtain ⟨a, ha, e⟩ := seg_stop R he
      exact ⟨a, ha, fun N r hN => by rw [e, Nat.add_comm]; exact segRun_mono _ _ _ _ _ hN⟩
    · obtain ⟨k1, k2, t₂', k3, R'⟩ := seg_key hB hb R he hk hs
      obtain ⟨a, ha, hN⟩ := seg_seg hB hb n s₂ t₂ t₂' f s' c' p' R' q
      exact ⟨a, ha, fun N r q => by rw [Nat.add_right_comm]; exact (seg_step k2 k1 k3).trans (hN N r q)⟩
end

section
variable {tb : String → Option Builtin} {p : Program} {w : World} {n₀ b : Nat} {ann : Option Value} {env : Env} {B : List Frame}
abbrev restIn (l : List Stmt) (env : Env) (c : Code) (p : Pos) (B : List Frame) : Thread := ⟨(execs l env).wrap doneF (leaveH env) id id, c, p, B⟩
theorem in_app (hB : splitAtGen B = none) (hb : b < B.length) {n N : Nat} {s s' : Shared} {l rest : List Stmt} {c : Code} {pos p' : Pos} {r : Flow × Shared × Code × Pos} (h : segRun tb p w n₀ ann B.length n s (piecesOf l env c pos B) = some (.next, s', c, p'))
    (k : segRun tb p w n₀ ann b N s' (restIn rest env c p' B) = some r) : segRun tb p w n₀ ann b (n + N) s (restIn (l ++ rest) env c pos B) = some r := by
  obtain ⟨a, ha, hN⟩ := seg_seg (b := b) (res := id) (K' := fun f => match f with | .next => (execs rest env).wrap doneF (leaveH env) id id | f => doneF f) (H' := leaveH env) (B := B) hB hb n s (piecesOf l env c pos B)
    ⟨(execs l env).wrap (fun f => match f with | .next => (execs rest env).wrap doneF (leaveH env) id id | f => doneF f) (leaveH env) id id, c, pos, B⟩ _ _ _ _ ⟨rfl, rfl, .inl ⟨rfl, rfl, _, rfl, rfl⟩⟩ h
  obtain rfl : a = .next := ha
  have := hN N r k
  unfold restIn
  rw [execs_app_wrap]
  exact this
theorem in_block (hB : splitAtGen B = none) (hb : b < B.length) {n N : Nat} {s s' : Shared} {l : List Stmt} {c : Code} {pos p' : Pos} {r : Flow × Shared × Code × Pos} (h : segRun tb p w n₀ ann B.length n s (blockOf l env c pos B) = some (.next, s', c, p'))
    (k : segRun tb p w n₀ ann b N s' (restIn l env c p' B) = some r) : segRun tb p w n₀ ann b (n + N) s ⟨denote tb (.body l env), c, pos, B⟩ = some r := by
  obtain ⟨a, ha, hN⟩ := seg_seg (b := b) (res := fun _ : Unit => Flow.next) (K' := fun _ => (execs l env).wrap doneF (leaveH env) id id) (H' := Sem.raise) (B := B) hB hb n s (blockOf l env c pos B)
    ⟨(blockStart l env).wrap (fun _ => (execs l env).wrap doneF (leaveH env) id id) .raise id id, c, pos, B⟩ _ _ _ _ ⟨rfl, rfl, .inl ⟨rfl, rfl, _, rfl, rfl⟩⟩ h
  rw [body_wrap]
  exact hN N r k
end

theorem halve_get : ∀ (l : List Obj) (i : Nat), (halve l).1[i]? = l[2 * i]? ∧ (halve l).2[i]? = l[2 * i + 1]?
  | [], i => by simp [halve]
  | x :: r, i => by
    obtain ⟨a, b⟩ := halve_get r i
    constructor
    · cases i with
      | zero => rfl
      | succ i => show (halve r).2[i]? = _; rw [(halve_get r i).2]; rfl
    · show (halve r).1[i]? = _; rw [a]; rfl
theorem halve_len : ∀ (l : List Obj), (halve l).1.length = (l.length + 1) / 2 ∧ (halve l).2.length = l.length / 2
  | [] => ⟨rfl, rfl⟩
  | x :: r => by
    obtain ⟨a, b⟩ := halve_len r
    constructor
    · show ((halve r).2.length + 1) = _; rw [b]; simp only [List.length_cons]; omega
    · show (halve r).1.length = _; rw [a]; rfl
theorem bt_get : ∀ (n : Nat) (l : List Obj), l.length < 2 ^ n → ∀ i, (bt n l).get i = l[i]?
  | 0, [], _, i => by simp [bt, BT.get]
  | 0, x :: r, h, i => by simp at h
  | n + 1, [], _, i => by simp [bt, BT.get]
  | n + 1, x :: r, h, i => by
    show (BT.node x (bt n (halve r).1) (bt n (halve r).2)).get i = _
    have hl := halve_len r
    have h' : r.length + 1 < 2 ^ n * 2 := by rw [← Nat.pow_succ]; simpa using h
    rw [BT.get_node]
    cases i with
    | zero => rfl
    | succ i =>
      rw [if_neg (Nat.succ_ne_zero i)]
      split
      · rename_i q
        rw [bt_get n _ (by rw [hl.1]; omega), (halve_get r _).1]
        show r[2 * ((i + 1) / 2)]? = r[i]?
        congr 1; omega
      · rename_i q
        rw [bt_get n _ (by rw [hl.2]; omega), (halve_get r _).2]
        show r[2 * ((i + 1) / 2 - 1) + 1]? = r[i]?
        congr 1; omega
theorem abs_list {l : List Obj} {n : Nat} (h : l.length = n) (h2 : n < 2 ^ 16) (life : Life) : absHeap (bt 16 l) n life = ⟨l.toArray, life⟩ := by
  unfold absHeap BT.list
  congr 2
  apply List.ext_getElem?
  intro i
  rw [List.getElem?_map]
  rcases Nat.lt_or_ge i n with q | q
  · rw [List.getElem?_range q]
    show some ((bt 16 l).get i |>.getD default) = _
    rw [bt_get 16 l (h ▸ h2)]
    have : i < l.length := h ▸ q
    rw [List.getElem?_eq_getElem this]; rfl
  · rw [List.getElem?_eq_none (by rw [List.length_range]; exact q), List.getElem?_eq_none (h ▸ q)]; rfl
end Mine
end
section
open PySem PySem.W PySem.Calls PyProof.Rows
set_option autoImplicit false
set_option maxRecDepth 100000
set_option maxHeartbeats 0
namespace Mine
theorem hdPre : Pre := fun w os => by kernel_rfl
theorem hdBlk : Blk := fun w os => by kernel_rfl
theorem hdFst : Fst := fun w os => by kernel_rfl
theorem hdFin : FinP := fun w os => by kernel_rfl
theorem hdEnd : ClsEnd := fun w os => by kernel_rfl
theorem hdLast : Last := fun w os => by kernel_rfl
theorem hdA : Chunk 0 15 1500 := fun w os => by kernel_rfl
theorem hdB : Chunk 15 50 1800 := fun w os => by kernel_rfl
theorem hdC : Chunk 65 40 1500 := fun w os => by kernel_rfl
theorem hdD : Chunk 105 40 1500 := fun w os => by kernel_rfl
theorem hdE : Chunk 145 35 1500 := fun w os => by kernel_rfl
theorem hdF : Chunk 180 34 1500 := fun w os => by kernel_rfl
theorem hdG : Chunk 214 1 1200 := fun w os => by kernel_rfl
theorem hdH : Chunk 215 2 1000 := fun w os => by kernel_rfl
theorem hdBlk2 (w : World) (os : OsState) : PySem.W.Fast.tw10110043849684766642 PySem.W.Fast.tw14364793385576792824 pE w 11 (some (.ref 6)) 2 1 (stAt w os 0) (blockOf clsBody env2 code2 ⟨5, 0, 1029, 786⟩ [frK w os, topF]) = some (.next, stAt w os 0, code2, ⟨5, 0, 1029, 786⟩) := by kernel_rfl
theorem hdGen (w : World) (os : OsState) : splitAtGen [frK w os, topF] = none := by kernel_rfl
theorem hdNil : clsBody.drop 217 = [] := by kernel_rfl
theorem hdBody : behindTheImports pE = pE.main.body.take 2 ++ ([clsStmt] ++ (restSts ++ [])) := by kernel_rfl
theorem finLen (P : Params) : (finObjs P).length = 1455 := by kernel_rfl
end Mine
end
section
open PySem PySem.W PySem.Calls PyProof.Rows
set_option autoImplicit false
set_option maxRecDepth 100000
namespace Mine

abbrev trTab := treeTable
theorem chunk_raw {k m n : Nat} (h : Chunk k m n) (w : World) (os : OsState) :
    segRun treeTable pE w 11 (some (.ref 6)) 2 n (stAt w os k).abs (piecesOf ((clsBody.drop k).take m) env2 code2 (posAt k) [frK w os, topF]) = some (.next, (stAt w os (k + m)).abs, code2, posAt (k + m)) := by
  refine segRun_of ?_
  unfold piecesOf
  rw [PySem.W.Fast.te10110043849684766642, PySem.W.Fast.te14364793385576792824, PySem.W.Fast.te12563942051412417395]
  exact h w os

theorem in_chunk {k m n N : Nat} {w : World} {os : OsState} {r : Flow × Shared × Code × Pos} (h : Chunk k m n)
    (kk : segRun treeTable pE w 11 (some (.ref 6)) 1 N (stAt w os (k + m)).abs (restIn (clsBody.drop (k + m)) env2 code2 (posAt (k + m)) [frK w os, topF]) = some r) :
    segRun treeTable pE w 11 (some (.ref 6)) 1 (n + N) (stAt w os k).abs (restIn (clsBody.drop k) env2 code2 (posAt k) [frK w os, topF]) = some r := by
  have e : clsBody.drop k = (clsBody.drop k).take m ++ clsBody.drop (k + m) := by rw [← List.drop_drop]; exact (List.take_append_drop m _).symm
  rw [e]
  exact in_app (hdGen w os) (Nat.lt_succ_self 1) (chunk_raw h w os) kk

theorem end_raw (w : World) (os : OsState) : segRun treeTable pE w 11 (some (.ref 6)) 1 400 (stAt w os 217).abs (restIn (clsBody.drop 217) env2 code2 (posAt 217) [frK w os, topF]) = some (.next, (S2 w os).abs, code1, ⟨5, 0, 1029, 786⟩) := by
  rw [hdNil]
  refine segRun_of ?_
  rw [PySem.W.Fast.te10110043849684766642, PySem.W.Fast.te14364793385576792824]
  exact hdEnd w os

theorem cls_raw (w : World) (os : OsState) : segRun treeTable pE w 11 (some (.ref 6)) 1 (59 + (1 + (1500 + (1800 + (1500 + (1500 + (1500 + (1500 + (1200 + (1000 + 400)))))))))) (S1 w os).abs (piecesOf [clsStmt] env1 code1 ⟨4, 0, 4, 8⟩ [topFrame p0]) = some (.next, (S2 w os).abs, code1, ⟨5, 0, 1029, 786⟩) := by
  refine seg_go (s' := (stAt w os 0).abs) (t' := ⟨denote treeTable code2, code2, ⟨5, 0, 1029, 786⟩, [frK w os, topF]⟩) (segGo_of ?_) ?_
  · rw [PySem.W.Fast.te10295753902157049106, PySem.W.Fast.te14364793385576792824, PySem.W.Fast.te11892475500146522536]
    exact cutA w os
  · have hb : segRun treeTable pE w 11 (some (.ref 6)) [frK w os, topF].length 1 (stAt w os 0).abs (blockOf clsBody env2 code2 ⟨5, 0, 1029, 786⟩ [frK w os, topF]) = some (.next, (stAt w os 0).abs, code2, ⟨5, 0, 1029, 786⟩) := by
      refine segRun_of ?_
      rw [PySem.W.Fast.te10110043849684766642, PySem.W.Fast.te14364793385576792824]
      exact hdBlk2 w os
    exact in_block (hdGen w os) (Nat.lt_succ_self 1) hb
      (in_chunk hdA (in_chunk hdB (in_chunk hdC (in_chunk hdD (in_chunk hdE (in_chunk hdF (in_chunk hdG (in_chunk hdH (end_raw w os)))))))))

theorem fst_raw (w : World) (os : OsState) : segRun treeTable pE w 11 (some (.ref 6)) 1 60 (SA w os).abs (piecesOf (pE.main.body.take 2) env1 code1 p0 [topFrame p0]) = some (.next, (S1 w os).abs, code1, ⟨4, 0, 4, 8⟩) := by
  refine segRun_of ?_
  unfold piecesOf
  rw [PySem.W.Fast.te10110043849684766642, PySem.W.Fast.te14364793385576792824, PySem.W.Fast.te12563942051412417395]
  exact hdFst w os
theorem last_raw (w : World) (os : OsState) : segRun treeTable pE w 11 (some (.ref 6)) 1 200 (S2 w os).abs (piecesOf restSts env1 code1 ⟨5, 0, 1029, 786⟩ [topFrame p0]) = some (.next, (S3 w os).abs, code1, ⟨1095, 0, 1170, 38⟩) := by
  refine segRun_of ?_
  unfold piecesOf
  rw [PySem.W.Fast.te10110043849684766642, PySem.W.Fast.te14364793385576792824, PySem.W.Fast.te12563942051412417395]
  exact hdLast w os
theorem fin_raw (w : World) (os : OsState) : topRun treeTable pE w 11 (some (.ref 6)) 3 (S3 w os).abs (restOf [] env1 code1 ⟨1095, 0, 1170, 38⟩ [topFrame p0]) = some (S3 w os).abs := by
  refine piece_nil ?_
  rw [PySem.W.Fast.te14082659384304107361, PySem.W.Fast.te14364793385576792824]
  exact hdFin w os
theorem blk_raw (w : World) (os : OsState) : segRun treeTable pE w 11 (some (.ref 6)) 1 1 (SA w os).abs (blockOf (behindTheImports pE) env1 code1 p0 [topFrame p0]) = some (.next, (SA w os).abs, code1, p0) := by
  rw [PySem.W.Fast.te14374325043358763698, PySem.W.Fast.te14364793385576792824]
  exact hdBlk w os
theorem pre_raw (w : World) (os : OsState) : topGo treeTable pE w 11 (some (.ref 6)) 12 (S0 w os) (topStub pE) = some ((SA w os).abs, ⟨denote treeTable code1, code1, p0, [topFrame p0]⟩) := by
  rw [PySem.W.Fast.te15667345088766844465, PySem.W.Fast.te14364793385576792824, PySem.W.Fast.te11892475500146522536]
  exact hdPre w os

noncomputable def runN : Nat := 12 + (1 + (60 + ((59 + (1 + (1500 + (1800 + (1500 + (1500 + (1500 + (1500 + (1200 + (1000 + 400)))))))))) + (200 + 3))))
theorem run_raw (w : World) (os : OsState) : topRun treeTable pE w 11 (some (.ref 6)) runN (S0 w os) (topStub pE) = some (S3 w os).abs := by
  refine go_top (pre_raw w os) ?_
  refine piece_block (blk_raw w os) ?_
  rw [hdBody]
  exact piece_app (fst_raw w os) (piece_app (cls_raw w os) (piece_app (last_raw w os) (fin_raw w os)))
end Mine
end
section
open PySem PySem.W PySem.Calls PyProof.Rows
set_option autoImplicit false
set_option maxRecDepth 100000
namespace Mine
noncomputable section
noncomputable def H0 (P : Params) : Heap := boot_heap P
noncomputable def H1 (P : Params) : Heap := ⟨(finObjs P).toArray, {}⟩
noncomputable def sh1 (w : World) (os : OsState) : Shared := ⟨H1 w.params, #[], {}, 2349, os⟩
noncomputable def qE : Program := view pE [7]
noncomputable def loose : List Str := ["_wall", "MPU", "_law_change", "_law_codes", "_law_alone"]
end
abbrev modsE : List Str := importedModules pE.main.body
theorem S3_abs (w : World) (os : OsState) : (S3 w os).abs = sh1 w os := by
  show (⟨absHeap (bt 16 (finObjs w.params)) 1455 {}, #[], {}, 2349, os⟩ : Shared) = _
  rw [abs_list (finLen w.params) (by decide)]; rfl
theorem lk1 (w : World) : staticsOk modsE (H0 w.params) (H1 w.params) = true := by kernel_rfl
theorem lk2 (w : World) : namesBound pE (H1 w.params) = true := by kernel_rfl
theorem lk4 (w : World) : laidKept (H0 w.params) (H1 w.params) = true := by kernel_rfl
theorem lk5 (w : World) (os : OsState) : seen ((recsOf qE).map (·.name)) (ownsOf qE) [] { sh1 w os with gens := #[] } = expectedOf qE := by
  rw [PySem.W.Fast.te5160383126252970620]; kernel_rfl
theorem lk6 (w : World) (os : OsState) : (sh1 w os).heap.bltView = bltViewBooted := by kernel_rfl
theorem lk7 (w : World) (os : OsState) : (sh1 w os).heap.keysOk (looseW qE loose) ((recsOf qE).map (·.name)) ((litsOf qE).map (·.1)) ((clssOf qE (looseW qE loose)).map (·.name)) = true := by
  rw [PySem.W.Fast.te10880121769531294198]; kernel_rfl
theorem lk8 (w : World) (os : OsState) : (sh1 w os).heap.accountedOkI modsE = true := by rw [PySem.W.Fast.te14722251495701143533]; kernel_rfl
theorem lk9 (w : World) (os : OsState) : (sh1 w os).heap.isNs mainGlobals = true := by kernel_rfl
theorem lk10 (w : World) (os : OsState) : (sh1 w os).heap.isNs builtinsNs = true := by kernel_rfl
theorem lk11 (w : World) (os : OsState) : tablesOk qE (sh1 w os).heap = true := by rw [PySem.W.Fast.te10994771534591457954]; kernel_rfl
theorem lk12 (w : World) (os : OsState) : tabsOk qE (sh1 w os) = true := by rw [PySem.W.Fast.te479339242167458305]; kernel_rfl
theorem lk13 (w : World) (os : OsState) : pinSeenD qE (drecsOf qE) (sh1 w os) = pinGoodD (drecsOf qE) := by rw [PySem.W.Fast.te16090120013241838585]; kernel_rfl
theorem lk14 (w : World) (os : OsState) : plainSeenE qE (looseW qE loose) (sh1 w os) = plainGoodE qE (looseW qE loose) := by rw [PySem.W.Fast.te2386780881361962483]; kernel_rfl
theorem lk15 (w : World) (os : OsState) : plainSeenD qE loose (sh1 w os) = plainGoodD qE loose := by rw [PySem.W.Fast.te11698064438423848299]; kernel_rfl
theorem lk16 (w : World) (os : OsState) : wideSeen qE (sh1 w os) = wideGood qE := by rw [PySem.W.Fast.te7317090234206586261]; kernel_rfl
theorem lk17 (w : World) (os : OsState) : clsSeenW qE loose (sh1 w os) = clsGoodW qE loose := by rw [PySem.W.Fast.te7369524293546568484]; kernel_rfl

theorem hdOpen : ∀ w : World, (fencedOpening treeTable pE w 20000).map (fun s => (s.heap, s.gens, s.drawn, s.toks)) = some (H0 w.params, Array.mk [], boot_drawn, boot_toks) :=
  boot_open (by kernel_rfl) (by decide) (fun s => by kernel_rfl)
theorem hdSize (w : World) : ((H0 w.params).isNs mainGlobals && (Array.mk [] : Array GenState).size == 0, (H0 w.params).objs.size, (H0 w.params).nsMap mainGlobals "__annotations__") = (true, 11, some (.ref 6)) := by
  rw [PySem.W.Fast.te8920871248978507458]; kernel_rfl

theorem left : LeftO pE qE loose (fun _ => true) (fun s => s.heap) (fun w => H1 w.params) 20000 := by
  refine LeftO.of_pieces (H₀ := H0) (H₁ := H1) (gs₀ := Array.mk []) (gs₁ := #[]) (d₀ := boot_drawn) (d₁ := {}) (k₀ := boot_toks) (k₁ := 2349) (m₀ := 11) (ann := some (.ref 6)) (M := runN) hdOpen hdSize ?_ (by decide) ?_
  · intro w os
    refine (run_raw w os).trans ?_
    rw [S3_abs]; rfl
  · intro w
    funext os
    have h3 : gensDone (sh1 w os) = true := rfl
    have e : openSeen qE loose modsE (fun _ => true) true (sh1 w os) = openGood qE loose := by
      unfold openSeen openGood
      rw [lk5, lk6, lk7, lk8, lk9, lk10, lk11, lk12, lk13, lk14, lk15, lk16, lk17]
      rfl
    show ((staticsOk modsE (H0 w.params) (H1 w.params) && namesBound pE (H1 w.params) && gensDone (sh1 w os) && laidKept (H0 w.params) (H1 w.params)), openSeen qE loose modsE (fun _ => true) true (sh1 w os), H1 w.params) = _
    rw [lk1, lk2, h3, lk4, e]; rfl
end Mine
end
section
open PySem PySem.W PySem.Calls PyProof.Rows PySem.TablesWhole
set_option autoImplicit false
set_option maxRecDepth 100000
namespace Mine

noncomputable def apartB : List Nat → Bool
  | [] => true
  | x :: r => (r.all fun y => !Nat.beq x y) && apartB r
theorem filter_self {l : List (Str × NameKind)} (nd : (l.map (·.1)).Nodup) : ∀ x ∈ l, l.filter (fun y => y.1 == x.1) = [x] := by
  induction l with
  | nil => intro x h; cases h
  | cons a r ih =>
    intro x h
    rw [List.map_cons, List.nodup_cons] at nd
    obtain ⟨n1, n2⟩ := nd
    rcases List.mem_cons.mp h with rfl | h
    · rw [List.filter_cons, if_pos (by simp)]
      congr 1
      rw [List.filter_eq_nil_iff]
      intro y hy
      simp only [beq_iff_eq]
      intro e
      exact n1 (e ▸ List.mem_map_of_mem hy)
    · have ne : (a.1 == x.1) = false := beq_eq_false_iff_ne.mpr fun e => n1 (e ▸ List.mem_map_of_mem h)
      rw [List.filter_cons, ne]
      exact ih n2 x h
theorem noTwice_of {sc : Scope} (nd : (sc.names.map (·.1)).Nodup) : noTwice sc = true := by
  unfold noTwice
  rw [List.all_eq_true]
  rintro ⟨n, k⟩ hx
  have := filter_self nd (n, k) hx
  simp only at this ⊢
  rw [this]
theorem nodup_of_codes : ∀ {l : List Str}, apartB (l.map fun x => PySem.W.Fast.code x.cps.toList) = true → l.Nodup
  | [], _ => .nil
  | x :: r, h => by
    simp only [List.map_cons, apartB, Bool.and_eq_true, List.all_eq_true, Bool.not_eq_true'] at h
    refine List.nodup_cons.mpr ⟨fun hx => ?_, nodup_of_codes h.2⟩
    have := h.1 _ (List.mem_map_of_mem hx)
    rw [Nat.beq_refl] at this; cases this

section
variable {p : Program} {s0 c : Stmt} {rest body : List Stmt} {top sc own : Scope} {cx : TablesWhole.Ctx}
theorem wSs_cons {s : Stmt} : wSs holds top cx sc (s :: rest) = (wS holds top cx sc s && wSs holds top cx sc rest) := by kernel_rfl
theorem wSs_app : ∀ {a b : List Stmt}, wSs holds top cx sc (a ++ b) = (wSs holds top cx sc a && wSs holds top cx sc b)
  | [], b => by kernel_rfl
  | x :: a, b => by rw [List.cons_append, wSs_cons, wSs_cons, wSs_app, Bool.and_assoc]
theorem tabs_of (hb : p.main.body = body) (h1 : noTwice p.main.scope = true) (h2 : wSs holds p.main.scope ⟨p.main.scope, [], wSs gather p.main.scope ⟨p.main.scope, [], [], [], none⟩ p.main.scope body, [], none⟩ p.main.scope body = true)
    (hm : p.modules = []) (hp : p.parses = []) (hh : p.harvested = []) : p.tablesWhole = true := by
  unfold Program.tablesWhole wProgram wModule
  rw [hm, hp, hh, hb]
  show (((true && (noTwice p.main.scope && (wSs _ _ _ _ _ && true)))) && (true && (true && (true && true)))) = true
  rw [h1, h2]; rfl
theorem enter_of {ch : List Scope} {cls : Option Scope} {gl : List Str} {parent : Scope} (h1 : noTwice own = true) (h2 : own.names.filter (·.2 == .free) = [])
    (h3 : Alg.all holds ((own.names.filter fun (n, k) => (k == .globalImplicit || k == .globalExplicit) && !gl.contains n).map fun (n, _) => holds.check "a global's kind: no function-like block around binds the name" own n (theClassDecides cls own n || match ch.findSome? (fun b => b.names.lookup n) with
      | some k => !(k == .local || k == .cell || k == .free)
      | none => true)) = true) (h4 : annotationLike own = false) (h5 : own.fast.isEmpty = true) : Alg.enterFrom holds ch cls gl parent own = true := by
  unfold Alg.enterFrom
  rw [h2, h4, h5]
  show (true && (noTwice own && (true && (Alg.all holds _ && (true && (true && (true && true))))))) = true
  rw [h1]
  simp only [Bool.true_and, Bool.and_true]
  exact h3
theorem cls_of {n bind : Str} {x : List Str} {pos : Pos} (hbind : Alg.bind holds cx sc bind (some pos) = true) (he : Alg.enterFrom holds cx.encl none (declSs true body) sc own = true)
    (hbody : wSs holds top ⟨own, declSs false body, declSs true body, cx.encl, none⟩ own body = true) : wS holds top cx sc (.ClassDef n [] [] body [] [] own none bind x pos) = true := by
  have e : wS holds top cx sc (.ClassDef n [] [] body [] [] own none bind x pos) = (wClassHead holds cx sc [] [] [] [] own none bind pos (declSs true body) && wSs holds top ⟨own, declSs false body, declSs true body, cx.encl, none⟩ own body) := by kernel_rfl
  rw [e]
  unfold wClassHead
  show ((wEs holds cx sc none [] && (Alg.bind holds cx sc bind (some pos) && ((Alg.enterFrom holds cx.encl none (declSs true body) sc own && (wEs holds cx sc none [] && (wKs holds cx sc none [] && true))) && true))) && wSs holds top _ own body) = true
  rw [hbind, he, show wEs holds cx sc none [] = true by kernel_rfl, show wKs holds cx sc none [] = true by kernel_rfl]
  exact hbody
end

abbrev mSc : Scope := pE.main.scope
noncomputable def told : List Str := wSs gather mSc ⟨mSc, [], [], [], none⟩ mSc pE.main.body
noncomputable def cxM : TablesWhole.Ctx := ⟨mSc, [], told, [], none⟩
noncomputable def clsBind : Str := match clsStmt with | .ClassDef _ _ _ _ _ _ _ _ b _ _ => b | _ => fileS
noncomputable def clsName : Str := match clsStmt with | .ClassDef n _ _ _ _ _ _ _ _ _ _ => n | _ => fileS
noncomputable def clsAttrs : List Str := match clsStmt with | .ClassDef _ _ _ _ _ _ _ _ _ x _ => x | _ => []
noncomputable def cxC : TablesWhole.Ctx := ⟨clsScope, declSs false clsBody, declSs true clsBody, cxM.encl, none⟩
theorem tbCls : clsStmt = .ClassDef clsName [] [] clsBody [] [] clsScope none clsBind clsAttrs ⟨5, 0, 1029, 786⟩ := by kernel_rfl
theorem tbTwiceM : noTwice mSc = true := noTwice_of (nodup_of_codes (by kernel_rfl))
theorem tbTwiceC : noTwice clsScope = true := noTwice_of (nodup_of_codes (by kernel_rfl))
theorem tb1 : wSs holds mSc cxC clsScope (clsBody.take 50) = true := by kernel_rfl
theorem tb2 : wSs holds mSc cxC clsScope ((clsBody.drop 50).take 60) = true := by kernel_rfl
theorem tb3 : wSs holds mSc cxC clsScope ((clsBody.drop 110).take 60) = true := by kernel_rfl
theorem tb4 : wSs holds mSc cxC clsScope (clsBody.drop 170) = true := by kernel_rfl
theorem tbBody : wSs holds mSc cxC clsScope clsBody = true := by
  have e : clsBody = clsBody.take 50 ++ ((clsBody.drop 50).take 60 ++ ((clsBody.drop 110).take 60 ++ clsBody.drop 170)) := by
    have e2 : clsBody.drop 170 = (clsBody.drop 110).drop 60 := by rw [List.drop_drop]
    have e1 : clsBody.drop 110 = (clsBody.drop 50).drop 60 := by rw [List.drop_drop]
    rw [e2, List.take_append_drop, e1, List.take_append_drop, List.take_append_drop]
  rw [e, wSs_app, wSs_app, wSs_app, tb1, tb2, tb3, tb4]; rfl
theorem tbBind : Alg.bind holds cxM mSc clsBind (some ⟨5, 0, 1029, 786⟩) = true := by kernel_rfl
theorem tbEnter : Alg.enterFrom holds cxM.encl none (declSs true clsBody) mSc clsScope = true :=
  enter_of tbTwiceC (by kernel_rfl) (by kernel_rfl) (by kernel_rfl) (by kernel_rfl)
theorem tbC : wS holds mSc cxM mSc clsStmt = true := by rw [tbCls]; exact cls_of tbBind tbEnter tbBody
theorem tbFst : wSs holds mSc cxM mSc (pE.main.body.take 2) = true := by kernel_rfl
theorem tbRest : wSs holds mSc cxM mSc restSts = true := by kernel_rfl
theorem hdTab : pE.tablesWhole = true := by
  refine tabs_of (body := pE.main.body) rfl tbTwiceM ?_ rfl rfl rfl
  show wSs holds mSc cxM mSc pE.main.body = true
  rw [show pE.main.body = pE.main.body.take 2 ++ (clsStmt :: restSts) from by kernel_rfl, wSs_app, wSs_cons, tbC]
  rw [tbFst, tbRest]; rfl
end Mine
end
section
open PySem PySem.W PySem.Calls PyProof.Rows
set_option autoImplicit false
set_option maxRecDepth 100000
namespace Mine
noncomputable def lawD : DefRec := match pE.main.body.drop 7 with
  | .FunctionDef n a b _ _ _ sc _ _ pos :: _ => ⟨n, a, b, sc, pos⟩
  | _ => ⟨"", ⟨[], [], none, [], [], none, []⟩, [], { kind := .function, names := [], isGenerator := false, isCoroutine := false, more := [] }, ⟨0, 0, 0, 0⟩⟩
theorem and_both {x y : Bool} (h1 : x = true) (h2 : y = true) : (x && y) = true := by rw [h1, h2]; rfl
theorem hdS1 : PySem.W.Fast.tw8377067652309620493 (PySem.W.Fast.tw2368527892694137696 PySem.Challenge.rw_im0101_04).prog = true := by kernel_rfl
theorem hdS2 : (PySem.W.Fast.tw17119622794617984870 (PySem.W.Fast.tw2368527892694137696 PySem.Challenge.rw_im0101_04).prog (PySem.W.Fast.tw2368527892694137696 PySem.Challenge.rw_im0101_04).prog.main.body fun _ n => PySem.W.Fast.tw17868728402115742887 n) = true := by kernel_rfl
theorem hdS3 : PySem.W.Fast.tw12908688711261696721 (PySem.W.Fast.tw2368527892694137696 PySem.Challenge.rw_im0101_04).prog = true :=
  and_both (and_both (and_both (and_both (and_both (by kernel_rfl) (by kernel_rfl)) hdS1) (by kernel_rfl)) (by kernel_rfl)) hdS2
theorem hdSaid : PySem.Challenge.rw_im0101_04.wellSaid = true := by
  rw [PySem.W.Fast.te9446332074065402090]
  refine and_both ?_ (by kernel_rfl)
  refine and_both ?_ (by kernel_rfl)
  refine and_both ?_ (by kernel_rfl)
  refine and_both ?_ (by kernel_rfl)
  refine and_both ?_ (by kernel_rfl)
  refine and_both ?_ (by kernel_rfl)
  refine and_both ?_ (by kernel_rfl)
  refine and_both ?_ (by kernel_rfl)
  refine and_both ?_ (by kernel_rfl)
  refine and_both ?_ (by kernel_rfl)
  refine and_both ?_ (by kernel_rfl)
  refine and_both ?_ (by kernel_rfl)
  refine and_both ?_ (by kernel_rfl)
  refine and_both ?_ (by kernel_rfl)
  refine and_both ?_ (by kernel_rfl)
  refine and_both ?_ (by kernel_rfl)
  refine and_both ?_ (by kernel_rfl)
  refine and_both ?_ (by kernel_rfl)
  refine and_both ?_ (by kernel_rfl)
  refine and_both ?_ (by kernel_rfl)
  refine and_both ?_ (by kernel_rfl)
  refine and_both ?_ (by kernel_rfl)
  refine and_both ?_ (by kernel_rfl)
  refine and_both ?_ (by kernel_rfl)
  refine and_both ?_ (by kernel_rfl)
  refine and_both ?_ (by kernel_rfl)
  refine and_both ?_ (by kernel_rfl)
  refine and_both ?_ (by kernel_rfl)
  refine and_both ?_ (by kernel_rfl)
  refine and_both ?_ (by kernel_rfl)
  refine and_both ?_ (by kernel_rfl)
  refine and_both ?_ (by kernel_rfl)
  refine and_both ?_ (by kernel_rfl)
  exact hdS3
theorem hdDef : defOf qE PySem.Challenge.rw_im0101_04.row.name = some (lawD, []) := by kernel_rfl
theorem hdThe : pE.theDef PySem.Challenge.rw_im0101_04.row.name = some (lawD.params, lawD.body, lawD.scope) := by kernel_rfl
theorem hdOk : (chainsOk qE && opensWell pE && (frees PySem.Challenge.rw_im0101_04.row.toRowW && PySem.Challenge.rw_im0101_04.row.within.isEmpty)) = true := by kernel_rfl
theorem hdWrites : (!PySem.Challenge.rw_im0101_04.row.writes || PySem.Challenge.rw_im0101_04.row.records.isEmpty) = true := by kernel_rfl
theorem hdKw : kwWritten? lawD.params.kwonlyargs lawD.params.kw_defaults = some [] := by kernel_rfl
def HeldK (w : World) (h : Heap) : Prop := ∀ b o, (H1 w.params).get? b = some o → h.get? b = some o
theorem hdWit : PySem.Challenge.rw_im0101_04.row.toRowW.promised := ⟨[.list []], by kernel_rfl, by kernel_rfl⟩
theorem hdBare : pE.bare := ⟨rfl, rfl, rfl, rfl, rfl, hdTab⟩
theorem hdRec (s : Shared) : RecFacts PySem.Challenge.rw_im0101_04.row.records s.heap := recFacts_of (s := s) (by rw [show (PySem.Challenge.rw_im0101_04.row.records : WRecords) = [] from rfl]; rfl)
theorem hd04 (call : WalkO qE loose (fun _ _ => True) HeldK PySem.Challenge.rw_im0101_04.row.toRowW lawD [] fun f vs => PySem.call f vs) : PySem.Challenge.rw_im0101_04.Holds :=
  holds_law hdSaid fun said => holds_open left (fun w s e b o h => by rw [show s.heap = H1 w.params from e]; exact h) (fun w h h' y k b o e => k b o (y b o e)) (fun _ _ => trivial) (fun _ _ _ _ _ => trivial) hdDef hdThe hdKw
    (fun s _ => hdRec s) hdWrites said hdOk hdBare hdWit call
end Mine
end
section
open PySem PySem.W PySem.Calls PyProof.Rows
set_option autoImplicit false
namespace Mine


inductive V where
  | none | bool (b : Bool) | int (i : Int) | str (s : Str)
  | tup (vs : List V) | fl (vs : List V)
  | meth (f : Addr) (o : Nat) | kref (a : Addr) | ref (l : Nat)
  deriving Inhabited

inductive HO where
  | list (vs : List V)
  | inst (fs : List (Nat × V))
  | dict (es : List (Int × V))
  deriving Inhabited

abbrev Hp := List HO

inductive E where
  | cst (v : V)
  | loc (i : Nat)
  | bin (op : Operator) (a b : E)
  | inv (a : E)
  | cmp (op : CmpOp) (a b : E)
  | and (a b : E) | or (a b : E)
  | ite (c t e : E)
  | attr (i a : Nat)
  | sub (o i : E)
  | nil | cons (a r : E)
  | flist (es : E) | tup (es : E)
  | call (f args : E) | mcall (i a : Nat) (args : E) | len (a : E)
  | neg (a : E) | not (a : E) | sum (a : E)
  | chain (p q : CmpOp) (a : E) (i : Nat) (b : E)
  | nlist (es : E) | ndict | rep (a n : E) | cat (a b : E)
  | slice (own : Bool) (o lo hi : E) | stepS (o lo st : E)
  | pop (i : Nat) | popD (i : Nat) (k : E)
  deriving Inhabited

inductive S where
  | pass
  | expr (e : E)
  | assign (t e : E)
  | assignT (is : List Nat) (e : E)
  | aug (t : E) (op : Operator) (e : E)
  | ite (c : E) (a b : S)
  | ret (e : E)
  | skip | seq (a b : S)
  | forRange (t : Nat) (n : E) (body : S)
  | forIn (ts : List Nat) (e : E) (body : S) | forEnum (i j : Nat) (e : E) (body : S)
  | unpack (is : List Nat) (e : E) | brk | two (i j : Nat) (e : E) | assignAs (i : Nat) (as : List Nat) (e : E) | assignD (d k j : Nat) (e : E)
  | append (i : Nat) (e : E) | augL (i : Nat) (e : E) | setSlice (i : Nat) (lo hi : Nat) (g : Addr)
  deriving Inhabited

inductive Fl where
  | next | brk | ret (v : V)
  deriving Inhabited

inductive CA where
  | val (v : V) | fn (f : Addr)
  deriving Inhabited

structure Fn where
  arity : Nat
  names : List Str
  body : S
  deriving Inhabited

structure Cx where
  names : List Str
  cls : Addr
  cattr : Nat → Option CA
  fn : Addr → Option Fn
  lists : Addr → Option (List V)
  glob : Str → Option Addr
  deriving Inhabited

abbrev CallF := Addr → List V → Hp → Option (V × Hp)

noncomputable def fget (fs : List (Nat × V)) (a : Nat) : Option V := match fs with
  | [] => none
  | (b, v) :: r => if b = a then some v else fget r a
noncomputable def fset (fs : List (Nat × V)) (a : Nat) (v : V) : List (Nat × V) := match fs with
  | [] => [(a, v)]
  | (b, u) :: r => if b = a then (b, v) :: r else (b, u) :: fset r a v

noncomputable def binInt (op : Operator) (a b : Int) : Option Int := match op with
  | .Add => some (a + b)
  | .Sub => some (a - b)
  | .Mult => if a.natAbs < 2 ^ 32 ∧ b.natAbs < 2 ^ 32 then some (a * b) else none
  | .Mod => if 0 < b then some (a % b) else none
  | .FloorDiv => if 0 < b ∧ b < 2 ^ 24 then some (a / b) else none
  | .LShift => if 0 ≤ b ∧ b ≤ 64 ∧ a.natAbs < 2 ^ 64 then some (a * 2 ^ b.toNat) else none
  | .RShift => if 0 ≤ b ∧ b ≤ 64 then some (a / 2 ^ b.toNat) else none
  | .BitAnd => some (Builtin.bitAnd a b)
  | .BitOr => some (Builtin.bitOr a b)
  | .BitXor => some (Builtin.bitXor a b)
  | _ => none

noncomputable def ints? : List V → Option (List Int)
  | [] => some []
  | .int i :: r => (ints? r).map (i :: ·)
  | _ :: _ => none

noncomputable def binV (op : Operator) (a b : V) : Option V := match a, b with
  | .int x, .int y => (binInt op x y).map .int
  | _, _ => none

noncomputable def cmpInt (op : CmpOp) (a b : Int) : Option Bool := match op with
  | .Eq => some (a == b)
  | .NotEq => some (a != b)
  | .Lt => some (decide (a < b))
  | .LtE => some (decide (a ≤ b))
  | .Gt => some (decide (b < a))
  | .GtE => some (decide (b ≤ a))
  | _ => none
noncomputable def V.isNone : V → Bool
  | .none => true
  | _ => false
noncomputable def cmpV (op : CmpOp) (a b : V) : Option Bool := match op with
  | .Is => (match b with | .none => some a.isNone | _ => none)
  | .IsNot => (match b with | .none => some (!a.isNone) | _ => none)
  | .In => (match a with | .int i => (match b with | .fl vs => (ints? vs).map fun ns => ns.contains i | _ => none) | _ => none)
  | .NotIn => (match a with | .int i => (match b with | .fl vs => (ints? vs).map fun ns => !ns.contains i | _ => none) | _ => none)
  | op => (match a with | .int x => (match b with | .int y => cmpInt op x y | _ => none) | _ => none)

noncomputable def truthV : V → Option Bool
  | .none => some false
  | .bool b => some b
  | .int i => some (i != 0)
  | _ => none

noncomputable def itemsOf (C : Cx) (H : Hp) : V → Option (List V)
  | .fl vs => some vs
  | .kref a => C.lists a
  | .ref l => match H[l]? with
    | some (.list vs) => some vs
    | _ => none
  | _ => none

noncomputable def truthH (H : Hp) (v : V) : Option Bool := (truthV v).orElse fun _ => match v with
  | .fl vs => if vs.length ≤ 1000 then some (!vs.isEmpty) else none
  | .ref l => (match H[l]? with
    | some (.list vs) => some (!vs.isEmpty)
    | some (.dict es) => some (!es.isEmpty)
    | _ => none)
  | _ => none
noncomputable def seqI (C : Cx) (H : Hp) : V → Option (Bool × List Int)
  | .tup vs => (ints? vs).map fun ns => (true, ns)
  | v => (itemsOf C H v).bind fun vs => (ints? vs).map fun ns => (false, ns)
noncomputable def cmpS (op : CmpOp) (a b : Bool × List Int) : Option Bool := if a.1 = b.1 ∧ a.2.length = b.2.length then (match op with
  | .Eq => if a.1 then none else some (a.2 == b.2)
  | .NotEq => some (a.2 != b.2)
  | _ => none) else none
noncomputable def inD (H : Hp) (i l : V) : Option Bool := match i, l with
  | .int k, .ref l => (match H[l]? with
    | some (.dict es) => some (es.any fun e => e.1 == k)
    | _ => none)
  | _, _ => none
noncomputable def cmpH (C : Cx) (H : Hp) (op : CmpOp) (a b : V) : Option Bool := (cmpV op a b).orElse fun _ => if op = .In then inD H a b else (seqI C H a).bind fun x => (seqI C H b).bind fun y => cmpS op x y
noncomputable def sumV (C : Cx) (H : Hp) (v : V) : Option V := (itemsOf C H v).bind fun vs => (ints? vs).map fun ns => .int ns.sum
noncomputable def repV (v n : V) : Option (List V) := match n with
  | .int k => if 0 ≤ k ∧ k ≤ 65536 then some (List.replicate k.toNat v) else none
  | _ => none
noncomputable def endV (v : V) (d : Nat) : Option Nat := match v with
  | .none => some d
  | .int k => if 0 ≤ k ∧ k < 2 ^ 32 then some k.toNat else none
  | _ => none
noncomputable def sliceV (C : Cx) (H : Hp) (o lo hi : V) : Option (List V) := (itemsOf C H o).bind fun vs => if vs.length ≤ 65536 then (endV lo 0).bind fun a => (endV hi vs.length).map fun b => (vs.take b).drop a else none
noncomputable def stepV (C : Cx) (H : Hp) (o lo st : V) : Option (List V) := match lo, st with
  | .int a, .int n => if 0 ≤ a ∧ a < 2 ^ 32 ∧ 0 < n ∧ n < 2 ^ 32 then (itemsOf C H o).bind fun vs => if vs.length ≤ 1000 then some ((sliceRange (min a vs.length) vs.length n).filterMap (vs[·]?)) else none else none
  | _, _ => none
noncomputable def popV (H : Hp) (o : V) : Option (V × Hp) := match o with
  | .ref l => (match H[l]? with
    | some (.list vs) => vs.getLast?.map fun v => (v, H.set l (.list vs.dropLast))
    | _ => none)
  | _ => none
noncomputable def isD (H : Hp) (o : V) : Option Unit := match o with
  | .ref l => (match H[l]? with
    | some (.dict _) => some ()
    | _ => none)
  | _ => none
noncomputable def popK (H : Hp) (o k : V) : Option (V × Hp) := match o, k with
  | .ref l, .int k => (match H[l]? with
    | some (.dict es) => (es.find? fun e => e.1 = k).map fun e => (e.2, H.set l (.dict (es.filter fun e => e.1 ≠ k)))
    | _ => none)
  | _, _ => none

noncomputable def argsOf : V → List V
  | .tup vs => vs
  | _ => []

noncomputable def callV (cf : CallF) (f : V) (args : List V) (H : Hp) : Option (V × Hp) := match f with
  | .kref a => cf a args H
  | .meth a o => cf a (.ref o :: args) H
  | _ => none

noncomputable def attrV (C : Cx) (H : Hp) (o : V) (a : Nat) : Option V := match o with
  | .ref l => match H[l]? with
    | some (.inst fs) => (match C.cattr a with
      | none => fget fs a
      | some ca => match fget fs a with
        | some _ => none
        | none => match ca with
          | .val v => some v
          | .fn f => some (.meth f l))
    | _ => none
  | _ => none

noncomputable def methV (C : Cx) (H : Hp) (o : V) (a : Nat) : Option Addr := match o with
  | .ref l => match H[l]? with
    | some (.inst fs) => (match C.cattr a, fget fs a with
      | some (.fn f), none => some f
      | _, _ => none)
    | _ => none
  | _ => none

noncomputable def subV (C : Cx) (H : Hp) (o i : V) : Option V := match i with
  | .int k => if 0 ≤ k ∧ k < 2 ^ 32 then (itemsOf C H o).bind fun vs => vs[k.toNat]? else none
  | _ => none

noncomputable def lenV (C : Cx) (H : Hp) (o : V) : Option V := match itemsOf C H o with
  | some vs => if vs.length < 2 ^ 20 then some (.int vs.length) else none
  | none => none

noncomputable def locV (loc : List (Option V)) (i : Nat) : Option V := match loc[i]? with
  | some (some v) => some v
  | _ => none

noncomputable def evalE (C : Cx) (cf : CallF) (loc : List (Option V)) : E → Hp → Option (V × Hp)
  | .cst v, H => some (v, H)
  | .loc i, H => do
    let x ← locV loc i
    some (x, H)
  | .bin op a b, H => do
    let (x, H) ← evalE C cf loc a H
    let (y, H) ← evalE C cf loc b H
    let z ← binV op x y
    some (z, H)
  | .inv a, H => do
    let (x, H) ← evalE C cf loc a H
    match x with
    | .int i => some (.int (Builtin.bitNot i), H)
    | _ => none
  | .cmp op a b, H => do
    let (x, H) ← evalE C cf loc a H
    let (y, H) ← evalE C cf loc b H
    let z ← cmpH C H op x y
    some (.bool z, H)
  | .and a b, H => do
    let (x, H) ← evalE C cf loc a H
    let t ← truthH H x
    if t then evalE C cf loc b H else some (x, H)
  | .or a b, H => do
    let (x, H) ← evalE C cf loc a H
    let t ← truthH H x
    if t then some (x, H) else evalE C cf loc b H
  | .ite c a b, H => do
    let (x, H) ← evalE C cf loc c H
    let t ← truthH H x
    if t then evalE C cf loc a H else evalE C cf loc b H
  | .attr i a, H => do
    let x ← locV loc i
    let z ← attrV C H x a
    some (z, H)
  | .sub o i, H => do
    let (x, H) ← evalE C cf loc o H
    let (y, H) ← evalE C cf loc i H
    let z ← subV C H x y
    some (z, H)
  | .nil, H => some (.tup [], H)
  | .cons a r, H => do
    let (x, H) ← evalE C cf loc a H
    let (y, H) ← evalE C cf loc r H
    some (.tup (x :: argsOf y), H)
  | .flist es, H => do
    let (y, H) ← evalE C cf loc es H
    some (.fl (argsOf y), H)
  | .tup es, H => do
    let (y, H) ← evalE C cf loc es H
    some (.tup (argsOf y), H)
  | .call f args, H => do
    let (g, H) ← evalE C cf loc f H
    let (y, H) ← evalE C cf loc args H
    callV cf g (argsOf y) H
  | .mcall i a args, H => do
    let x ← locV loc i
    let f ← methV C H x a
    let (y, H) ← evalE C cf loc args H
    cf f (x :: argsOf y) H
  | .len a, H => do
    let (x, H) ← evalE C cf loc a H
    let z ← lenV C H x
    some (z, H)
  | .neg a, H => do
    let (x, H) ← evalE C cf loc a H
    match x with
    | .int i => some (.int (-i), H)
    | _ => none
  | .not a, H => do
    let (x, H) ← evalE C cf loc a H
    let t ← truthH H x
    some (.bool (!t), H)
  | .sum a, H => do
    let (x, H) ← evalE C cf loc a H
    let z ← sumV C H x
    some (z, H)
  | .chain p q a i b, H => do
    let (x, H) ← evalE C cf loc a H
    let y ← locV loc i
    let t ← cmpV p x y
    if t then (do
      let (z, H) ← evalE C cf loc b H
      let u ← cmpV q y z
      some (.bool u, H)) else some (.bool false, H)
  | .nlist es, H => do
    let (y, H) ← evalE C cf loc es H
    some (.ref H.length, H ++ [.list (argsOf y)])
  | .ndict, H => some (.ref H.length, H ++ [.dict []])
  | .rep a n, H => do
    let (x, H) ← evalE C cf loc a H
    let (y, H) ← evalE C cf loc n H
    let vs ← repV x y
    some (.ref H.length, H ++ [.list vs])
  | .cat a b, H => do
    let (x, H) ← evalE C cf loc a H
    let (y, H) ← evalE C cf loc b H
    let vs ← itemsOf C H x
    let us ← itemsOf C H y
    if vs.length + us.length ≤ 1000 then some (.fl (vs ++ us), H) else none
  | .slice own o lo hi, H => do
    let (x, H) ← evalE C cf loc o H
    let (y, H) ← evalE C cf loc lo H
    let (z, H) ← evalE C cf loc hi H
    let vs ← sliceV C H x y z
    if own then some (.ref H.length, H ++ [.list vs]) else some (.fl vs, H)
  | .stepS o lo st, H => do
    let (x, H) ← evalE C cf loc o H
    let (y, H) ← evalE C cf loc lo H
    let (z, H) ← evalE C cf loc st H
    let vs ← stepV C H x y z
    some (.fl vs, H)
  | .pop i, H => do
    let x ← locV loc i
    popV H x
  | .popD i k, H => do
    let x ← locV loc i
    let _ ← isD H x
    let (y, H) ← evalE C cf loc k H
    popK H x y

noncomputable def storeAttr (H : Hp) (o : V) (a : Nat) (v : V) : Option Hp := match o with
  | .ref l => match H[l]? with
    | some (.inst fs) => if fs.length < 100 then some (H.set l (.inst (fset fs a v))) else none
    | _ => none
  | _ => none
noncomputable def storeD (H : Hp) (o k v : V) : Option Hp := match o, k with
  | .ref l, .int k => (match H[l]? with
    | some (.dict es) => if es.length < 1000 ∧ es.any (fun e => e.1 == k) = false then some (H.set l (.dict (es ++ [(k, v)]))) else none
    | _ => none)
  | _, _ => none
noncomputable def moreL (H : Hp) (o : V) (us : List V) : Option Hp := match o with
  | .ref l => (match H[l]? with
    | some (.list vs) => if vs.length + us.length ≤ 65536 then some (H.set l (.list (vs ++ us))) else none
    | _ => none)
  | _ => none
noncomputable def putSlice (H : Hp) (o : V) (lo hi : Nat) (us : List V) : Option Hp := match o with
  | .ref l => (match H[l]? with
    | some (.list vs) => if lo ≤ hi ∧ hi ≤ vs.length ∧ us.length = hi - lo ∧ vs.length ≤ 65536 then some (H.set l (.list (vs.take lo ++ us ++ vs.drop hi))) else none
    | _ => none)
  | _ => none
noncomputable def storeItem (H : Hp) (o i v : V) : Option Hp := match o, i with
  | .ref l, .int k => match H[l]? with
    | some (.list vs) => if 0 ≤ k ∧ k < vs.length then some (H.set l (.list (vs.set k.toNat v))) else none
    | _ => none
  | _, _ => none

abbrev Loc := List (Option V)

noncomputable def assignE (C : Cx) (cf : CallF) : E → V → Loc → Hp → Option (Loc × Hp)
  | .loc i, v, loc, H => if i < loc.length then some (loc.set i (some v), H) else none
  | .attr i a, v, loc, H => do
    let x ← locV loc i
    match C.cattr a with
    | some _ => none
    | none => do
      let H ← storeAttr H x a v
      some (loc, H)
  | .sub o i, v, loc, H => do
    let (x, H) ← evalE C cf loc o H
    let (y, H) ← evalE C cf loc i H
    let H ← storeItem H x y v
    some (loc, H)
  | _, _, _, _ => none

noncomputable def setFwd : List Nat → List V → Loc → Option Loc
  | [], [], loc => some loc
  | i :: is, v :: vs, loc => if i < loc.length then setFwd is vs (loc.set i (some v)) else none
  | _, _, _ => none

noncomputable def setAs (C : Cx) (o : V) : List Nat → List V → Hp → Option Hp
  | [], [], H => some H
  | a :: as, v :: vs, H => (match C.cattr a with
    | some _ => none
    | none => (storeAttr H o a v).bind fun H => setAs C o as vs H)
  | _, _, _ => none
noncomputable def forK (C : Cx) (o : V) (vs : List V) (turn : Nat → V → Loc → Hp → Option (Fl × Loc × Hp)) : Nat → List V → Loc → Hp → Option (Fl × Loc × Hp)
  | _, [], loc, H => some (.next, loc, H)
  | k, u :: us, loc, H => do
    let (f, loc, H) ← turn k u loc H
    match f with
    | .next => (open Classical in if itemsOf C H o = some vs then forK C o vs turn (k + 1) us loc H else none)
    | .brk => some (.next, loc, H)
    | .ret r => some (.ret r, loc, H)
noncomputable def partsOf (C : Cx) (H : Hp) : V → Option (List V)
  | .tup vs => some vs
  | v => itemsOf C H v

noncomputable def setTgt (C : Cx) (H : Hp) (ts : List Nat) (v : V) (loc : Loc) : Option Loc := match ts with
  | [t] => setFwd [t] [v] loc
  | _ => (partsOf C H v).bind fun us => setFwd ts us loc

noncomputable def forL (turn : V → Loc → Hp → Option (Fl × Loc × Hp)) : List V → Loc → Hp → Option (Fl × Loc × Hp)
  | [], loc, H => some (.next, loc, H)
  | v :: vs, loc, H => do
    let (f, loc, H) ← turn v loc H
    match f with
    | .next => forL turn vs loc H
    | .brk => some (.next, loc, H)
    | .ret r => some (.ret r, loc, H)

noncomputable def rangeL : Nat → Int → List V
  | 0, _ => []
  | n + 1, a => .int a :: rangeL n (a + 1)
noncomputable def rangeV : V → Option (List V)
  | .int k => if -(2 ^ 20) < k ∧ k < 2 ^ 20 then some (rangeL k.toNat 0) else none
  | _ => none

noncomputable def evalS (C : Cx) (cf : CallF) : S → Loc → Hp → Option (Fl × Loc × Hp)
  | .pass, loc, H => some (.next, loc, H)
  | .expr e, loc, H => do
    let (_, H) ← evalE C cf loc e H
    some (.next, loc, H)
  | .assign t e, loc, H => do
    let (v, H) ← evalE C cf loc e H
    let (loc, H) ← assignE C cf t v loc H
    some (.next, loc, H)
  | .assignT is e, loc, H => do
    let (v, H) ← evalE C cf loc e H
    match v with
    | .tup vs => do
      let loc ← setFwd is.reverse vs.reverse loc
      some (.next, loc, H)
    | _ => none
  | .unpack is e, loc, H => do
    let (v, H) ← evalE C cf loc e H
    let vs ← itemsOf C H v
    let loc ← setFwd is vs loc
    some (.next, loc, H)
  | .aug (.loc i) op e, loc, H => do
    let x ← locV loc i
    let (y, H) ← evalE C cf loc e H
    let z ← binV op x y
    let (loc, H) ← assignE C cf (.loc i) z loc H
    some (.next, loc, H)
  | .aug (.attr i a) op e, loc, H => do
    let x ← locV loc i
    match C.cattr a with
    | some _ => none
    | none => do
      let old ← attrV C H x a
      let (y, H) ← evalE C cf loc e H
      let z ← binV op old y
      let H ← storeAttr H x a z
      some (.next, loc, H)
  | .aug _ _ _, _, _ => none
  | .ite c a b, loc, H => do
    let (x, H) ← evalE C cf loc c H
    let t ← truthH H x
    if t then evalS C cf a loc H else evalS C cf b loc H
  | .ret e, loc, H => do
    let (v, H) ← evalE C cf loc e H
    some (.ret v, loc, H)
  | .skip, loc, H => some (.next, loc, H)
  | .seq a b, loc, H => do
    let (f, loc, H) ← evalS C cf a loc H
    match f with
    | .next => evalS C cf b loc H
    | f => some (f, loc, H)
  | .forRange t n body, loc, H => do
    let (x, H) ← evalE C cf loc n H
    let vs ← rangeV x
    forL (fun v loc H => (assignE C cf (.loc t) v loc H).bind fun p => evalS C cf body p.1 p.2) vs loc H
  | .forIn ts e body, loc, H => do
    let (x, H) ← evalE C cf loc e H
    let vs ← itemsOf C H x
    forK C x vs (fun _ v loc H => (setTgt C H ts v loc).bind fun loc => evalS C cf body loc H) 0 vs loc H
  | .forEnum i j e body, loc, H => do
    let (x, H) ← evalE C cf loc e H
    let vs ← itemsOf C H x
    forK C x vs (fun k v loc H => (setFwd [i, j] [.int k, v] loc).bind fun loc => evalS C cf body loc H) 0 vs loc H
  | .brk, loc, H => some (.brk, loc, H)
  | .two i j e, loc, H => do
    let (v, H) ← evalE C cf loc e H
    let loc ← setFwd [i, j] [v, v] loc
    some (.next, loc, H)
  | .assignAs i as e, loc, H => do
    let (v, H) ← evalE C cf loc e H
    let vs ← partsOf C H v
    let o ← locV loc i
    let H ← setAs C o as vs H
    some (.next, loc, H)
  | .assignD d k j e, loc, H => do
    let (v, H) ← evalE C cf loc e H
    match v with
    | .tup [u, z] => do
      let o ← locV loc d
      let y ← locV loc k
      let H ← storeD H o y u
      let loc ← setFwd [j] [z] loc
      some (.next, loc, H)
    | _ => none
  | .append i e, loc, H => do
    let o ← locV loc i
    let _ ← moreL H o []
    let (v, H) ← evalE C cf loc e H
    let H ← moreL H o [v]
    some (.next, loc, H)
  | .augL i e, loc, H => do
    let o ← locV loc i
    let (v, H) ← evalE C cf loc e H
    let us ← itemsOf C H v
    let H ← moreL H o us
    some (.next, loc, H)
  | .setSlice i lo hi g, loc, H => do
    let us ← C.lists g
    let o ← locV loc i
    let H ← putSlice H o lo hi us
    some (.next, loc, H)

noncomputable def runFn (C : Cx) (cf : CallF) (fn : Fn) (args : List V) (H : Hp) : Option (V × Hp) :=
  if args.length = fn.arity then
    match evalS C cf fn.body (args.map some ++ List.replicate (fn.names.length - fn.arity) none) H with
    | some (.ret v, _, H) => some (v, H)
    | some (.next, _, H) => some (.none, H)
    | _ => none
  else none

noncomputable def callD (C : Cx) : Nat → CallF
  | 0 => fun _ _ _ => none
  | d + 1 => fun f args H => match C.fn f with
    | none => none
    | some fn => runFn C (callD C d) fn args H

end Mine
end
section
open PySem PySem.W PySem.Calls PyProof.Rows
set_option autoImplicit false
namespace Mine

abbrev Mu := List (Addr × Addr)
def InOwn (μ : Mu) (b : Addr) : Prop := ∃ p ∈ μ, b = p.1 ∨ b = p.2

mutual
inductive VRel (μ : Mu) (h : Heap) : V → Value → Prop
  | none : VRel μ h .none .none
  | bool (b : Bool) : VRel μ h (.bool b) (.bool b)
  | int (i : Int) (t : Tok) : VRel μ h (.int i) (.int i t)
  | str (x : Str) (t : Tok) : VRel μ h (.str x) (.str x t)
  | kref (a : Addr) : VRel μ h (.kref a) (.ref a)
  | ref {i : Nat} {p : Addr × Addr} : μ[i]? = some p → VRel μ h (.ref i) (.ref p.1)
  | meth {f : Addr} {i : Nat} {p : Addr × Addr} {q : Addr} : μ[i]? = some p → h.get? q = some (methodObj (.ref f) (.ref p.1)) → ¬ InOwn μ q → VRel μ h (.meth f i) (.ref q)
  | fl {vs : List V} {items : List Value} {n : Nat} {q : Addr} : IsL h q items.toArray n → ¬ InOwn μ q → VRels μ h vs items → VRel μ h (.fl vs) (.ref q)
  | tup {vs : List V} {items : List Value} {n : Nat} {q : Addr} : h.get? q = some { cls := .type "tuple", data := .seq items.toArray n } → ¬ InOwn μ q → VRels μ h vs items → VRel μ h (.tup vs) (.ref q)
inductive VRels (μ : Mu) (h : Heap) : List V → List Value → Prop
  | nil : VRels μ h [] []
  | cons {v : V} {x : Value} {vs : List V} {xs : List Value} : VRel μ h v x → VRels μ h vs xs → VRels μ h (v :: vs) (x :: xs)
end

inductive FldRel (nms : List Str) (μ : Mu) (h : Heap) : List (Nat × V) → List DictEntry → Prop
  | nil : FldRel nms μ h [] []
  | cons {a : Nat} {x : Str} {v : V} {hsh : Int} {t : Tok} {val : Value} {fs : List (Nat × V)} {es : List DictEntry} :
      nms[a]? = some x → VRel μ h v val → FldRel nms μ h fs es → FldRel nms μ h ((a, v) :: fs) (⟨hsh, .str x t, val⟩ :: es)

def IsDict0 (h : Heap) (a : Addr) : Prop := ∃ o es ep, h.get? a = some o ∧ o.ExactDict ∧ o.data = .dict es ep
noncomputable def ORel (nms : List Str) (C : Addr) (μ : Mu) (h : Heap) : HO → Addr × Addr → Prop
  | .list vs, p => ∃ items n, IsL h p.1 items.toArray n ∧ VRels μ h vs items ∧ p.2 = p.1 ∧ vs.length ≤ sizeLine
  | .inst fs, p => h.get? p.1 = some (instObj C p.2) ∧ ∃ es n, h.get? p.2 = some (dictOf es n) ∧ FldRel nms μ h fs es
  | .dict es, p => (p.2 = p.1 ∧ (p.1 == sysModules) = false) ∧ IsDict0 h p.1 ∧ es.length ≤ 1000 ∧ ∃ kvs : List (Int × Value), (∀ prog w, h.DictOf (intKind prog w) p.1 kvs) ∧ es.map (·.1) = kvs.map (·.1) ∧ VRels μ h (es.map (·.2)) (kvs.map (·.2))

def AddrApart (p q : Addr × Addr) : Prop := p.1 ≠ q.1 ∧ p.1 ≠ q.2 ∧ p.2 ≠ q.1 ∧ p.2 ≠ q.2

structure HRel (nms : List Str) (C : Addr) (μ : Mu) (H : Hp) (h : Heap) : Prop where
  len : μ.length = H.length
  objs : ∀ (i : Nat) (o : HO) (p : Addr × Addr), H[i]? = some o → μ[i]? = some p → ORel nms C μ h o p
  apart : ∀ (i j : Nat) (p q : Addr × Addr), i ≠ j → μ[i]? = some p → μ[j]? = some q → AddrApart p q

structure Step (fa : List Addr) (μ : Mu) (h : Heap) (μ' : Mu) (h' : Heap) : Prop where
  keep : ∀ b o, ¬ InOwn μ b → b ∉ fa → h.get? b = some o → h'.get? b = some o
  pre : ∀ (i : Nat) (p : Addr × Addr), μ[i]? = some p → μ'[i]? = some p
  own : ∀ b, InOwn μ' b → InOwn μ b ∨ (h.get? b = none ∧ b ∉ fa)

def FrObj (h : Heap) (b : Addr) : Prop := ∃ o, h.get? b = some o ∧ ((∃ es n, o.data = .dict es n) ∨ (∃ v, o.data = .cell v) ∨ ∃ vs, o.data = .fields vs ∧ o.cls ≠ .type "method" ∧ ∀ q t, vs[1]? ≠ some (.str q t))

theorem Step.refl (fa : List Addr) (μ : Mu) (h : Heap) : Step fa μ h μ h := ⟨fun _ _ _ _ e => e, fun _ _ e => e, fun _ e => .inl e⟩

theorem Step.notOwn {fa : List Addr} {μ μ' : Mu} {h h' : Heap} (x : Step fa μ h μ' h') {b : Addr} {o : Obj} (hb : h.get? b = some o) (n : ¬ InOwn μ b) : ¬ InOwn μ' b := fun q =>
  (x.own b q).elim n fun l => by have := l.1; rw [hb] at this; cases this

theorem Step.trans {fa : List Addr} {μ μ' μ'' : Mu} {h h' h'' : Heap} (x : Step fa μ h μ' h') (y : Step fa μ' h' μ'' h'') : Step fa μ h μ'' h'' where
  keep := fun b o n f e => y.keep b o (x.notOwn e n) f (x.keep b o n f e)
  pre := fun i p e => y.pre i p (x.pre i p e)
  own := fun b q => (y.own b q).elim (x.own b) fun l => by
    by_cases n : InOwn μ b
    · exact .inl n
    · cases e : h.get? b with
      | none => exact .inr ⟨rfl, l.2⟩
      | some o => have := x.keep b o n l.2 e; rw [this] at l; cases l.1

theorem Step.nil {fa : List Addr} {μ μ' : Mu} {h h' : Heap} (x : Step [] μ h μ' h') (hf : ∀ b ∈ fa, FrObj h b) : Step fa μ h μ' h' :=
  ⟨fun b o n _ e => x.keep b o n (fun q => nomatch q) e, x.pre, fun b q => (x.own b q).imp id fun l => ⟨l.1, fun m => by
    obtain ⟨o, e, _⟩ := hf b m
    rw [l.1] at e; cases e⟩⟩

theorem VRels.ind {μ : Mu} {h : Heap} {P : List V → List Value → Prop} (hn : P [] []) (hc : ∀ {v x vs xs}, VRel μ h v x → VRels μ h vs xs → P vs xs → P (v :: vs) (x :: xs)) {vs : List V} {xs : List Value} (r : VRels μ h vs xs) : P vs xs :=
  VRels.rec (motive_1 := fun _ _ _ => True) (motive_2 := fun vs xs _ => P vs xs) trivial (fun _ => trivial) (fun _ _ => trivial) (fun _ _ => trivial) (fun _ => trivial) (fun _ => trivial) (fun _ _ _ => trivial) (fun _ _ _ _ => trivial) (fun _ _ _ _ => trivial) hn (fun a r _ ih => hc a r ih) r
theorem VRel.step {fa : List Addr} {μ μ' : Mu} {h h' : Heap} (x : Step fa μ h μ' h') (hf : ∀ b ∈ fa, FrObj h b) {v : V} {a : Value} (r : VRel μ h v a) : VRel μ' h' v a :=
  VRel.rec (motive_1 := fun v a _ => VRel μ' h' v a) (motive_2 := fun v a _ => VRels μ' h' v a) .none (fun b => .bool b) (fun i t => .int i t) (fun i t => .str i t) (fun a => .kref a) (fun e => .ref (x.pre _ _ e))
    (fun e g n => .meth (x.pre _ _ e) (x.keep _ _ n (fun q => by
      obtain ⟨o, ho, hd⟩ := hf _ q
      rw [g] at ho; cases ho
      rcases hd with ⟨_, _, hd⟩ | ⟨_, hd⟩ | ⟨_, hd, hc⟩ <;> first | (cases hd; done) | exact hc.1 rfl) g) (x.notOwn g n))
    (fun g n _ ih => .fl (x.keep _ _ n (fun q => by
      obtain ⟨o, ho, hd⟩ := hf _ q
      rw [g] at ho; cases ho
      rcases hd with ⟨_, _, hd⟩ | ⟨_, hd⟩ | ⟨_, hd, hc⟩ <;> first | (cases hd; done) | exact hc.1 rfl) g) (x.notOwn g n) ih)
    (fun g n _ ih => .tup (x.keep _ _ n (fun q => by
      obtain ⟨o, ho, hd⟩ := hf _ q
      rw [g] at ho; cases ho
      rcases hd with ⟨_, _, hd⟩ | ⟨_, hd⟩ | ⟨_, hd, hc⟩ <;> first | (cases hd; done) | exact hc.1 rfl) g) (x.notOwn g n) ih) .nil (fun _ _ ia ir => .cons ia ir) r
theorem VRels.step {fa : List Addr} {μ μ' : Mu} {h h' : Heap} (x : Step fa μ h μ' h') (hf : ∀ b ∈ fa, FrObj h b) {v : List V} {a : List Value} (r : VRels μ h v a) : VRels μ' h' v a :=
  VRels.ind (P := fun v a => VRels μ' h' v a) .nil (fun a _ ih => .cons (VRel.step x hf a) ih) r

theorem Step.mono {fa fb : List Addr} {μ μ' : Mu} {h h' : Heap} (x : Step fa μ h μ' h') (k : ∀ b ∈ fa, b ∈ fb) (hf : ∀ b ∈ fb, FrObj h b) : Step fb μ h μ' h' :=
  ⟨fun b o n f e => x.keep b o n (fun q => f (k b q)) e, x.pre, fun b q => (x.own b q).imp id fun l => ⟨l.1, fun m => by
    obtain ⟨o, e, _⟩ := hf b m
    rw [l.1] at e; cases e⟩⟩

theorem VRel.s {μ μ' : Mu} {h h' : Heap} (x : Step [] μ h μ' h') {v : V} {a : Value} (r : VRel μ h v a) : VRel μ' h' v a := VRel.step x (fun _ q => nomatch q) r
theorem VRels.s {μ μ' : Mu} {h h' : Heap} (x : Step [] μ h μ' h') {v : List V} {a : List Value} (r : VRels μ h v a) : VRels μ' h' v a := VRels.step x (fun _ q => nomatch q) r

theorem FldRel.step {nms : List Str} {fa : List Addr} {μ μ' : Mu} {h h' : Heap} (x : Step fa μ h μ' h') (hf : ∀ b ∈ fa, FrObj h b) {fs : List (Nat × V)} {es : List DictEntry} (r : FldRel nms μ h fs es) : FldRel nms μ' h' fs es := by
  induction r with
  | nil => exact .nil
  | cons e v _ ih => exact .cons e (VRel.step x hf v) ih

theorem VRels.length {μ : Mu} {h : Heap} {v : List V} {a : List Value} (r : VRels μ h v a) : a.length = v.length :=
  VRels.ind (P := fun v a => a.length = v.length) rfl (fun _ _ ih => congrArg (· + 1) ih) r
theorem VRels.get {μ : Mu} {h : Heap} {vs : List V} {as : List Value} (r : VRels μ h vs as) {i : Nat} {v : V} (e : vs[i]? = some v) : ∃ a, as[i]? = some a ∧ VRel μ h v a :=
  VRels.ind (P := fun vs as => ∀ (i : Nat) (v : V), vs[i]? = some v → ∃ a, as[i]? = some a ∧ VRel μ h v a) (fun i v e => nomatch e)
    (fun r _ ih i v e => by
      cases i with
      | zero => cases e; exact ⟨_, rfl, r⟩
      | succ i => exact ih i v e) r i v e
theorem VRels.append {μ : Mu} {h : Heap} {vs : List V} {as : List Value} (r : VRels μ h vs as) {ws : List V} {bs : List Value} (q : VRels μ h ws bs) : VRels μ h (vs ++ ws) (as ++ bs) :=
  VRels.ind (P := fun vs as => VRels μ h (vs ++ ws) (as ++ bs)) q (fun a _ ih => .cons a ih) r
theorem VRels.reverse {μ : Mu} {h : Heap} {vs : List V} {as : List Value} (r : VRels μ h vs as) : VRels μ h vs.reverse as.reverse :=
  VRels.ind (P := fun vs as => VRels μ h vs.reverse as.reverse) .nil (fun a _ ih => by rw [List.reverse_cons, List.reverse_cons]; exact VRels.append ih (.cons a .nil)) r
theorem VRels.set {μ : Mu} {h : Heap} {vs : List V} {as : List Value} (r : VRels μ h vs as) (i : Nat) {v : V} {a : Value} (q : VRel μ h v a) : VRels μ h (vs.set i v) (as.set i a) :=
  VRels.ind (P := fun vs as => ∀ i : Nat, VRels μ h (vs.set i v) (as.set i a)) (fun _ => .nil) (fun b r ih i => by
    cases i with
    | zero => exact .cons q r
    | succ i => exact .cons b (ih i)) r i

section
variable {nms : List Str} {C : Addr} {μ μ' : Mu} {H : Hp} {h h' : Heap}

theorem inOwn_of {i : Nat} {p : Addr × Addr} (e : μ[i]? = some p) : InOwn μ p.1 ∧ InOwn μ p.2 :=
  have hm := List.mem_of_getElem? e
  ⟨⟨p, hm, .inl rfl⟩, ⟨p, hm, .inr rfl⟩⟩

theorem ORel.at1 {o : HO} {p : Addr × Addr} (r : ORel nms C μ h o p) : ∃ x, h.get? p.1 = some x := by
  cases o with
  | list vs => obtain ⟨items, n, a, _⟩ := r; exact ⟨_, a⟩
  | inst fs => exact ⟨_, r.1⟩
  | dict es => obtain ⟨o, _, _, e, _⟩ := r.2.1; exact ⟨o, e⟩
theorem ORel.at2 {o : HO} {p : Addr × Addr} (r : ORel nms C μ h o p) : ∃ x, h.get? p.2 = some x := by
  cases o with
  | list vs => obtain ⟨items, n, a, _, e, _⟩ := r; rw [e]; exact ⟨_, a⟩
  | inst fs => obtain ⟨_, es, n, a, _⟩ := r; exact ⟨_, a⟩
  | dict es => rw [r.1.1]; obtain ⟨o, _, _, e, _⟩ := r.2.1; exact ⟨o, e⟩
theorem HRel.ownLt (R : HRel nms C μ H h) {b : Addr} (q : InOwn μ b) : ∃ x, h.get? b = some x := by
  obtain ⟨p, hm, e⟩ := q
  obtain ⟨i, hi, rfl⟩ := List.getElem_of_mem hm
  have hp : μ[i]? = some μ[i] := List.getElem?_eq_getElem hi
  have ho : H[i]? = some (H[i]'(R.len ▸ hi)) := List.getElem?_eq_getElem _
  have r := R.objs i _ _ ho hp
  rcases e with rfl | rfl
  · exact r.at1
  · exact r.at2

theorem ORel.move {fa : List Addr} (x : Step fa μ h μ' h') (hf : ∀ b ∈ fa, FrObj h b) {o : HO} {p : Addr × Addr} (e1 : ∀ y, h.get? p.1 = some y → h'.get? p.1 = some y) (e2 : ∀ y, h.get? p.2 = some y → h'.get? p.2 = some y)
    (r : ORel nms C μ h o p) : ORel nms C μ' h' o p := by
  cases o with
  | list vs => obtain ⟨items, n, a, b, c⟩ := r; exact ⟨items, n, e1 _ a, b.step x hf, c⟩
  | inst fs => obtain ⟨a, es, n, b, c⟩ := r; exact ⟨e1 _ a, es, n, e2 _ b, c.step x hf⟩
  | dict es =>
    obtain ⟨e, i, l, kvs, d, q, v⟩ := r
    obtain ⟨y, ys, yp, i, j⟩ := i
    exact ⟨e, ⟨y, ys, yp, e1 _ i, j⟩, l, kvs, fun prog w => let ⟨o, es, ep, g, rest⟩ := d prog w; ⟨o, es, ep, e1 _ g, rest⟩, q, v.step x hf⟩
end

theorem HRel.keep {nms : List Str} {C : Addr} {fa : List Addr} {μ : Mu} {H : Hp} {h h' : Heap} (R : HRel nms C μ H h) (hf : ∀ b ∈ fa, FrObj h b ∧ ¬ InOwn μ b)
    (k : ∀ b o, b ∉ fa → h.get? b = some o → h'.get? b = some o) : Step fa μ h μ h' ∧ HRel nms C μ H h' := by
  have x : Step fa μ h μ h' := ⟨fun b o _ f e => k b o f e, fun _ _ e => e, fun _ e => .inl e⟩
  refine ⟨x, R.len, fun i o p ho hp => ?_, R.apart⟩
  obtain ⟨o1, o2⟩ := inOwn_of hp
  exact (R.objs i o p ho hp).move x (fun b q => (hf b q).1) (fun y e => k _ _ (fun q => (hf _ q).2 o1) e) (fun y e => k _ _ (fun q => (hf _ q).2 o2) e)

theorem HRel.set {nms : List Str} {C : Addr} {μ : Mu} {H : Hp} {h h' : Heap} (R : HRel nms C μ H h) {i : Nat} {p : Addr × Addr} {o : HO} (hi : i < H.length) (hp : μ[i]? = some p)
    (k : ∀ b o, b ≠ p.1 → b ≠ p.2 → h.get? b = some o → h'.get? b = some o) (ho : Step [] μ h μ h' → ORel nms C μ h' o p) : Step [] μ h μ h' ∧ HRel nms C μ (H.set i o) h' := by
  obtain ⟨o1, o2⟩ := inOwn_of hp
  have x : Step [] μ h μ h' := ⟨fun b o n _ e => k b o (fun q => n (q ▸ o1)) (fun q => n (q ▸ o2)) e, fun _ _ e => e, fun _ e => .inl e⟩
  refine ⟨x, by rw [List.length_set]; exact R.len, fun j o' q hj hq => ?_, R.apart⟩
  by_cases e : i = j
  · subst e
    rw [List.getElem?_set_self hi] at hj
    cases hj
    rw [hp] at hq; cases hq
    exact ho x
  · rw [List.getElem?_set_ne e] at hj
    obtain ⟨a1, a2, a3, a4⟩ := R.apart i j p q e hp hq
    exact (R.objs j o' q hj hq).move x (fun _ q => nomatch q) (fun y e => k _ _ (Ne.symm a1) (Ne.symm a3) e) (fun y e => k _ _ (Ne.symm a2) (Ne.symm a4) e)

theorem HRel.push {nms : List Str} {C : Addr} {μ : Mu} {H : Hp} {h h' : Heap} (R : HRel nms C μ H h) {p : Addr × Addr} {o : HO}
    (k : ∀ b o, h.get? b = some o → h'.get? b = some o) (p1 : h.get? p.1 = none) (p2 : h.get? p.2 = none) (ho : Step [] μ h (μ ++ [p]) h' → ORel nms C (μ ++ [p]) h' o p) : Step [] μ h (μ ++ [p]) h' ∧ HRel nms C (μ ++ [p]) (H ++ [o]) h' := by
  have pre : ∀ (i : Nat) (q : Addr × Addr), μ[i]? = some q → (μ ++ [p])[i]? = some q := fun i q e => by
    rw [List.getElem?_append_left (List.getElem?_eq_some_iff.mp e).1]; exact e
  have x : Step [] μ h (μ ++ [p]) h' := ⟨fun b o _ _ e => k b o e, pre, fun b q => by
    obtain ⟨r, hm, e⟩ := q
    rcases List.mem_append.mp hm with hm | hm
    · exact .inl ⟨r, hm, e⟩
    · rw [List.mem_singleton.mp hm] at e
      rcases e with rfl | rfl
      · exact .inr ⟨p1, fun q => nomatch q⟩
      · exact .inr ⟨p2, fun q => nomatch q⟩⟩
  have old : ∀ (i : Nat) (q : Addr × Addr), μ[i]? = some q → AddrApart q p := fun i q e => by
    obtain ⟨o1, o2⟩ := inOwn_of e
    obtain ⟨x1, e1⟩ := R.ownLt o1
    obtain ⟨x2, e2⟩ := R.ownLt o2
    refine ⟨?_, ?_, ?_, ?_⟩ <;> intro q
    · rw [q, p1] at e1; cases e1
    · rw [q, p2] at e1; cases e1
    · rw [q, p1] at e2; cases e2
    · rw [q, p2] at e2; cases e2
  refine ⟨x, by simp [R.len], fun i o' q hi hq => ?_, fun i j q r n hq hr => ?_⟩
  · rcases Nat.lt_or_ge i μ.length with l | l
    · rw [List.getElem?_append_left (R.len ▸ l)] at hi
      rw [List.getElem?_append_left l] at hq
      exact (R.objs i o' q hi hq).move x (fun _ q => nomatch q) (fun y e => k _ _ e) (fun y e => k _ _ e)
    · rw [List.getElem?_append_right (R.len ▸ l)] at hi
      rw [List.getElem?_append_right l] at hq
      rw [← R.len] at hi
      cases hd : i - μ.length with
      | zero => rw [hd] at hi hq; simp at hi hq; subst hi hq; exact ho x
      | succ d => rw [hd] at hi; simp at hi
  · rcases Nat.lt_or_ge i μ.length with l | l <;> rcases Nat.lt_or_ge j μ.length with m | m
    · rw [List.getElem?_append_left l] at hq
      rw [List.getElem?_append_left m] at hr
      exact R.apart i j q r n hq hr
    · rw [List.getElem?_append_left l] at hq
      rw [List.getElem?_append_right m] at hr
      cases hd : j - μ.length with
      | zero => rw [hd] at hr; simp at hr; subst hr; exact old i q hq
      | succ d => rw [hd] at hr; simp at hr
    · rw [List.getElem?_append_right l] at hq
      rw [List.getElem?_append_left m] at hr
      cases hd : i - μ.length with
      | zero => rw [hd] at hq; simp at hq; subst hq; obtain ⟨a, b, c, d⟩ := old j r hr; exact ⟨Ne.symm a, Ne.symm c, Ne.symm b, Ne.symm d⟩
      | succ d => rw [hd] at hq; simp at hq
    · rw [List.getElem?_append_right l] at hq
      rw [List.getElem?_append_right m] at hr
      cases hd : i - μ.length with
      | zero => cases hd' : j - μ.length with
        | zero => lia
        | succ d => rw [hd'] at hr; simp at hr
      | succ d => rw [hd] at hq; simp at hq

end Mine
end
section
open PySem PySem.W PySem.Calls PyProof.Rows Builtin Builtin.ObjectAttr
set_option autoImplicit false
namespace Mine

section
variable {prog : Program} {w : World} {A : Around} {E : Value → Shared → Prop} {s : Shared} {μ : Mu} {h : Heap}

theorem fmod_pos {a b : Int} (h : 0 < b) : a.fmod b = a % b := Int.fmod_eq_emod_of_nonneg a (Int.le_of_lt h)
theorem fdiv_pos {a b : Int} (h : 0 < b) : a.fdiv b = a / b := Int.fdiv_eq_ediv_of_nonneg a (Int.le_of_lt h)

theorem mul_ok {a b : Int} (h1 : a.natAbs < 2 ^ 32) : IntMulOk a b := PySem.IntMulOk.of_left (PySem.intBits_le_64 (by lia) (by lia))

theorem if_got {α : Type} {p : Prop} [Decidable p] {x r : α} {Q : Prop} (h : (if p then some x else none) = some r) (k : p → x = r → Q) : Q := by
  by_cases q : p
  · rw [if_pos q] at h; exact k q (Option.some.inj h)
  · rw [if_neg q] at h; cases h
theorem binInt_sound {op : Operator} {x y z : Int} {t u : Tok} {Q : Value → Shared → Prop} (e : binInt op x y = some z) (hq : Q (.int z s.toks) { s with toks := s.toks + 1 }) :
    wpAny (model prog w) A (binaryOp op (.int x t) (.int y u)) Q E s := by
  cases op with
  | Add => cases e; exact PyProof.Rows.add_int hq
  | Sub => cases e; exact PyProof.Rows.sub_int hq
  | Mult => exact if_got e fun c e => by subst e; exact mul_int hq (mul_ok c.1)
  | Mod => exact if_got e fun c e => by subst e; exact mod_int' (by lia) (by rw [fmod_pos c]; exact hq)
  | FloorDiv => exact if_got e fun c e => by subst e; exact floordiv_int (by lia) (by rw [fdiv_pos c.1]; exact hq) (.inl (PyProof.noPylong_small (by lia)))
  | LShift => exact if_got e fun c e => by subst e; exact lshift_int_small c.1 (by lia) c.2.2 hq
  | RShift => exact if_got e fun c e => by subst e; exact rshift_int c.1 (by rw [fdiv_pos (Int.pow_pos (by decide))]; exact hq)
  | BitAnd => cases e; exact and_int hq
  | BitOr => cases e; exact or_int hq
  | BitXor => cases e; exact xor_int hq
  | _ => cases e

theorem ibinInt_sound {op : Operator} {x y z : Int} {t u : Tok} {Q : Value → Shared → Prop} (e : binInt op x y = some z) (hq : Q (.int z s.toks) { s with toks := s.toks + 1 }) :
    wpAny (model prog w) A (inplaceOp op (.int x t) (.int y u)) Q E s := by
  cases op with
  | Add => cases e; exact PyProof.Rows.iadd_int hq
  | Sub => cases e; exact isub_int hq
  | Mult => exact if_got e fun c e => by subst e; exact imul_int hq (mul_ok c.1)
  | Mod => exact if_got e fun c e => by subst e; exact imod_int (by lia) (by rw [fmod_pos c]; exact hq)
  | FloorDiv => exact if_got e fun c e => by subst e; exact ifloordiv_int (by lia) (by rw [fdiv_pos c.1]; exact hq) (.inl (PyProof.noPylong_small (by lia)))
  | LShift => exact if_got e fun c e => by subst e; exact ilshift_int_small c.1 (by lia) c.2.2 hq
  | RShift => exact if_got e fun c e => by subst e; exact irshift_int c.1 (by rw [fdiv_pos (Int.pow_pos (by decide))]; exact hq)
  | BitAnd => cases e; exact iand_int hq
  | BitOr => cases e; exact ior_int hq
  | BitXor => cases e; exact ixor_int hq
  | _ => cases e

theorem binV_int {op : Operator} {x y z : V} (e : binV op x y = some z) : ∃ i j k, x = .int i ∧ y = .int j ∧ z = .int k ∧ binInt op i j = some k := by
  cases x <;> first | (cases e; done) | skip
  cases y <;> first | (cases e; done) | skip
  obtain ⟨k, hk, rfl⟩ := Option.map_eq_some_iff.mp e
  exact ⟨_, _, k, rfl, rfl, rfl, hk⟩

theorem binV_sound {op : Operator} {x y z : V} {a b : Value} {Q : Value → Shared → Prop} (e : binV op x y = some z) (r1 : VRel μ h x a) (r2 : VRel μ h y b)
    (hq : ∀ i, z = .int i → Q (.int i s.toks) { s with toks := s.toks + 1 }) : wpAny (model prog w) A (binaryOp op a b) Q E s := by
  obtain ⟨i, j, k, rfl, rfl, rfl, e'⟩ := binV_int e
  cases r1; cases r2
  exact binInt_sound e' (hq k rfl)
theorem ibinV_sound {op : Operator} {x y z : V} {a b : Value} {Q : Value → Shared → Prop} (e : binV op x y = some z) (r1 : VRel μ h x a) (r2 : VRel μ h y b)
    (hq : ∀ i, z = .int i → Q (.int i s.toks) { s with toks := s.toks + 1 }) : wpAny (model prog w) A (inplaceOp op a b) Q E s := by
  obtain ⟨i, j, k, rfl, rfl, rfl, e'⟩ := binV_int e
  cases r1; cases r2
  exact ibinInt_sound e' (hq k rfl)

theorem cmpInt_sound {op : CmpOp} {x y : Int} {z : Bool} {t u : Tok} {Q : Value → Shared → Prop} (e : cmpInt op x y = some z) (hq : Q (.bool z) s) :
    wpAny (model prog w) A (compareOp op (.int x t) (.int y u)) Q E s := by
  cases op with
  | Eq => cases e; exact PyProof.Rows.eq_int hq
  | NotEq => cases e; exact PyProof.Rows.ne_int hq
  | Lt => cases e; exact PyProof.Rows.lt_int hq
  | LtE => cases e; exact PyProof.Rows.le_int hq
  | Gt => cases e; exact PyProof.Rows.gt_int hq
  | GtE => cases e; exact PyProof.Rows.ge_int hq
  | _ => cases e

theorem ints_rels : ∀ {vs : List V} {ns : List Int} {as : List Value}, ints? vs = some ns → VRels μ h vs as → IntsAre as ns
  | [], ns, as, e, r => by
    cases r; simp [ints?] at e; subst e; exact .nil
  | .int i :: r, ns, as, e, q => by
    simp only [ints?, Option.map_eq_some_iff] at e
    obtain ⟨ms, e, rfl⟩ := e
    cases q with
    | cons a q =>
      cases a
      exact .cons _ _ (ints_rels e q)

theorem any_int : ∀ {as : List Value} {ns : List Int} (i : Int) (t : Tok), IntsAre as ns → ∃ e : Value → Bool, (∀ y ∈ as, MeetsSeq.EqGives y (.int i t) (e y)) ∧ as.any e = ns.contains i := by
  intro as ns i t r
  refine ⟨fun y => match y with | .int j _ => j == i | _ => false, ?_, ?_⟩
  · induction r with
    | nil => intro y hy; cases hy
    | cons n u _ ih =>
      intro y hy
      rcases List.mem_cons.mp hy with rfl | hy
      · exact MeetsSeq.EqGives.int n i u t
      · exact ih y hy
  · induction r with
    | nil => rfl
    | cons n u _ ih =>
      rw [List.any_cons, ih, List.contains_cons]
      congr 1
      show (n == i) = (i == n)
      rw [Bool.eq_iff_iff, beq_iff_eq, beq_iff_eq]; exact eq_comm

theorem isNone_rel {v : V} {a : Value} (r : VRel μ h v a) : (a == Value.none) = v.isNone := by
  cases r <;> rfl

theorem cmpV_int {op : CmpOp} {x y : V} {z : Bool} {a b : Value} {Q : Value → Shared → Prop} (e : (match x with | .int x => (match y with | .int y => cmpInt op x y | _ => none) | _ => none) = some z) (r1 : VRel μ s.heap x a) (r2 : VRel μ s.heap y b)
    (hq : Q (.bool z) s) : wpAny (model prog w) A (compareOp op a b) Q E s := by
  cases r1 <;> first | (cases e; done) | skip
  cases r2 <;> first | (cases e; done) | skip
  exact cmpInt_sound e hq
theorem cmpV_sound {op : CmpOp} {x y : V} {z : Bool} {a b : Value} {Q : Value → Shared → Prop} (e : cmpV op x y = some z) (r1 : VRel μ s.heap x a) (r2 : VRel μ s.heap y b)
    (hq : Q (.bool z) s) : wpAny (model prog w) A (compareOp op a b) Q E s := by
  cases op with
  | Is => cases r2 <;> first | (cases e; done) | (cases e; exact is_none (by rw [isNone_rel r1]; exact hq))
  | IsNot => cases r2 <;> first | (cases e; done) | (cases e; exact isNot_none (by rw [isNone_rel r1]; exact hq))
  | In =>
    cases r1 <;> first | (cases e; done) | skip
    cases r2 <;> first | (cases e; done) | skip
    rename_i i _ _ _ _ _ g n r
    obtain ⟨ns, hn, rfl⟩ := Option.map_eq_some_iff.mp e
    obtain ⟨f, hf, ha⟩ := any_int i _ (ints_rels hn r)
    exact SeqRoads2.in_list f (fun y hy => hf y (by simpa using hy)) g (by rw [List.any_toArray, ha]; exact hq)
  | NotIn =>
    cases r1 <;> first | (cases e; done) | skip
    cases r2 <;> first | (cases e; done) | skip
    rename_i i _ _ _ _ _ g n r
    obtain ⟨ns, hn, rfl⟩ := Option.map_eq_some_iff.mp e
    obtain ⟨f, hf, ha⟩ := any_int i _ (ints_rels hn r)
    exact SeqRoads2.notIn_list f (fun y hy => hf y (by simpa using hy)) g (by rw [List.any_toArray, ha]; exact hq)
  | _ => exact cmpV_int e r1 r2 hq

theorem truthV_sound {x : V} {z : Bool} {a : Value} {Q : Bool → Shared → Prop} (e : truthV x = some z) (r : VRel μ h x a) (hq : Q z s) : wpAny (model prog w) A (truthy a) Q E s := by
  cases r <;> cases e
  · exact truthy_none hq
  · exact wpAny_truthy_bool hq
  · exact PyProof.Rows.truthy_int hq
end

section
variable {nms : List Str} {μ : Mu} {h : Heap}
def Inj (nms : List Str) : Prop := ∀ (a b : Nat) (x : Str), nms[a]? = some x → nms[b]? = some x → a = b

theorem getL_ne {x y : Str} {hsh : Int} {t : Tok} {val : Value} {es : List DictEntry} (q : (y == x) = false) : getL x (⟨hsh, .str y t, val⟩ :: es) = getL x es := by
  unfold getL
  rw [List.find?_cons, List.any_cons]
  have e1 : Value.isStr (Value.str y t) x = false := q
  have e2 : (DictEntry.mk hsh (Value.str y t) val).refKey = false := rfl
  dsimp only
  rw [e1, e2, Bool.false_or]
theorem getL_eq {x : Str} {hsh : Int} {t : Tok} {val : Value} {es : List DictEntry} : getL x (⟨hsh, .str x t, val⟩ :: es) = some (some val) := by
  unfold getL
  rw [List.find?_cons]
  have e1 : Value.isStr (Value.str x t) x = true := beq_self_eq_true x
  dsimp only
  rw [e1]

theorem fget_at {b a : Nat} {u : V} {fs : List (Nat × V)} (q : b = a) : fget ((b, u) :: fs) a = some u := if_pos q
theorem fget_ne {b a : Nat} {u : V} {fs : List (Nat × V)} (q : ¬ b = a) : fget ((b, u) :: fs) a = fget fs a := if_neg q
theorem fld_some (hi : Inj nms) {a : Nat} {x : Str} (hx : nms[a]? = some x) {fs : List (Nat × V)} {es : List DictEntry} (r : FldRel nms μ h fs es) :
    ∀ {v : V}, fget fs a = some v → ∃ val, getL x es = some (some val) ∧ VRel μ h v val := by
  induction r with
  | nil => intro v e; cases e
  | cons hb vr rr ih =>
    rename_i b y u hsh t val fs es
    intro v e
    by_cases q : b = a
    · rw [fget_at q] at e; cases e; subst q
      rw [hx] at hb; cases hb
      exact ⟨val, getL_eq, vr⟩
    · rw [fget_ne q] at e
      obtain ⟨val', h1, h2⟩ := ih e
      refine ⟨val', ?_, h2⟩
      have hne : (y == x) = false := by
        rw [beq_eq_false_iff_ne]; rintro rfl; exact q (hi _ _ _ hb hx)
      rw [getL_ne hne]; exact h1
theorem fld_none (hi : Inj nms) {a : Nat} {x : Str} (hx : nms[a]? = some x) {fs : List (Nat × V)} {es : List DictEntry} (r : FldRel nms μ h fs es) :
    fget fs a = none → getL x es = some none := by
  intro e
  induction r with
  | nil => rfl
  | cons hb vr rr ih =>
    rename_i b y u hsh t val fs es
    by_cases q : b = a
    · rw [fget_at q] at e; cases e
    · rw [fget_ne q] at e
      have hne : (y == x) = false := by
        rw [beq_eq_false_iff_ne]; rintro rfl; exact q (hi _ _ _ hb hx)
      rw [getL_ne hne]; exact ih e
theorem fld_isSome (hi : Inj nms) {a : Nat} {x : Str} (hx : nms[a]? = some x) {fs : List (Nat × V)} {es : List DictEntry} (r : FldRel nms μ h fs es) : (getL x es).isSome = true := by
  cases e : fget fs a with
  | none => rw [fld_none hi hx r e]; rfl
  | some v => obtain ⟨val, h1, _⟩ := fld_some hi hx r e; rw [h1]; rfl
theorem fld_put (hi : Inj nms) {a : Nat} {x : Str} (hx : nms[a]? = some x) {v : V} {val : Value} (vr : VRel μ h v val) (hsh : Int) (t : Tok) {fs : List (Nat × V)} {es : List DictEntry} (r : FldRel nms μ h fs es) :
    FldRel nms μ h (fset fs a v) (putL x hsh (.str x t) val es) := by
  induction r with
  | nil => exact .cons hx vr .nil
  | cons hb ur rr ih =>
    rename_i b y u hsh' t' val' fs es
    unfold putL
    by_cases q : b = a
    · rw [show fset ((b, u) :: fs) a v = (b, v) :: fs from if_pos q]
      subst q
      rw [hx] at hb; cases hb
      simp only [if_true, Value.isStr, beq_self_eq_true]
      exact .cons hx vr rr
    · have hne : (y == x) = false := by
        rw [beq_eq_false_iff_ne]; rintro rfl; exact q (hi _ _ _ hb hx)
      rw [show fset ((b, u) :: fs) a v = (b, u) :: fset fs a v from if_neg q]
      simp only [Value.isStr, hne]
      exact .cons hb ur ih
theorem fld_len {fs : List (Nat × V)} {es : List DictEntry} (r : FldRel nms μ h fs es) : es.length = fs.length := by
  induction r with
  | nil => rfl
  | cons _ _ _ ih => simp [ih]
theorem fset_len (fs : List (Nat × V)) (a : Nat) (v : V) : (fset fs a v).length ≤ fs.length + 1 := by
  induction fs with
  | nil => exact Nat.le_refl _
  | cons p r ih =>
    by_cases q : p.1 = a
    · rw [show fset (p :: r) a v = (p.1, v) :: r from if_pos q]; exact Nat.le_succ _
    · rw [show fset (p :: r) a v = p :: fset r a v from if_neg q]; exact Nat.succ_le_succ ih
end

section
variable {prog : Program} {w : World} {A : Around} {E : Value → Shared → Prop} {s : Shared} {K : Frag} {x C dx : Addr} {es : List DictEntry} {n : Nat}

theorem setattr_own {name : Str} {v : Value} {Q : Unit → Shared → Prop} (X : K.In s.heap) (h1 : s.heap.get? x = some (instObj C dx)) (h2 : s.heap.get? dx = some (dictOf es n))
    (hs : findIn K (.ref C) "__setattr__" = some (some (.builtin "object.__setattr__"))) (hp : plainOver K C = true) (ht : takerIn K C name = some none) (hh : hasDictIn K C = true)
    (hl : (getL name es).isSome = true) (hz : (putL name (PyData.keyHash w.params name) (.str name (s.toks + 1)) v es).length ≤ 1000)
    (hq : ∀ h', (∀ b o, b ≠ dx → s.heap.get? b = some o → h'.get? b = some o) → h'.objs.size = s.heap.objs.size →
      h'.get? dx = some (dictOf (putL name (PyData.keyHash w.params name) (.str name (s.toks + 1)) v es) (putN name es n)) → Q () { s with heap := h', toks := s.toks + 2 }) :
    wpAny (model prog w) A (setAttr (.ref x) name v) Q E s := by
  have I : InstAt s.heap x (instObj C dx) C (some (dictOf es n)) := ⟨h1, rfl, rfl, h2⟩
  refine set_plain X I hs (osa_open (s := { s with toks := s.toks + 1 }) X I hp ht fun b => ?_)
  obtain ⟨cd, hc, hd'⟩ := any_some hh
  have pn := putName_dict name (PyData.keyHash w.params name) (.str name (s.toks + 1)) v es n
  have g2 : (s.heap.update dx (Obj.putName name (PyData.keyHash w.params name) (.str name (s.toks + 1)) v)).get? dx = some (dictOf (putL name (PyData.keyHash w.params name) (.str name (s.toks + 1)) v es) (putN name es n)) := by
    rw [← pn]; exact Heap.get?_update_self _ h2 (by rw [pn]; rfl)
  show wpAny _ _ (storeInOwnDict _ _ _ _ _ _) _ _ _
  refine wpAny_bind (wpAny_pure (wpAny_bind (wpAny_bind (wpAny_loadPart h1 (wpAny_bind ((show Looks (model prog w) ({ s with toks := s.toks + 1 } : Shared).heap _ _ from looks_clsIn X hc).here ?_))))))
  rw [hd']
  refine wpAny_pure (a := some dx) (wpAny_bind (wpAny_pure (wpAny_bind ?_)))
  unfold nsSet
  refine wpAny_bind (wpAny_bind (wpAny_askSetting (wpAny_pure (wpAny_bind (wpAny_mkText (wpAny_bind (wpAny_loadPart h2 ?_)))))))
  dsimp only
  have c : (!es.toArray.any (·.key.isStr name) && es.toArray.any (·.refKey)) = false := by
    rw [← Array.any_toList, ← Array.any_toList]
    unfold getL at hl
    split at hl
    · rename_i en he
      rw [List.any_eq_true.mpr ⟨en, List.mem_of_find?_eq_some he, List.find?_some he⟩]; rfl
    · split at hl
      · cases hl
      · rename_i z
        rw [Bool.not_eq_true] at z
        show (_ && es.any _) = false
        rw [z, Bool.and_false]
  rw [aRefKeyMayBeTheName_at, c]
  refine wpAny_updatePart h2 ?_
  refine wpAny_bind (wpAny_lookBehind g2 (pastItsLine_dict (by rw [List.size_toArray, sizeLine_eq]; lia)) ?_)
  exact wpAny_pure (hq _ (fun b o hb e => (Heap.get?_update_other _ _ (Ne.symm hb)).trans e) (Heap.size_after_update ..) g2)
end
end Mine
end
section
open PySem PySem.W PySem.Calls PyProof.Rows Builtin Builtin.ObjectAttr
set_option autoImplicit false
namespace Mine

structure CxOk (K : Frag) (C : Cx) : Prop where
  inj : Inj C.names
  hd : hasDictIn K C.cls = true
  ga : findIn K (.ref C.cls) "__getattribute__" = some (some (.builtin "object.__getattribute__"))
  gat : findIn K (.ref C.cls) "__getattr__" = some none
  sa : findIn K (.ref C.cls) "__setattr__" = some (some (.builtin "object.__setattr__"))
  po : plainOver K C.cls = true
  ia : ∀ (a : Nat) (x : Str), C.names[a]? = some x → C.cattr a = none → findIn K (.ref C.cls) x = some none
  va : ∀ (a : Nat) (x : Str) (v : V), C.names[a]? = some x → C.cattr a = some (.val v) → ∃ val, findIn K (.ref C.cls) x = some (some val) ∧ specialIn K val "__get__" = some none ∧ handedIn val = true ∧ copiedNames.contains x = false ∧ ∀ μ h, VRel μ h v val
  fa : ∀ (a : Nat) (x : Str) (f : Addr), C.names[a]? = some x → C.cattr a = some (.fn f) → findIn K (.ref C.cls) x = some (some (.ref f)) ∧ isFn K (.ref f) = true ∧ specialIn K (.ref f) "__get__" = some (some (.builtin "function.__get__")) ∧ takesIn K (.ref f) = some false ∧ copiedNames.contains x = false
  ls : ∀ (a : Addr) (vs : List V), C.lists a = some vs → ∃ items n, K.lookup a = some { cls := .type "list", data := .seq items.toArray n } ∧ ∀ μ h, VRels μ h vs items
  gl : ∀ (x : Str) (a : Addr), C.glob x = some a → nsIn K mainGlobals x = some (some (.ref a))
  rg : nsIn K mainGlobals ("range" : Str) = some none
  ln : nsIn K mainGlobals ("len" : Str) = some none
  sm : nsIn K mainGlobals ("sum" : Str) = some none
  en : nsIn K mainGlobals ("enumerate" : Str) = some none

structure Base (K : Frag) (hb : Heap) (mg mb : Str → Option Value) : Prop where
  X : K.In hb
  g : hb.Ns mainGlobals mg
  b : hb.Ns builtinsNs mb
  nolimit : hb.NoLimit
  builtins : ∀ x : Str, x ≠ "__name__" → mb x = bootBuiltins x

structure Rep (C : Cx) (hb : Heap) (μ : Mu) (H : Hp) (h : Heap) : Prop where
  rel : HRel C.names C.cls μ H h
  base : ∀ b o, hb.get? b = some o → h.get? b = some o
  new : ∀ b, InOwn μ b → hb.get? b = none

structure Out (C : Cx) (hb : Heap) (μ : Mu) (s : Shared) (μ' : Mu) (H' : Hp) (s' : Shared) : Prop where
  rep : Rep C hb μ' H' s'.heap
  step : Step [] μ s.heap μ' s'.heap
  gens : s'.gens = s.gens
  os : (s'.os, s'.drawn) = (s.os, s.drawn)

abbrev EOut (C : Cx) (hb : Heap) (μ : Mu) (s : Shared) (H' : Hp) (V : V) (v : Value) (s' : Shared) : Prop := ∃ μ', Out C hb μ s μ' H' s' ∧ VRel μ' s'.heap V v
abbrev LOut (C : Cx) (hb : Heap) (μ : Mu) (s : Shared) (H' : Hp) (Vs : List V) (vs : List Value) (s' : Shared) : Prop := ∃ μ', Out C hb μ s μ' H' s' ∧ VRels μ' s'.heap Vs vs
abbrev UOut (C : Cx) (hb : Heap) (μ : Mu) (s : Shared) (H' : Hp) (s' : Shared) : Prop := ∃ μ', Out C hb μ s μ' H' s'
abbrev BOut (C : Cx) (hb : Heap) (μ : Mu) (s : Shared) (H' : Hp) (b : Bool) (b' : Bool) (s' : Shared) : Prop := b' = b ∧ ∃ μ', Out C hb μ s μ' H' s'

section
variable {C : Cx} {hb : Heap} {μ μ' μ'' : Mu} {H H' H'' : Hp} {h h' : Heap} {s s' s'' : Shared}

theorem Rep.keep (R : Rep C hb μ H h) (k : ∀ b o, h.get? b = some o → h'.get? b = some o) : Step [] μ h μ h' ∧ Rep C hb μ H h' := by
  obtain ⟨x, y⟩ := R.rel.keep (fa := []) (fun _ q => nomatch q) (fun b o _ e => k b o e)
  exact ⟨x, y, fun b o e => k _ _ (R.base b o e), R.new⟩
theorem Rep.push (R : Rep C hb μ H h) (o : Obj) : Step [] μ h μ (h.push o) ∧ Rep C hb μ H (h.push o) :=
  R.keep fun _ _ e => Heap.get?_push_of_some _ e
theorem Rep.in {K : Frag} (R : Rep C hb μ H h) (X : K.In hb) : K.In h := X.keeps R.base

theorem Out.tok (R : Rep C hb μ H s.heap) (t : Nat) : Out C hb μ s μ H { s with toks := t } := ⟨R, .refl _ _ _, rfl, rfl⟩
theorem Out.refl (R : Rep C hb μ H s.heap) : Out C hb μ s μ H s := ⟨R, .refl _ _ _, rfl, rfl⟩
theorem Out.push (R : Rep C hb μ H s.heap) (o : Obj) (t : Nat) : Out C hb μ s μ H { s with heap := s.heap.push o, toks := t } :=
  ⟨(R.push o).2, (R.push o).1, rfl, rfl⟩
theorem Out.trans (x : Out C hb μ s μ' H' s') (y : Out C hb μ' s' μ'' H'' s'') : Out C hb μ s μ'' H'' s'' :=
  ⟨y.rep, x.step.trans y.step, y.gens.trans x.gens, y.os.trans x.os⟩
theorem notOwn_new (R : Rep C hb μ H h) {b : Addr} (l : h.objs.size ≤ b) : ¬ InOwn μ b := fun q => by
  obtain ⟨x, e⟩ := R.rel.ownLt q
  exact absurd (Heap.lt_size e) (Nat.not_lt.mpr l)
end

theorem handed_rel {μ : Mu} {h : Heap} {v : V} {a : Value} (r : VRel μ h v a) : handedIn a = true := by cases r <;> rfl

section
variable {prog : Program} {w : World} {A : Around} {E : Value → Shared → Prop} {s : Shared} {K : Frag} {C : Cx} {hb : Heap} {mg mb : Str → Option Value} {μ : Mu} {H H' : Hp}

theorem inst_of (R : Rep C hb μ H s.heap) {l : Nat} {fs : List (Nat × V)} {val : Value} (e : H[l]? = some (.inst fs)) (r : VRel μ s.heap (.ref l) val) :
    ∃ p es n, μ[l]? = some p ∧ val = .ref p.1 ∧ s.heap.get? p.1 = some (instObj C.cls p.2) ∧ s.heap.get? p.2 = some (dictOf es n) ∧ FldRel C.names μ s.heap fs es := by
  cases r with
  | ref hp =>
    rename_i p
    obtain ⟨a, es, n, b, c⟩ := R.rel.objs l _ p e hp
    exact ⟨p, es, n, hp, rfl, a, b, c⟩

theorem findObj_fn {od : Obj} {x : Str} {f : Addr} (hh : hasDictIn K C.cls = true) (ha : findIn K (.ref C.cls) x = some (some (.ref f))) (hg : specialIn K (.ref f) "__get__" = some (some (.builtin "function.__get__"))) (ht : takesIn K (.ref f) = some false)
    (hc : copiedNames.contains x = false) (hl : lookIn x od = some none) : findObj K C.cls (some od) x = some (.bind (.builtin "function.__get__") (.ref f)) := by
  obtain ⟨cd, hc', hd⟩ := any_some hh
  unfold findObj
  have ho : W.ownOf cd (some od) x = some none := by unfold W.ownOf; rw [if_pos hd]; exact hl
  rw [hc', Option.bind_some, ha, Option.bind_some]
  simp only [hg, Option.bind_some, ht, ho, hc, Bool.false_and, Bool.false_eq_true, if_false]

section
variable {α : Type} {l : Nat} {r : α} {Q : Prop}
theorem instC {F : List (Nat × V) → Option α} (e : (match H[l]? with | some (.inst fs) => F fs | _ => none) = some r) (k : ∀ fs, H[l]? = some (.inst fs) → F fs = some r → Q) : Q := by
  cases q : H[l]? with
  | none => rw [q] at e; cases e
  | some o =>
    rw [q] at e
    cases o with
    | inst fs => exact k fs q e
    | _ => cases e
theorem listC {F : List V → Option α} (e : (match H[l]? with | some (.list fs) => F fs | _ => none) = some r) (k : ∀ fs, H[l]? = some (.list fs) → F fs = some r → Q) : Q := by
  cases q : H[l]? with
  | none => rw [q] at e; cases e
  | some o =>
    rw [q] at e
    cases o with
    | list fs => exact k fs q e
    | _ => cases e
theorem dictC {F : List (Int × V) → Option α} (e : (match H[l]? with | some (.dict fs) => F fs | _ => none) = some r) (k : ∀ fs, H[l]? = some (.dict fs) → F fs = some r → Q) : Q := by
  cases q : H[l]? with
  | none => rw [q] at e; cases e
  | some o =>
    rw [q] at e
    cases o with
    | dict fs => exact k fs q e
    | _ => cases e
end
theorem getAttr_sound (ok : CxOk K C) (X : K.In hb) (R : Rep C hb μ H s.heap) {o v : V} {a : Nat} {x : Str} {val : Value} (e : attrV C H o a = some v) (hx : C.names[a]? = some x) (r : VRel μ s.heap o val) {ex : Bool} :
    wpAny (model prog w) A (getAttr val x ex) (EOut C hb μ s H v) E s := by
  cases o <;> first | (cases e; done) | skip
  refine instC e fun fs hH e => ?_
  obtain ⟨p, es, n, hp, rfl, g1, g2, fr⟩ := inst_of R hH r
  have I : InstAt s.heap p.1 (instObj C.cls p.2) C.cls (some (dictOf es n)) := ⟨g1, rfl, rfl, g2⟩
  have XX := R.in X
  cases hc : C.cattr a with
  | none =>
    rw [hc] at e
    obtain ⟨u, h1, h2⟩ := fld_some ok.inj hx fr e
    exact get_value XX I ok.ga (findObj_own ok.hd (ok.ia a x hx hc) rfl (by rw [lookIn_dict]; exact h1)) (handed_rel h2) ⟨μ, Out.tok R _, h2⟩
  | some ca =>
    rw [hc] at e
    cases hn : fget fs a with
    | some z => rw [hn] at e; cases e
    | none =>
      rw [hn] at e
      have hl := fld_none ok.inj hx fr hn
      cases ca with
      | val z =>
        cases e
        obtain ⟨u, c1, c2, c3, c4, c5⟩ := ok.va a x _ hx hc
        exact get_value XX I ok.ga (findObj_cls ok.hd c1 c2 c3 c4 (by rw [lookIn_dict]; exact hl)) c3 ⟨μ, Out.tok R _, c5 _ _⟩
      | fn f =>
        cases e
        obtain ⟨c1, c2, c3, c4, c5⟩ := ok.fa a x f hx hc
        refine get_bind XX I ok.ga (findObj_fn ok.hd c1 c3 c4 c5 (by rw [lookIn_dict]; exact hl)) ok.gat ?_
        exact wpAny_call (fn_get (K := K) (s := { s with toks := s.toks + 1 }) XX (beq_iff_eq.mp c2) (handed_on rfl ⟨μ, Out.push R _ _, .meth hp (Heap.get?_push_size _ rfl) (notOwn_new R (Nat.le_refl _))⟩))

theorem getMethod_sound (ok : CxOk K C) (X : K.In hb) (R : Rep C hb μ H s.heap) {o : V} {a : Nat} {x : Str} {val : Value} {f : Addr} {pl : Sem Bool} {Q : Value × List Value → Shared → Prop} (e : methV C H o a = some f) (hx : C.names[a]? = some x) (r : VRel μ s.heap o val)
    (h : Q (.ref f, [val]) s) : wpAny (model prog w) A (getMethod val x pl) Q E s := by
  cases o <;> first | (cases e; done) | skip
  refine instC e fun fs hH e => ?_
  obtain ⟨p, es, n, hp, rfl, g1, g2, fr⟩ := inst_of R hH r
  cases hc : C.cattr a with
  | none => rw [hc] at e; cases e
  | some ca =>
    rw [hc] at e
    cases ca with
    | val z => cases e
    | fn f' =>
      cases hn : fget fs a with
      | some z => rw [hn] at e; cases e
      | none =>
        rw [hn] at e
        cases e
        obtain ⟨c1, c2, c3, c4, c5⟩ := ok.fa a x _ hx hc
        have I : InstAt s.heap p.1 (instObj C.cls p.2) C.cls (some (dictOf es n)) := ⟨g1, rfl, rfl, g2⟩
        exact method_fn (R.in X) I ok.ga ok.gat c1 (beq_iff_eq.mp c2) (by show (lookIn x (dictOf es n)).map _ = _; rw [lookIn_dict, fld_none ok.inj hx fr hn]; rfl) h

theorem setAttr_sound (ok : CxOk K C) (X : K.In hb) (R : Rep C hb μ H s.heap) {o v : V} {a : Nat} {x : Str} {val u : Value} (e : storeAttr H o a v = some H') (hc : C.cattr a = none) (hx : C.names[a]? = some x) (r : VRel μ s.heap o val) (rv : VRel μ s.heap v u) :
    wpAny (model prog w) A (setAttr val x u) (fun _ => UOut C hb μ s H') E s := by
  cases o <;> first | (cases e; done) | skip
  rename_i l
  refine instC e fun fs hH e => if_got e fun hl e => ?_
  subst e
  obtain ⟨p, es, n, hp, rfl, g1, g2, fr⟩ := inst_of R hH r
  have f2 := fld_put ok.inj hx rv (PyData.keyHash w.params x) (s.toks + 1) fr
  refine setattr_own (R.in X) g1 g2 ok.sa ok.po (by unfold takerIn; rw [ok.ia a x hx hc]; rfl) ok.hd (fld_isSome ok.inj hx fr) ?_ fun h' k _ g' => ?_
  · rw [fld_len f2]
    have := fset_len fs a v
    lia
  · obtain ⟨o1, o2⟩ := inOwn_of hp
    have hlt : l < H.length := (List.getElem?_eq_some_iff.mp hH).1
    have hne : p.1 ≠ p.2 := fun q => by rw [q, g2] at g1; cases g1
    obtain ⟨st, rr⟩ := R.rel.set (o := .inst (fset fs a v)) hlt hp (fun b o' _ n2 e' => k b o' n2 e') (fun st => ⟨k _ _ hne g1, _, _, g', f2.step st (fun _ q => nomatch q)⟩)
    exact ⟨μ, ⟨rr, fun b o' e' => k _ _ (fun q => by rw [q, R.new _ o2] at e'; cases e') (R.base b o' e'), R.new⟩, st, rfl, rfl⟩

theorem itemsOf_sound (ok : CxOk K C) (X : K.In hb) (R : Rep C hb μ H s.heap) {o : V} {vs : List V} {val : Value} (e : itemsOf C H o = some vs) (r : VRel μ s.heap o val) :
    ∃ l items n, val = .ref l ∧ IsL s.heap l items.toArray n ∧ VRels μ s.heap vs items := by
  cases r <;> first | (cases e; done) | skip
  · obtain ⟨items, n, h1, h2⟩ := ok.ls _ _ e
    exact ⟨_, items, n, rfl, R.in X _ _ h1, h2 _ _⟩
  · rename_i l p hp
    exact listC e fun ws hH e => by
      cases e
      obtain ⟨items, n, h1, h2, _⟩ := R.rel.objs l _ _ hH hp
      exact ⟨_, items, n, rfl, h1, h2⟩
  · rename_i g n q
    cases e
    exact ⟨_, _, _, rfl, g, q⟩

theorem subV_sound (ok : CxOk K C) (X : K.In hb) (R : Rep C hb μ H s.heap) {o i v : V} {val ix : Value} {value slice : Expr} {Q : Value → Shared → Prop} (e : subV C H o i = some v) (r : VRel μ s.heap o val) (ri : VRel μ s.heap i ix)
    (hs : ∀ l k u, subscripted slice false (.ref l) (.int k u) = operate [.ref l, .int k u] (getItem (.ref l) (.int k u)))
    (h : ∀ u, VRel μ s.heap v u → Q u s) : wpAny (model prog w) A (subscriptTail value slice val ix) Q E s := by
  cases ri <;> first | (cases e; done) | skip
  rename_i k _
  have e : (if 0 ≤ k ∧ k < 2 ^ 32 then (itemsOf C H o).bind fun vs => vs[k.toNat]? else none) = some v := e
  by_cases hk : 0 ≤ k ∧ k < 2 ^ 32
  · rw [if_pos hk] at e
    obtain ⟨vs, h1, h2⟩ := Option.bind_eq_some_iff.mp e
    obtain ⟨l, items, n, rfl, g, rs⟩ := itemsOf_sound ok X R h1 r
    obtain ⟨u, hu, ru⟩ := rs.get h2
    exact tail_any (IsL.isList g).typeIs slot_list_getitem.lookup (wpAny_getItem_list (IsL.isList g) hk.1 (by lia) (by simpa using hu) (h u ru)) (hs _ _ _)
  · rw [if_neg hk] at e; cases e

theorem setItem_exact {l : Addr} {items : List Value} {n : Nat} {k : Int} {t : Tok} {v : Value} {Q : Unit → Shared → Prop} (hl : IsL s.heap l items.toArray n) (h0 : 0 ≤ k) (hfit : k < 2 ^ 63) (hk : k < items.length)
    (hQ : ∀ h' n', IsL h' l (items.set k.toNat v).toArray n' → Heap.SameBut l s.heap h' → Q () { s with heap := h' }) : wpAny (model prog w) A (setItem (.ref l) (.int k t) v) Q E s := by
  have hT := (IsL.isList hl).typeIs
  obtain ⟨ob, hob⟩ : ∃ ob : Obj, ob = { cls := .type "list", dict := none, data := .seq items.toArray n, slots := #[] } := ⟨_, rfl⟩
  have ho : s.heap.get? l = some ob := by rw [hob]; exact hl
  have hd : ob.data = .seq items.toArray n := by rw [hob]
  unfold setItem
  try with_reducible refine wpAny_holding ?_
  first | refine wpAny_bind (wpAny_pure ?_) | skip
  refine wpAny_bind (wpAny_sequenceKey hT (by decide) ?_)
  refine wpAny_bind (wpAny_callSpecial?_slot (name := Str.ofString "__setitem__") hT slot_list_setitem
    (wpAny_call_entry slot_list_setitem hT entry_list_setitem ?_ (args_list_setitem _ _ _)))
  show wpAny _ _ (Builtin.List.listSubscript? (.int k t) >>= _) _ _ s
  refine wpAny_bind (wpAny_listSubscript_int (fitsIndex_of h0 hfit) ?_)
  clear hfit
  obtain ⟨j, rfl⟩ := Int.eq_ofNat_of_zero_le h0
  have hj : j < items.length := by lia
  have hx' : items.toArray[j]? = some items[j] := by simp [hj]
  show wpAny _ _ ((seqItemAt l j >>= fun r => pure (r.map (j, ·))) >>= _) _ _ s
  refine wpAny_bind (wpAny_bind (wpAny_seqItemAt ho hd (wpAny_pure ?_)))
  rw [hx']
  show wpAny _ _ (setSeqItemAt l j v >>= _) _ _ s
  have hfin := hQ _ _ (by have := IsL.update hl (·.setIfInBounds j v); simpa using this) (Heap.SameBut.update ..)
  refine wpAny_bind (wpAny_setSeqItemAt ho hd ?_)
  first
    | exact wpAny_bind (wpAny_pure (wpAny_pure ⟨.none, rfl, wpAny_pure hfin⟩))
    | exact wpAny_pure ⟨.none, rfl, wpAny_pure hfin⟩

theorem setItem_sound (R : Rep C hb μ H s.heap) {o i v : V} {val ix u : Value} (e : storeItem H o i v = some H') (r : VRel μ s.heap o val) (ri : VRel μ s.heap i ix) (rv : VRel μ s.heap v u) :
    wpAny (model prog w) A (setItem val ix u) (fun _ => UOut C hb μ s H') E s := by
  cases r <;> first | (cases e; done) | skip
  cases ri <;> first | (cases e; done) | skip
  rename_i l p hp k t
  refine listC e fun vs hH e => if_got e fun hk e => ?_
  subst e
  obtain ⟨items, n, g, rs, hp2, hsz⟩ := R.rel.objs l _ _ hH hp
  have hlen := rs.length
  obtain ⟨o1, o2⟩ := inOwn_of hp
  have hlt : l < H.length := (List.getElem?_eq_some_iff.mp hH).1
  refine setItem_exact g hk.1 (by rw [sizeLine_eq] at hsz; lia) (by lia) fun h' n' g' sb => ?_
  obtain ⟨st, rr⟩ := R.rel.set (o := .list (vs.set k.toNat v)) hlt hp (fun b o' n1 _ e' => (sb.2 b n1).trans e') (fun st => ⟨_, n', g', (rs.set k.toNat rv).s st, hp2, by simpa using hsz⟩)
  exact ⟨μ, ⟨rr, fun b o' e' => (sb.2 b fun q => by rw [q, R.new _ o1] at e'; cases e').trans (R.base b o' e'), R.new⟩, st, rfl, rfl⟩
end
end Mine
end
section
open PySem PySem.W PySem.Calls PyProof.Rows Builtin Builtin.ObjectAttr
set_option autoImplicit false
namespace Mine

noncomputable def plainName (x : Str) : Bool := !(x == ("__debug__" : Str)) && !(x == ("__classdict__" : Str))

theorem ps_of {p : Prop} {o : Option (PLift p)} (h : o.isSome = true) : p := by
  cases o with
  | none => cases h
  | some a => exact a.down
def CstRel (v : V) (c : Const) : Prop := (v = .none ∧ c = .none) ∨ (∃ b, v = .bool b ∧ c = .bool b) ∨ (∃ i, v = .int i ∧ c = .int i) ∨ ∃ x, v = .str x ∧ c = .str x
noncomputable def cstP : (v : V) → (c : Const) → Option (PLift (CstRel v c))
  | .none, c => (match c with | .none => some ⟨.inl ⟨rfl, rfl⟩⟩ | _ => none)
  | .bool b, c => (match c with | .bool d => (if h : b = d then some ⟨.inr (.inl ⟨b, rfl, by rw [h]⟩)⟩ else none) | _ => none)
  | .int b, c => (match c with | .int d => (if h : b = d then some ⟨.inr (.inr (.inl ⟨b, rfl, by rw [h]⟩))⟩ else none) | _ => none)
  | .str b, c => (match c with | .str d => (if h : b = d then some ⟨.inr (.inr (.inr ⟨b, rfl, by rw [h]⟩))⟩ else none) | _ => none)
  | _, _ => none
noncomputable def cstOk (v : V) (c : Const) : Bool := (cstP v c).isSome

noncomputable def isAttr : Expr → Bool
  | .Attribute .. => true
  | _ => false
noncomputable def isSlice : Expr → Bool
  | .Slice .. => true
  | _ => false
noncomputable def isOdd : Expr → Bool
  | .Starred .. => true
  | .ListComp .. => true
  | .SetComp .. => true
  | .DictComp .. => true
  | .Set .. => true
  | _ => false

noncomputable def exConst' : (x : Expr) → Option {q : Const // ∃ k p, x = .Constant q k p}
  | .Constant c k p => some ⟨c, k, p, rfl⟩
  | _ => none
noncomputable def exConst (x : Expr) : Option Const := (exConst' x).map Subtype.val
noncomputable def exName' : (x : Expr) → Option {q : Str // ∃ p, x = .Name q p}
  | .Name y p => some ⟨y, p, rfl⟩
  | _ => none
noncomputable def exName (x : Expr) : Option Str := (exName' x).map Subtype.val
noncomputable def exBin' : (x : Expr) → Option {q : Expr × Operator × Expr // ∃ p, x = .BinOp q.1 q.2.1 q.2.2 p}
  | .BinOp l op r p => some ⟨(l, op, r), p, rfl⟩
  | _ => none
noncomputable def exBin (x : Expr) : Option (Expr × Operator × Expr) := (exBin' x).map Subtype.val
noncomputable def exInv' : (x : Expr) → Option {q : Expr // ∃ p, x = .UnaryOp .Invert q p}
  | .UnaryOp op e p => (match op with | .Invert => some ⟨e, p, rfl⟩ | _ => none)
  | _ => none
noncomputable def exInv (x : Expr) : Option Expr := (exInv' x).map Subtype.val
noncomputable def exCmp' : (x : Expr) → Option {q : Expr × CmpOp × Expr // ∃ p, x = .Compare q.1 [q.2.1] [q.2.2] p}
  | .Compare l ops rs p => (match ops, rs with | [op], [r] => some ⟨(l, op, r), p, rfl⟩ | _, _ => none)
  | _ => none
noncomputable def exCmp (x : Expr) : Option (Expr × CmpOp × Expr) := (exCmp' x).map Subtype.val
noncomputable def exBool' : (x : Expr) → Option {q : BoolOp × List Expr × Pos // x = .BoolOp q.1 q.2.1 q.2.2}
  | .BoolOp op xs p => some ⟨(op, xs, p), rfl⟩
  | _ => none
noncomputable def exBool (x : Expr) : Option (BoolOp × List Expr × Pos) := (exBool' x).map Subtype.val
noncomputable def exIf' : (x : Expr) → Option {q : Expr × Expr × Expr // ∃ p, x = .IfExp q.1 q.2.1 q.2.2 p}
  | .IfExp t a b p => some ⟨(t, a, b), p, rfl⟩
  | _ => none
noncomputable def exIf (x : Expr) : Option (Expr × Expr × Expr) := (exIf' x).map Subtype.val
noncomputable def exAttr' : (x : Expr) → Option {q : Expr × Str × Pos // x = .Attribute q.1 q.2.1 q.2.2}
  | .Attribute o n p => some ⟨(o, n, p), rfl⟩
  | _ => none
noncomputable def exAttr (x : Expr) : Option (Expr × Str × Pos) := (exAttr' x).map Subtype.val
noncomputable def exSub' : (x : Expr) → Option {q : Expr × Expr // ∃ p, x = .Subscript q.1 q.2 p}
  | .Subscript a b p => some ⟨(a, b), p, rfl⟩
  | _ => none
noncomputable def exSub (x : Expr) : Option (Expr × Expr) := (exSub' x).map Subtype.val
noncomputable def exList' : (x : Expr) → Option {q : List Expr // ∃ p, x = .List q p}
  | .List xs p => some ⟨xs, p, rfl⟩
  | _ => none
noncomputable def exList (x : Expr) : Option (List Expr) := (exList' x).map Subtype.val
noncomputable def exTuple' : (x : Expr) → Option {q : List Expr // ∃ k p, x = .Tuple q k p}
  | .Tuple xs k p => some ⟨xs, k, p, rfl⟩
  | _ => none
noncomputable def exTuple (x : Expr) : Option (List Expr) := (exTuple' x).map Subtype.val
noncomputable def exCall' : (x : Expr) → Option {q : Expr × List Expr × Pos // x = .Call q.1 q.2.1 [] q.2.2}
  | .Call f xs ks p => (match ks with | [] => some ⟨(f, xs, p), rfl⟩ | _ => none)
  | _ => none
noncomputable def exCall (x : Expr) : Option (Expr × List Expr × Pos) := (exCall' x).map Subtype.val
noncomputable def exNeg' : (x : Expr) → Option {q : Expr // ∃ p, x = .UnaryOp .USub q p}
  | .UnaryOp op e p => (match op with | .USub => some ⟨e, p, rfl⟩ | _ => none)
  | _ => none
noncomputable def exNeg (x : Expr) : Option Expr := (exNeg' x).map Subtype.val
noncomputable def exNot' : (x : Expr) → Option {q : Expr // ∃ p, x = .UnaryOp .Not q p}
  | .UnaryOp op e p => (match op with | .Not => some ⟨e, p, rfl⟩ | _ => none)
  | _ => none
noncomputable def exNot (x : Expr) : Option Expr := (exNot' x).map Subtype.val
noncomputable def exChain' : (x : Expr) → Option {q : (Expr × Expr × Expr) × CmpOp × CmpOp // ∃ p, x = .Compare q.1.1 [q.2.1, q.2.2] [q.1.2.1, q.1.2.2] p}
  | .Compare l ops rs p => (match ops, rs with | [o1, o2], [m, r] => some ⟨((l, m, r), o1, o2), p, rfl⟩ | _, _ => none)
  | _ => none
noncomputable def exChain (x : Expr) : Option ((Expr × Expr × Expr) × CmpOp × CmpOp) := (exChain' x).map Subtype.val
noncomputable def exDict0' : (x : Expr) → Option (PLift (∃ p, x = .Dict [] [] p))
  | .Dict ks vs p => (match ks, vs with | [], [] => some ⟨p, rfl⟩ | _, _ => none)
  | _ => none
noncomputable def exSlice' : (x : Expr) → Option {q : Option Expr × Option Expr × Option Expr // ∃ p, x = .Slice q.1 q.2.1 q.2.2 p}
  | .Slice a b c p => some ⟨(a, b, c), p, rfl⟩
  | _ => none
noncomputable def exSlice (x : Expr) : Option (Option Expr × Option Expr × Option Expr) := (exSlice' x).map Subtype.val
noncomputable def exOne : List Expr → Option Expr
  | [x] => some x
  | _ => none
theorem exOne_eq {xs : List Expr} {x : Expr} (h : exOne xs = some x) : xs = [x] := match xs, h with
  | [_], rfl => rfl
noncomputable def exCons : List Expr → Option (Expr × List Expr)
  | x :: xs => some (x, xs)
  | _ => none
theorem exCons_eq {xs : List Expr} {q : Expr × List Expr} (h : exCons xs = some q) : xs = q.1 :: q.2 := match xs, h with
  | _ :: _, rfl => rfl
noncomputable def chkGlob (C : Cx) (sc : Scope) (v : V) (x : Expr) : Bool := match v with
  | .kref a => (exName x).elim false fun y => C.glob y == some a && sc.names.lookup y == some .globalImplicit && plainName y
  | _ => false
noncomputable def chkCst (C : Cx) (sc : Scope) (v : V) (x : Expr) : Bool := (exConst x).elim (chkGlob C sc v x) (cstOk v)
noncomputable def chkLoc (nm : List Str) (i : Nat) (x : Expr) : Bool := (exName x).elim false fun y => nm[i]? == some y && plainName y
noncomputable def chkBin (f g : Expr → Bool) (op : Operator) (x : Expr) : Bool := (exBin x).elim false fun q => decide (op = q.2.1) && f q.1 && g q.2.2
noncomputable def chkCmp (f g : Expr → Bool) (op : CmpOp) (x : Expr) : Bool := (exCmp x).elim false fun q => decide (op = q.2.1) && !behindInMarks q.2.1 q.2.2 && f q.1 && g q.2.2
noncomputable def chkAttr (C : Cx) (nm : List Str) (i a : Nat) (x : Expr) : Bool := (exAttr x).elim false fun q => (exName q.1).elim false fun y => nm[i]? == some y && plainName y && C.names[a]? == some q.2.1
noncomputable def chkTwo (f g : Expr → Bool) (op : BoolOp) (x : Expr) : Bool := (exBool x).elim false fun q => decide (q.1 = op) && (exCons q.2.1).elim false fun r => f r.1 && (exOne r.2).elim false g
noncomputable def chkMany (f g : Expr → Bool) (op : BoolOp) (x : Expr) : Bool := (exBool x).elim false fun q => decide (q.1 = op) && (exCons q.2.1).elim false fun r => f r.1 && (exCons r.2).elim false fun z => (match z.2 with | [] => g z.1 | _ => g (.BoolOp op (z.1 :: z.2) q.2.2))
noncomputable def chkPop (nm : List Str) (i : Nat) (g : List Expr → Bool) (x : Expr) : Bool := (exCall x).elim false fun q => (exAttr q.1).elim false fun r => (exName r.1).elim false fun y => nm[i]? == some y && plainName y && (r.2.1 == ("pop" : Str)) && g q.2.1 && decide (r.2.2.endLine = q.2.2.line)
noncomputable def chkEnd (f : Expr → Bool) (e : E) (o : Option Expr) : Bool := match o with
  | none => (match e with | .cst v => v.isNone | _ => false)
  | some y => f y
noncomputable def chkNamed (sc : Scope) (n : Str) (f : Expr → Bool) (x : Expr) : Bool := (exCall x).elim false fun q => (exName q.1).elim false fun y => (exOne q.2.1).elim false fun z => (y == n) && sc.names.lookup y == some .globalImplicit && f z
mutual
noncomputable def chkE (C : Cx) (sc : Scope) (nm : List Str) : E → Expr → Bool
  | .cst v, x => chkCst C sc v x
  | .loc i, x => chkLoc nm i x
  | .bin op a b, x => chkBin (chkE C sc nm a) (chkE C sc nm b) op x
  | .inv a, x => (exInv x).elim false (chkE C sc nm a)
  | .cmp op a b, x => chkCmp (chkE C sc nm a) (chkE C sc nm b) op x
  | .and a b, x => chkTwo (chkE C sc nm a) (chkE C sc nm b) .And x
  | .or a b, x => chkTwo (chkE C sc nm a) (chkE C sc nm b) .Or x
  | .ite c a b, x => (exIf x).elim false fun q => chkB C sc nm c q.1 && chkE C sc nm a q.2.1 && chkE C sc nm b q.2.2
  | .attr i a, x => chkAttr C nm i a x
  | .sub o i, x => (exSub x).elim false fun q => chkE C sc nm o q.1 && chkE C sc nm i q.2 && !isSlice q.2
  | .nil, _ => false
  | .cons _ _, _ => false
  | .flist es, x => (exList x).elim false fun xs => chkEs C sc nm es xs && decide (xs.length ≤ 1000)
  | .tup es, x => (exTuple x).elim false fun xs => chkEs C sc nm es xs && decide (xs.length ≤ 1000)
  | .call f args, x => (exCall x).elim false fun q => chkE C sc nm f q.1 && chkEs C sc nm args q.2.1 && !isAttr q.1 && decide (q.2.1.length ≤ 20)
  | .mcall i a args, x => (exCall x).elim false fun q => (exAttr q.1).elim false fun r => (exName r.1).elim false fun y => nm[i]? == some y && plainName y && C.names[a]? == some r.2.1 && chkEs C sc nm args q.2.1 && decide (q.2.1.length ≤ 20) && decide (r.2.2.endLine = q.2.2.line)
  | .len a, x => (exCall x).elim false fun q => (exName q.1).elim false fun y => (exOne q.2.1).elim false fun z => (y == ("len" : Str)) && sc.names.lookup y == some .globalImplicit && chkE C sc nm a z
  | .neg a, x => (exNeg x).elim false (chkE C sc nm a)
  | .not _, _ => false
  | .sum a, x => chkNamed sc "sum" (chkE C sc nm a) x
  | .chain _ _ _ _ _, _ => false
  | .nlist es, x => (exList x).elim false fun xs => chkEs C sc nm es xs && decide (xs.length ≤ 1000)
  | .ndict, x => (exDict0' x).isSome
  | .rep a n, x => (exBin x).elim false fun q => decide (.Mult = q.2.1) && (exList q.1).elim false fun xs => (exOne xs).elim false (chkE C sc nm a) && chkE C sc nm n q.2.2
  | .cat a b, x => (exBin x).elim false fun q => decide (.Add = q.2.1) && chkE C sc nm a q.1 && chkE C sc nm b q.2.2
  | .slice _ o lo hi, x => (exSub x).elim false fun q => (exSlice q.2).elim false fun r => chkE C sc nm o q.1 && chkEnd (chkE C sc nm lo) lo r.1 && chkEnd (chkE C sc nm hi) hi r.2.1 && r.2.2.isNone && (exName q.1).isSome
  | .stepS o lo st, x => (exSub x).elim false fun q => (exSlice q.2).elim false fun r => chkE C sc nm o q.1 && r.1.elim false (chkE C sc nm lo) && r.2.1.isNone && r.2.2.elim false (chkE C sc nm st) && (exName q.1).isSome
  | .pop i, x => chkPop nm i List.isEmpty x
  | .popD i k, x => chkPop nm i (fun xs => (exOne xs).elim false (chkE C sc nm k)) x
noncomputable def chkEs (C : Cx) (sc : Scope) (nm : List Str) : E → List Expr → Bool
  | .nil, xs => xs.isEmpty
  | .cons a r, xs => (exCons xs).elim false fun q => chkE C sc nm a q.1 && chkEs C sc nm r q.2
  | _, _ => false
noncomputable def chkB (C : Cx) (sc : Scope) (nm : List Str) : E → Expr → Bool
  | .and a b, x => chkMany (chkB C sc nm a) (chkB C sc nm b) .And x
  | .or a b, x => chkMany (chkB C sc nm a) (chkB C sc nm b) .Or x
  | .cmp op a b, x => chkCmp (chkE C sc nm a) (chkE C sc nm b) op x
  | .loc i, x => chkLoc nm i x
  | .bin op a b, x => chkBin (chkE C sc nm a) (chkE C sc nm b) op x
  | .attr i a, x => chkAttr C nm i a x
  | .not a, x => (exNot x).elim false (chkB C sc nm a)
  | .chain p q a i b, x => (exChain x).elim false fun r => decide (p = r.2.1) && decide (q = r.2.2) && chkE C sc nm a r.1.1 && chkLoc nm i r.1.2.1 && chkE C sc nm b r.1.2.2 && !lastMarks [r.2.1, r.2.2] [r.1.2.1, r.1.2.2]
  | _, _ => false
end

theorem anL {a b : Bool} (h : (a && b) = true) : a = true := (Bool.and_eq_true_iff.mp h).1
theorem anR {a b : Bool} (h : (a && b) = true) : b = true := (Bool.and_eq_true_iff.mp h).2
theorem nt {a : Bool} (h : (!a) = true) : a = false := by cases a; rfl; cases h
theorem pe {T : Type} {x y : T} {P : T → Prop} (e : x = y) (h : P y) : P x := e ▸ h
theorem no {Q : Prop} (h : false = true) : Q := nomatch h
theorem oC {α : Type} {o : Option α} {f : α → Bool} {Q : Prop} (h : o.elim false f = true) (k : ∀ a, o = some a → f a = true → Q) : Q := by
  cases o with
  | none => cases h
  | some a => exact k a rfl h
theorem exC0 {T α : Type} {x : T} {F : α → T} {o : Option {q : α // x = F q}} {f : α → Bool} {P : T → Prop} (h : (o.map Subtype.val).elim false f = true) (k : ∀ q, f q = true → P (F q)) : P x := by
  cases o with
  | none => cases h
  | some a => exact pe a.2 (k a.1 h)
theorem exC1 {T α β : Type} {x : T} {F : α → β → T} {o : Option {q : α // ∃ p, x = F q p}} {f : α → Bool} {P : T → Prop} (h : (o.map Subtype.val).elim false f = true) (k : ∀ q p, f q = true → P (F q p)) : P x := by
  cases o with
  | none => cases h
  | some a => exact a.2.elim fun p e => pe e (k a.1 p h)
theorem exC2 {T α β γ : Type} {x : T} {F : α → β → γ → T} {o : Option {q : α // ∃ p r, x = F q p r}} {f : α → Bool} {P : T → Prop} (h : (o.map Subtype.val).elim false f = true) (k : ∀ q p r, f q = true → P (F q p r)) : P x := by
  cases o with
  | none => cases h
  | some a => exact a.2.elim fun p e => e.elim fun r e => pe e (k a.1 p r h)
theorem oneC {xs : List Expr} {f : Expr → Bool} {P : List Expr → Prop} (h : (exOne xs).elim false f = true) (k : ∀ x, f x = true → P [x]) : P xs := oC h fun x e g => pe (exOne_eq e) (k x g)
theorem consC {xs : List Expr} {f : Expr × List Expr → Bool} {P : List Expr → Prop} (h : (exCons xs).elim false f = true) (k : ∀ x ys, f (x, ys) = true → P (x :: ys)) : P xs := oC h fun q e g => pe (exCons_eq e) (k q.1 q.2 g)
section
variable {C : Cx} {sc : Scope} {nm : List Str} {x : Expr} {P : Expr → Prop}
theorem chk_cst {v : V} (h : chkE C sc nm (.cst v) x = true) (k1 : ∀ c k pos, cstOk v c = true → P (.Constant c k pos)) (k2 : ∀ a y pos, v = .kref a → C.glob y = some a → sc.names.lookup y = some .globalImplicit → plainName y = true → P (.Name y pos)) : P x := by
  have h : (exConst x).elim (chkGlob C sc v x) (cstOk v) = true := h
  cases q : exConst x with
  | some c => rw [q] at h; exact exC2 (o := exConst' x) (f := fun d => cstOk v d) (show (exConst x).elim false _ = true by rw [q]; exact h) fun c k p g => k1 c k p g
  | none =>
    rw [q] at h
    have h : chkGlob C sc v x = true := h
    cases v with
    | kref a => exact exC1 (o := exName' x) h fun y p g => k2 a y p rfl (eq_of_beq (anL (anL g))) (eq_of_beq (anR (anL g))) (anR g)
    | _ => cases h
theorem loc_c {i : Nat} (h : chkLoc nm i x = true) (k : ∀ y pos, nm[i]? = some y → plainName y = true → P (.Name y pos)) : P x :=
  exC1 (o := exName' x) h fun y p g => k y p (eq_of_beq (anL g)) (anR g)
theorem bin_c {f g : Expr → Bool} {op : Operator} (h : chkBin f g op x = true) (k : ∀ l r pos, f l = true → g r = true → P (.BinOp l op r pos)) : P x :=
  exC1 (o := exBin' x) h fun q p t => pe (P := fun o => P (.BinOp q.1 o q.2.2 p)) (of_decide_eq_true (anL (anL t))).symm (k q.1 q.2.2 p (anR (anL t)) (anR t))
theorem inv_c {f : Expr → Bool} (h : (exInv x).elim false f = true) (k : ∀ l pos, f l = true → P (.UnaryOp .Invert l pos)) : P x := exC1 (o := exInv' x) h k
theorem cmp_c {f g : Expr → Bool} {op : CmpOp} (h : chkCmp f g op x = true) (k : ∀ l r pos, behindInMarks op r = false → f l = true → g r = true → P (.Compare l [op] [r] pos)) : P x :=
  exC1 (o := exCmp' x) h fun q p t =>
    have e := of_decide_eq_true (anL (anL (anL t)))
    pe (P := fun o => P (.Compare q.1 [o] [q.2.2] p)) e.symm (k q.1 q.2.2 p (pe (P := fun o => behindInMarks o q.2.2 = false) e (nt (anR (anL (anL t))))) (anR (anL t)) (anR t))
theorem two_c {f g : Expr → Bool} {op : BoolOp} (h : chkTwo f g op x = true) (k : ∀ l r pos, f l = true → g r = true → P (.BoolOp op [l, r] pos)) : P x :=
  exC0 (o := exBool' x) h fun q t => pe (P := fun o => P (.BoolOp o q.2.1 q.2.2)) (of_decide_eq_true (anL t)) (consC (P := fun o => P (.BoolOp op o q.2.2)) (anR t) fun l ys u => oneC (P := fun o => P (.BoolOp op (l :: o) q.2.2)) (anR u) fun r v => k l r q.2.2 (anL u) v)
theorem many_c {f g : Expr → Bool} {op : BoolOp} (h : chkMany f g op x = true) (k : ∀ l y r pos, f l = true → (match r with | [] => g y | _ => g (.BoolOp op (y :: r) pos)) = true → P (.BoolOp op (l :: y :: r) pos)) : P x :=
  exC0 (o := exBool' x) h fun q t => pe (P := fun o => P (.BoolOp o q.2.1 q.2.2)) (of_decide_eq_true (anL t)) (consC (P := fun o => P (.BoolOp op o q.2.2)) (anR t) fun l ys u => consC (P := fun o => P (.BoolOp op (l :: o) q.2.2)) (anR u) fun y r v => k l y r q.2.2 (anL u) v)
theorem if_c {f g e : Expr → Bool} (h : (exIf x).elim false (fun q => f q.1 && g q.2.1 && e q.2.2) = true) (k : ∀ t l r pos, f t = true → g l = true → e r = true → P (.IfExp t l r pos)) : P x :=
  exC1 (o := exIf' x) h fun q p t => k q.1 q.2.1 q.2.2 p (anL (anL t)) (anR (anL t)) (anR t)
theorem attr_c {i a : Nat} (h : chkAttr C nm i a x = true) (k : ∀ y n p pos, nm[i]? = some y → plainName y = true → C.names[a]? = some n → P (.Attribute (.Name y p) n pos)) : P x :=
  exC0 (o := exAttr' x) h fun q t => exC1 (o := exName' q.1) (P := fun z => P (.Attribute z q.2.1 q.2.2)) t fun y p u => k y q.2.1 p q.2.2 (eq_of_beq (anL (anL u))) (anR (anL u)) (eq_of_beq (anR u))
theorem named_c {n : Str} {f : Expr → Bool} (h : chkNamed sc n f x = true) (k : ∀ p y pos, sc.names.lookup n = some .globalImplicit → f y = true → P (.Call (.Name n p) [y] [] pos)) : P x :=
  exC0 (o := exCall' x) h fun q t => exC1 (o := exName' q.1) (P := fun z => P (.Call z q.2.1 [] q.2.2)) t fun y p u => oneC (P := fun z => P (.Call (.Name y p) z [] q.2.2)) u fun z v =>
    have e := eq_of_beq (anL (anL v))
    pe (P := fun o => P (.Call (.Name o p) [z] [] q.2.2)) e (k p z q.2.2 (pe (P := fun o => sc.names.lookup o = some .globalImplicit) e.symm (eq_of_beq (anR (anL v)))) (anR v))
theorem sub_c {f g : Expr → Bool} (h : (exSub x).elim false (fun q => f q.1 && g q.2 && !isSlice q.2) = true) (k : ∀ l r pos, f l = true → g r = true → isSlice r = false → P (.Subscript l r pos)) : P x :=
  exC1 (o := exSub' x) h fun q p t => k q.1 q.2 p (anL (anL t)) (anR (anL t)) (nt (anR t))
theorem list_c {f : List Expr → Bool} (h : (exList x).elim false (fun xs => f xs && decide (xs.length ≤ 1000)) = true) (k : ∀ xs pos, f xs = true → xs.length ≤ 1000 → P (.List xs pos)) : P x :=
  exC1 (o := exList' x) h fun q p t => k q p (anL t) (of_decide_eq_true (anR t))
theorem tup_c {f : List Expr → Bool} (h : (exTuple x).elim false (fun xs => f xs && decide (xs.length ≤ 1000)) = true) (k : ∀ xs c pos, f xs = true → xs.length ≤ 1000 → P (.Tuple xs c pos)) : P x :=
  exC2 (o := exTuple' x) h fun q c p t => k q c p (anL t) (of_decide_eq_true (anR t))
theorem call_c {f : Expr → Bool} {g : List Expr → Bool} (h : (exCall x).elim false (fun q => f q.1 && g q.2.1 && !isAttr q.1 && decide (q.2.1.length ≤ 20)) = true) (k : ∀ fx xs pos, f fx = true → g xs = true → isAttr fx = false → xs.length ≤ 20 → P (.Call fx xs [] pos)) : P x :=
  exC0 (o := exCall' x) h fun q t => k q.1 q.2.1 q.2.2 (anL (anL (anL t))) (anR (anL (anL t))) (nt (anR (anL t))) (of_decide_eq_true (anR t))
theorem mcall_c {i a : Nat} {b : E} (h : chkE C sc nm (.mcall i a b) x = true) (k : ∀ y n p apos xs pos, nm[i]? = some y → plainName y = true → C.names[a]? = some n → chkEs C sc nm b xs = true → xs.length ≤ 20 → apos.endLine = pos.line → P (.Call (.Attribute (.Name y p) n apos) xs [] pos)) : P x :=
  exC0 (o := exCall' x) h fun q t => exC0 (o := exAttr' q.1) (P := fun z => P (.Call z q.2.1 [] q.2.2)) t fun r u => exC1 (o := exName' r.1) (P := fun z => P (.Call (.Attribute z r.2.1 r.2.2) q.2.1 [] q.2.2)) u fun y p v =>
    k y r.2.1 p r.2.2 q.2.1 q.2.2 (eq_of_beq (anL (anL (anL (anL (anL v)))))) (anR (anL (anL (anL (anL v))))) (eq_of_beq (anR (anL (anL (anL v))))) (anR (anL (anL v))) (of_decide_eq_true (anR (anL v))) (of_decide_eq_true (anR v))
theorem chks_nil {xs : List Expr} (h : chkEs C sc nm .nil xs = true) : xs = [] := List.isEmpty_iff.mp h
theorem chks_cons {a r : E} {xs : List Expr} {P : List Expr → Prop} (h : chkEs C sc nm (.cons a r) xs = true) (k : ∀ y ys, chkE C sc nm a y = true → chkEs C sc nm r ys = true → P (y :: ys)) : P xs :=
  consC h fun y ys t => k y ys (anL t) (anR t)
theorem neg_c {f : Expr → Bool} (h : (exNeg x).elim false f = true) (k : ∀ l pos, f l = true → P (.UnaryOp .USub l pos)) : P x := exC1 (o := exNeg' x) h k
theorem rep_c {a n : E} (h : chkE C sc nm (.rep a n) x = true) (k : ∀ l r p pos, chkE C sc nm a l = true → chkE C sc nm n r = true → P (.BinOp (.List [l] p) .Mult r pos)) : P x :=
  exC1 (o := exBin' x) h fun q pos t => pe (P := fun o => P (.BinOp q.1 o q.2.2 pos)) (of_decide_eq_true (anL t)).symm (exC1 (o := exList' q.1) (P := fun z => P (.BinOp z .Mult q.2.2 pos)) (anR t) fun xs p u => oneC (P := fun z => P (.BinOp (.List z p) .Mult q.2.2 pos)) (anL u) fun l v => k l q.2.2 p pos v (anR u))
theorem isName {x : Expr} {P : Expr → Prop} (h : (exName x).isSome = true) (k : ∀ y p, P (.Name y p)) : P x :=
  exC1 (o := exName' x) (f := fun _ => true) (by show (exName x).elim false _ = true; cases q : exName x with | none => rw [q] at h; cases h | some a => rfl) fun y p _ => k y p
theorem slice_c {own : Bool} {o lo hi : E} (h : chkE C sc nm (.slice own o lo hi) x = true) (k : ∀ y yp a b p pos, chkE C sc nm o (.Name y yp) = true → chkEnd (chkE C sc nm lo) lo a = true → chkEnd (chkE C sc nm hi) hi b = true → P (.Subscript (.Name y yp) (.Slice a b none p) pos)) : P x :=
  exC1 (o := exSub' x) h fun q pos t => exC1 (o := exSlice' q.2) (P := fun z => P (.Subscript q.1 z pos)) t fun r p u =>
    pe (P := fun z => P (.Subscript q.1 (.Slice r.1 r.2.1 z p) pos)) (Option.isNone_iff_eq_none.mp (anR (anL u))) (isName (P := fun z => chkE C sc nm o z = true → P (.Subscript z (.Slice r.1 r.2.1 none p) pos)) (anR u) (fun y yp g => k y yp r.1 r.2.1 p pos g (anR (anL (anL (anL u)))) (anR (anL (anL u)))) (anL (anL (anL (anL u)))))
theorem stepS_c {o lo st : E} (h : chkE C sc nm (.stepS o lo st) x = true) (k : ∀ y yp a b p pos, chkE C sc nm o (.Name y yp) = true → chkE C sc nm lo a = true → chkE C sc nm st b = true → P (.Subscript (.Name y yp) (.Slice (some a) none (some b) p) pos)) : P x :=
  exC1 (o := exSub' x) h fun q pos t => exC1 (o := exSlice' q.2) (P := fun z => P (.Subscript q.1 z pos)) t fun r p u =>
    pe (P := fun z => P (.Subscript q.1 (.Slice r.1 z r.2.2 p) pos)) (Option.isNone_iff_eq_none.mp (anR (anL (anL u)))) (oC (anR (anL (anL (anL u)))) fun a ea ga => oC (anR (anL u)) fun b eb gb =>
      pe (P := fun z => P (.Subscript q.1 (.Slice z none r.2.2 p) pos)) ea (pe (P := fun z => P (.Subscript q.1 (.Slice (some a) none z p) pos)) eb (isName (P := fun z => chkE C sc nm o z = true → P (.Subscript z (.Slice (some a) none (some b) p) pos)) (anR u) (fun y yp g => k y yp a b p pos g ga gb) (anL (anL (anL (anL u)))))))
theorem pop_c {i : Nat} {g : List Expr → Bool} (h : chkPop nm i g x = true) (k : ∀ y p apos xs pos, nm[i]? = some y → plainName y = true → g xs = true → apos.endLine = pos.line → P (.Call (.Attribute (.Name y p) "pop" apos) xs [] pos)) : P x :=
  exC0 (o := exCall' x) h fun q t => exC0 (o := exAttr' q.1) (P := fun z => P (.Call z q.2.1 [] q.2.2)) t fun r u => exC1 (o := exName' r.1) (P := fun z => P (.Call (.Attribute z r.2.1 r.2.2) q.2.1 [] q.2.2)) u fun y p v =>
    pe (P := fun z => P (.Call (.Attribute (.Name y p) z r.2.2) q.2.1 [] q.2.2)) (eq_of_beq (anR (anL (anL v)))) (k y p r.2.2 q.2.1 q.2.2 (eq_of_beq (anL (anL (anL (anL v))))) (anR (anL (anL (anL v)))) (anR (anL v)) (of_decide_eq_true (anR v)))
theorem not_c {f : Expr → Bool} (h : (exNot x).elim false f = true) (k : ∀ l pos, f l = true → P (.UnaryOp .Not l pos)) : P x := exC1 (o := exNot' x) h k
theorem chain_c {p q : CmpOp} {a b : E} {i : Nat} (h : chkB C sc nm (.chain p q a i b) x = true) (k : ∀ l m r pos, chkE C sc nm a l = true → chkLoc nm i m = true → chkE C sc nm b r = true → lastMarks [p, q] [m, r] = false → P (.Compare l [p, q] [m, r] pos)) : P x :=
  exC1 (o := exChain' x) h fun r pos t =>
    have e1 := of_decide_eq_true (anL (anL (anL (anL (anL t)))))
    have e2 := of_decide_eq_true (anR (anL (anL (anL (anL t)))))
    pe (P := fun z => P (.Compare r.1.1 [z, r.2.2] [r.1.2.1, r.1.2.2] pos)) e1.symm (pe (P := fun z => P (.Compare r.1.1 [p, z] [r.1.2.1, r.1.2.2] pos)) e2.symm (k r.1.1 r.1.2.1 r.1.2.2 pos (anR (anL (anL (anL t)))) (anR (anL (anL t))) (anR (anL t))
      (pe (P := fun z => lastMarks [z, q] [r.1.2.1, r.1.2.2] = false) e1 (pe (P := fun z => lastMarks [r.2.1, z] [r.1.2.1, r.1.2.2] = false) e2 (nt (anR t))))))
theorem chk_odd {e : E} (h : chkE C sc nm e x = true) : isOdd x = false := by
  cases e with
  | cst v => exact chk_cst (P := fun x => isOdd x = false) h (fun _ _ _ _ => rfl) (fun _ _ _ _ _ _ _ => rfl)
  | loc i => exact loc_c (P := fun x => isOdd x = false) h fun _ _ _ _ => rfl
  | bin op a b => exact bin_c (P := fun x => isOdd x = false) h fun _ _ _ _ _ => rfl
  | inv a => exact inv_c (P := fun x => isOdd x = false) h fun _ _ _ => rfl
  | cmp op a b => exact cmp_c (P := fun x => isOdd x = false) h fun _ _ _ _ _ _ => rfl
  | and a b => exact two_c (P := fun x => isOdd x = false) h fun _ _ _ _ _ => rfl
  | or a b => exact two_c (P := fun x => isOdd x = false) h fun _ _ _ _ _ => rfl
  | ite c a b => exact if_c (P := fun x => isOdd x = false) h fun _ _ _ _ _ _ _ => rfl
  | attr i a => exact attr_c (P := fun x => isOdd x = false) h fun _ _ _ _ _ _ _ => rfl
  | sub o i => exact sub_c (P := fun x => isOdd x = false) h fun _ _ _ _ _ _ => rfl
  | flist es => exact list_c (P := fun x => isOdd x = false) h fun _ _ _ _ => rfl
  | tup es => exact tup_c (P := fun x => isOdd x = false) h fun _ _ _ _ _ => rfl
  | call f a => exact call_c (P := fun x => isOdd x = false) h fun _ _ _ _ _ _ _ => rfl
  | mcall i a b => exact mcall_c (P := fun x => isOdd x = false) h fun _ _ _ _ _ _ _ _ _ _ _ _ => rfl
  | len a => exact named_c (P := fun x => isOdd x = false) h fun _ _ _ _ _ => rfl
  | neg a => exact neg_c (P := fun x => isOdd x = false) h fun _ _ _ => rfl
  | sum a => exact named_c (P := fun x => isOdd x = false) h fun _ _ _ _ _ => rfl
  | nlist a => exact list_c (P := fun x => isOdd x = false) h fun _ _ _ _ => rfl
  | ndict => obtain ⟨_, rfl⟩ := ps_of (o := exDict0' x) h; rfl
  | rep a n => exact rep_c (P := fun x => isOdd x = false) h fun _ _ _ _ _ _ => rfl
  | cat a b => exact bin_c (P := fun x => isOdd x = false) h fun _ _ _ _ _ => rfl
  | slice own o a b => exact slice_c (P := fun x => isOdd x = false) h fun _ _ _ _ _ _ _ _ _ => rfl
  | stepS o a b => exact stepS_c (P := fun x => isOdd x = false) h fun _ _ _ _ _ _ _ _ _ => rfl
  | pop i => exact pop_c (P := fun x => isOdd x = false) h fun _ _ _ _ _ _ _ _ _ => rfl
  | popD i k => exact pop_c (P := fun x => isOdd x = false) h fun _ _ _ _ _ _ _ _ _ => rfl
  | _ => exact no h
theorem star_of {x : Expr} {xs : List Expr} {env : Env} (h : isOdd x = false) : starEach (x :: xs) env = (false, eval x env) :: starEach xs env := by
  cases x <;> first | rfl | cases h
theorem fold_of {x : Expr} (h : isOdd x = false) (env : Env) (v : Value) : foldedSetIterable x env v = pure v := by
  cases x <;> first | rfl | cases h
theorem swap_of {x : Expr} (h : isOdd x = false) (t : Option Expr) (l : Nat) (env : Env) : swapsWith x t l env = pure false := by
  cases x <;> first | rfl | cases h
end

structure AOk (A : Around) (d : Nat) : Prop where
  h : A.handled = none
  dp : A.depth + d < recursionLimit
  un : A.units + 8 * d < 9000

theorem AOk.deeper {A : Around} {d : Nat} (x : AOk A (d + 1)) (env : Env) : AOk (A.deeper env) d := ⟨x.h, by have := x.dp; show A.depth + 1 + d < _; lia, by have := x.un; show A.units + 3 + 8 * d < 9000; lia⟩

noncomputable def fa (env : Env) : List Addr := env.locals :: env.cells.map (·.2)

structure FrI (env : Env) (nm : List Str) (loc : Loc) (μ : Mu) (h : Heap) : Prop where
  fk : env.scope.kind = .function
  gl : env.globals = mainGlobals
  bl : env.builtins = builtinsNs
  inj : Inj nm
  ns : ∃ m, h.Ns env.locals m ∧ ∀ (i : Nat) (x : Str) (v : V), nm[i]? = some x → loc[i]? = some (some v) → env.kindOf x = some .local → ∃ u, m x = some u ∧ VRel μ h v u
  cs : ∀ (i : Nat) (x : Str) (v : V), nm[i]? = some x → loc[i]? = some (some v) → env.kindOf x = some .cell ∨ env.kindOf x = some .free → ∃ c u, env.cells.lookup x = some c ∧ h.IsCell c (some u) ∧ VRel μ h v u
  kd : ∀ (i : Nat) (x : Str), nm[i]? = some x → env.kindOf x = some .local ∨ env.kindOf x = some .cell ∨ env.kindOf x = some .free
  ck : ∀ (i : Nat) (x : Str), nm[i]? = some x → env.kindOf x = some .cell → ∃ c, env.cells.lookup x = some c
  own : ∀ b ∈ fa env, ¬ InOwn μ b
  fr : ∀ b ∈ fa env, FrObj h b
  cl : ∀ p ∈ env.cells, ∃ u, h.IsCell p.2 u
  ap : env.cells.Pairwise fun x y => x.2 ≠ y.2
  al : ∀ p ∈ env.cells, p.2 ≠ env.locals

section
variable {env : Env} {nm : List Str} {loc : Loc} {μ μ' : Mu} {h h' : Heap}

theorem FrObj.keep {b : Addr} (x : FrObj h b) (k : ∀ o, h.get? b = some o → h'.get? b = some o) : FrObj h' b := let ⟨o, e, r⟩ := x; ⟨o, k o e, r⟩
theorem FrI.s (F : FrI env nm loc μ h) (x : Step [] μ h μ' h') : FrI env nm loc μ' h' := by
  have k : ∀ b ∈ fa env, ∀ o, h.get? b = some o → h'.get? b = some o := fun b hb o e => x.keep b o (F.own b hb) (fun q => nomatch q) e
  have kL := k env.locals (.head _)
  have kc : ∀ p ∈ env.cells, ∀ o, h.get? p.2 = some o → h'.get? p.2 = some o := fun p hp => k p.2 (.tail _ (List.mem_map_of_mem hp))
  refine ⟨F.fk, F.gl, F.bl, F.inj, ?_, ?_, F.kd, F.ck, fun b hb => (let ⟨_, e, _⟩ := F.fr b hb; x.notOwn e (F.own b hb)), fun b hb => (F.fr b hb).keep (k b hb), ?_, F.ap, F.al⟩
  · obtain ⟨m, ⟨o, es, ep, e, r⟩, f⟩ := F.ns
    exact ⟨m, ⟨o, es, ep, kL o e, r⟩, fun i x' v h1 h2 h3 => let ⟨u, a, b⟩ := f i x' v h1 h2 h3; ⟨u, a, b.s x⟩⟩
  · intro i x' v h1 h2 h3
    obtain ⟨c, u, a, ⟨o, e, ed⟩, b⟩ := F.cs i x' v h1 h2 h3
    exact ⟨c, u, a, ⟨o, kc (x', c) (mem_of_lookup a) o e, ed⟩, b.s x⟩
  · intro p hp
    obtain ⟨u, o, e, ed⟩ := F.cl p hp
    exact ⟨u, o, kc p hp o e, ed⟩
end

abbrev noE : Value → Shared → Prop := fun _ _ => False

def CallOk (C : Cx) (hb : Heap) (prog : Program) (w : World) (cf : CallF) (d : Nat) : Prop :=
  ∀ f args H V H', cf f args H = some (V, H') → ∀ A (s : Shared) (μ : Mu) vals, AOk A d → Rep C hb μ H s.heap → VRels μ s.heap args vals →
    codeAny (model prog w) A (.call (.ref f) ⟨vals, []⟩) (fun r s' => ∃ v, r = .ok (.ret v) ∧ EOut C hb μ s H' V v s') s

section
variable {prog : Program} {w : World} {A : Around} {s : Shared} {K : Frag} {C : Cx} {hb : Heap} {mg mb : Str → Option Value} {μ : Mu} {H H' : Hp} {env : Env} {nm : List Str} {loc : Loc}

theorem locV_some {i : Nat} {v : V} (e : locV loc i = some v) : loc[i]? = some (some v) := by
  have e : (match loc[i]? with | some (some v) => some v | _ => none) = some v := e
  cases q : loc[i]? with
  | none => rw [q] at e; cases e
  | some o =>
    rw [q] at e
    cases o <;> cases e
    rfl

theorem name_sound (F : FrI env nm loc μ s.heap) {i : Nat} {x : Str} {v : V} {pos : Pos} {Q : Value → Shared → Prop} {E : Value → Shared → Prop} (e : locV loc i = some v) (hn : nm[i]? = some x) (hp : plainName x = true)
    (h : ∀ u, VRel μ s.heap v u → Q u s) : wpAny (model prog w) A (eval (.Name x pos) env) Q E s := by
  have hl := locV_some e
  have hp' := Bool.and_eq_true_iff.mp hp
  have hd : (x == ("__debug__" : Str)) = false := by simpa using hp'.1
  have hc : (x == ("__classdict__" : Str)) = false := by simpa using hp'.2
  refine wpAny_Name ?_ hd
  rcases F.kd i x hn with k | k | k
  · obtain ⟨m, n, f⟩ := F.ns
    obtain ⟨u, a, b⟩ := f i x v hn hl k
    exact wpAny_loadName_local F.fk k n a (h u b)
  · obtain ⟨c, u, a, b, r⟩ := F.cs i x v hn hl (.inl k)
    exact wpAny_loadName_cell F.fk k a b (h u r)
  · obtain ⟨c, u, a, b, r⟩ := F.cs i x v hn hl (.inr k)
    exact wpAny_loadName_free F.fk k a b (h u r) hc

theorem glob_sound (ok : CxOk K C) (B : Base K hb mg mb) (R : Rep C hb μ H s.heap) (F : FrI env nm loc μ s.heap) {x : Str} {a : Addr} {pos : Pos} {Q : Value → Shared → Prop} {E : Value → Shared → Prop} (e : C.glob x = some a) (hk : env.kindOf x = some .globalImplicit) (hp : plainName x = true)
    (h : Q (.ref a) s) : wpAny (model prog w) A (eval (.Name x pos) env) Q E s := by
  have hd : (x == ("__debug__" : Str)) = false := by simpa using (Bool.and_eq_true_iff.mp hp).1
  exact Name_function_global F.fk hk (loadGlobal_global (env := env) (by rw [F.gl]; exact B.g.keeps R.base) (mg_of B.X B.g (ok.gl x a e)) h) hd

theorem cst_sound {v : V} {c : Const} {k : Nat} {pos : Pos} {E : Value → Shared → Prop} (R : Rep C hb μ H s.heap) (e : cstOk v c = true) : wpAny (model prog w) A (eval (.Constant c k pos) env) (EOut C hb μ s H v) E s := by
  rcases ps_of e with ⟨rfl, rfl⟩ | ⟨b, rfl, rfl⟩ | ⟨b, rfl, rfl⟩ | ⟨b, rfl, rfl⟩
  · exact wpAny_Constant_none ⟨μ, Out.refl R, .none⟩
  · exact wpAny_Constant_bool ⟨μ, Out.refl R, .bool _⟩
  · exact wpAny_Constant_int ⟨μ, Out.tok R _, .int _ _⟩
  · exact wpAny_Constant_str ⟨μ, Out.tok R _, .str _ _⟩

theorem starPlain {sc : Scope} : ∀ (es : E) (xs : List Expr), chkEs C sc nm es xs = true → ∀ (pos : Pos), (backTo pos (starEach xs env)).any (·.1) = false ∧ (∀ e rest, xs = e :: rest → starEach (e :: rest) env = (false, eval e env) :: starEach rest env) := by
  intro es
  induction es with
  | cons a r _ ihr =>
    intro xs hx
    refine chks_cons (P := fun xs => ∀ (pos : Pos), (backTo pos (starEach xs env)).any (·.1) = false ∧ (∀ e rest, xs = e :: rest → starEach (e :: rest) env = (false, eval e env) :: starEach rest env)) hx fun x xs h1 h2 pos => ?_
    have st : starEach (x :: xs) env = (false, eval x env) :: starEach xs env := star_of (chk_odd h1)
    refine ⟨?_, fun e rest q => by cases q; exact st⟩
    rw [st]
    show (false || (backTo pos (starEach xs env)).any (·.1)) = false
    rw [(ihr xs h2 pos).1]; rfl
  | nil =>
    intro xs hx pos
    rw [chks_nil hx]
    exact ⟨rfl, fun e rest q => nomatch q⟩
  | _ => exact fun _ hx => no hx
end
end Mine
end
section
open PySem PySem.W PySem.Calls PyProof.Rows Builtin Builtin.ObjectAttr
set_option autoImplicit false
namespace Mine
section
variable {prog : Program} {w : World} {A : Around} {s : Shared} {K : Frag} {C : Cx} {hb : Heap} {mg mb : Str → Option Value} {μ : Mu} {H H' : Hp} {d : Nat} {E : Value → Shared → Prop}
theorem VRels.isEmpty {h : Heap} {vs : List V} {as : List Value} (r : VRels μ h vs as) : as.toArray.isEmpty = vs.isEmpty := by
  have := r.length
  cases vs with
  | nil => cases as with
    | nil => rfl
    | cons _ _ => cases this
  | cons _ _ => cases as with
    | nil => cases this
    | cons _ _ => simp
theorem truthL_sound {q : Addr} {vs : List V} {items : List Value} {n : Nat} {Q : Bool → Shared → Prop} (g : IsL s.heap q items.toArray n) (rs : VRels μ s.heap vs items) (h : vs.length ≤ 16777216) (hq : ∀ t, Q (!vs.isEmpty) { s with toks := t }) : wpAny (model prog w) A (truthy (.ref q)) Q E s :=
  wpAny_truthy_list (IsL.isList g) (by rw [List.size_toArray, rs.length]; lia) (by rw [rs.isEmpty]; exact hq _)
theorem truthH_sound (R : Rep C hb μ H s.heap) {x : V} {z : Bool} {a : Value} {Q : Bool → Shared → Prop} (e : truthH H x = some z) (r : VRel μ s.heap x a) (hq : ∀ t, Q z { s with toks := t }) : wpAny (model prog w) A (truthy a) Q E s := by
  cases q : truthV x with
  | some b =>
    have e : (truthV x).orElse _ = some z := e
    rw [q] at e
    cases e
    exact truthV_sound q r (hq s.toks)
  | none =>
    cases r <;> first | (cases q; done) | (cases e; done) | skip
    · rename_i l p hp
      cases ho : H[l]? with
      | none =>
        have e : (match H[l]? with | some (.list vs) => some (!vs.isEmpty) | some (.dict es) => some (!es.isEmpty) | _ => none) = some z := e
        rw [ho] at e; cases e
      | some o =>
        have e : (match H[l]? with | some (.list vs) => some (!vs.isEmpty) | some (.dict es) => some (!es.isEmpty) | _ => none) = some z := e
        rw [ho] at e
        have rr := R.rel.objs _ _ _ ho hp
        cases o with
        | list vs =>
          cases e
          obtain ⟨items, n, g, rs, _, hs⟩ := rr
          rw [sizeLine_eq] at hs
          exact truthL_sound g rs (by lia) hq
        | dict es =>
          cases e
          obtain ⟨⟨_, hm⟩, _, hs, kvs, hd, he, _⟩ := rr
          have hl : es.length = kvs.length := by have := congrArg List.length he; simpa using this
          refine wpAny_truthy_dict hm (hd prog w) (by lia) ?_
          have : kvs.isEmpty = es.isEmpty := by cases es <;> cases kvs <;> first | rfl | cases hl
          rw [this]; exact hq _
        | inst fs => cases e
    · rename_i vs items n q' g no rs
      exact if_got (show (if vs.length ≤ 1000 then some (!vs.isEmpty) else none) = some z from e) fun hl e => by
        subst e
        exact truthL_sound g rs (by lia) hq
theorem intsAre_at : ∀ {as : List Value} {ns : List Int}, IntsAre as ns → as.length = ns.length ∧ ∀ (j : Nat) (h : j < as.length), ∃ t, as[j] = .int (ns.getD j 0) t := by
  intro as ns r
  induction r with
  | nil => exact ⟨rfl, fun j h => absurd h (Nat.not_lt_zero _)⟩
  | cons n t r ih =>
    refine ⟨congrArg (· + 1) ih.1, fun j h => ?_⟩
    cases j with
    | zero => exact ⟨t, rfl⟩
    | succ j => exact ih.2 j (Nat.lt_of_succ_lt_succ h)
theorem range_all {xs ys : List Int} (h : xs.length = ys.length) : ((List.range xs.length).all fun j => xs.getD j 0 == ys.getD j 0) = (xs == ys) := by
  rw [Bool.eq_iff_iff, List.all_eq_true, beq_iff_eq]
  constructor
  · intro q
    apply List.ext_getElem h
    intro j h1 h2
    have := q j (List.mem_range.mpr h1)
    rw [beq_iff_eq, List.getD_eq_getElem?_getD, List.getD_eq_getElem?_getD, List.getElem?_eq_getElem h1, List.getElem?_eq_getElem h2] at this
    exact this
  · rintro rfl j _
    exact beq_self_eq_true _
theorem ne_listAt {l b : Addr} {items items2 : Array Value} {e : Nat → Bool} {Q : Value → Shared → Prop} (hl : s.heap.IsList l items) (hb : s.heap.IsList b items2) (hsz : items.size = items2.size) (hu : A.units < cLine)
    (he : ∀ j (h1 : j < items.size) (h2 : j < items2.size), SeqAt.EqAt A.in1 s items[j] items2[j] (e j)) (h : Q (.bool (!(List.range items.size).all e)) s) : wpAny (model prog w) A (compareOp .NotEq (.ref l) (.ref b)) Q E s := by
  obtain ⟨⟨cls, dd, data, sl⟩, ho, hc, n, hd⟩ := id hl
  obtain ⟨⟨cls2, dd2, data2, sl2⟩, ho2, hc2, n2, hd2⟩ := id hb
  simp only at hc hd hc2 hd2
  subst hc hd hc2 hd2
  exact richCompare_meets_room (op := .NotEq) ⟨_, ho, rfl⟩ ⟨_, ho2, rfl⟩ PySem.F.slot_list_ne PySem.F.entry_list_ne (PySem.F.args_list_ne_2 _ _) (SeqAt.list_neAt l b items items2 n n2 dd dd2 sl sl2 hsz e)
    ⟨ho, ho2, he, show Value.bool (!(List.range items.size).all e) ≠ Value.notImplemented ∧ Q (.bool (!(List.range items.size).all e)) s from ⟨(fun x => nomatch x), h⟩⟩ hu
theorem ne_tupleAt {l b : Addr} {items items2 : Array Value} {e : Nat → Bool} {Q : Value → Shared → Prop} (hl : s.heap.IsTuple l items) (hb : s.heap.IsTuple b items2) (hu : A.units < cLine)
    (he : ∀ j (h1 : j < items.size) (h2 : j < items2.size), SeqAt.EqAt A.in1 s items[j] items2[j] (e j)) (h : Q (.bool (!((List.range (min items.size items2.size)).all e && items.size == items2.size))) s) : wpAny (model prog w) A (compareOp .NotEq (.ref l) (.ref b)) Q E s := by
  obtain ⟨⟨cls, dd, data, sl⟩, ho, hc, n, hd⟩ := id hl
  obtain ⟨⟨cls2, dd2, data2, sl2⟩, ho2, hc2, n2, hd2⟩ := id hb
  simp only at hc hd hc2 hd2
  subst hc hd hc2 hd2
  exact richCompare_meets_room (op := .NotEq) ⟨_, ho, rfl⟩ ⟨_, ho2, rfl⟩ PySem.F.slot_tuple_ne PySem.F.entry_tuple_ne (PySem.F.args_tuple_ne_2 _ _) (SeqAt.tuple_neAt l b items items2 n n2 dd dd2 sl sl2 e)
    ⟨ho, ho2, he, show Value.bool (!((List.range (min items.size items2.size)).all e && items.size == items2.size)) ≠ Value.notImplemented ∧ Q (.bool (!((List.range (min items.size items2.size)).all e && items.size == items2.size))) s from ⟨(fun x => nomatch x), h⟩⟩ hu
theorem seqI_sound (ok : CxOk K C) (X : K.In hb) (R : Rep C hb μ H s.heap) {x : V} {q : Bool × List Int} {a : Value} (e : seqI C H x = some q) (r : VRel μ s.heap x a) :
    ∃ l items, a = .ref l ∧ IntsAre items q.2 ∧ (if q.1 then s.heap.IsTuple l items.toArray else s.heap.IsList l items.toArray) := by
  by_cases ht : ∃ vs, x = .tup vs
  · obtain ⟨vs, rfl⟩ := ht
    obtain ⟨ns, hn, rfl⟩ := Option.map_eq_some_iff.mp (show (ints? vs).map (fun ns => (true, ns)) = some q from e)
    cases r with
    | tup g n rs => exact ⟨_, _, rfl, ints_rels hn rs, ⟨_, g, rfl, _, rfl⟩⟩
  · have e : (itemsOf C H x).bind (fun vs => (ints? vs).map fun ns => (false, ns)) = some q := by
      cases x <;> first | exact e | exact absurd ⟨_, rfl⟩ ht
    obtain ⟨vs, hv, e⟩ := Option.bind_eq_some_iff.mp e
    obtain ⟨ns, hn, rfl⟩ := Option.map_eq_some_iff.mp e
    obtain ⟨l, items, n, rfl, g, rs⟩ := itemsOf_sound ok X R hv r
    exact ⟨l, items, rfl, ints_rels hn rs, IsL.isList g⟩
theorem inD_sound (R : Rep C hb μ H s.heap) {x y : V} {z : Bool} {a b : Value} {Q : Value → Shared → Prop} (e : inD H x y = some z) (r1 : VRel μ s.heap x a) (r2 : VRel μ s.heap y b) (hq : ∀ t, Q (.bool z) { s with toks := t }) : wpAny (model prog w) A (compareOp .In a b) Q E s := by
  cases r1 <;> first | (cases e; done) | skip
  cases r2 <;> first | (cases e; done) | skip
  rename_i k _ l p hp
  refine dictC e fun es ho e => ?_
  cases e
  obtain ⟨⟨_, hm⟩, _, hs, kvs, hd, he, _⟩ := R.rel.objs _ _ _ ho hp
  refine wpAny_in_of (knd := intKind prog w) (k := k) (by exact beq_self_eq_true k) hm (hd prog w).mapOf ?_
  have : (valueAt kvs k).isSome = es.any fun e => e.1 == k := by
    unfold valueAt
    have h1 : es.any (fun e => e.1 == k) = (es.map (·.1)).any (· == k) := by rw [List.any_map]; rfl
    rw [Option.isSome_map, h1, he, List.any_map, Bool.eq_iff_iff, List.find?_isSome, List.any_eq_true]
    simp
  rw [this]; exact hq _
theorem cmpS_sound {op : CmpOp} {f g : Bool} {xs ys : List Int} {z : Bool} {l m : Addr} {i1 i2 : List Value} {Q : Value → Shared → Prop} (e0 : cmpS op (f, xs) (g, ys) = some z) (hu : A.units < cLine) (a1 : IntsAre i1 xs) (a2 : IntsAre i2 ys)
    (t1 : if f then s.heap.IsTuple l i1.toArray else s.heap.IsList l i1.toArray) (t2 : if g then s.heap.IsTuple m i2.toArray else s.heap.IsList m i2.toArray) (hq : Q (.bool z) s) : wpAny (model prog w) A (compareOp op (.ref l) (.ref m)) Q E s := by
  have e : (if f = g ∧ xs.length = ys.length then (match op with | .Eq => if f then none else some (xs == ys) | .NotEq => some (xs != ys) | _ => none) else none) = some z := e0
  clear e0
  by_cases hc : f = g ∧ xs.length = ys.length
  · rw [if_pos hc] at e
    obtain ⟨hf, hl⟩ := hc
    subst hf
    obtain ⟨l1, b1⟩ := intsAre_at a1
    obtain ⟨l2, b2⟩ := intsAre_at a2
    have hsz : i1.toArray.size = i2.toArray.size := by rw [List.size_toArray, List.size_toArray]; lia
    have he : ∀ j (h1 : j < i1.toArray.size) (h2 : j < i2.toArray.size), SeqAt.EqAt A.in1 s i1.toArray[j] i2.toArray[j] (xs.getD j 0 == ys.getD j 0) := fun j h1 h2 => by
      obtain ⟨t, p1⟩ := b1 j (by simpa using h1)
      obtain ⟨u, p2⟩ := b2 j (by simpa using h2)
      simp only [List.getElem_toArray]
      rw [p1, p2]
      exact (MeetsSeq.EqGives.int _ _ t u).at _ _
    have all : ((List.range i1.toArray.size).all fun j => xs.getD j 0 == ys.getD j 0) = (xs == ys) := by
      rw [List.size_toArray, l1]; exact range_all hl
    cases op with
    | Eq =>
      cases f with
      | true => cases e
      | false => cases e; exact SeqAt.eq_listAt t1 t2 hsz hu he (by rw [all]; exact hq)
    | NotEq =>
      cases e
      cases f with
      | true =>
        refine ne_tupleAt t1 t2 hu he ?_
        rw [← hsz, Nat.min_self, all, beq_self_eq_true, Bool.and_true]
        exact hq
      | false => exact ne_listAt t1 t2 hsz hu he (by rw [all]; exact hq)
    | _ => cases e
  · rw [if_neg hc] at e; cases e
theorem cmpH_sound (ok : CxOk K C) (X : K.In hb) (R : Rep C hb μ H s.heap) (hu : A.units < cLine) {op : CmpOp} {x y : V} {z : Bool} {a b : Value} {Q : Value → Shared → Prop} (e : cmpH C H op x y = some z) (r1 : VRel μ s.heap x a) (r2 : VRel μ s.heap y b)
    (hq : ∀ t, Q (.bool z) { s with toks := t }) : wpAny (model prog w) A (compareOp op a b) Q E s := by
  have e : (cmpV op x y).orElse _ = some z := e
  cases q : cmpV op x y with
  | some v => rw [q] at e; cases e; exact cmpV_sound q r1 r2 (hq s.toks)
  | none =>
    rw [q] at e
    have e : (if op = .In then inD H x y else (seqI C H x).bind fun x => (seqI C H y).bind fun y => cmpS op x y) = some z := e
    by_cases hi : op = .In
    · rw [if_pos hi] at e
      subst hi
      exact inD_sound R e r1 r2 hq
    · rw [if_neg hi] at e
      obtain ⟨f, e1, e⟩ := Option.bind_eq_some_iff.mp e
      obtain ⟨g, e2, e⟩ := Option.bind_eq_some_iff.mp e
      obtain ⟨l, i1, rfl, a1, t1⟩ := seqI_sound ok X R e1 r1
      obtain ⟨m, i2, rfl, a2, t2⟩ := seqI_sound ok X R e2 r2
      exact cmpS_sound e hu a1 a2 t1 t2 (hq s.toks)
end
end Mine
end
section
open PySem PySem.W PySem.Calls PyProof.Rows Builtin Builtin.ObjectAttr
set_option autoImplicit false
namespace Mine
theorem VRels.take {μ : Mu} {h : Heap} {vs : List V} {as : List Value} (r : VRels μ h vs as) (k : Nat) : VRels μ h (vs.take k) (as.take k) :=
  VRels.ind (P := fun vs as => ∀ k : Nat, VRels μ h (vs.take k) (as.take k)) (fun k => by rw [List.take_nil, List.take_nil]; exact .nil) (fun a _ ih k => by
    cases k with
    | zero => exact .nil
    | succ k => exact .cons a (ih k)) r k
theorem VRels.drop {μ : Mu} {h : Heap} {vs : List V} {as : List Value} (r : VRels μ h vs as) (k : Nat) : VRels μ h (vs.drop k) (as.drop k) :=
  VRels.ind (P := fun vs as => ∀ k : Nat, VRels μ h (vs.drop k) (as.drop k)) (fun k => by rw [List.drop_nil, List.drop_nil]; exact .nil) (fun a r ih k => by
    cases k with
    | zero => exact .cons a r
    | succ k => exact ih k) r k
theorem pick_list {α : Type} (l : List α) (a b : Nat) : (l.drop (min a l.length)).take (min b l.length - min a l.length) = (l.take b).drop a := by
  rw [List.drop_take]
  rcases Nat.le_total a l.length with h | h
  · rw [Nat.min_eq_left h]
    rcases Nat.le_total b l.length with g | g
    · rw [Nat.min_eq_left g]
    · rw [Nat.min_eq_right g, List.take_of_length_le (by rw [List.length_drop]; exact Nat.le_refl _), List.take_of_length_le (by rw [List.length_drop]; lia)]
  · rw [Nat.min_eq_right h, List.drop_of_length_le h, List.take_nil, List.drop_of_length_le (Nat.le_refl _), List.take_nil]
theorem pick_nat (items : Array Value) (lo hi : Option Nat) : slicePick items (lo.map fun n => (n : Int)) (hi.map fun n => (n : Int)) none = ((items.toList.take (hi.getD items.size)).drop (lo.getD 0)).toArray := by
  have h1 : (lo.map fun n => (n : Int)).elim 0 (clipAt items.size) = min (lo.getD 0) items.size := by
    cases lo with
    | none => exact (Nat.zero_min _).symm
    | some a => exact clipAt_nat _ _
  have h2 : (hi.map fun n => (n : Int)).elim items.size (clipAt items.size) = min (hi.getD items.size) items.size := by
    cases hi with
    | none => exact (Nat.min_self _).symm
    | some a => exact clipAt_nat _ _
  rw [slicePick_plain, h1, h2, ← pick_list]
  rfl
section
variable {prog : Program} {w : World} {A : Around} {s : Shared} {K : Frag} {C : Cx} {hb : Heap} {mg mb : Str → Option Value} {μ : Mu} {H H' : Hp} {env : Env} {d : Nat} {E : Value → Shared → Prop}
theorem end_part {h : Heap} {y : V} {d k : Nat} {u : Value} (e : endV y d = some k) (r : VRel μ h y u) : ∃ o : Option Nat, o.getD d = k ∧ IsPart u (o.map fun n => (n : Int)) := by
  cases y with
  | none => cases e; cases r; exact ⟨none, rfl, .none⟩
  | int i =>
    refine if_got (show (if 0 ≤ i ∧ i < 2 ^ 32 then some i.toNat else none) = some k from e) fun hi e => ?_
    subst e
    cases r
    refine ⟨some i.toNat, rfl, ?_⟩
    show IsPart _ (some ((i.toNat : Nat) : Int))
    rw [Int.toNat_of_nonneg hi.1]
    exact .int _ _
  | _ => cases e
theorem fl_new (R : Rep C hb μ H s.heap) {vs : List V} {items : List Value} (r : VRels μ s.heap vs items) : EOut C hb μ s H (.fl vs) (.ref s.heap.objs.size) { s with heap := s.heap.push { cls := .type "list", data := .seq items.toArray } } := by
  have O := Out.push R { cls := .type "list", data := .seq items.toArray } s.toks
  refine ⟨μ, O, .fl (n := 0) (Heap.get?_push_size _ rfl) (fun q => ?_) (r.s O.step)⟩
  obtain ⟨o, e⟩ := R.rel.ownLt q
  exact absurd (Heap.lt_size e) (Nat.lt_irrefl _)
theorem obj_new (R : Rep C hb μ H s.heap) {o : HO} {ob : Obj} (hr : ∀ st : Step [] μ s.heap (μ ++ [(s.heap.objs.size, s.heap.objs.size)]) (s.heap.push ob), ORel C.names C.cls (μ ++ [(s.heap.objs.size, s.heap.objs.size)]) (s.heap.push ob) o (s.heap.objs.size, s.heap.objs.size)) :
    EOut C hb μ s (H ++ [o]) (.ref H.length) (.ref s.heap.objs.size) { s with heap := s.heap.push ob } := by
  have hn : s.heap.get? s.heap.objs.size = none := Heap.get?_none_of_le (Nat.le_refl _)
  have k : ∀ b o, s.heap.get? b = some o → (s.heap.push ob).get? b = some o := fun b o e => Heap.get?_push_of_some _ e
  obtain ⟨st, RR⟩ := R.rel.push (p := (s.heap.objs.size, s.heap.objs.size)) (o := o) (h' := s.heap.push ob) k hn hn hr
  refine ⟨_, ⟨⟨RR, fun b o e => k _ _ (R.base b o e), fun b q => ?_⟩, st, rfl, rfl⟩, ?_⟩
  · rcases st.own b q with q | q
    · exact R.new b q
    · cases e : hb.get? b with
      | none => rfl
      | some o => have := R.base b o e; rw [q.1] at this; cases this
  · refine .ref (p := (s.heap.objs.size, s.heap.objs.size)) ?_
    rw [← R.rel.len, List.getElem?_append_right (Nat.le_refl _), Nat.sub_self]; rfl
theorem own_new (R : Rep C hb μ H s.heap) {vs : List V} {items : List Value} (r : VRels μ s.heap vs items) (hsz : vs.length ≤ sizeLine) :
    EOut C hb μ s (H ++ [.list vs]) (.ref H.length) (.ref s.heap.objs.size) { s with heap := s.heap.push { cls := .type "list", data := .seq items.toArray } } :=
  obj_new R fun st => ⟨items, 0, Heap.get?_push_size _ rfl, r.s st, rfl, hsz⟩
theorem slice_sound (ok : CxOk K C) (X : K.In hb) {value : Expr} {lower upper : Option Expr} {p pos : Pos} {own : Bool} {x y z : V} {vs : List V} {H1 H2 H3 : Hp} (ht : ∀ o r, letTemporaryGo value o r = pure ())
    (e : sliceV C H3 x y z = some vs) (h : wpAny (model prog w) A (eval value env) (fun o s1 => ∃ μ1, Out C hb μ s μ1 H1 s1 ∧ VRel μ1 s1.heap x o ∧ wpAny (model prog w) A (evalPart lower env) (fun l s2 => ∃ μ2, Out C hb μ1 s1 μ2 H2 s2 ∧ VRel μ2 s2.heap y l ∧
      wpAny (model prog w) A (evalPart upper env) (fun u s3 => ∃ μ3, Out C hb μ2 s2 μ3 H3 s3 ∧ VRel μ3 s3.heap z u) E s2) E s1) E s) :
    wpAny (model prog w) A (eval (.Subscript value (.Slice lower upper none p) pos) env) (fun v s' => if own then EOut C hb μ s (H3 ++ [.list vs]) (.ref H3.length) v s' else EOut C hb μ s H3 (.fl vs) v s') E s := by
  refine wpAny_Subscript_list_slice (wpAny_mono h (fun o s1 ⟨μ1, O1, r1, h1⟩ => wpAny_mono h1 (fun l s2 ⟨μ2, O2, r2, h2⟩ => wpAny_mono h2 (fun u s3 ⟨μ3, O3, r3⟩ => ?_) fun _ _ q => q) fun _ _ q => q) fun _ _ q => q) ht
  unfold sliceV at e
  obtain ⟨ws, hw, e⟩ := Option.bind_eq_some_iff.mp e
  split at e
  case isFalse => cases e
  rename_i hsz
  obtain ⟨a, ha, e⟩ := Option.bind_eq_some_iff.mp e
  obtain ⟨b, hb', e⟩ := Option.map_eq_some_iff.mp e
  have q1 := (r1.s O2.step).s O3.step
  obtain ⟨q, items, n, rfl, g, rs⟩ := itemsOf_sound ok X O3.rep hw q1
  obtain ⟨lo, rfl, p1⟩ := end_part ha (r2.s O3.step)
  obtain ⟨hi, rfl, p2⟩ := end_part hb' r3
  have hlen := rs.length
  refine ⟨q, items.toArray, _, _, rfl, IsL.isList g, by rw [List.size_toArray, hlen, sizeLine_eq]; lia, p1, p2, ?_⟩
  have P1 := Out.push O3.rep { cls := .type "slice", data := .fields #[l, u, .none] } s3.toks
  have O := ((O1.trans O2).trans O3).trans P1
  have r : VRels μ3 (s3.heap.push { cls := .type "slice", data := .fields #[l, u, .none] }) vs ((items.take (hi.getD items.length)).drop (lo.getD 0)) := by
    rw [← e, ← hlen]
    exact ((rs.take _).drop _).s P1.step
  have hs : (s3.heap.push { cls := .type "slice", data := .fields #[l, u, .none] }).objs.size = s3.heap.objs.size + 1 := Heap.size_push ..
  rw [pick_nat, ← hs]
  cases own with
  | true =>
    obtain ⟨μ4, O4, r4⟩ := own_new P1.rep r (by rw [← r.length, List.length_drop, List.length_take, sizeLine_eq]; lia)
    exact ⟨μ4, O.trans O4, r4⟩
  | false =>
    obtain ⟨μ4, O4, r4⟩ := fl_new P1.rep r
    exact ⟨μ4, O.trans O4, r4⟩
theorem cat_sound (ok : CxOk K C) (X : K.In hb) (R : Rep C hb μ H s.heap) {x y : V} {vs us : List V} {a b : Value} (e1 : itemsOf C H x = some vs) (e2 : itemsOf C H y = some us) (hsz : vs.length + us.length ≤ 1000) (ra : VRel μ s.heap x a) (rb : VRel μ s.heap y b) :
    wpAny (model prog w) A (binaryOp .Add a b) (EOut C hb μ s H (.fl (vs ++ us))) E s := by
  obtain ⟨q, items, n, rfl, g, rs⟩ := itemsOf_sound ok X R e1 ra
  obtain ⟨q2, items2, n2, rfl, g2, rs2⟩ := itemsOf_sound ok X R e2 rb
  have e : items.toArray ++ items2.toArray = (items ++ items2).toArray := by simp
  have l1 := rs.length
  have l2 := rs2.length
  refine concat_meets ⟨_, g, rfl⟩ ⟨_, g2, rfl⟩ noFill_list_add seq_list_add PySem.F.slot_list_add PySem.F.entry_list_add (PySem.F.args_list_add_2 _ _) (list_addW q q2 items.toArray items2.toArray n n2 none none #[] #[] (by simp only [List.size_toArray, sizeLine]; lia)) ⟨g, g2, ?_⟩
  rw [e]
  exact fl_new R (rs.append rs2)
theorem own_set (R : Rep C hb μ H s.heap) {l : Nat} {p : Addr × Addr} {o o' : HO} {h' : Heap} (hH : H[l]? = some o) (hp : μ[l]? = some p) (sb : Heap.SameBut p.1 s.heap h') (ho : Step [] μ s.heap μ h' → ORel C.names C.cls μ h' o' p) (t : Nat) :
    Out C hb μ s μ (H.set l o') { s with heap := h', toks := t } := by
  obtain ⟨o1, o2⟩ := inOwn_of hp
  have hlt : l < H.length := (List.getElem?_eq_some_iff.mp hH).1
  obtain ⟨st, rr⟩ := R.rel.set (o := o') hlt hp (fun b o' n1 _ e' => (sb.2 b n1).trans e') ho
  exact ⟨⟨rr, fun b o' e' => (sb.2 b fun q => by rw [q, R.new _ o1] at e'; cases e').trans (R.base b o' e'), R.new⟩, st, rfl, rfl⟩
theorem dict_new (B : Base K hb mg mb) (R : Rep C hb μ H s.heap) : EOut C hb μ s (H ++ [.dict []]) (.ref H.length) (.ref s.heap.objs.size) { s with heap := s.heap.push { cls := .type "dict", data := .dict #[] } } := by
  refine obj_new R fun st => ⟨⟨rfl, ?_⟩, ⟨_, _, _, Heap.get?_push_size _ rfl, ⟨rfl, rfl, rfl⟩, rfl⟩, Nat.zero_le _, [], fun prog w => Heap.DictOf.new _, rfl, .nil⟩
  obtain ⟨o, es, ep, e, _⟩ := B.g
  have lt := Heap.lt_size (R.base _ _ e)
  rw [beq_eq_false_iff_ne]
  intro q
  have q : s.heap.objs.size = 1 := q
  have lt : 3 < s.heap.objs.size := lt
  lia
theorem sum_sound (ok : CxOk K C) (X : K.In hb) (hh : A.handled = none) (R : Rep C hb μ H s.heap) {x z : V} {a : Value} (e : sumV C H x = some z) (r : VRel μ s.heap x a) : wpAny (model prog w) A (call (.builtin "sum") [a]) (EOut C hb μ s H z) E s := by
  unfold sumV at e
  obtain ⟨vs, hv, e⟩ := Option.bind_eq_some_iff.mp e
  obtain ⟨ns, hn, rfl⟩ := Option.map_eq_some_iff.mp e
  obtain ⟨l, items, n, rfl, g, rs⟩ := itemsOf_sound ok X R hv r
  have hi := ints_rels hn rs
  obtain ⟨xs, hx⟩ := hi.allInts.items
  have hq : numsOf items.toArray.toList = ns := hi.numsOf
  rw [hx, nums_intItems] at hq
  refine sum_intListG hh (by rw [← hx]; exact IsL.isList g) fun h' tk t' hk => ?_
  rw [preSum_eq, List.take_of_length_le (by simp), hq]
  exact ⟨μ, ⟨(R.keep hk).2, (R.keep hk).1, rfl, rfl⟩, .int _ _⟩
theorem erase_last (items : List Value) (n : Nat) (h : items.length = n + 1) : items.toArray.eraseIdxIfInBounds n = (items.take n).toArray := by
  apply Array.ext'
  unfold Array.eraseIdxIfInBounds
  rw [dif_pos (by rw [List.size_toArray]; lia)]
  simp only [Array.toList_eraseIdx]
  rw [List.eraseIdx_eq_take_drop_succ, List.drop_of_length_le (by lia), List.append_nil]
theorem pop_sound (R : Rep C hb μ H s.heap) {x v : V} {a : Value} (e : popV H x = some (v, H')) (r : VRel μ s.heap x a) : wpAny (model prog w) A (call (.builtin "list.pop") [a]) (EOut C hb μ s H' v) E s := by
  cases r <;> first | (cases e; done) | skip
  rename_i l p hp
  refine listC e fun vs ho e => ?_
  obtain ⟨u, hu, e⟩ := Option.map_eq_some_iff.mp e
  cases e
  obtain ⟨items, n, g, rs, h2, hs⟩ := R.rel.objs _ _ _ ho hp
  have hl := rs.length
  rw [List.getLast?_eq_getElem?] at hu
  have hpos : vs.length - 1 < vs.length := (List.getElem?_eq_some_iff.mp hu).1
  obtain ⟨y, hy, ry⟩ := rs.get hu
  have hsz : items.toArray.size = vs.length := by rw [List.size_toArray, hl]
  refine call_meets PySem.F.slot_list_pop ⟨_, g, rfl⟩ PySem.F.entry_list_pop (PySem.F.args_list_pop_1 _) (PySem.MeetsSeq.list_pop_last p.1 items.toArray n y (by rw [hsz]; simpa using hy) (by rw [hsz]; exact hs)) ⟨g, ?_⟩
  have up := IsL.update g (fun xs => xs.eraseIdxIfInBounds (items.toArray.size - 1))
  rw [hsz, erase_last items (vs.length - 1) (by lia)] at up
  rw [hsz]
  have O := own_set R ho hp (o' := .list vs.dropLast) (h' := s.heap.update p.1 (Obj.mapSeq fun xs => xs.eraseIdxIfInBounds (vs.length - 1))) (Heap.SameBut.update ..) (fun st => ⟨_, _, up, by rw [List.dropLast_eq_take]; exact (rs.take _).s st, h2, by rw [List.length_dropLast]; lia⟩) s.toks
  exact ⟨μ, O, ry.s O.step⟩
theorem dict_any {prog' : Program} {w' : World} {h : Heap} {a : Addr} {kvs : List (Int × Value)} (x : h.DictOf (intKind prog w) a kvs) : h.DictOf (intKind prog' w') a kvs := by
  obtain ⟨o, es, ep, e, ed, he, hk, hp, nd⟩ := x
  refine ⟨o, es, ep, e, ed, he, hk, ?_, nd⟩
  generalize es.toList = l at hp
  induction hp with
  | nil => exact .nil
  | cons h1 h2 _ ih => exact .cons h1 h2 (ih (by rw [List.map_cons, List.nodup_cons] at nd; exact nd.2))
theorem isD0 {h : Heap} {a : Addr} {kvs : List (Int × Value)} (x : h.DictOf (intKind prog w) a kvs) : IsDict0 h a := let ⟨o, es, ep, g, ed, dd, _⟩ := x; ⟨o, es, ep, g, ed, dd⟩
theorem dict_find {h : Heap} {k : Int} : ∀ {es : List (Int × V)} {kvs : List (Int × Value)}, es.map (·.1) = kvs.map (·.1) → VRels μ h (es.map (·.2)) (kvs.map (·.2)) → ∀ {e : Int × V}, (es.find? fun e => e.1 = k) = some e → ∃ y, valueAt kvs k = some y ∧ VRel μ h e.2 y := by
  intro es
  induction es with
  | nil => intro kvs _ _ e q; cases q
  | cons a es ih =>
    intro kvs he r e q
    cases kvs with
    | nil => cases he
    | cons b kvs =>
      rw [List.map_cons, List.map_cons, List.cons.injEq] at he
      cases r with
      | cons r1 r2 =>
        unfold valueAt
        rw [List.find?_cons] at q ⊢
        by_cases hk : a.1 = k
        · rw [decide_eq_true hk] at q
          cases q
          rw [show decide (b.1 = k) = true from decide_eq_true (he.1 ▸ hk)]
          exact ⟨_, rfl, r1⟩
        · rw [decide_eq_false hk] at q
          rw [show decide (b.1 = k) = false from decide_eq_false (he.1 ▸ hk)]
          exact ih he.2 r2 q
theorem dict_without {h : Heap} {k : Int} : ∀ {es : List (Int × V)} {kvs : List (Int × Value)}, es.map (·.1) = kvs.map (·.1) → VRels μ h (es.map (·.2)) (kvs.map (·.2)) → (es.filter fun e => e.1 ≠ k).map (·.1) = (without kvs k).map (·.1) ∧ VRels μ h ((es.filter fun e => e.1 ≠ k).map (·.2)) ((without kvs k).map (·.2)) := by
  intro es
  induction es with
  | nil =>
    intro kvs he _
    cases kvs with
    | nil => exact ⟨rfl, .nil⟩
    | cons _ _ => cases he
  | cons a es ih =>
    intro kvs he r
    cases kvs with
    | nil => cases he
    | cons b kvs =>
      rw [List.map_cons, List.map_cons, List.cons.injEq] at he
      cases r with
      | cons r1 r2 =>
        obtain ⟨i1, i2⟩ := ih he.2 r2
        unfold without at i1 i2 ⊢
        rw [List.filter_cons, List.filter_cons]
        by_cases hk : a.1 = k
        · rw [if_neg (by simpa using hk), if_neg (by simpa using he.1 ▸ hk)]
          exact ⟨i1, i2⟩
        · rw [if_pos (by simpa using hk), if_pos (by simpa using he.1 ▸ hk)]
          refine ⟨?_, .cons r1 i2⟩
          rw [List.map_cons, List.map_cons, i1, he.1]
theorem popK_sound (R : Rep C hb μ H s.heap) {x y v : V} {a b : Value} (e : popK H x y = some (v, H')) (r : VRel μ s.heap x a) (r2 : VRel μ s.heap y b) : wpAny (model prog w) A (call (.builtin "dict.pop") [a, b]) (EOut C hb μ s H' v) E s := by
  cases r <;> first | (cases e; done) | skip
  cases r2 <;> first | (cases e; done) | skip
  rename_i l p hp k t
  refine dictC e fun es ho e => ?_
  obtain ⟨u, hu, e⟩ := Option.map_eq_some_iff.mp e
  cases e
  obtain ⟨⟨h2, hm⟩, hi, hs, kvs, hd, he, rs⟩ := R.rel.objs _ _ _ ho hp
  obtain ⟨z, hz, rz⟩ := dict_find he rs hu
  have hl : es.length = kvs.length := by have := congrArg List.length he; simpa using this
  have hD := hd prog w
  refine call_meetsIn PySem.F.slot_dict_pop hD.typeIs PySem.F.entry_dict_pop (PySem.F.args_dict_pop_2 _ _) (meets_dict_pop_there (intKind prog w) p.1 (k := k) (by exact beq_self_eq_true k) [] (.inl rfl) rfl) ⟨kvs, z, hD, by rw [sizeLine_eq]; lia, hz, fun h' hmm sb => ?_⟩
  obtain ⟨w1, w2⟩ := dict_without (k := k) he rs
  have O := own_set R ho hp (o' := .dict (es.filter fun e => e.1 ≠ k)) sb (fun st => ⟨⟨h2, hm⟩, isD0 hmm, Nat.le_trans (List.length_filter_le _ _) hs, _, fun prog' w' => dict_any hmm, w1, w2.s st⟩) (s.toks + 1)
  exact ⟨μ, O, rz.s O.step⟩
theorem foldl_app : ∀ (n : Nat) (items : Array Value) (acc : Array Value), List.foldl (fun x1 x2 => x1 ++ x2) acc (List.replicate n items) = acc ++ (List.replicate n items.toList).flatten.toArray
  | 0, items, acc => by simp
  | n + 1, items, acc => by
    rw [List.replicate_succ, List.foldl_cons, foldl_app n, List.replicate_succ, List.flatten_cons]
    apply Array.ext'
    simp
theorem flat_one (x : Value) : ∀ n : Nat, (List.replicate n [x]).flatten = List.replicate n x
  | 0 => rfl
  | n + 1 => by rw [List.replicate_succ, List.flatten_cons, flat_one x n]; rfl
theorem rels_rep {h : Heap} {v : V} {x : Value} (r : VRel μ h v x) : ∀ n : Nat, VRels μ h (List.replicate n v) (List.replicate n x)
  | 0 => .nil
  | n + 1 => .cons r (rels_rep r n)
theorem mul_any {q : Addr} {items : Array Value} {n : Nat} {x : Int} {u : Tok} {Q : Value → Shared → Prop} {E : Value → Shared → Prop} (g : IsL s.heap q items n) (hf : Builtin.List.listFitsIndex x = true) (hsz : items.size * x.toNat ≤ 2 ^ 17)
    (h : Q (.ref s.heap.objs.size) { s with heap := s.heap.push { cls := .type "list", data := .seq (List.foldl (fun x1 x2 => x1 ++ x2) #[] (List.replicate (if items.isEmpty = true then 0 else x.toNat) items)) } }) :
    wpAny (model prog w) A (binaryOp .Mult (.ref q) (.int x u)) Q E s :=
  wpAny_binaryOp_repeat_ref (T := "list") (U := "int") (by decide) ⟨_, g, rfl⟩ (fun s' => typeIs_int s' x u) noFill_list_mul F.fills_int_mul F.slot_int_rmul repeat_list F.slot_int_index.lookup
    (call_meets F.slot_int_rmul (typeIs_int s x u) F.entry_int_rmul (F.args_int_rmul_2 _ _) (int___rmul___int_list x u q items n)
      ⟨g, rfl, ⟨_, g, rfl⟩, call_meets F.slot_list_mul ⟨_, g, rfl⟩ F.entry_list_mul (F.args_list_mul_2 _ _)
        (AutoListH.list___mul___list_int_3 q items n x u (by simpa using hf) (by lia) (by simp [Builtin.List.listTooLong, sizeLine]; lia))
        ⟨g, h⟩⟩)
theorem rep_sound (R : Rep C hb μ H s.heap) {x y : V} {vs : List V} {a b : Value} {q : Addr} (g : IsL s.heap q #[a] 0) (e : repV x y = some vs) (r1 : VRel μ s.heap x a) (r2 : VRel μ s.heap y b) :
    wpAny (model prog w) A (binaryOp .Mult (.ref q) b) (EOut C hb μ s (H ++ [.list vs]) (.ref H.length)) E s := by
  cases y with
  | int k =>
    refine if_got (show (if 0 ≤ k ∧ k ≤ 65536 then some (List.replicate k.toNat x) else none) = some vs from e) fun hk e => ?_
    subst e
    cases r2
    refine mul_any g (by unfold Builtin.List.listFitsIndex; simp; lia) (by show 1 * k.toNat ≤ 2 ^ 17; lia) ?_
    have q1 : (#[] ++ (List.replicate (if (#[a] : Array Value).isEmpty = true then 0 else k.toNat) (#[a] : Array Value).toList).flatten.toArray : Array Value) = (List.replicate k.toNat a).toArray := by
      rw [show (if (#[a] : Array Value).isEmpty = true then 0 else k.toNat) = k.toNat from rfl, show (#[a] : Array Value).toList = [a] from rfl, flat_one]
      simp
    rw [foldl_app, q1]
    exact own_new R (rels_rep r1 _) (by rw [List.length_replicate, sizeLine_eq]; lia)
  | _ => cases e
theorem rels_pick {h : Heap} {vs : List V} {items : List Value} (r : VRels μ h vs items) : ∀ js : List Nat, VRels μ h (js.filterMap (vs[·]?)) (js.filterMap (items[·]?))
  | [] => .nil
  | j :: js => by
    rw [List.filterMap_cons, List.filterMap_cons]
    cases q : vs[j]? with
    | some v =>
      obtain ⟨a, e, ra⟩ := r.get q
      rw [e]
      exact .cons ra (rels_pick r js)
    | none =>
      have : items[j]? = none := by rw [List.getElem?_eq_none_iff, r.length]; exact List.getElem?_eq_none_iff.mp q
      rw [this]
      exact rels_pick r js
theorem if_step {p : Prop} [Decidable p] {o : Option (List V)} {f : List V → List V} {vs : List V} {Q : Prop} (h : (if p then o.bind fun vs => if vs.length ≤ 1000 then some (f vs) else none else none) = some vs) (k : p → ∀ ws, o = some ws → ws.length ≤ 1000 → f ws = vs → Q) : Q := by
  by_cases q : p
  · rw [if_pos q] at h
    obtain ⟨ws, hw, h⟩ := Option.bind_eq_some_iff.mp h
    by_cases c : ws.length ≤ 1000
    · rw [if_pos c] at h; exact k q ws hw c (Option.some.inj h)
    · rw [if_neg c] at h; cases h
  · rw [if_neg q] at h; cases h
theorem pick_step {items : List Value} {l : Nat} {a n : Int} (hl : items.length = l) (h0 : 0 ≤ a) (hn : 0 < n) : slicePick items.toArray (some a) none (some n) = ((sliceRange (min a l) l n).filterMap (items[·]?)).toArray := by
  have hb1 : sliceBounds (some a) none (some n) items.toArray.size = (min a (l : Int), (l : Int), n) := by
    rw [List.size_toArray, hl]
    unfold sliceBounds
    simp only [Option.getD_some]
    rw [if_neg (by lia : ¬ a < 0), if_pos hn, if_pos hn]
    congr 1
    lia
  unfold slicePick
  rw [hb1]
  simp
theorem step_tail (ok : CxOk K C) (X : K.In hb) {x y z : V} {vs : List V} {H3 : Hp} {o l u : Value} {μ3 : Mu} {s3 : Shared} (e : stepV C H3 x y z = some vs) (O : Out C hb μ s μ3 H3 s3) (r1 : VRel μ3 s3.heap x o) (r2 : VRel μ3 s3.heap y l) (r3 : VRel μ3 s3.heap z u) :
    Shared.TypeIs { s3 with heap := s3.heap.push { cls := .type "slice", data := .fields #[l, .none, u] } } o "list" ∧ wpAny (model prog w) A (getItem o (.ref s3.heap.objs.size)) (EOut C hb μ s H3 (.fl vs)) E { s3 with heap := s3.heap.push { cls := .type "slice", data := .fields #[l, .none, u] } } := by
  cases r2 <;> first | (cases e; done) | skip
  cases r3 <;> first | (cases e; done) | skip
  rename_i a _ n _
  refine if_step (show (if 0 ≤ a ∧ a < 2 ^ 32 ∧ 0 < n ∧ n < 2 ^ 32 then (itemsOf C H3 x).bind fun vs => if vs.length ≤ 1000 then some ((sliceRange (min a vs.length) vs.length n).filterMap (vs[·]?)) else none else none) = some vs from e) fun hk ws hw hsz hv => ?_
  subst hv
  obtain ⟨q, items, k, rfl, g, rs⟩ := itemsOf_sound ok X O.rep hw r1
  have P1 := fun o => Out.push O.rep o s3.toks
  refine ⟨((IsL.isList g).push _).typeIs, wpAny_getItem_list_slice ((IsL.isList g).push _) (Heap.IsSliceOf.new ..) (.int _ _) .none (.int _ _) (by simp; lia) ?_ (by rw [List.size_toArray, rs.length, sizeLine_eq]; lia)⟩
  rw [pick_step rs.length hk.1 hk.2.2.1]
  obtain ⟨μ4, O4, r4⟩ := fl_new (P1 _).rep ((rels_pick rs _).s (P1 _).step)
  exact ⟨μ4, (O.trans (P1 _)).trans O4, r4⟩
theorem popV_list (R : Rep C hb μ H s.heap) {x v : V} {a : Value} (e : popV H x = some (v, H')) (r : VRel μ s.heap x a) : ∃ l items n, a = .ref l ∧ IsL s.heap l items n := by
  cases r <;> first | (cases e; done) | skip
  rename_i l p hp
  exact listC e fun vs ho _ => by
    obtain ⟨items, n, g, _⟩ := R.rel.objs _ _ _ ho hp
    exact ⟨_, _, _, rfl, g⟩
theorem isD_type (prog : Program) (w : World) (R : Rep C hb μ H s.heap) {x : V} {a : Value} (e : isD H x = some ()) (r : VRel μ s.heap x a) : s.TypeIs a "dict" ∧ ∀ b, a = .ref b → ∃ ob, s.heap.get? b = some ob ∧ ob.dict = none := by
  cases r <;> first | (cases e; done) | skip
  rename_i l p hp
  exact dictC (F := fun _ => some ()) e fun es ho _ => by
    obtain ⟨⟨_, hm⟩, _, hs, kvs, hd, _⟩ := R.rel.objs _ _ _ ho hp
    have hD := hd prog w
    refine ⟨hD.typeIs, fun b q => ?_⟩
    cases q
    obtain ⟨o, _, _, g, ed, _⟩ := hD
    exact ⟨o, g, ed.2.1⟩
theorem moreL_list (R : Rep C hb μ H s.heap) {x : V} {us : List V} {a : Value} (e : moreL H x us = some H') (r : VRel μ s.heap x a) : ∃ l p vs items n, a = .ref p.1 ∧ μ[l]? = some p ∧ H[l]? = some (.list vs) ∧ IsL s.heap p.1 items.toArray n ∧ VRels μ s.heap vs items ∧ p.2 = p.1 ∧ vs.length + us.length ≤ 65536 ∧ H' = H.set l (.list (vs ++ us)) := by
  cases r <;> first | (cases e; done) | skip
  rename_i l p hp
  refine listC e fun vs ho e => if_got e fun hs e => ?_
  obtain ⟨items, n, g, rs, h2, _⟩ := R.rel.objs _ _ _ ho hp
  exact ⟨l, p, vs, items, n, rfl, hp, ho, g, rs, h2, hs, e.symm⟩
theorem append_sound (R : Rep C hb μ H s.heap) {x v : V} {a b : Value} (e : moreL H x [v] = some H') (r : VRel μ s.heap x a) (rv : VRel μ s.heap v b) : wpAny (model prog w) A (call (.builtin "list.append") [a, b]) (fun _ => UOut C hb μ s H') E s := by
  obtain ⟨l, p, vs, items, n, rfl, hp, ho, g, rs, h2, hs, rfl⟩ := moreL_list R e r
  have hl := rs.length
  refine wpAny_list_append_plain ⟨n, g⟩ (fun h' hpl sb => ?_) (by rw [List.size_toArray, hl, sizeLine_eq]; simp at hs; lia)
  obtain ⟨n', g'⟩ := hpl
  have g' : IsL h' p.1 (items ++ [b]).toArray n' := by
    have : (items ++ [b]).toArray = items.toArray.push b := by simp
    rw [this]; exact g'
  exact ⟨μ, own_set R ho hp (o' := .list (vs ++ [v])) sb (fun st => ⟨_, n', g', (rs.append (.cons rv .nil)).s st, h2, by rw [List.length_append, sizeLine_eq]; lia⟩) s.toks⟩
end
end Mine
end
section
open PySem PySem.W PySem.Calls PyProof.Rows Builtin Builtin.ObjectAttr
set_option autoImplicit false
namespace Mine
section
variable {prog : Program} {w : World} {A : Around} {s : Shared} {K : Frag} {C : Cx} {hb : Heap} {mg mb : Str → Option Value} {μ : Mu} {H H' : Hp} {env : Env} {nm : List Str} {loc : Loc} {cf : CallF} {d : Nat}

def FnKnown (hb : Heap) (cf : CallF) : Prop := ∀ f args H r, cf f args H = some r → FnAt f hb
theorem fnAt_up {f : Addr} {h h' : Heap} (k : ∀ b o, h.get? b = some o → h'.get? b = some o) (x : FnAt f h) : FnAt f h' := let ⟨a, b, c, d, e⟩ := x; ⟨a, b, c, d, k _ _ e⟩
theorem keeps_MF {M : Model} {q f : Addr} {self : Value} (h : Heap) (X : h.get? q = some (methodObj (.ref f) self) ∧ FnAt f h) : ∃ k, (k = Keeper.frame ∨ k = Keeper.machine ∨ k = Keeper.boundFrame) ∧ Looks M h (keeperOf (.ref q)) k := by
  obtain ⟨_, _, _, _, e⟩ := X.2
  refine ⟨.boundFrame, .inr (.inr rfl), (Looks.ld (part := none) X.1).andThen ?_⟩
  exact (Looks.ld (part := none) e).andThen .now

theorem evalArgs_of {f : Value} {EE : Value → Shared → Prop} {es : E} {xs : List Expr} {pos : Pos} {Q : Args → Shared → Prop} (hx : chkEs C env.scope nm es xs = true)
    (h : wpAny (model prog w) A (spliced (backTo pos (starEach xs env))) (fun vs s' => Q ⟨vs, []⟩ s') EE s) : wpAny (model prog w) A (evalArgs f true (backTo pos (starEach xs env)) []) Q EE s := by
  cases xs with
  | nil =>
    unfold evalArgs
    show wpAny _ A (spliced (backTo pos (starEach [] env)) >>= _) _ _ s
    refine wpAny_bind (wpAny_mono h (fun vs s' h' => ?_) fun _ _ x => x)
    refine wpAny_holding ?_
    exact wpAny_bind (wpAny_pure (wpAny_bind (wpAny_pure (wpAny_pure h'))))
  | cons x xs =>
    obtain ⟨h1, h2⟩ := starPlain (env := env) es (x :: xs) hx pos
    have st := h2 x xs rfl
    rw [st] at h ⊢
    exact evalArgs_plain h

theorem call_tail (co : CallOk C hb prog w cf d) (hA : AOk A d) {μ' : Mu} {s' : Shared} (O : Out C hb μ s μ' H s') {f : V} {fv : Value} {args : List V} {vals : List Value} {V : V} (e : callV cf f args H = some (V, H'))
    (rf : VRel μ' s'.heap f fv) (ra : VRels μ' s'.heap args vals) : wpAny (model prog w) A (call fv ([] ++ vals) []) (EOut C hb μ s H' V) noE s' := by
  unfold callV at e
  split at e
  · cases rf
    refine wpAny_call (codeAny_mono (co _ _ _ _ _ e A s' μ' vals hA O.rep ra) ?_)
    rintro r s'' ⟨v, rfl, μ'', O', rv⟩
    exact ⟨μ'', O.trans O', rv⟩
  · cases rf with
    | meth hp hq hn =>
      refine wpAny_call (method_call hq ?_)
      refine codeAny_mono (co _ _ _ _ _ e A s' μ' (_ :: vals) hA O.rep (.cons (.ref hp) ra)) ?_
      rintro r s'' ⟨v, rfl, μ'', O', rv⟩
      exact ⟨μ'', O.trans O', rv⟩
  · cases e

theorem call_keeper (kn : FnKnown hb cf) (R : Rep C hb μ H s.heap) {f : V} {fv : Value} {args : List V} {H₂ : Hp} {r : V × Hp} (e : callV cf f args H₂ = some r) (rf : VRel μ s.heap f fv) :
    ∃ P : Heap → Prop, P s.heap ∧ (∀ μ' s' H'', Out C hb μ s μ' H'' s' → P s'.heap) ∧ ∀ h, P h → ∃ k, (k = Keeper.frame ∨ k = Keeper.machine ∨ k = Keeper.boundFrame) ∧ Looks (model prog w) h (keeperOf fv) k := by
  unfold callV at e
  split at e
  · cases rf
    exact ⟨FnAt _, fnAt_up R.base (kn _ _ _ _ e), fun _ _ _ O => fnAt_up O.rep.base (kn _ _ _ _ e), keeps_F⟩
  · cases rf with
    | meth hp hq hn =>
      exact ⟨_, ⟨hq, fnAt_up R.base (kn _ _ _ _ e)⟩, fun _ _ _ O => ⟨O.step.keep _ _ hn (fun q => nomatch q) hq, fnAt_up O.rep.base (kn _ _ _ _ e)⟩, keeps_MF⟩
  · cases e

theorem bC {α β : Type} {o : Option α} {f : α → Option β} {r : β} {Q : Prop} (h : o.bind f = some r) (k : ∀ a, o = some a → f a = some r → Q) : Q := by
  cases o with
  | none => cases h
  | some a => exact k a rfl h
theorem sC {α β : Type} {x a : α} {y b : β} {P : α → β → Prop} (h : some (x, y) = some (a, b)) (k : P x y) : P a b := by cases h; exact k
theorem mono_no {α : Type} {M : Model} {t : Sem α} {Q Q' : α → Shared → Prop} (h : wpAny M A t Q noE s) (k : ∀ a s, Q a s → Q' a s) : wpAny M A t Q' noE s := wpAny_mono h k fun _ _ x => x
section
variable {M : Model} {s1 s2 : Shared} {μ1 : Mu} {v : V} {H1 : Hp}
theorem eO {p : Value} (O : Out C hb μ s μ1 H s1) (r : VRel μ1 s1.heap v p) : EOut C hb μ s H v p s1 := ⟨μ1, O, r⟩
theorem eT {t : Sem Value} {Q : Value → Shared → Prop} (h : wpAny M A t (EOut C hb μ s H v) noE s1) (k : ∀ p s2 μ1, Out C hb μ s μ1 H s2 → VRel μ1 s2.heap v p → Q p s2) : wpAny M A t Q noE s1 := mono_no h fun p s2 ⟨μ1, O, r⟩ => k p s2 μ1 O r
theorem lT {t : Sem (List Value)} {vs : List V} {Q : List Value → Shared → Prop} (h : wpAny M A t (LOut C hb μ s H vs) noE s1) (k : ∀ ps s2 μ1, Out C hb μ s μ1 H s2 → VRels μ1 s2.heap vs ps → Q ps s2) : wpAny M A t Q noE s1 := mono_no h fun p s2 ⟨μ1, O, r⟩ => k p s2 μ1 O r
theorem tT {t : Sem Bool} {b : Bool} {Q : Bool → Shared → Prop} (h : wpAny M A t (BOut C hb μ s H b) noE s1) (k : ∀ s2 μ1, Out C hb μ s μ1 H s2 → Q b s2) : wpAny M A t Q noE s1 := mono_no h fun p s2 ⟨e, μ1, O⟩ => pe (P := fun p => Q p s2) e (k s2 μ1 O)
theorem eA {t : Sem Value} (O : Out C hb μ s μ1 H s1) (h : wpAny M A t (EOut C hb μ1 s1 H1 v) noE s2) : wpAny M A t (EOut C hb μ s H1 v) noE s2 := mono_no h fun p s2 ⟨μ2, O2, r⟩ => ⟨μ2, O.trans O2, r⟩
theorem tA {t : Sem Bool} {b : Bool} (O : Out C hb μ s μ1 H s1) (h : wpAny M A t (BOut C hb μ1 s1 H1 b) noE s2) : wpAny M A t (BOut C hb μ s H1 b) noE s2 := mono_no h fun p s2 ⟨e, μ2, O2⟩ => ⟨e, μ2, O.trans O2⟩
end

theorem args_len : ∀ (es : E) {sc : Scope} {xs : List Expr} {H : Hp} {V : V} {H' : Hp}, chkEs C sc nm es xs = true → evalE C cf loc es H = some (V, H') → (argsOf V).length = xs.length := by
  intro es
  induction es with
  | cons a r _ ihr =>
    intro sc xs H V H' hx he
    exact chks_cons (P := fun xs => (argsOf V).length = xs.length) hx fun y ys h1 h2 => bC (o := evalE C cf loc a H) he fun u e1 he => bC (o := evalE C cf loc r u.2) he fun v e2 he =>
      sC (P := fun V _ => (argsOf V).length = ys.length + 1) he (congrArg (· + 1) (ihr (V := v.1) (H' := v.2) h2 e2))
  | nil =>
    intro sc xs H V H' hx he
    rw [chks_nil hx]
    cases he
    rfl
  | _ => intro sc xs H V H' hx; exact no hx

section
variable (prog : Program) (w : World) (C : Cx) (hb : Heap) (env : Env) (nm : List Str) (loc : Loc) (cf : CallF) (d : Nat) (e : E)
def GV (A : Around) (s : Shared) (μ : Mu) (H' : Hp) (V : V) (x : Expr) : Prop := wpAny (model prog w) A (eval x env) (EOut C hb μ s H' V) noE s
def GL (A : Around) (s : Shared) (μ : Mu) (pos : Pos) (H' : Hp) (V : V) (xs : List Expr) : Prop := wpAny (model prog w) A (spliced (backTo pos (starEach xs env))) (LOut C hb μ s H' (argsOf V)) noE s
def GB (A : Around) (s : Shared) (μ : Mu) (b : Bool) (H' : Hp) (x : Expr) : Prop := wpAny (model prog w) A (isTrue x env (eval x env)) (BOut C hb μ s H' b) noE s
def PV : Prop := ∀ x H V H' A s μ, chkE C env.scope nm e x = true → evalE C cf loc e H = some (V, H') → AOk A d → Rep C hb μ H s.heap → FrI env nm loc μ s.heap → GV prog w C hb env A s μ H' V x
def PL : Prop := ∀ xs H V H' A s μ pos, chkEs C env.scope nm e xs = true → evalE C cf loc e H = some (V, H') → AOk A d → Rep C hb μ H s.heap → FrI env nm loc μ s.heap → GL prog w C hb env A s μ pos H' V xs
def PB : Prop := ∀ x H V H' b A s μ, chkB C env.scope nm e x = true → evalE C cf loc e H = some (V, H') → truthH H' V = some b → AOk A d → Rep C hb μ H s.heap → FrI env nm loc μ s.heap → GB prog w C hb env A s μ b H' x
def Pe : Prop := PV prog w C hb env nm loc cf d e ∧ PL prog w C hb env nm loc cf d e ∧ PB prog w C hb env nm loc cf d e
end
theorem gS {z V : V} {x : Expr} {K : Hp} (h : some (z, K) = some (V, H')) (k : GV prog w C hb env A s μ K z x) : GV prog w C hb env A s μ H' V x := by cases h; exact k
theorem lS {z V : V} {pos : Pos} {x : List Expr} {K : Hp} (h : some (z, K) = some (V, H')) (k : GL prog w C hb env A s μ pos K z x) : GL prog w C hb env A s μ pos H' V x := by cases h; exact k
theorem noV {e : E} (h : ∀ xs, chkE C env.scope nm e xs = false) : PV prog w C hb env nm loc cf d e := fun xs _ _ _ _ _ _ hx => by rw [h xs] at hx; cases hx
theorem noEs {e : E} (h : ∀ xs, chkEs C env.scope nm e xs = false) : PL prog w C hb env nm loc cf d e := fun xs _ _ _ _ _ _ _ hx => by rw [h xs] at hx; cases hx
theorem noB {e : E} (h : ∀ xs, chkB C env.scope nm e xs = false) : PB prog w C hb env nm loc cf d e := fun x _ _ _ _ _ _ _ hx => by rw [h x] at hx; cases hx
theorem onlyV {e : E} (h : PV prog w C hb env nm loc cf d e) (h1 : ∀ xs, chkEs C env.scope nm e xs = false) (h2 : ∀ xs, chkB C env.scope nm e xs = false) : Pe prog w C hb env nm loc cf d e := ⟨h, noEs h1, noB h2⟩
theorem onlyB {e : E} (h : PB prog w C hb env nm loc cf d e) (h1 : ∀ xs, chkE C env.scope nm e xs = false) (h2 : ∀ xs, chkEs C env.scope nm e xs = false) : Pe prog w C hb env nm loc cf d e := ⟨noV h1, noEs h2, h⟩
def BForm (env : Env) (x : Expr) : Prop := isTrue x env (eval x env) = (do let v ← eval x env; standAt x.pos; holding [v] (truthy v))
theorem valT {e : E} (h : PV prog w C hb env nm loc cf d e) (h1 : ∀ xs, chkEs C env.scope nm e xs = false) (hc : ∀ x, chkB C env.scope nm e x = true → chkE C env.scope nm e x = true) (hf : ∀ x, chkB C env.scope nm e x = true → BForm env x) : Pe prog w C hb env nm loc cf d e :=
  ⟨h, noEs h1, fun x H V H' b A s μ hx he ht hA R F => wpAny_isTrue_value (eT (h x H V H' A s μ (hc x hx) he hA R F) fun p s2 μ' O r => truthH_sound O.rep ht r fun t => ⟨rfl, μ', O.trans (Out.tok O.rep t)⟩) (hf x hx)⟩

section
variable {s1 : Shared} {μ1 : Mu} {Q : Prop}
theorem inv_sound {u : V × Hp} {V : V} {a : Value} (he : (match u.1 with | .int i => some (.int (Builtin.bitNot i), u.2) | _ => none) = some (V, H')) (O : Out C hb μ s μ1 u.2 s1) (r : VRel μ1 s1.heap u.1 a) : wpAny (model prog w) A (unaryOp .Invert a) (EOut C hb μ s H' V) noE s1 := by
  obtain ⟨v, H⟩ := u
  cases v <;> first | (cases he; done) | skip
  cases he
  cases r
  exact invert_int ⟨μ1, O.trans (Out.tok O.rep _), .int _ _⟩
theorem neg_sound {u : V × Hp} {V : V} {a : Value} (he : (match u.1 with | .int i => some (.int (-i), u.2) | _ => none) = some (V, H')) (O : Out C hb μ s μ1 u.2 s1) (r : VRel μ1 s1.heap u.1 a) : wpAny (model prog w) A (unaryOp .USub a) (EOut C hb μ s H' V) noE s1 := by
  obtain ⟨v, H⟩ := u
  cases v <;> first | (cases he; done) | skip
  cases he
  cases r
  exact PyProof.Rows.neg_int ⟨μ1, O.trans (Out.tok O.rep _), .int _ _⟩
theorem un_line (h : A.units + 8 * d < 9000) : A.units < cLine := by unfold cLine; lia
theorem no_slice {r : Expr} (h : isSlice r = false) (l : Addr) (k : Int) (u : Tok) : subscripted r false (.ref l) (.int k u) = operate [.ref l, .int k u] (getItem (.ref l) (.int k u)) := by
  cases r <;> first | rfl | cases h
theorem len_line {es : V} {xs : List Expr} {vs : List Value} {h : Heap} (r : VRels μ h (argsOf es) vs) (e : (argsOf es).length = xs.length) (hx : xs.length ≤ 1000) : vs.length ≤ sizeLine := by
  rw [r.length, e, sizeLine_eq]; lia
theorem one_line {v : Value} : [v].length ≤ sizeLine := by simp [sizeLine]
theorem arm_call {fx : Expr} {xs : List Expr} {pos : Pos} (h : isAttr fx = false) : eval (.Call fx xs [] pos) env = (do callWith pos (← eval fx env) [] (backTo pos (starEach xs env)) []) := by
  cases fx <;> first | rfl | cases h
theorem few_args {xs : List Expr} {pos : Pos} (pl : (backTo pos (starEach xs env)).any (·.1) = false) (h : xs.length ≤ 20) : methodCallForm (xs.length + ([] : List Keyword).length) (backTo pos (starEach xs env)) (backToKw pos (keywordEach [] env)) = true := by
  unfold methodCallForm
  have : (backTo pos (starEach xs env)).all (fun x => !x.1) = true := by
    rw [List.all_eq_true]
    intro q hq
    have := List.any_eq_false.mp pl q hq
    simpa using this
  rw [this]
  show (true && true && decide (xs.length + 0 + 0 < 30)) = true
  simp; lia
theorem if_some {α : Type} {p : Prop} [Decidable p] {x r : α} (h : (if p then some x else none) = some r) (k : p → some x = some r → Q) : Q := by
  by_cases q : p
  · rw [if_pos q] at h; exact k q h
  · rw [if_neg q] at h; cases h
theorem part_sound {e : E} {a : Option Expr} {v : V} (ih : Pe prog w C hb env nm loc cf d e) (hc : chkEnd (chkE C env.scope nm e) e a = true) (hv : evalE C cf loc e H = some (v, H')) (hA : AOk A d) (R : Rep C hb μ H s.heap) (F : FrI env nm loc μ s.heap) : wpAny (model prog w) A (evalPart a env) (EOut C hb μ s H' v) noE s := by
  cases a with
  | some y => exact wpAny_evalPart_some (ih.1 _ _ _ _ _ _ _ hc hv hA R F)
  | none =>
    cases e with
    | cst u =>
      cases u with
      | none => cases hv; exact wpAny_evalPart_none (eO (Out.refl R) .none)
      | _ => cases hc
    | _ => cases hc
theorem new_own {es : V} {xs : List Expr} {vs : List Value} (O : Out C hb μ s μ1 H s1) (r : VRels μ1 s1.heap (argsOf es) vs) (e : (argsOf es).length = xs.length) (hx : xs.length ≤ 1000) : EOut C hb μ s (H ++ [.list (argsOf es)]) (.ref H.length) (.ref s1.heap.objs.size) { s1 with heap := s1.heap.push { cls := .type "list", data := .seq vs.toArray } } := by
  obtain ⟨μ2, O2, r2⟩ := own_new O.rep r (by rw [e, sizeLine_eq]; lia)
  exact ⟨μ2, O.trans O2, r2⟩
theorem len_sound (ok : CxOk K C) (X : K.In hb) {z : V} {u : V × Hp} {v : Value} (O : Out C hb μ s μ1 u.2 s1) (e : lenV C u.2 u.1 = some z) (r : VRel μ1 s1.heap u.1 v) : wpAny (model prog w) A (call (.builtin "len") [v] []) (EOut C hb μ s u.2 z) noE s1 := by
  unfold lenV at e
  split at e
  · rename_i vs hi
    refine if_some e fun hl e => ?_
    cases e
    obtain ⟨l, items, n, rfl, gl, rs⟩ := itemsOf_sound ok X O.rep hi r
    have hlen := rs.length
    refine call_len_list (IsL.isList gl) (by simp only [List.size_toArray]; lia) ?_
    rw [show ((items.toArray.size : Nat) : Int) = (vs.length : Int) by simp [hlen]]
    exact eO ((O.trans (Out.tok O.rep _)).trans (Out.tok O.rep _)) (.int _ _)
  · cases e
end
variable (ok : CxOk K C) (B : Base K hb mg mb) (co : CallOk C hb prog w cf d) (kn : FnKnown hb cf)
include ok B co kn

theorem evalE_sound (e : E) : Pe prog w C hb env nm loc cf d e := by
  induction e with
  | cst v =>
    refine onlyV (fun x H V H' A s μ hx he hA R F => gS he ?_) (fun _ => rfl) (fun _ => rfl)
    exact chk_cst hx (fun c k pos h1 => cst_sound R h1) fun a y pos e h1 h2 h3 => glob_sound ok B R F h1 h2 h3 (eO (Out.refl R) (pe (P := fun v => VRel μ s.heap v _) e (.kref _)))
  | loc i =>
    exact valT (fun x H V H' A s μ hx he hA R F => loc_c hx fun y pos h1 h2 => bC (o := locV loc i) he fun v hv he => gS he (name_sound F hv h1 h2 fun u r => eO (Out.refl R) r)) (fun _ => rfl) (fun _ h => h) fun x hx => loc_c hx fun _ _ _ _ => rfl
  | bin op a b iha ihb =>
    refine valT (fun x H V H' A s μ hx he hA R F => bin_c hx fun l r pos h1 h2 => bC (o := evalE C cf loc a H) he fun u e1 he => bC (o := evalE C cf loc b u.2) he fun v e2 he => bC (o := binV op u.1 v.1) he fun z e3 he => gS he ?_) (fun _ => rfl) (fun _ h => h) fun x hx => bin_c hx fun _ _ _ _ _ => rfl
    exact wpAny_BinOp (eT (iha.1 _ _ _ _ _ _ _ h1 e1 hA R F) fun p s1 μ1 O1 r1 => eT (ihb.1 _ _ _ _ _ _ _ h2 e2 hA O1.rep (F.s O1.step)) fun q s2 μ2 O2 r2 =>
      binV_sound e3 (r1.s O2.step) r2 fun i hi => eO ((O1.trans O2).trans (Out.tok O2.rep _)) (pe (P := fun z => VRel _ _ z _) hi (.int _ _)))
  | inv a iha =>
    refine onlyV (fun x H V H' A s μ hx he hA R F => inv_c hx fun l pos h1 => bC (o := evalE C cf loc a H) he fun u e1 he => wpAny_UnaryOp (eT (iha.1 _ _ _ _ _ _ _ h1 e1 hA R F) fun p s1 μ1 O1 r1 => ?_)) (fun _ => rfl) (fun _ => rfl)
    exact inv_sound he O1 r1
  | cmp op a b iha ihb =>
    have core : ∀ {l r : Expr} {Q : Value → Shared → Prop} {H V H' A s μ}, chkE C env.scope nm a l = true → chkE C env.scope nm b r = true → evalE C cf loc (.cmp op a b) H = some (V, H') → AOk A d → Rep C hb μ H s.heap → FrI env nm loc μ s.heap →
        (∀ z μ' s', V = .bool z → Out C hb μ s μ' H' s' → Q (.bool z) s') → wpAny (model prog w) A (eval l env) (fun p s₁ => wpAny (model prog w) A (eval r env) (fun q s₂ => wpAny (model prog w) A (compareOp op p q) Q noE s₂) noE s₁) noE s :=
      fun h1 h2 he hA R F hQ => bC (o := evalE C cf loc a _) he fun u e1 he => bC (o := evalE C cf loc b u.2) he fun v e2 he => bC (o := cmpH C v.2 op u.1 v.1) he fun z e3 he =>
        eT (iha.1 _ _ _ _ _ _ _ h1 e1 hA R F) fun p s1 μ1 O1 r1 => eT (ihb.1 _ _ _ _ _ _ _ h2 e2 hA O1.rep (F.s O1.step)) fun q s2 μ2 O2 r2 =>
          cmpH_sound ok B.X O2.rep (un_line hA.un) e3 (r1.s O2.step) r2 fun t => hQ z μ2 _ (sC (P := fun V _ => V = .bool z) he rfl) (sC (P := fun _ H' => Out C hb _ _ μ2 H' _) he ((O1.trans O2).trans (Out.tok O2.rep t)))
    exact ⟨fun x H V H' A s μ hx he hA R F => cmp_c hx fun l r pos h0 h1 h2 => wpAny_Compare1 (core h1 h2 he hA R F fun z μ' s' hz O => eO O (pe (P := fun z => VRel _ _ z _) hz (.bool _))) h0, noEs fun _ => rfl,
      fun x H V H' b' A s μ hx he ht hA R F => cmp_c hx fun l r pos h0 h1 h2 => wpAny_isTrue_Compare1 (core h1 h2 he hA R F fun z μ' s' hz O => wpAny_truthy_bool ⟨by rw [hz] at ht; exact Option.some.inj ht, μ', O⟩) h0⟩
  | and a b iha ihb =>
    refine ⟨fun x H V H' A s μ hx he hA R F => two_c hx fun l r pos h1 h2 => bC (o := evalE C cf loc a H) he fun u e1 he => bC (o := truthH u.2 u.1) he fun t e2 he => ?_, noEs fun _ => rfl, fun x H V H' b' A s μ hx he ht hA R F => ?_⟩
    · refine wpAny_And2 (eT (iha.1 _ _ _ _ _ _ _ h1 e1 hA R F) fun p s1 μ1 O1 r1 => truthH_sound O1.rep e2 r1 fun tk => ?_)
      cases t with
      | true => exact eA (O1.trans (Out.tok O1.rep tk)) (ihb.1 _ _ _ _ _ _ _ h2 he hA O1.rep (F.s O1.step))
      | false => exact sC (P := fun V H' => EOut C hb μ s H' V p { s1 with toks := tk }) he (eO (O1.trans (Out.tok O1.rep tk)) r1)
    · refine many_c (f := chkB C env.scope nm a) (g := chkB C env.scope nm b) hx fun l y rr pos h1 h2 => bC (o := evalE C cf loc a H) he fun u e1 he => bC (o := truthH u.2 u.1) he fun t e2 he =>
        wpAny_isTrue_BoolOp (wpAny_allTrue_And_cons (tT (iha.2.2 _ _ _ _ _ _ _ _ h1 e1 e2 hA R F) fun s1 μ1 O1 => ?_))
      cases t with
      | false => exact ⟨sC (P := fun V H => truthH H V = some b' → false = b') he (fun q => Option.some.inj (e2.symm.trans q)) ht, μ1, sC (P := fun _ H => Out C hb _ _ μ1 H _) he O1⟩
      | true =>
        cases rr with
        | nil =>
          refine wpAny_allTrue_And_cons (tT (ihb.2.2 _ _ _ _ _ _ _ _ h2 he ht hA O1.rep (F.s O1.step)) fun s2 μ2 O2 => ?_)
          cases b' with
          | false => exact ⟨rfl, μ2, O1.trans O2⟩
          | true => exact wpAny_allTrue_And_nil ⟨rfl, μ2, O1.trans O2⟩
        | cons z zs =>
          have := ihb.2.2 _ _ _ _ _ _ _ _ h2 he ht hA O1.rep (F.s O1.step)
          unfold GB at this
          rw [arm_isTrue_BoolOp] at this
          exact tA O1 this
  | or a b iha ihb =>
    refine ⟨fun x H V H' A s μ hx he hA R F => two_c hx fun l r pos h1 h2 => bC (o := evalE C cf loc a H) he fun u e1 he => bC (o := truthH u.2 u.1) he fun t e2 he => ?_, noEs fun _ => rfl, fun x H V H' b' A s μ hx he ht hA R F => ?_⟩
    · refine wpAny_Or2 (eT (iha.1 _ _ _ _ _ _ _ h1 e1 hA R F) fun p s1 μ1 O1 r1 => truthH_sound O1.rep e2 r1 fun tk => ?_)
      cases t with
      | false => exact eA (O1.trans (Out.tok O1.rep tk)) (ihb.1 _ _ _ _ _ _ _ h2 he hA O1.rep (F.s O1.step))
      | true => exact sC (P := fun V H' => EOut C hb μ s H' V p { s1 with toks := tk }) he (eO (O1.trans (Out.tok O1.rep tk)) r1)
    · refine many_c (f := chkB C env.scope nm a) (g := chkB C env.scope nm b) hx fun l y rr pos h1 h2 => bC (o := evalE C cf loc a H) he fun u e1 he => bC (o := truthH u.2 u.1) he fun t e2 he =>
        wpAny_isTrue_BoolOp (wpAny_allTrue_Or_cons (tT (iha.2.2 _ _ _ _ _ _ _ _ h1 e1 e2 hA R F) fun s1 μ1 O1 => ?_))
      cases t with
      | true => exact ⟨sC (P := fun V H => truthH H V = some b' → true = b') he (fun q => Option.some.inj (e2.symm.trans q)) ht, μ1, sC (P := fun _ H => Out C hb _ _ μ1 H _) he O1⟩
      | false =>
        cases rr with
        | nil =>
          refine wpAny_allTrue_Or_cons (tT (ihb.2.2 _ _ _ _ _ _ _ _ h2 he ht hA O1.rep (F.s O1.step)) fun s2 μ2 O2 => ?_)
          cases b' with
          | false => exact wpAny_allTrue_Or_nil ⟨rfl, μ2, O1.trans O2⟩
          | true => exact ⟨rfl, μ2, O1.trans O2⟩
        | cons z zs =>
          have := ihb.2.2 _ _ _ _ _ _ _ _ h2 he ht hA O1.rep (F.s O1.step)
          unfold GB at this
          rw [arm_isTrue_BoolOp] at this
          exact tA O1 this
  | ite c a b ihc iha ihb =>
    refine onlyV (fun x H V H' A s μ hx he hA R F => if_c (f := chkB C env.scope nm c) (g := chkE C env.scope nm a) (e := chkE C env.scope nm b) hx fun t l r pos h0 h1 h2 => bC (o := evalE C cf loc c H) he fun u e1 he => bC (o := truthH u.2 u.1) he fun t e2 he =>
      wpAny_IfExp (tT (ihc.2.2 _ _ _ _ _ _ _ _ h0 e1 e2 hA R F) fun s1 μ1 O1 => ?_)) (fun _ => rfl) (fun _ => rfl)
    cases t with
    | true => exact eA O1 (iha.1 _ _ _ _ _ _ _ h1 he hA O1.rep (F.s O1.step))
    | false => exact eA O1 (ihb.1 _ _ _ _ _ _ _ h2 he hA O1.rep (F.s O1.step))
  | attr i a =>
    exact valT (fun x H V H' A s μ hx he hA R F => attr_c hx fun y n p pos h1 h2 h3 => bC (o := locV loc i) he fun v hv he => bC (o := attrV C H v a) he fun z hz he => gS he (Attribute_name (name_sound F hv h1 h2 fun u r => getAttr_sound ok B.X R hz h3 r))) (fun _ => rfl) (fun _ h => h) fun x hx => attr_c hx fun _ _ _ _ _ _ _ => rfl
  | sub o i iho ihi =>
    exact onlyV (fun x H V H' A s μ hx he hA R F => sub_c (f := chkE C env.scope nm o) (g := chkE C env.scope nm i) hx fun l r pos h1 h2 h3 => bC (o := evalE C cf loc o H) he fun u e1 he => bC (o := evalE C cf loc i u.2) he fun v e2 he => bC (o := subV C v.2 u.1 v.1) he fun z e3 he => gS he
      (Subscript_ (eT (iho.1 _ _ _ _ _ _ _ h1 e1 hA R F) fun p s1 μ1 O1 r1 => eT (ihi.1 _ _ _ _ _ _ _ h2 e2 hA O1.rep (F.s O1.step)) fun q s2 μ2 O2 r2 =>
        subV_sound ok B.X O2.rep e3 (r1.s O2.step) r2 (no_slice h3) fun u ru => eO (O1.trans O2) ru))) (fun _ => rfl) (fun _ => rfl)
  | nil => exact ⟨noV fun _ => rfl, fun xs H V H' A s μ pos hx he hA R F => pe (chks_nil hx) (lS he (wpAny_items_nil ⟨μ, Out.refl R, .nil⟩)), noB fun _ => rfl⟩
  | cons a r iha ihr =>
    exact ⟨noV fun _ => rfl, fun xs H V H' A s μ pos hx he hA R F => chks_cons hx fun y ys h1 h2 => bC (o := evalE C cf loc a H) he fun u e1 he => bC (o := evalE C cf loc r u.2) he fun v e2 he => lS he
      (wpAny_items_cons (eT (iha.1 _ _ _ _ _ _ _ h1 e1 hA R F) fun p s1 μ1 O1 r1 => lT (ihr.2.1 _ _ _ _ _ _ _ _ h2 e2 hA O1.rep (F.s O1.step)) fun q s2 μ2 O2 r2 => ⟨μ2, O1.trans O2, .cons (r1.s O2.step) r2⟩) (star_of (chk_odd h1))), noB fun _ => rfl⟩
  | flist es ih =>
    exact onlyV (fun x H V H' A s μ hx he hA R F => list_c hx fun xs pos h1 h2 => bC (o := evalE C cf loc es H) he fun u e1 he => gS he
      (wpAny_List (lT (ih.2.1 _ _ _ _ _ _ _ pos h1 e1 hA R F) fun vs s1 μ1 O1 r1 => ⟨len_line r1 (args_len es h1 e1) h2, eO (O1.trans (Out.push O1.rep _ _))
        (.fl (n := 0) (Heap.get?_push_size _ rfl) (notOwn_new O1.rep (Nat.le_refl _)) (r1.s (O1.rep.push { cls := .type "list", data := .seq vs.toArray }).1))⟩))) (fun _ => rfl) (fun _ => rfl)
  | tup es ih =>
    exact onlyV (fun x H V H' A s μ hx he hA R F => tup_c hx fun xs c pos h1 h2 => bC (o := evalE C cf loc es H) he fun u e1 he => gS he
      (wpAny_Tuple (lT (ih.2.1 _ _ _ _ _ _ _ pos h1 e1 hA R F) fun vs s1 μ1 O1 r1 => ⟨len_line r1 (args_len es h1 e1) h2, eO (O1.trans (Out.push O1.rep _ _))
        (.tup (n := 0) (Heap.get?_push_size _ rfl) (notOwn_new O1.rep (Nat.le_refl _)) (r1.s (O1.rep.push { cls := .type "tuple", data := .seq vs.toArray }).1))⟩))) (fun _ => rfl) (fun _ => rfl)
  | call f args ihf iha =>
    refine onlyV (fun x H V H' A s μ hx he hA R F => call_c hx fun fx xs pos h1 h2 h3 h4 => bC (o := evalE C cf loc f H) he fun g e1 he => bC (o := evalE C cf loc args g.2) he fun v e2 e3 => ?_) (fun _ => rfl) (fun _ => rfl)
    unfold GV
    rw [arm_call h3]
    refine wpAny_bind (eT (ihf.1 _ _ _ _ _ _ _ h1 e1 hA R F) fun fv s1 μ1 O1 r1 => ?_)
    obtain ⟨P, p0, p1, p2⟩ := call_keeper (prog := prog) (w := w) kn O1.rep e3 r1
    exact callWith_of (P := P) ((starPlain (env := env) _ _ h2 pos).1.symm ▸ rfl) p2 (evalArgs_of h2 (lT (iha.2.1 _ _ _ _ _ _ _ pos h2 e2 hA O1.rep (F.s O1.step)) fun vs s2 μ2 O2 r2 => ⟨p1 _ _ _ O2, call_tail co hA (O1.trans O2) e3 (r1.s O2.step) r2⟩))
  | len a iha =>
    exact onlyV (fun x H V H' A s μ hx he hA R F => named_c (n := "len") hx fun p y pos h1 h2 => bC (o := evalE C cf loc a H) he fun u e1 he => bC (o := lenV C u.2 u.1) he fun z e2 he => gS he
      (wpAny_Call_NameR (Name_function_global F.fk h1 (loadGlobal_builtin (env := env) (by rw [F.gl]; exact B.g.keeps R.base) (mg_none_of B.X B.g ok.ln) (by rw [F.bl]; exact B.b.keeps R.base) ((B.builtins _ (by decide)).trans (by rfl))
        (pe (P := fun l => wpAny (model prog w) A (callWith pos _ [] (backTo pos l) []) _ noE s) (star_of (chk_odd h2)) (Calls.callWith_builtin rfl (Calls.evalArgs_plain (Calls.spliced_cons (eT (iha.1 _ _ _ _ _ _ _ h2 e1 hA R F) fun v s1 μ1 O1 r1 => Calls.spliced_nil (len_sound ok B.X O1 e2 r1)))))))))) (fun _ => rfl) (fun _ => rfl)
  | mcall i a args iha =>
    refine onlyV (fun x H V H' A s μ hx he hA R F => mcall_c hx fun y n p apos xs pos h1 h2 h3 h4 h5 h6 => bC (o := locV loc i) he fun o hv he => bC (o := methV C H o a) he fun f hf he => bC (o := evalE C cf loc args H) he fun v e2 e3 => ?_) (fun _ => rfl) (fun _ => rfl)
    have pl := (starPlain (env := env) _ _ h4 pos).1
    unfold GV
    rw [arm_eval_Call]
    refine wpAny_bind (name_sound F hv h1 h2 fun ov r1 => wpAny_bind (wpAny_standAt ?_))
    unfold methodCall
    rw [few_args pl h5]
    refine wpAny_bind (wpAny_holding ?_)
    unfold calleeOf
    rw [if_pos rfl]
    refine getMethod_sound ok B.X R hf h3 r1 (wpAny_bind ?_)
    unfold methodCallPos
    rw [if_pos (by rw [h6]; exact beq_self_eq_true _)]
    exact wpAny_pure (callWith_of (P := FnAt f) (pl.symm ▸ rfl) keeps_F (evalArgs_of h4 (lT (iha.2.1 _ _ _ _ _ _ _ pos h4 e2 hA R F) fun vs s2 μ2 O2 r2 => ⟨fnAt_up O2.rep.base (kn _ _ _ _ e3), wpAny_call (codeAny_mono (co _ _ _ _ _ e3 A s2 μ2 (ov :: vs) hA O2.rep (.cons (r1.s O2.step) r2)) fun r s'' ⟨v, e, μ'', O', rv⟩ => by subst e; exact eO (O2.trans O') rv)⟩)))
  | neg a iha =>
    exact onlyV (fun x H V H' A s μ hx he hA R F => neg_c hx fun l pos h1 => bC (o := evalE C cf loc a H) he fun u e1 he => wpAny_UnaryOp (eT (iha.1 _ _ _ _ _ _ _ h1 e1 hA R F) fun p s1 μ1 O1 r1 => neg_sound he O1 r1)) (fun _ => rfl) (fun _ => rfl)
  | not a iha =>
    exact onlyB (fun x H V H' b' A s μ hx he ht hA R F => not_c hx fun l pos h1 => bC (o := evalE C cf loc a H) he fun u e1 he => bC (o := truthH u.2 u.1) he fun t e2 he =>
      isTrue_not (tT (iha.2.2 _ _ _ _ _ _ _ _ h1 e1 e2 hA R F) fun s1 μ1 O1 => sC (P := fun V H => truthH H V = some b' → BOut C hb μ s H b' _ s1) he (fun q => ⟨Option.some.inj q, μ1, O1⟩) ht)) (fun _ => rfl) (fun _ => rfl)
  | chain p q a i b iha ihb =>
    refine onlyB (fun x H V H' b' A s μ hx he ht hA R F => chain_c hx fun l m r pos h1 h2 h3 h4 => loc_c (P := fun m => lastMarks [p, q] [m, r] = false → wpAny (model prog w) A (isTrue (.Compare l [p, q] [m, r] pos) env (eval (.Compare l [p, q] [m, r] pos) env)) (BOut C hb μ s H' b') noE s) h2 (fun y mp g1 g2 h4 => bC (o := evalE C cf loc a H) he fun u e1 he => bC (o := locV loc i) he fun v hv he => bC (o := cmpV p u.1 v) he fun t e2 e3 => ?_) h4) (fun _ => rfl) (fun _ => rfl)
    refine isTrue_chain (eT (iha.1 _ _ _ _ _ _ _ h1 e1 hA R F) fun av s1 μ1 O1 r1 => test_link (name_sound (F.s O1.step) hv g1 g2 fun bv rb => cmpV_sound e2 r1 rb (wpAny_truthy_bool ?_))) h4
    cases t with
    | false => exact sC (P := fun V H => truthH H V = some b' → BOut C hb μ s H b' _ s1) e3 (fun q => ⟨Option.some.inj q, μ1, O1⟩) ht
    | true =>
      exact bC (o := evalE C cf loc b u.2) e3 fun z e4 e3 => bC (o := cmpV q v z.1) e3 fun w' e5 e3 => test_last (eT (ihb.1 _ _ _ _ _ _ _ h3 e4 hA O1.rep (F.s O1.step)) fun cv s2 μ2 O2 r2 => cmpV_sound e5 (rb.s O2.step) r2 (wpAny_truthy_bool
        (sC (P := fun V H => truthH H V = some b' → BOut C hb μ s H b' _ s2) e3 (fun q => ⟨Option.some.inj q, μ2, O1.trans O2⟩) ht)))
  | nlist es ih =>
    exact onlyV (fun x H V H' A s μ hx he hA R F => list_c hx fun xs pos h1 h2 => bC (o := evalE C cf loc es H) he fun u e1 he => gS he
      (wpAny_List (lT (ih.2.1 _ _ _ _ _ _ _ pos h1 e1 hA R F) fun vs s1 μ1 O1 r1 => ⟨len_line r1 (args_len es h1 e1) h2, new_own O1 r1 (args_len es h1 e1) h2⟩))) (fun _ => rfl) (fun _ => rfl)
  | cat a b iha ihb =>
    exact onlyV (fun x H V H' A s μ hx he hA R F => bin_c (f := chkE C env.scope nm a) (g := chkE C env.scope nm b) (op := .Add) hx fun l r pos h1 h2 => bC (o := evalE C cf loc a H) he fun u e1 he => bC (o := evalE C cf loc b u.2) he fun v e2 he => bC (o := itemsOf C v.2 u.1) he fun vs e3 he => bC (o := itemsOf C v.2 v.1) he fun us e4 he =>
      if_some he fun hsz he => gS he (wpAny_BinOp (eT (iha.1 _ _ _ _ _ _ _ h1 e1 hA R F) fun p s1 μ1 O1 r1 => eT (ihb.1 _ _ _ _ _ _ _ h2 e2 hA O1.rep (F.s O1.step)) fun q s2 μ2 O2 r2 => eA (O1.trans O2) (cat_sound ok B.X O2.rep e3 e4 hsz (r1.s O2.step) r2)))) (fun _ => rfl) (fun _ => rfl)
  | slice own o lo hi iho ihl ihh =>
    refine onlyV (fun x H V H' A s μ hx he hA R F => slice_c hx fun y yp a b p pos h1 h2 h3 => bC (o := evalE C cf loc o H) he fun u e1 he => bC (o := evalE C cf loc lo u.2) he fun v e2 he => bC (o := evalE C cf loc hi v.2) he fun z e3 he => bC (o := sliceV C z.2 u.1 v.1 z.1) he fun vs e4 e5 => ?_) (fun _ => rfl) (fun _ => rfl)
    refine mono_no (slice_sound ok B.X (own := own) (ht := fun o r => rfl) e4 (eT (iho.1 _ _ _ _ _ _ _ h1 e1 hA R F) fun ov s1 μ1 O1 r1 => ⟨μ1, O1, r1, eT (part_sound ihl h2 e2 hA O1.rep (F.s O1.step)) fun lv s2 μ2 O2 r2 =>
      ⟨μ2, O2, r2, part_sound ihh h3 e3 hA O2.rep ((F.s O1.step).s O2.step)⟩⟩)) fun v s' hv => ?_
    cases own with
    | true => exact sC (P := fun V H' => EOut C hb μ s H' V v s') e5 hv
    | false => exact sC (P := fun V H' => EOut C hb μ s H' V v s') e5 hv
  | ndict => exact onlyV (fun x H V H' A s μ hx he hA R F => (ps_of (o := exDict0' x) hx).elim fun pos e => pe e (gS he (wpAny_Dict_empty (dict_new B R)))) (fun _ => rfl) (fun _ => rfl)
  | sum a iha =>
    exact onlyV (fun x H V H' A s μ hx he hA R F => named_c hx fun p y pos h1 h2 => bC (o := evalE C cf loc a H) he fun u e1 he => bC (o := sumV C u.2 u.1) he fun z e2 he => gS he
      (wpAny_Call_NameR (Name_function_global F.fk h1 (loadGlobal_builtin (env := env) (by rw [F.gl]; exact B.g.keeps R.base) (mg_none_of B.X B.g ok.sm) (by rw [F.bl]; exact B.b.keeps R.base) ((B.builtins _ (by decide)).trans (by rfl))
        (pe (P := fun l => wpAny (model prog w) A (callWith pos _ [] (backTo pos l) []) _ noE s) (star_of (chk_odd h2)) (Calls.callWith_builtin rfl (Calls.evalArgs_plain (Calls.spliced_cons (eT (iha.1 _ _ _ _ _ _ _ h2 e1 hA R F) fun v s1 μ1 O1 r1 => Calls.spliced_nil (eA O1 (sum_sound ok B.X hA.h O1.rep e2 r1))))))))))) (fun _ => rfl) (fun _ => rfl)
  | rep a n iha ihn =>
    exact onlyV (fun x H V H' A s μ hx he hA R F => rep_c hx fun l r p pos h1 h2 => bC (o := evalE C cf loc a H) he fun u e1 he => bC (o := evalE C cf loc n u.2) he fun v e2 he => bC (o := repV u.1 v.1) he fun vs e3 he => gS he
      (wpAny_BinOp (wpAny_List (pe (P := fun l => wpAny (model prog w) A (spliced (backTo p l)) _ noE s) (star_of (chk_odd h1)) (Calls.spliced_cons (eT (iha.1 _ _ _ _ _ _ _ h1 e1 hA R F) fun av s1 μ1 O1 r1 => Calls.spliced_nil ⟨one_line, 
        (fun P : Out C hb μ1 s1 μ1 u.2 _ => eT (ihn.1 _ _ _ _ _ _ _ h2 e2 hA P.rep ((F.s O1.step).s P.step)) fun bv s2 μ2 O2 r2 =>
          eA ((O1.trans P).trans O2) (rep_sound O2.rep (O2.step.keep _ _ (notOwn_new O1.rep (Nat.le_refl _)) (fun q => nomatch q) (Heap.get?_push_size _ rfl)) e3 ((r1.s P.step).s O2.step) r2)) (Out.push O1.rep { cls := .type "list", data := .seq #[av] } s1.toks)⟩)))))) (fun _ => rfl) (fun _ => rfl)
  | stepS o lo st iho ihl ihs =>
    exact onlyV (fun x H V H' A s μ hx he hA R F => stepS_c hx fun y yp a b p pos h1 h2 h3 => bC (o := evalE C cf loc o H) he fun u e1 he => bC (o := evalE C cf loc lo u.2) he fun v e2 he => bC (o := evalE C cf loc st v.2) he fun z e3 he => bC (o := stepV C z.2 u.1 v.1 z.1) he fun vs e4 he => gS he
      (wpAny_Subscript_Slice_step (T := "list") list_getitem_lookup (eT (iho.1 _ _ _ _ _ _ _ h1 e1 hA R F) fun ov s1 μ1 O1 r1 => wpAny_Slice (wpAny_evalPart_some (eT (ihl.1 _ _ _ _ _ _ _ h2 e2 hA O1.rep (F.s O1.step)) fun lv s2 μ2 O2 r2 => wpAny_evalPart_none (wpAny_evalPart_some
        (eT (ihs.1 _ _ _ _ _ _ _ h3 e3 hA O2.rep ((F.s O1.step).s O2.step)) fun uv s3 μ3 O3 r3 => step_tail ok B.X e4 ((O1.trans O2).trans O3) ((r1.s O2.step).s O3.step) (r2.s O3.step) r3))))) (fun o r => rfl))) (fun _ => rfl) (fun _ => rfl)
  | pop i =>
    refine onlyV (fun x H V H' A s μ hx he hA R F => pop_c hx fun y p apos xs pos h1 h2 h3 h4 => bC (o := locV loc i) he fun o hv e1 => ?_) (fun _ => rfl) (fun _ => rfl)
    rw [List.isEmpty_iff.mp h3]
    refine wpAny_Call_method0_late rfl (by rw [h4]; exact beq_self_eq_true _) (name_sound F hv h1 h2 fun ov r1 => ?_)
    obtain ⟨l, items, n, rfl, g⟩ := popV_list R e1 r1
    exact ⟨"list", "list.pop", PySem.F.plainAttrs_list, PySem.F.slot_list_pop, PySem.F.type_list_pop, ⟨_, g, rfl⟩, fun a q => by cases q; exact ⟨_, g, rfl⟩, Calls.callWith_builtin rfl (PySem.evalArgs_none (pop_sound R e1 r1))⟩
  | popD i k ihk =>
    refine onlyV (fun x H V H' A s μ hx he hA R F => pop_c hx fun y p apos xs pos h1 h2 h3 h4 => oneC (P := fun xs => wpAny (model prog w) A (eval (.Call (.Attribute (.Name y p) "pop" apos) xs [] pos) env) (EOut C hb μ s H' V) noE s) h3 fun z h3 => bC (o := locV loc i) he fun o hv he => bC (o := isD H o) he fun _ e0 he => bC (o := evalE C cf loc k H) he fun u e1 e2 => ?_) (fun _ => rfl) (fun _ => rfl)
    refine wpAny_Call_method1_late rfl (by rw [h4]; exact beq_self_eq_true _) (star_of (chk_odd h3) ▸ rfl) (name_sound F hv h1 h2 fun ov r1 => ?_)
    obtain ⟨t1, t2⟩ := isD_type prog w R e0 r1
    exact ⟨"dict", "dict.pop", PySem.F.plainAttrs_dict, PySem.F.slot_dict_pop, PySem.F.type_dict_pop, t1, t2, Calls.callWith_builtin rfl (Calls.evalArgs_plain (Calls.spliced_cons (eT (ihk.1 _ _ _ _ _ _ _ h3 e1 hA R F) fun v s1 μ1 O1 r2 => Calls.spliced_nil (eA O1 (popK_sound O1.rep e2 (r1.s O1.step) r2)))))⟩
end
end Mine
end
section
open PySem PySem.W PySem.Calls PyProof.Rows Builtin Builtin.ObjectAttr
set_option autoImplicit false
namespace Mine

structure SOut (C : Cx) (hb : Heap) (env : Env) (nm : List Str) (μ : Mu) (s : Shared) (loc' : Loc) (H' : Hp) (μ' : Mu) (s' : Shared) : Prop where
  rep : Rep C hb μ' H' s'.heap
  step : Step (fa env) μ s.heap μ' s'.heap
  fr : FrI env nm loc' μ' s'.heap
  gens : s'.gens = s.gens
  os : (s'.os, s'.drawn) = (s.os, s.drawn)

section
variable {C : Cx} {hb : Heap} {env : Env} {nm : List Str} {μ μ' μ'' : Mu} {s s' s'' : Shared} {loc loc' loc'' : Loc} {H H' H'' : Hp}
theorem SOut.refl (R : Rep C hb μ H s.heap) (F : FrI env nm loc μ s.heap) : SOut C hb env nm μ s loc H μ s := ⟨R, .refl _ _ _, F, rfl, rfl⟩
theorem SOut.trans (x : SOut C hb env nm μ s loc' H' μ' s') (y : SOut C hb env nm μ' s' loc'' H'' μ'' s'') : SOut C hb env nm μ s loc'' H'' μ'' s'' :=
  ⟨y.rep, x.step.trans y.step, y.fr, y.gens.trans x.gens, y.os.trans x.os⟩
theorem Out.toS (O : Out C hb μ s μ' H' s') (F : FrI env nm loc μ s.heap) : SOut C hb env nm μ s loc H' μ' s' := ⟨O.rep, O.step.nil F.fr, F.s O.step, O.gens, O.os⟩
end

section
variable {prog : Program} {w : World} {A : Around} {s : Shared} {C : Cx} {hb : Heap} {μ : Mu} {H : Hp} {env : Env} {nm : List Str} {loc : Loc}

theorem store_sound (hN : ∀ b ∈ fa env, hb.get? b = none) (R : Rep C hb μ H s.heap) (F : FrI env nm loc μ s.heap) {i : Nat} {x : Str} {v : V} {u : Value} (hx : nm[i]? = some x) (hi : i < loc.length) (hl : env.kindOf x = some .local ∨ env.kindOf x = some .cell) (r : VRel μ s.heap v u) {E : Value → Shared → Prop} :
    wpAny (model prog w) A (storeName env x u) (fun _ s' => ∃ μ', SOut C hb env nm μ s (loc.set i (some v)) H μ' s') E s := by
  have base : ∀ {h' : Heap} {a : Addr}, a ∈ fa env → Heap.SameBut a s.heap h' → Step (fa env) μ s.heap μ h' ∧ Rep C hb μ H h' := by
    intro h' a ha sb
    obtain ⟨st, rr⟩ := R.rel.keep (fa := fa env) (h' := h') (fun b hb' => ⟨F.fr b hb', F.own b hb'⟩) (fun b o n e => (sb.2 b fun q => n (q ▸ ha)).trans e)
    exact ⟨st, rr, fun b o e => (sb.2 b fun q => by rw [q, hN a ha] at e; cases e).trans (R.base b o e), R.new⟩
  have other : ∀ {j : Nat} {y : Str} {z : V}, nm[j]? = some y → (loc.set i (some v))[j]? = some (some z) → (y = x ∧ z = v) ∨ (y ≠ x ∧ loc[j]? = some (some z)) := by
    intro j y z h1 h2
    by_cases q : i = j
    · subst q
      rw [List.getElem?_set_self hi] at h2
      cases h2
      rw [hx] at h1; cases h1
      exact .inl ⟨rfl, rfl⟩
    · rw [List.getElem?_set_ne q] at h2
      exact .inr ⟨fun e => q (F.inj _ _ _ hx (e ▸ h1)), h2⟩
  rcases hl with hl | hl
  · obtain ⟨m, hm, hf⟩ := F.ns
    refine wpAny_storeName_local hl hm (fun h' hn sb => ?_) (by rw [F.fk]; rfl)
    obtain ⟨st, rr⟩ := base (a := env.locals) (.head _) sb
    have cell : ∀ p ∈ env.cells, ∀ o, s.heap.get? p.2 = some o → h'.get? p.2 = some o := fun p hp o e => (sb.2 _ (F.al p hp)).trans e
    refine ⟨μ, rr, st, ⟨F.fk, F.gl, F.bl, F.inj, ⟨_, hn, fun j y z h1 h2 h3 => ?_⟩, fun j y z h1 h2 h3 => ?_, F.kd, F.ck, F.own, fun b hb' => ?_, fun p hp => ?_, F.ap, F.al⟩, rfl, rfl⟩
    · rcases other h1 h2 with ⟨rfl, rfl⟩ | ⟨n, h2⟩
      · exact ⟨u, if_pos rfl, r.step st F.fr⟩
      · obtain ⟨u', a, b⟩ := hf j y z h1 h2 h3
        exact ⟨u', by rw [if_neg n]; exact a, b.step st F.fr⟩
    · rcases other h1 h2 with ⟨rfl, rfl⟩ | ⟨n, h2⟩
      · rw [hl] at h3; rcases h3 with h3 | h3 <;> cases h3
      · obtain ⟨c, u', a, ⟨o, e, ed⟩, b⟩ := F.cs j y z h1 h2 h3
        exact ⟨c, u', a, ⟨o, cell (y, c) (mem_of_lookup a) o e, ed⟩, b.step st F.fr⟩
    · cases hb' with
      | head =>
        obtain ⟨o, es, ep, e, ed, _⟩ := hn
        exact ⟨o, e, .inl ⟨es, ep, ed⟩⟩
      | tail _ hb' =>
        obtain ⟨p, hp, rfl⟩ := List.mem_map.mp hb'
        exact (F.fr p.2 (.tail _ (List.mem_map_of_mem hp))).keep (cell p hp)
    · obtain ⟨u', o, e, ed⟩ := F.cl p hp
      exact ⟨u', o, cell p hp o e, ed⟩
  · obtain ⟨c, hc⟩ := F.ck i x hx hl
    obtain ⟨u0, hc0⟩ := F.cl (x, c) (mem_of_lookup hc)
    have hcm : c ∈ fa env := .tail _ (List.mem_map_of_mem (f := (·.2)) (mem_of_lookup hc))
    refine wpAny_storeName_cell F.fk hl hc hc0 fun h' hn sb => ?_
    obtain ⟨st, rr⟩ := base hcm sb
    have hcL : c ≠ env.locals := F.al (x, c) (mem_of_lookup hc)
    obtain ⟨m, hm, hf⟩ := F.ns
    refine ⟨μ, rr, st, ⟨F.fk, F.gl, F.bl, F.inj, ⟨m, hm.sameBut sb (Ne.symm hcL), fun j y z h1 h2 h3 => ?_⟩, fun j y z h1 h2 h3 => ?_, F.kd, F.ck, F.own, fun b hb' => ?_, fun p hp => ?_, F.ap, F.al⟩, rfl, rfl⟩
    · rcases other h1 h2 with ⟨rfl, rfl⟩ | ⟨n, h2⟩
      · rw [hl] at h3; cases h3
      · obtain ⟨u', a, b⟩ := hf j y z h1 h2 h3
        exact ⟨u', a, b.step st F.fr⟩
    · rcases other h1 h2 with ⟨rfl, rfl⟩ | ⟨n, h2⟩
      · exact ⟨c, u, hc, hn, r.step st F.fr⟩
      · obtain ⟨c', u', a, b', b⟩ := F.cs j y z h1 h2 h3
        have hne : c' ≠ c := fun q => n (name_of_addr F.ap (mem_of_lookup a) (q ▸ mem_of_lookup hc))
        exact ⟨c', u', a, b'.sameBut sb hne, b.step st F.fr⟩
    · by_cases q : b = c
      · subst q
        obtain ⟨o, e, ed⟩ := hn
        exact ⟨o, e, .inr (.inl ⟨_, ed⟩)⟩
      · exact (F.fr b hb').keep fun o e => (sb.2 b q).trans e
    · by_cases q : p.2 = c
      · exact ⟨_, q ▸ hn⟩
      · obtain ⟨u', b'⟩ := F.cl p hp
        exact ⟨u', b'.sameBut sb q⟩
end

noncomputable def swapNm (sc : Scope) (ts : List Expr) : List Str := ts.filterMap fun
    | .Name y pos => if sc.names.lookup y == some .local && pos.line == (ts.head?.map (·.pos.line)).getD 0 then some y else none
    | _ => none
noncomputable def swapOk (sc : Scope) (ts vs : List Expr) : Bool :=
  !(!(ts.length == 2 || ts.length == 3) || vs.length != ts.length) && !(vs.any (fun | .Starred .. => true | _ => false)) &&
  !((swapNm sc ts).length != ts.length || (swapNm sc ts).eraseDups.length != (swapNm sc ts).length) && !(vs.all (foldedForSure 8)) && !(vs.all (constantsAlone 8))

theorem swap_sound {env : Env} (fk : env.scope.kind = .function) {ts vs : List Expr} {k1 k2 : Nat} {p1 p2 : Pos} (h : swapOk env.scope ts vs = true) :
    swappedStores [.Tuple ts k1 p1] (.Tuple vs k2 p2) env = pure (some (swapNm env.scope ts)) := by
  simp only [swapOk, Bool.and_eq_true, Bool.not_eq_true'] at h
  obtain ⟨⟨⟨⟨c1, c2⟩, c3⟩, c4⟩, c5⟩ := h
  unfold swappedStores
  have bk : env.blockKind = .function := by unfold Env.blockKind; rw [fk]; rfl
  have e1 : (env.blockKind != ScopeKind.function) = false := by rw [bk]; rfl
  simp only [e1, Bool.or_false]
  exact (if_neg (Bool.eq_false_iff.mp c1)).trans ((if_neg (Bool.eq_false_iff.mp c2)).trans ((if_neg (Bool.eq_false_iff.mp c3)).trans ((if_neg (Bool.eq_false_iff.mp c4)).trans (if_neg (Bool.eq_false_iff.mp c5)))))

noncomputable def namesAt (nm : List Str) (is : List Nat) (names : List Str) : Bool := match is, names with
  | [], [] => true
  | i :: is, x :: xs => nm[i]? == some x && namesAt nm is xs
  | _, _ => false

noncomputable def stPassP : (x : Stmt) → Option (PLift (∃ p, x = .Pass p))
  | .Pass p => some ⟨p, rfl⟩
  | _ => none
noncomputable def stPass (x : Stmt) : Bool := (stPassP x).isSome
theorem stPass_eq {x : Stmt} (h : stPass x = true) : ∃ p, x = .Pass p := ps_of h
noncomputable def stExpr' : (x : Stmt) → Option {q : Expr // ∃ p, x = .Expr q p}
  | .Expr y p => some ⟨y, p, rfl⟩
  | _ => none
noncomputable def stExpr (x : Stmt) : Option Expr := (stExpr' x).map Subtype.val
noncomputable def stAssign' : (x : Stmt) → Option {q : Expr × Expr // ∃ p, x = .Assign [q.1] q.2 p}
  | .Assign ts v p => (match ts with | [t] => some ⟨(t, v), p, rfl⟩ | _ => none)
  | _ => none
noncomputable def stAssign (x : Stmt) : Option (Expr × Expr) := (stAssign' x).map Subtype.val
noncomputable def stAug' : (x : Stmt) → Option {q : Expr × Operator × Expr // ∃ p, x = .AugAssign q.1 q.2.1 q.2.2 p}
  | .AugAssign t op v p => some ⟨(t, op, v), p, rfl⟩
  | _ => none
noncomputable def stAug (x : Stmt) : Option (Expr × Operator × Expr) := (stAug' x).map Subtype.val
noncomputable def stIf' : (x : Stmt) → Option {q : Expr × List Stmt × List Stmt // ∃ p, x = .If q.1 q.2.1 q.2.2 p}
  | .If t a b p => some ⟨(t, a, b), p, rfl⟩
  | _ => none
noncomputable def stIf (x : Stmt) : Option (Expr × List Stmt × List Stmt) := (stIf' x).map Subtype.val
noncomputable def stRet' : (x : Stmt) → Option {q : Option Expr // ∃ p, x = .Return q p}
  | .Return o p => some ⟨o, p, rfl⟩
  | _ => none
noncomputable def stRet (x : Stmt) : Option (Option Expr) := (stRet' x).map Subtype.val
noncomputable def stFor' : (x : Stmt) → Option {q : Expr × Expr × List Stmt // ∃ p, x = .For q.1 q.2.1 q.2.2 [] p}
  | .For t i b e p => (match e with | [] => some ⟨(t, i, b), p, rfl⟩ | _ => none)
  | _ => none
noncomputable def stFor (x : Stmt) : Option (Expr × Expr × List Stmt) := (stFor' x).map Subtype.val
noncomputable def stBrkP : (x : Stmt) → Option (PLift (∃ p, x = .Break p))
  | .Break p => some ⟨p, rfl⟩
  | _ => none
noncomputable def stTwo' : (x : Stmt) → Option {q : Expr × Expr × Expr // ∃ p, x = .Assign [q.1, q.2.1] q.2.2 p}
  | .Assign ts v p => (match ts with | [t, u] => some ⟨(t, u, v), p, rfl⟩ | _ => none)
  | _ => none
noncomputable def stTwo (x : Stmt) : Option (Expr × Expr × Expr) := (stTwo' x).map Subtype.val
noncomputable def stCons : List Stmt → Option (Stmt × List Stmt)
  | x :: xs => some (x, xs)
  | _ => none
theorem stCons_eq {xs : List Stmt} {q : Stmt × List Stmt} (h : stCons xs = some q) : xs = q.1 :: q.2 := by
  cases xs with
  | nil => cases h
  | cons a b => cases h; rfl

noncomputable def chkT (C : Cx) (sc : Scope) (nm : List Str) (t : E) (x : Expr) : Bool := match t with
  | .loc i => (exName x).elim false fun y => nm[i]? == some y && sc.names.lookup y != some .free
  | .attr i a => chkAttr C nm i a x
  | .sub o i => (exSub x).elim false fun q => chkE C sc nm o q.1 && chkE C sc nm i q.2
  | _ => false
noncomputable def chkA (C : Cx) (sc : Scope) (nm : List Str) (t : E) (x : Expr) : Bool := match t with
  | .loc i => (exName x).elim false fun y => nm[i]? == some y && plainName y && sc.names.lookup y != some .free
  | .attr i a => chkAttr C nm i a x
  | _ => false
noncomputable def isNoneE : E → Bool
  | .cst v => v.isNone
  | _ => false
noncomputable def chkNames (sc : Scope) (nm : List Str) : List Nat → List Expr → Bool
  | [], xs => xs.isEmpty
  | i :: is, xs => (exCons xs).elim false fun q => (exName q.1).elim false (fun x => nm[i]? == some x && sc.names.lookup x == some .local) && chkNames sc nm is q.2
noncomputable def chkAttrs (C : Cx) (nm : List Str) (i : Nat) : List Nat → List Expr → Bool
  | [], xs => xs.isEmpty
  | a :: as, xs => (exCons xs).elim false fun q => chkAttr C nm i a q.1 && chkAttrs C nm i as q.2
noncomputable def chkTarget (sc : Scope) (nm : List Str) (ts : List Nat) (x : Expr) : Bool := match ts with
  | [t] => chkNames sc nm [t] [x]
  | ts => (exTuple x).elim false (chkNames sc nm ts)
mutual
noncomputable def chkS (C : Cx) (sc : Scope) (nm : List Str) : S → List Stmt → Bool
  | .skip, xs => xs.isEmpty
  | .seq a b, xs => (stCons xs).elim false fun q => chk1 C sc nm a q.1 && chkS C sc nm b q.2
  | _, _ => false
noncomputable def chk1 (C : Cx) (sc : Scope) (nm : List Str) : S → Stmt → Bool
  | .pass, st => stPass st
  | .expr e, st => (stExpr st).elim false (chkE C sc nm e)
  | .assign t e, st => (stAssign st).elim false fun q => chkT C sc nm t q.1 && chkE C sc nm e q.2
  | .assignT is e, st => (stAssign st).elim false fun q => (exTuple q.1).elim false fun ts => (exTuple q.2).elim false fun vs => swapOk sc ts vs && namesAt nm is.reverse (swapNm sc ts).reverse && (swapNm sc ts).all (fun x => sc.names.lookup x == some .local) && chkE C sc nm e q.2
  | .aug t op e, st => (stAug st).elim false fun q => chkA C sc nm t q.1 && decide (op = q.2.1) && chkE C sc nm e q.2.2
  | .ite c a b, st => (stIf st).elim false fun q => chkB C sc nm c q.1 && chkS C sc nm a q.2.1 && chkS C sc nm b q.2.2
  | .ret e, st => (stRet st).elim false fun o => o.elim (isNoneE e) (chkE C sc nm e)
  | .forRange t n body, st => (stFor st).elim false fun q => (exName q.1).elim false fun x => (exCall q.2.1).elim false fun r => (exName r.1).elim false fun rn => (exOne r.2.1).elim false fun a =>
      nm[t]? == some x && sc.names.lookup x == some .local && (rn == ("range" : Str)) && sc.names.lookup rn == some .globalImplicit && chkE C sc nm n a && chkS C sc nm body q.2.2
  | .skip, _ => false
  | .seq _ _, _ => false
  | .unpack is e, st => (stAssign st).elim false fun q => (exTuple q.1).elim false (chkNames sc nm is) && (exName q.2).isSome && chkE C sc nm e q.2
  | .brk, st => (stBrkP st).isSome
  | .two i j e, st => (stTwo st).elim false fun q => chkNames sc nm [i, j] [q.1, q.2.1] && chkE C sc nm e q.2.2
  | .assignAs i as e, st => (stAssign st).elim false fun q => (exTuple q.1).elim false (chkAttrs C nm i as) && (exName q.2).isSome && chkE C sc nm e q.2
  | .assignD d k j e, st => (stAssign st).elim false fun q => (exTuple q.1).elim false (fun ts => (exCons ts).elim false fun t => (exSub t.1).elim false (fun u => chkLoc nm d u.1 && chkLoc nm k u.2) && chkNames sc nm [j] t.2) && (exCall q.2).isSome && chkE C sc nm e q.2
  | .append i e, st => (stExpr st).elim false fun x => (exCall x).elim false fun q => (exAttr q.1).elim false fun r => chkLoc nm i r.1 && (r.2.1 == ("append" : Str)) && (exOne q.2.1).elim false (chkE C sc nm e) && decide (r.2.2.endLine = q.2.2.line)
  | .augL i e, st => (stAug st).elim false fun q => chkA C sc nm (.loc i) q.1 && decide (.Add = q.2.1) && chkE C sc nm e q.2.2
  | .setSlice i lo hi g, st => (stAssign st).elim false fun q => (exSub q.1).elim false (fun u => chkLoc nm i u.1 && (exSlice u.2).elim false fun r => r.1.elim false (chkE C sc nm (.cst (.int lo))) && r.2.1.elim false (chkE C sc nm (.cst (.int hi))) && r.2.2.isNone) && chkE C sc nm (.cst (.kref g)) q.2
  | .forIn ts e body, st => (stFor st).elim false fun q => chkTarget sc nm ts q.1 && chkE C sc nm e q.2.1 && chkS C sc nm body q.2.2
  | .forEnum i j e body, st => (stFor st).elim false fun q => (exTuple q.1).elim false (chkNames sc nm [i, j]) && chkNamed sc "enumerate" (chkE C sc nm e) q.2.1 && chkS C sc nm body q.2.2
end

theorem plainSwap {C : Cx} {sc : Scope} {nm : List Str} {e : E} {x : Expr} (h : chkE C sc nm e x = true) (t : Option Expr) (l : Nat) (env : Env) : swapsWith x t l env = pure false := swap_of (chk_odd h) t l env

end Mine
end
section
open PySem PySem.W PySem.Calls PyProof.Rows Builtin Builtin.ObjectAttr
set_option autoImplicit false
namespace Mine

noncomputable def FlRel (μ : Mu) (h : Heap) : Fl → Flow → Prop
  | .next, .next => True
  | .brk, .brk => True
  | .ret v, .ret u => VRel μ h v u
  | _, _ => False

abbrev StOut (C : Cx) (hb : Heap) (env : Env) (nm : List Str) (μ : Mu) (s : Shared) (f : Fl) (loc' : Loc) (H' : Hp) (fl : Flow) (s' : Shared) : Prop :=
  loc'.length = nm.length ∧ ∃ μ', SOut C hb env nm μ s loc' H' μ' s' ∧ FlRel μ' s'.heap f fl

theorem Step.dropNew {fs its : List Addr} {μ μ₂ μ' : Mu} {h h₂ h' : Heap} (x : Step [] μ h μ₂ h₂) (y : Step (its ++ fs) μ₂ h₂ μ' h') (hn : ∀ b ∈ its, h.get? b = none) (hf : ∀ b ∈ fs, FrObj h b) : Step fs μ h μ' h' := by
  refine ⟨fun b o n f e => ?_, fun i p e => y.pre i p (x.pre i p e), fun b q => ?_⟩
  · refine y.keep b o (x.notOwn e n) (fun m => ?_) (x.keep b o n (fun q => nomatch q) e)
    rcases List.mem_append.mp m with m | m
    · rw [hn b m] at e; cases e
    · exact f m
  · by_cases n : InOwn μ b
    · exact .inl n
    · have none : ∀ o, h.get? b = some o → h₂.get? b = some o := fun o e => x.keep b o n (fun q => nomatch q) e
      refine .inr ?_
      rcases y.own b q with l | l
      · rcases x.own b l with l | l
        · exact absurd l n
        · refine ⟨l.1, fun m => ?_⟩
          obtain ⟨o, e, _⟩ := hf b m
          rw [l.1] at e; cases e
      · refine ⟨?_, fun m => l.2 (List.mem_append_right _ m)⟩
        cases e : h.get? b with
        | none => rfl
        | some o => rw [none o e] at l; cases l.1

section
variable {prog : Program} {w : World} {A : Around} {s : Shared} {K : Frag} {C : Cx} {hb : Heap} {mg mb : Str → Option Value} {μ : Mu} {H H' : Hp} {env : Env} {nm : List Str} {loc : Loc} {cf : CallF} {d : Nat}

theorem load_sound (F : FrI env nm loc μ s.heap) {i : Nat} {x : Str} {v : V} {Q : Value → Shared → Prop} {E : Value → Shared → Prop} (e : locV loc i = some v) (hn : nm[i]? = some x) (hp : plainName x = true)
    (h : ∀ u, VRel μ s.heap v u → Q u s) : wpAny (model prog w) A (loadName env x) Q E s := by
  have hl := locV_some e
  have hc : (x == ("__classdict__" : Str)) = false := by simpa using (Bool.and_eq_true_iff.mp hp).2
  rcases F.kd i x hn with k | k | k
  · obtain ⟨m, n, f⟩ := F.ns
    obtain ⟨u, a, b⟩ := f i x v hn hl k
    exact wpAny_loadName_local F.fk k n a (h u b)
  · obtain ⟨c, u, a, b, r⟩ := F.cs i x v hn hl (.inl k)
    exact wpAny_loadName_cell F.fk k a b (h u r)
  · obtain ⟨c, u, a, b, r⟩ := F.cs i x v hn hl (.inr k)
    exact wpAny_loadName_free F.fk k a b (h u r) hc

theorem kind_of (F : FrI env nm loc μ s.heap) {i : Nat} {x : Str} (hn : nm[i]? = some x) (h : (env.scope.names.lookup x != some .free) = true) : env.kindOf x = some .local ∨ env.kindOf x = some .cell := by
  rcases F.kd i x hn with k | k | k
  · exact .inl k
  · exact .inr k
  · exfalso
    have : env.scope.names.lookup x = some .free := k
    rw [this] at h
    simp at h

theorem notOwn_fields (R : Rep C hb μ H s.heap) {b : Addr} {o : Obj} (e : s.heap.get? b = some o) (hd : ∃ vs, o.data = .fields vs) : ¬ InOwn μ b := fun q => by
  obtain ⟨p, hm, q⟩ := q
  obtain ⟨i, hi, rfl⟩ := List.getElem_of_mem hm
  have hp : μ[i]? = some μ[i] := List.getElem?_eq_getElem hi
  have hH : H[i]? = some (H[i]'(R.rel.len ▸ hi)) := List.getElem?_eq_getElem _
  have r := R.rel.objs i _ _ hH hp
  obtain ⟨vs, hd⟩ := hd
  generalize H[i]'(R.rel.len ▸ hi) = ho at r
  cases ho with
  | list ws =>
    obtain ⟨items, n, a, _, e2, _⟩ := r
    rcases q with q | q
    · rw [q, a] at e; cases e; cases hd
    · rw [q, e2, a] at e; cases e; cases hd
  | inst fs =>
    obtain ⟨a, es, n, b', _⟩ := r
    rcases q with q | q
    · rw [q, a] at e; cases e; cases hd
    · rw [q, b'] at e; cases e; cases hd
  | dict es =>
    obtain ⟨⟨e2, _⟩, ⟨x, xs, xp, a, _, xd⟩, _⟩ := r
    rcases q with q | q
    · rw [q, a] at e; cases e; rw [xd] at hd; cases hd
    · rw [q, e2, a] at e; cases e; rw [xd] at hd; cases hd

structure LoopI (C : Cx) (hb : Heap) (env : Env) (nm : List Str) (its : List Addr) (μ : Mu) (s : Shared) (loc₁ : Loc) (H₁ : Hp) (μ₁ : Mu) (s₁ : Shared) : Prop where
  rep : Rep C hb μ₁ H₁ s₁.heap
  step : Step (its ++ fa env) μ s.heap μ₁ s₁.heap
  fr : FrI env nm loc₁ μ₁ s₁.heap
  gens : s₁.gens = s.gens
  os : (s₁.os, s₁.drawn) = (s.os, s.drawn)
  len : loc₁.length = nm.length

def ItOk (h : Heap) (it : Addr) : Prop := ∃ o vs, h.get? it = some o ∧ o.data = .fields vs ∧ o.cls ≠ .type "method" ∧ ∀ q t, vs[1]? ≠ some (.str q t)
theorem itOb {h : Heap} {it : Addr} (e : ItOk h it) : FrObj h it := let ⟨o, vs, e, d, c, n⟩ := e; ⟨o, e, .inr (.inr ⟨vs, d, c, n⟩)⟩
theorem itRange {h : Heap} {it : Addr} {x l : Int} (e : IsRangeIter h it x l 1) : ItOk h it := ⟨_, _, e, rfl, by show Value.type "range_iterator" ≠ Value.type "method"; decide, fun q t h => by cases h⟩

theorem it_notFa {it : Addr} (e : ItOk s.heap it) (hc : ∀ b ∈ fa env, ∃ o, s.heap.get? b = some o ∧ ((∃ es n, o.data = .dict es n) ∨ ∃ v, o.data = .cell v)) : it ∉ fa env := fun q => by
  obtain ⟨o, eo, hd⟩ := hc it q
  obtain ⟨o', vs, e, d, _⟩ := e
  rw [e] at eo
  cases eo
  rw [d] at hd
  rcases hd with ⟨_, _, hd⟩ | ⟨_, hd⟩ <;> cases hd

theorem fa_data (F : FrI env nm loc μ s.heap) : ∀ b ∈ fa env, ∃ o, s.heap.get? b = some o ∧ ((∃ es n, o.data = .dict es n) ∨ ∃ v, o.data = .cell v) := by
  intro b hb'
  cases hb' with
  | head =>
    obtain ⟨m, ⟨o, es, ep, e, ed, _⟩, _⟩ := F.ns
    exact ⟨o, e, .inl ⟨es, ep, ed⟩⟩
  | tail _ hb' =>
    obtain ⟨p, hp, rfl⟩ := List.mem_map.mp hb'
    obtain ⟨u, o, e, ed⟩ := F.cl p hp
    exact ⟨o, e, .inr ⟨u, ed⟩⟩

theorem LoopI.iter {its : List Addr} (hit : ∀ b ∈ its, hb.get? b = none) {s₀ : Shared} {μ₀ : Mu} {s₁ : Shared} {μ₁ : Mu} {H₁ : Hp} {loc₁ : Loc} (L : LoopI C hb env nm its μ₀ s₀ loc₁ H₁ μ₁ s₁) (e : ∀ b ∈ its, ItOk s₁.heap b) {h' : Heap} {tk : Nat}
    (k : ∀ b o, b ∉ its → s₁.heap.get? b = some o → h'.get? b = some o) : Step its μ₁ s₁.heap μ₁ h' ∧ LoopI C hb env nm its μ₀ s₀ loc₁ H₁ μ₁ { s₁ with heap := h', toks := tk } := by
  have no : ∀ b ∈ its, ¬ InOwn μ₁ b := fun b q => let ⟨o, vs, e1, d, _⟩ := e b q; notOwn_fields L.rep e1 ⟨vs, d⟩
  have nf : ∀ b ∈ fa env, b ∉ its := fun b q q' => it_notFa (env := env) (e b q') (fa_data L.fr) q
  have ff : ∀ b ∈ its, FrObj s₁.heap b := fun b q => itOb (e b q)
  obtain ⟨st, rr⟩ := L.rep.rel.keep (fa := its) (h' := h') (fun b q => ⟨ff b q, no b q⟩) k
  have hff : ∀ b ∈ its ++ fa env, FrObj s₁.heap b := fun b q => (List.mem_append.mp q).elim (ff b) (L.fr.fr b)
  have st' : Step (its ++ fa env) μ₁ s₁.heap μ₁ h' := st.mono (fun b q => List.mem_append_left _ q) hff
  have F' : FrI env nm loc₁ μ₁ h' := by
    have F := L.fr
    have kf : ∀ b ∈ fa env, ∀ o, s₁.heap.get? b = some o → h'.get? b = some o := fun b q o e' => k b o (nf b q) e'
    have vr : ∀ {v : V} {a : Value}, VRel μ₁ s₁.heap v a → VRel μ₁ h' v a := fun r => r.step st ff
    refine ⟨F.fk, F.gl, F.bl, F.inj, ?_, ?_, F.kd, F.ck, F.own, fun b q => (F.fr b q).keep (kf b q), ?_, F.ap, F.al⟩
    · obtain ⟨m, ⟨o, es, ep, e', r⟩, f⟩ := F.ns
      exact ⟨m, ⟨o, es, ep, kf _ (.head _) o e', r⟩, fun i y v h1 h2 h3 => let ⟨u, a, b⟩ := f i y v h1 h2 h3; ⟨u, a, vr b⟩⟩
    · intro i y v h1 h2 h3
      obtain ⟨c, u, a, ⟨o, e', ed⟩, b⟩ := F.cs i y v h1 h2 h3
      exact ⟨c, u, a, ⟨o, kf c (.tail _ (List.mem_map_of_mem (f := (·.2)) (mem_of_lookup a))) o e', ed⟩, vr b⟩
    · intro p hp
      obtain ⟨u, o, e', ed⟩ := F.cl p hp
      exact ⟨u, o, kf _ (.tail _ (List.mem_map_of_mem (f := (·.2)) hp)) o e', ed⟩
  exact ⟨st, ⟨rr, fun b o e' => k b o (fun q => by rw [hit b q] at e'; cases e') (L.rep.base b o e'), L.rep.new⟩, L.step.trans st', F', L.gens, L.os, L.len⟩
end
end Mine
end
section
open PySem PySem.W PySem.Calls PyProof.Rows Builtin Builtin.ObjectAttr
set_option autoImplicit false
namespace Mine
section
variable {prog : Program} {w : World} {A : Around} {s : Shared} {K : Frag} {C : Cx} {hb : Heap} {mg mb : Str → Option Value} {μ : Mu} {H H' : Hp} {env : Env} {nm : List Str} {loc : Loc} {cf : CallF} {d : Nat}

section
variable {α : Type} {M : Model} {A : Around} {s1 s2 : Shared} {μ1 : Mu} {t : Sem α} {f : Fl} {loc' : Loc} {st : Stmt} {fl : Flow}
theorem sT {Q : α → Shared → Prop} (h : wpAny M A t (fun _ s' => ∃ μ', SOut C hb env nm μ s loc H μ' s') noE s1) (k : ∀ a s2 μ2, SOut C hb env nm μ s loc H μ2 s2 → Q a s2) : wpAny M A t Q noE s1 := mono_no h fun a s2 ⟨μ2, O⟩ => k a s2 μ2 O
theorem uT {Q : α → Shared → Prop} (h : wpAny M A t (fun _ => UOut C hb μ s H) noE s1) (k : ∀ a s2 μ2, Out C hb μ s μ2 H s2 → Q a s2) : wpAny M A t Q noE s1 := mono_no h fun a s2 ⟨μ2, O⟩ => k a s2 μ2 O
theorem stO (l : loc.length = nm.length) (S : SOut C hb env nm μ s loc H μ1 s1) (r : FlRel μ1 s1.heap f fl) : StOut C hb env nm μ s f loc H fl s1 := ⟨l, μ1, S, r⟩
theorem nx (l : loc.length = nm.length) (S : SOut C hb env nm μ s loc H μ1 s1) : StOut C hb env nm μ s .next loc H .next s1 := ⟨l, μ1, S, trivial⟩
theorem stA {t : Sem Flow} (S : SOut C hb env nm μ s loc H μ1 s1) (h : wpAny M A t (StOut C hb env nm μ1 s1 f loc' H') noE s2) : wpAny M A t (StOut C hb env nm μ s f loc' H') noE s2 := mono_no h fun fl s3 ⟨l, μ2, O, r⟩ => ⟨l, μ2, S.trans O, r⟩
theorem stT {t : Sem Flow} {Q : Flow → Shared → Prop} (h : wpAny M A t (StOut C hb env nm μ s f loc' H') noE s1) (k : ∀ fl s2 μ2, loc'.length = nm.length → SOut C hb env nm μ s loc' H' μ2 s2 → FlRel μ2 s2.heap f fl → Q fl s2) : wpAny M A t Q noE s1 := mono_no h fun fl s2 ⟨l, μ2, O, r⟩ => k fl s2 μ2 l O r
theorem fS {α β γ : Type} {g f : α} {l l' : β} {K K' : γ} {P : α → β → γ → Prop} (h : some (g, l, K) = some (f, l', K')) (k : P g l K) : P f l' K' := by cases h; exact k
end
def Turn (prog : Program) (w : World) (C : Cx) (hb : Heap) (env : Env) (nm : List Str) (d : Nat) (x : Str) (body : List Stmt) (turn : V → Loc → Hp → Option (Fl × Loc × Hp)) : Prop :=
  ∀ (i : Int) (tk : Tok) (px : Pos) loc H f loc' H' A s μ, turn (.int i) loc H = some (f, loc', H') → loc.length = nm.length → AOk A d → Rep C hb μ H s.heap → FrI env nm loc μ s.heap →
    wpAny (model prog w) A (assign (.Name x px) env (.int i tk)) (fun _ s₂ => wpAny (model prog w) A (execs body env) (StOut C hb env nm μ s f loc' H') noE s₂) noE s

noncomputable def KP (C : Cx) (hb : Heap) (env : Env) (nm : List Str) (its : List Addr) (μ₀ : Mu) (s₀ : Shared) (r : Fl × Loc × Hp) : PySem.Result → Shared → Prop
  | .ok fl, s' => r.2.1.length = nm.length ∧ ∃ μ', LoopI C hb env nm its μ₀ s₀ r.2.1 r.2.2 μ' s' ∧ FlRel μ' s'.heap r.1 fl
  | .error _, _ => False
def RI (C : Cx) (hb : Heap) (env : Env) (nm : List Str) (it : Addr) (μ₀ : Mu) (s₀ : Shared) (turn : V → Loc → Hp → Option (Fl × Loc × Hp)) (r : Fl × Loc × Hp) (n : Nat) (s₁ : Shared) : Prop :=
  ∃ a loc₁ H₁ μ₁, forL turn (rangeL n a) loc₁ H₁ = some r ∧ LoopI C hb env nm [it] μ₀ s₀ loc₁ H₁ μ₁ s₁ ∧ IsRangeIter s₁.heap it a n 1
section
variable {its : List Addr} {it : Addr} {μ₀ : Mu} {s₀ : Shared} {turn : V → Loc → Hp → Option (Fl × Loc × Hp)} {r : Fl × Loc × Hp} {n : Nat} {s₁ : Shared}
theorem KP.of {f : Fl} {l : Loc} {H : Hp} {fl : Flow} {μ' : Mu} (a : l.length = nm.length) (L : LoopI C hb env nm its μ₀ s₀ l H μ' s₁) (b : FlRel μ' s₁.heap f fl) : KP C hb env nm its μ₀ s₀ (f, l, H) (.ok fl) s₁ := ⟨a, μ', L, b⟩
theorem RI.go {Z : Prop} (h : RI C hb env nm it μ₀ s₀ turn r n s₁) (k : ∀ a loc₁ H₁ μ₁, forL turn (rangeL n a) loc₁ H₁ = some r → LoopI C hb env nm [it] μ₀ s₀ loc₁ H₁ μ₁ s₁ → IsRangeIter s₁.heap it a n 1 → Z) : Z :=
  let ⟨a, b, c, d, e, f, g⟩ := h
  k a b c d e f g
theorem RI.behind {a : Int} {g : Fl × Loc × Hp} {μ₃ : Mu} {fl : Flow} (e3 : (match g with | (f, loc, H) => match f with | .next => forL turn (rangeL n (a + 1)) loc H | .brk => some (.next, loc, H) | .ret v => some (.ret v, loc, H)) = some r)
    (L : LoopI C hb env nm [it] μ₀ s₀ g.2.1 g.2.2 μ₃ s₁) (S : IsRangeIter s₁.heap it (a + 1) n 1) (fr : FlRel μ₃ s₁.heap g.1 fl) :
    (match (generalizing := false) fl with | .next | .cont => ∃ m, m < n + 1 ∧ RI C hb env nm it μ₀ s₀ turn r m s₁ | .brk => KP C hb env nm [it] μ₀ s₀ r (.ok .next) s₁ | .ret v => KP C hb env nm [it] μ₀ s₀ r (.ok (.ret v)) s₁) := by
  obtain ⟨g, loc₂, H₂⟩ := g
  cases g with
  | next => cases fl <;> first | exact fr.elim | exact ⟨n, Nat.lt_succ_self n, a + 1, loc₂, H₂, μ₃, e3, L, S⟩
  | brk => cases e3; cases fl <;> first | exact fr.elim | exact KP.of L.len L trivial
  | ret v => cases e3; cases fl <;> first | exact fr.elim | exact KP.of L.len L fr
end
theorem loop_sound {x : Str} {px : Pos} {body : List Stmt} {turn : V → Loc → Hp → Option (Fl × Loc × Hp)} (T : Turn prog w C hb env nm d x body turn) (hA : AOk A d) {it : Addr} (hit : hb.get? it = none) {N : Nat} {r : Fl × Loc × Hp}
    {s₀ : Shared} {μ₀ : Mu} (a0 : Int) (e0' : IsRangeIter s₀.heap it a0 N 1) (he : forL turn (rangeL N a0) loc H = some r) (L0 : LoopI C hb env nm [it] μ₀ s₀ loc H μ₀ s₀) :
    codeAny (model prog w) A (.forLoop (.Name x px) (.ref it) body [] env) (KP C hb env nm [it] μ₀ s₀ r) s₀ := by
  refine codeAny_forLoop (RI C hb env nm it μ₀ s₀ turn r) (fun n s₁ h => h.go fun a loc₁ H₁ μ₁ he L e => ?_) N ⟨a0, loc, H, μ₀, he, L0, e0'⟩
  cases n with
  | zero =>
    refine wpAny_pyNext_range_end hA.h e (by simp) fun h' k => ?_
    cases he
    have L' := (L.iter (tk := s₁.toks) (by simpa using hit) (by simpa using itRange e) (fun b o n e => k b o (by simpa using n) e)).2
    exact wpAny_execs_nil (KP.of L'.len L' trivial)
  | succ n =>
    refine wpAny_pyNext_range_item e (by lia) fun h' e' sb => ?_
    have L' := (L.iter (tk := s₁.toks + 1) (by simpa using hit) (by simpa using itRange e) (fun b o n e => (sb.2 b (by simpa using n)).trans e)).2
    refine bC (o := turn (.int a) loc₁ H₁) he fun z h1 h2 => ?_
    refine wpAny_mono (T a s₁.toks px loc₁ H₁ _ _ _ A _ μ₁ h1 L.len hA L'.rep L'.fr) (fun _ s₂ t => wpAny_mono t (fun fl s₃ ⟨hl, μ₃, O, fr⟩ => ?_) fun _ _ x => x.elim) fun _ _ x => x.elim
    have ff : ∀ b ∈ it :: fa env, FrObj h' b := fun b q => (List.mem_cons.mp q).elim (fun q => q ▸ itOb (itRange e')) (L'.fr.fr b)
    have e3 := O.step.keep it _ (notOwn_fields L'.rep e' ⟨_, rfl⟩) (it_notFa (env := env) (itRange e') (fa_data L'.fr)) e'
    rw [show ((n + 1 : Nat) : Int) - 1 = n by lia] at e3
    exact RI.behind h2 ⟨O.rep, L'.step.trans (O.step.mono (fun b q => .tail _ q) ff), O.fr, O.gens.trans L'.gens, O.os.trans L'.os, hl⟩ e3 fr
end

section
variable {prog : Program} {w : World} {K : Frag} {C : Cx} {hb : Heap} {mg mb : Str → Option Value} {env : Env} {nm : List Str} {cf : CallF} {d : Nat}

section
variable (prog : Program) (w : World) (C : Cx) (hb : Heap) (env : Env) (nm : List Str) (cf : CallF) (d : Nat) (b : S)
def G1 (A : Around) (s : Shared) (μ : Mu) (f : Fl) (loc' : Loc) (H' : Hp) (st : Stmt) : Prop := wpAny (model prog w) A (exec st env) (StOut C hb env nm μ s f loc' H') noE s
def GS (A : Around) (s : Shared) (μ : Mu) (f : Fl) (loc' : Loc) (H' : Hp) (st : List Stmt) : Prop := wpAny (model prog w) A (execs st env) (StOut C hb env nm μ s f loc' H') noE s
def P1 : Prop := ∀ st loc H f loc' H' A s μ, chk1 C env.scope nm b st = true → evalS C cf b loc H = some (f, loc', H') → loc.length = nm.length → AOk A d → Rep C hb μ H s.heap → FrI env nm loc μ s.heap → G1 prog w C hb env nm A s μ f loc' H' st
def PS : Prop := ∀ st loc H f loc' H' A s μ, chkS C env.scope nm b st = true → evalS C cf b loc H = some (f, loc', H') → loc.length = nm.length → AOk A d → Rep C hb μ H s.heap → FrI env nm loc μ s.heap → GS prog w C hb env nm A s μ f loc' H' st
def Ps : Prop := P1 prog w C hb env nm cf d b ∧ PS prog w C hb env nm cf d b
end
theorem only1 {b : S} (h1 : P1 prog w C hb env nm cf d b) (h : ∀ st, chkS C env.scope nm b st = false) : Ps prog w C hb env nm cf d b := ⟨h1, fun st _ _ _ _ _ _ _ _ hx => no ((h st).symm.trans hx)⟩
theorem onlyS {b : S} (h1 : PS prog w C hb env nm cf d b) (h : ∀ st, chk1 C env.scope nm b st = false) : Ps prog w C hb env nm cf d b := ⟨fun st _ _ _ _ _ _ _ _ hx => no ((h st).symm.trans hx), h1⟩
section
variable {A : Around} {s : Shared} {μ : Mu} {g f : Fl} {l loc' : Loc} {K H' : Hp}
theorem s1S {st : Stmt} (h : some (g, l, K) = some (f, loc', H')) (k : G1 prog w C hb env nm A s μ g l K st) : G1 prog w C hb env nm A s μ f loc' H' st := by cases h; exact k
theorem sSS {st : List Stmt} (h : some (g, l, K) = some (f, loc', H')) (k : GS prog w C hb env nm A s μ g l K st) : GS prog w C hb env nm A s μ f loc' H' st := by cases h; exact k
end

theorem if_go {α : Type} {p : Prop} [Decidable p] {x : Option α} {r : α} {Q : Prop} (h : (if p then x else none) = some r) (k : p → x = some r → Q) : Q := by
  by_cases q : p
  · rw [if_pos q] at h; exact k q h
  · rw [if_neg q] at h; cases h
theorem setFwd_len : ∀ {is : List Nat} {vs : List V} {loc loc' : Loc}, setFwd is vs loc = some loc' → loc'.length = loc.length
  | [], [], _, _, e => by cases e; rfl
  | [], _ :: _, _, _, e => by cases e
  | _ :: _, [], _, _, e => by cases e
  | i :: is, v :: vs, loc, loc', e => if_go e fun _ e => (setFwd_len e).trans (List.length_set ..)

theorem setFwd_sound (hN : ∀ b ∈ fa env, hb.get? b = none) {A : Around} : ∀ {is : List Nat} {names : List Str} {vs : List V} {items : List Value} {loc loc' : Loc} {s : Shared} {μ : Mu} {H : Hp},
    namesAt nm is names = true → names.all (fun x => env.scope.names.lookup x == some .local) = true → setFwd is vs loc = some loc' → VRels μ s.heap vs items → Rep C hb μ H s.heap → FrI env nm loc μ s.heap →
    wpAny (model prog w) A (assignInOrder (names.map fun n => bindName env n) items) (fun _ s' => ∃ μ', SOut C hb env nm μ s loc' H μ' s') noE s
  | [], names, vs, items, loc, loc', s, μ, H, hn, hl, e, r, R, F => by
    cases names with
    | cons _ _ => cases hn
    | nil =>
      cases vs with
      | cons _ _ => cases e
      | nil => cases e; exact wpAny_pure ⟨μ, SOut.refl R F⟩
  | i :: is, names, vs, items, loc, loc', s, μ, H, hn, hl, e, r, R, F => by
    cases names with
    | nil => cases hn
    | cons x names =>
      cases vs with
      | nil => cases e
      | cons v vs =>
        cases r with
        | cons a r =>
          refine if_go e fun hi e => ?_
          show wpAny _ A (do holding _ (bindName env x _); assignInOrder (names.map fun n => bindName env n) _) _ _ s
          exact wpAny_bind (wpAny_holding (wpAny_bindName (sT (store_sound hN R F (eq_of_beq (anL hn)) hi (.inl (eq_of_beq (anL hl))) a) fun _ s1 μ1 O1 => mono_no (setFwd_sound hN (anR hn) (anR hl) e (r.step O1.step F.fr) O1.rep O1.fr) fun _ s2 ⟨μ2, O2⟩ => ⟨μ2, O1.trans O2⟩)))

theorem keepL {α : Type} {o : Option α} {f : α → Bool} {b : Bool} (h : o.elim false (fun a => f a && b) = true) : o.elim false f = true := by
  cases o with
  | none => cases h
  | some a => exact anL h
theorem keepR {α : Type} {o : Option α} {f : α → Bool} {b : Bool} (h : o.elim false (fun a => f a && b) = true) : b = true := by
  cases o with
  | none => cases h
  | some a => exact anR h
theorem assignT_c {sc : Scope} {is : List Nat} {e : E} {st : Stmt} {P : Stmt → Prop} (h : chk1 C sc nm (.assignT is e) st = true) (k : ∀ ts c p vs c' p' pos,
    swapOk sc ts vs = true → namesAt nm is.reverse (swapNm sc ts).reverse = true → (swapNm sc ts).all (fun x => sc.names.lookup x == some .local) = true → chkE C sc nm e (.Tuple vs c' p') = true → P (.Assign [.Tuple ts c p] (.Tuple vs c' p') pos)) : P st :=
  exC1 (o := stAssign' st) h fun q pos t => exC2 (o := exTuple' q.1) (P := fun z => P (.Assign [z] q.2 pos)) t fun ts c p u =>
    exC2 (o := exTuple' q.2) (P := fun z => chkE C sc nm e z = true → P (.Assign [.Tuple ts c p] z pos)) (f := fun vs => swapOk sc ts vs && namesAt nm is.reverse (swapNm sc ts).reverse && (swapNm sc ts).all (fun x => sc.names.lookup x == some .local)) (keepL u) (fun vs c' p' v g => k ts c p vs c' p' pos (anL (anL v)) (anR (anL v)) (anR v) g) (keepR u)
theorem inOwn_mono {fs : List Addr} {μ μ' : Mu} {h h' : Heap} (x : Step fs μ h μ' h') {b : Addr} (q : InOwn μ b) : InOwn μ' b := by
  obtain ⟨p, hm, e⟩ := q
  obtain ⟨i, hi, rfl⟩ := List.getElem_of_mem hm
  exact ⟨_, List.mem_of_getElem? (x.pre i _ (List.getElem?_eq_getElem hi)), e⟩
theorem Out.fresh {μ μ' : Mu} {H' : Hp} {s s' : Shared} (O : Out C hb μ s μ' H' s') {b : Addr} (hn : s'.heap.get? b = none) : s.heap.get? b = none := by
  cases e : s.heap.get? b with
  | none => rfl
  | some o =>
    by_cases n : InOwn μ b
    · obtain ⟨x, e'⟩ := O.rep.rel.ownLt (inOwn_mono O.step n)
      rw [hn] at e'; cases e'
    · rw [O.step.keep b o n (fun q => nomatch q) e] at hn; cases hn
theorem for_c {sc : Scope} {t : Nat} {n : E} {body : S} {st : Stmt} {P : Stmt → Prop} (h : chk1 C sc nm (.forRange t n body) st = true) (k : ∀ x xp rp a rpos xs pos,
    nm[t]? = some x → sc.names.lookup x = some .local → sc.names.lookup ("range" : Str) = some .globalImplicit → chkE C sc nm n a = true → chkS C sc nm body xs = true → P (.For (.Name x xp) (.Call (.Name ("range" : Str) rp) [a] [] rpos) xs [] pos)) : P st :=
  exC1 (o := stFor' st) h fun q pos u => exC1 (o := exName' q.1) (P := fun z => P (.For z q.2.1 q.2.2 [] pos)) u fun x xp u => exC0 (o := exCall' q.2.1) (P := fun z => P (.For (.Name x xp) z q.2.2 [] pos)) u fun r u =>
    exC1 (o := exName' r.1) (P := fun z => P (.For (.Name x xp) (.Call z r.2.1 [] r.2.2) q.2.2 [] pos)) u fun rn rp u => oneC (P := fun z => P (.For (.Name x xp) (.Call (.Name rn rp) z [] r.2.2) q.2.2 [] pos)) u fun a u =>
      have e := eq_of_beq (anR (anL (anL (anL u))))
      pe (P := fun z => P (.For (.Name x xp) (.Call (.Name z rp) [a] [] r.2.2) q.2.2 [] pos)) e (k x xp rp a r.2.2 q.2.2 pos (eq_of_beq (anL (anL (anL (anL (anL u)))))) (eq_of_beq (anR (anL (anL (anL (anL u)))))) (pe (P := fun z => sc.names.lookup z = some .globalImplicit) e.symm (eq_of_beq (anR (anL (anL u))))) (anR (anL u)) (anR u))

theorem range_call (ok : CxOk K C) (B : Base K hb mg mb) {A : Around} {s : Shared} {μ : Mu} {H H' : Hp} {loc : Loc} (R : Rep C hb μ H s.heap) (F : FrI env nm loc μ s.heap) {a : Expr} {rp rpos : Pos} {k : Int} (hl : env.scope.names.lookup ("range" : Str) = some .globalImplicit)
    (hst : starEach [a] env = (false, eval a env) :: starEach [] env) (ha : wpAny (model prog w) A (eval a env) (EOut C hb μ s H' (.int k)) noE s) :
    wpAny (model prog w) A (eval (.Call (.Name ("range" : Str) rp) [a] [] rpos) env) (fun r s' => ∃ μ1 q t u v, r = .ref q ∧ Out C hb μ s μ1 H' s' ∧ IsRange s'.heap q 0 k 1 t u v) noE s := by
  refine wpAny_Call_NameR (Name_function_global F.fk hl (loadGlobal_builtin (env := env) (by rw [F.gl]; exact B.g.keeps R.base) (mg_none_of B.X B.g ok.rg) (by rw [F.bl]; exact B.b.keeps R.base) ((B.builtins _ (by decide)).trans (by rfl)) ?_))
  rw [hst]
  refine PyProof.Rows.callWith_type rfl (Calls.evalArgs_plain (Calls.spliced_cons (mono_no ha fun u s1 ⟨μ1, O1, r1⟩ => Calls.spliced_nil ?_)))
  obtain ⟨tk0, rfl⟩ : ∃ tk0, u = .int k tk0 := by cases r1; exact ⟨_, rfl⟩
  refine call_range_1 ?_
  have P1 := Out.push O1.rep { cls := .type "range", data := .fields #[.int 0 s1.toks, .int k tk0, .int 1 (s1.toks + 1)] } (s1.toks + 1 + 1)
  exact ⟨μ1, _, _, _, _, rfl, O1.trans P1, IsRange.new ..⟩
theorem for_sound {A : Around} {s : Shared} {μ : Mu} {H1 H' : Hp} {loc loc' : Loc} {f : Fl} (hA : AOk A d) (hl : loc.length = nm.length) (F : FrI env nm loc μ s.heap) {x : Str} {xp pos : Pos} {iter : Expr} {xs : List Stmt} {k : Int} {turn : V → Loc → Hp → Option (Fl × Loc × Hp)}
    (hk : -(2 ^ 20) < k ∧ k < 2 ^ 20) (e3 : forL turn (rangeL k.toNat 0) loc H1 = some (f, loc', H')) (T : Turn prog w C hb env nm d x xs turn)
    (hiter : wpAny (model prog w) A (eval iter env) (fun r s' => ∃ μ1 q t u v, r = .ref q ∧ Out C hb μ s μ1 H1 s' ∧ IsRange s'.heap q 0 k 1 t u v) noE s) (hs : ∀ x, foldedSetIterable iter env x = pure x) :
    wpAny (model prog w) A (exec (.For (.Name x xp) iter xs [] pos) env) (StOut C hb env nm μ s f loc' H') noE s := by
  refine wpAny_For (mono_no hiter fun u s1 ⟨μ1, q, t, u', v, hu, O1, hr⟩ => ?_) hs
  subst hu
  refine wpAny_pyIter_range hr (small_one (by decide) (by decide) (by lia) (by lia)) ?_
  have hsz : Builtin.Range.rangeSize 0 k 1 = (k.toNat : Int) := by rw [rangeSize_one]; split <;> lia
  rw [hsz]
  have P2 := Out.push O1.rep { cls := .type "range_iterator", data := .fields #[rawInt 0, rawInt (k.toNat : Int), rawInt 1] } s1.toks
  have O2 := O1.trans P2
  have F2 := F.s O2.step
  have itn : s1.heap.get? s1.heap.objs.size = none := Heap.get?_none_of_le (Nat.le_refl _)
  have hit : hb.get? s1.heap.objs.size = none := by
    cases e : hb.get? s1.heap.objs.size with
    | none => rfl
    | some o => have := O1.rep.base _ _ e; rw [itn] at this; cases this
  have e0 : IsRangeIter (s1.heap.push { cls := .type "range_iterator", data := .fields #[rawInt 0, rawInt (k.toNat : Int), rawInt 1] }) s1.heap.objs.size 0 k.toNat 1 := Heap.get?_push_size _ rfl
  have LS := loop_sound (px := xp) T hA hit (N := k.toNat) (μ₀ := μ1) 0 e0 e3 ⟨P2.rep, .refl _ _ _, F2, rfl, rfl, hl⟩
  refine codeAny_mono LS fun r s' hr => ?_
  rcases r with e | fl
  · exact hr.elim
  · obtain ⟨l1, μ', L, fr⟩ := hr
    exact ⟨l1, μ', ⟨L.rep, Step.dropNew O2.step L.step (by simpa using O1.fresh itn) F.fr, L.fr, L.gens.trans O2.gens, L.os.trans O2.os⟩, fr⟩

end
end Mine
end
section
open PySem PySem.W PySem.Calls PyProof.Rows Builtin Builtin.ObjectAttr
set_option autoImplicit false
namespace Mine
section
variable {prog : Program} {w : World} {A : Around} {s : Shared} {K : Frag} {C : Cx} {hb : Heap} {mg mb : Str → Option Value} {μ : Mu} {H H' : Hp} {env : Env} {nm : List Str} {loc loc' : Loc} {cf : CallF} {d : Nat}

theorem chkNames_cons {sc : Scope} {i : Nat} {is : List Nat} {xs : List Expr} {P : List Expr → Prop} (h : chkNames sc nm (i :: is) xs = true) (k : ∀ x p ys, nm[i]? = some x → sc.names.lookup x = some .local → chkNames sc nm is ys = true → P (.Name x p :: ys)) : P xs :=
  consC h fun q ys t => exC1 (o := exName' q) (P := fun z => P (z :: ys)) (anL t) fun x p u => k x p ys (eq_of_beq (anL u)) (eq_of_beq (anR u)) (anR t)
theorem chkNames_nil {sc : Scope} {xs : List Expr} (h : chkNames sc nm [] xs = true) : xs = [] := List.isEmpty_iff.mp h
theorem put_name (hN : ∀ b ∈ fa env, hb.get? b = none) {i : Nat} {x : Str} {p : Pos} {v : V} {u : Value} (R : Rep C hb μ H s.heap) (F : FrI env nm loc μ s.heap) (h1 : nm[i]? = some x) (h2 : env.scope.names.lookup x = some .local) (hi : i < loc.length) (r : VRel μ s.heap v u) :
    wpAny (model prog w) A (assign (.Name x p) env u) (fun _ s' => ∃ μ', SOut C hb env nm μ s (loc.set i (some v)) H μ' s') noE s :=
  wpAny_assign_Name (store_sound hN R F h1 hi (.inl h2) r)

theorem names_shape : ∀ {is : List Nat} {xs : List Expr}, chkNames env.scope nm is xs = true → (assignEach xs env).length = is.length ∧ ∀ k, List.findIdx?.go (fun x : Bool × (Value → Sem Unit) => x.1) (assignEach xs env) k = none
  | [], xs, h => by rw [chkNames_nil h]; exact ⟨rfl, fun _ => rfl⟩
  | i :: is, xs, h => chkNames_cons (P := fun xs => (assignEach xs env).length = is.length + 1 ∧ ∀ k, List.findIdx?.go (fun x : Bool × (Value → Sem Unit) => x.1) (assignEach xs env) k = none) h fun x p ys _ _ h' => ⟨congrArg (· + 1) (names_shape h').1, fun k => (names_shape h').2 (k + 1)⟩
theorem names_sound (hN : ∀ b ∈ fa env, hb.get? b = none) : ∀ {is : List Nat} {xs : List Expr} {vs : List V} {items : List Value} {loc loc' : Loc} {s : Shared} {μ : Mu} {H : Hp},
    chkNames env.scope nm is xs = true → setFwd is vs loc = some loc' → VRels μ s.heap vs items → Rep C hb μ H s.heap → FrI env nm loc μ s.heap →
    wpAny (model prog w) A (assignInOrder ((assignEach xs env).map (·.2)) items) (fun _ s' => ∃ μ', SOut C hb env nm μ s loc' H μ' s') noE s
  | [], xs, vs, items, loc, loc', s, μ, H, hx, e, r, R, F => by
    rw [chkNames_nil hx]
    cases vs with
    | cons _ _ => cases e
    | nil => cases e; exact wpAny_pure ⟨μ, SOut.refl R F⟩
  | i :: is, xs, vs, items, loc, loc', s, μ, H, hx, e, r, R, F => by
    refine chkNames_cons (P := fun xs => wpAny (model prog w) A (assignInOrder ((assignEach xs env).map (·.2)) items) (fun _ s' => ∃ μ', SOut C hb env nm μ s loc' H μ' s') noE s) hx fun x p ys h1 h2 h' => ?_
    cases vs with
    | nil => cases e
    | cons v vs =>
      cases r with
      | cons a r =>
        refine if_go e fun hi e => ?_
        show wpAny _ A (do holding _ (assign (.Name x p) env _); assignInOrder ((assignEach ys env).map (·.2)) _) _ _ s
        exact wpAny_bind (wpAny_holding (sT (put_name hN R F h1 h2 hi a) fun _ s1 μ1 O1 => mono_no (names_sound hN h' e (r.step O1.step F.fr) O1.rep O1.fr) fun _ s2 ⟨μ2, O2⟩ => ⟨μ2, O1.trans O2⟩))
theorem setFwd_lens : ∀ {is : List Nat} {vs : List V} {l l' : Loc}, setFwd is vs l = some l' → is.length = vs.length
  | [], [], _, _, _ => rfl
  | [], _ :: _, _, _, e => by cases e
  | _ :: _, [], _, _, e => by cases e
  | i :: is, v :: vs, l, l', e => if_go e fun _ e => congrArg (· + 1) (setFwd_lens e)
theorem parts_cases {v : V} {vs : List V} (e : partsOf C H v = some vs) : v = .tup vs ∨ itemsOf C H v = some vs := by
  cases v <;> first | exact .inr e | (cases e; exact .inl rfl)
theorem parts_sound (ok : CxOk K C) (X : K.In hb) (hh : A.handled = none) (R : Rep C hb μ H s.heap) {v : V} {vs : List V} {u : Value} (e : partsOf C H v = some vs) (r : VRel μ s.heap v u) {targets : List (Bool × (Value → Sem Unit))} {Q : Unit → Shared → Prop}
    (hn : targets.length = vs.length) (hs : targets.findIdx? (·.1) = none) (h : ∀ items s1, Out C hb μ s μ H s1 → VRels μ s1.heap vs items → wpAny (model prog w) A (assignInOrder (targets.map (·.2)) items) Q noE s1) :
    wpAny (model prog w) A (unpack u targets) Q noE s := by
  have go : ∀ {h' : Heap}, Heap.ExtBut s.heap.objs.size s.heap h' → Out C hb μ s μ H { s with heap := h' } := fun he => by
    obtain ⟨st, R2⟩ := R.keep fun b o e => he b o (fun q => absurd (Heap.lt_size e) (by rw [q]; exact Nat.lt_irrefl _)) e
    exact ⟨R2, st, rfl, rfl⟩
  unfold unpack
  rw [hs, hn]
  rcases parts_cases e with rfl | e
  · cases r with
    | @tup _ items k q g n r =>
      rw [← r.length]
      refine wpAny_bind (wpAny_holding ?_)
      have := unpackItems_tuple (Q := fun items s1 => wpAny (model prog w) A (assignInOrder (targets.map (·.2)) items) Q noE s1) (E := noE) (prog := prog) (w := w) (A := A) hh ⟨_, g, rfl, k, rfl⟩ (fun h' he => h _ _ (go he) (r.s (go he).step))
      simpa using this
  · obtain ⟨l, items, n, rfl, g, rs⟩ := itemsOf_sound ok X R e r
    rw [← rs.length]
    refine wpAny_bind (wpAny_holding ?_)
    have := kun_itemsOf (Q := fun items s1 => wpAny (model prog w) A (assignInOrder (targets.map (·.2)) items) Q noE s1) (E := noE) (prog := prog) (w := w) (A := A) hh (IsL.isList g) (fun h' he => h _ _ (go he) (rs.s (go he).step))
    simpa using this
theorem unpack_names (ok : CxOk K C) (X : K.In hb) (hh : A.handled = none) (hN : ∀ b ∈ fa env, hb.get? b = none) (R : Rep C hb μ H s.heap) (F : FrI env nm loc μ s.heap) {v : V} {vs : List V} {u : Value} {is : List Nat} {xs : List Expr} {k : Nat} {p : Pos} (e : partsOf C H v = some vs) (r : VRel μ s.heap v u)
    (hx : chkNames env.scope nm is xs = true) (e2 : setFwd is vs loc = some loc') : wpAny (model prog w) A (assign (.Tuple xs k p) env u) (fun _ s' => ∃ μ', SOut C hb env nm μ s loc' H μ' s') noE s := by
  obtain ⟨a, b⟩ := names_shape hx
  rw [arm_assign_Tuple]
  refine wpAny_bind (wpAny_standAt (parts_sound ok X hh R e r (a.trans (setFwd_lens e2)) (b 0) fun items s1 O1 r1 => ?_))
  exact mono_no (names_sound hN hx e2 r1 O1.rep (F.s O1.step)) fun _ s2 ⟨μ2, O2⟩ => ⟨μ2, (O1.toS F).trans O2⟩
theorem tgt_cases {ts : List Nat} {x : Expr} (h : chkTarget env.scope nm ts x = true) : (∃ t y p, ts = [t] ∧ x = .Name y p ∧ nm[t]? = some y ∧ env.scope.names.lookup y = some .local) ∨ (∃ xs k p, x = .Tuple xs k p ∧ chkNames env.scope nm ts xs = true ∧ ∀ (H : Hp) (v : V) (loc : Loc), setTgt C H ts v loc = (partsOf C H v).bind fun us => setFwd ts us loc) := by
  have many : (exTuple x).elim false (chkNames env.scope nm ts) = true → ∃ xs k p, x = .Tuple xs k p ∧ chkNames env.scope nm ts xs = true := fun g => by
    exact exC2 (o := exTuple' x) (P := fun x => ∃ xs k p, x = .Tuple xs k p ∧ chkNames env.scope nm ts xs = true) g fun xs k p g1 => ⟨xs, k, p, rfl, g1⟩
  match ts, h, many with
  | [t], h, _ =>
    have g : ∃ y p ys, [x] = .Name y p :: ys ∧ nm[t]? = some y ∧ env.scope.names.lookup y = some .local := chkNames_cons (P := fun xs => ∃ y p ys, xs = .Name y p :: ys ∧ nm[t]? = some y ∧ env.scope.names.lookup y = some .local) (show chkNames env.scope nm [t] [x] = true from h) fun y p ys a b _ => ⟨y, p, ys, rfl, a, b⟩
    obtain ⟨y, px, ys, e9, n1, n2⟩ := g
    injection e9 with e9 _
    exact .inl ⟨t, y, px, rfl, e9, n1, n2⟩
  | [], h, many => obtain ⟨xs, k, p, a, b⟩ := many h; exact .inr ⟨xs, k, p, a, b, fun _ _ _ => rfl⟩
  | _ :: _ :: _, h, many => obtain ⟨xs, k, p, a, b⟩ := many h; exact .inr ⟨xs, k, p, a, b, fun _ _ _ => rfl⟩
theorem tgt_go {ts : List Nat} {x : Expr} (h : chkTarget env.scope nm ts x = true) (it : Addr) (y : Value) (s : Shared) (Q : Unit → Shared → Prop) (l : Addr) (i : Nat) (hi : s.heap.IsListIter it l i) (hQ : Q () s) : wpAny (model prog w) A (letOwnedTupleGo x (.ref it) y) Q noE s := by
  rcases tgt_cases (C := default) h with ⟨t, z, p, _, rfl, _⟩ | ⟨xs, k, p, rfl, _⟩
  · exact wpAny_pure hQ
  · cases y <;> first | exact wpAny_letOwnedTupleGo_listiter hi hQ | exact wpAny_pure hQ
theorem tgt_sound (ok : CxOk K C) (X : K.In hb) (hh : A.handled = none) (hN : ∀ b ∈ fa env, hb.get? b = none) {ts : List Nat} {x : Expr} {v : V} {u : Value} (h : chkTarget env.scope nm ts x = true) (e : setTgt C H ts v loc = some loc') (R : Rep C hb μ H s.heap) (F : FrI env nm loc μ s.heap) (r : VRel μ s.heap v u) :
    loc'.length = loc.length ∧ wpAny (model prog w) A (assign x env u) (fun _ s' => ∃ μ', SOut C hb env nm μ s loc' H μ' s') noE s := by
  rcases tgt_cases (C := C) h with ⟨t, z, p, rfl, rfl, n1, n2⟩ | ⟨xs, k, p, rfl, g, e1⟩
  · have e : setFwd [t] [v] loc = some loc' := e
    exact ⟨setFwd_len e, if_go e fun hi e => by cases e; exact put_name hN R F n1 n2 hi r⟩
  · rw [e1] at e
    obtain ⟨us, h5, h6⟩ := Option.bind_eq_some_iff.mp e
    exact ⟨setFwd_len h6, unpack_names ok X hh hN R F h5 r g h6⟩
end
end Mine
end
section
open PySem PySem.W PySem.Calls PyProof.Rows Builtin Builtin.ObjectAttr
set_option autoImplicit false
namespace Mine

def TurnK (prog : Program) (w : World) (C : Cx) (hb : Heap) (env : Env) (nm : List Str) (d : Nat) (tgt : Expr) (body : List Stmt) (yld : Nat → V → V) (turn : Nat → V → Loc → Hp → Option (Fl × Loc × Hp)) : Prop :=
  ∀ (k : Nat) (u : V) (x : Value) loc H f loc' H' A s μ, turn k u loc H = some (f, loc', H') → loc.length = nm.length → AOk A d → Rep C hb μ H s.heap → FrI env nm loc μ s.heap → VRel μ s.heap (yld k u) x →
    wpAny (model prog w) A (assign tgt env x) (fun _ s₂ => wpAny (model prog w) A (execs body env) (StOut C hb env nm μ s f loc' H') noE s₂) noE s

structure Proto (prog : Program) (w : World) (A : Around) (tgt : Expr) (its : List Addr) (it q : Addr) (yld : Nat → V → V) (St : Nat → Heap → Prop) : Prop where
  ok : ∀ k h, St k h → ∀ b ∈ its, ItOk h b
  fr : ∀ k h h', St k h → (∀ b ∈ its, ∀ o, h.get? b = some o → h'.get? b = some o) → St k h'
  item : ∀ k (s : Shared) x items n, St k s.heap → IsL s.heap q items n → items[k]? = some x → q ∉ its →
    wpAny (model prog w) A (pyNext (.ref it)) (fun r s₂ => ∃ y, r = some y ∧ wpAny (model prog w) A (letOwnedTupleGo tgt (.ref it) y) (fun _ s₃ => ∃ h' t, s₃ = { s with heap := h', toks := t } ∧ (∀ b o, b ∉ its → s.heap.get? b = some o → h'.get? b = some o) ∧ St (k + 1) h' ∧
      ∀ μ u, (∀ b, InOwn μ b → ∃ o, s.heap.get? b = some o) → VRel μ h' u x → VRel μ h' (yld k u) y) noE s₂) noE s
  done : ∀ k (s : Shared) items n, St k s.heap → IsL s.heap q items n → items[k]? = none → q ∉ its →
    wpAny (model prog w) A (pyNext (.ref it)) (fun r s₂ => r = none ∧ ∃ h' t, s₂ = { s with heap := h', toks := t } ∧ ∀ b o, b ∉ its → s.heap.get? b = some o → h'.get? b = some o) noE s

section
variable {prog : Program} {w : World} {A : Around} {s : Shared} {K : Frag} {C : Cx} {hb : Heap} {mg mb : Str → Option Value} {μ : Mu} {H H' : Hp} {env : Env} {nm : List Str} {loc : Loc} {cf : CallF} {d : Nat}

def KI (C : Cx) (hb : Heap) (env : Env) (nm : List Str) (its : List Addr) (μ₀ : Mu) (s₀ : Shared) (o : V) (vs : List V) (turn : Nat → V → Loc → Hp → Option (Fl × Loc × Hp)) (St : Nat → Heap → Prop) (r : Fl × Loc × Hp) (n : Nat) (s₁ : Shared) : Prop :=
  ∃ k us loc₁ H₁ μ₁, n = us.length ∧ vs.drop k = us ∧ forK C o vs turn k us loc₁ H₁ = some r ∧ LoopI C hb env nm its μ₀ s₀ loc₁ H₁ μ₁ s₁ ∧ St k s₁.heap ∧ itemsOf C H₁ o = some vs
section
variable {its : List Addr} {μ₀ : Mu} {s₀ : Shared} {o : V} {vs : List V} {turn : Nat → V → Loc → Hp → Option (Fl × Loc × Hp)} {St : Nat → Heap → Prop} {r : Fl × Loc × Hp} {n : Nat} {s₁ : Shared}
theorem KI.go {Z : Prop} (h : KI C hb env nm its μ₀ s₀ o vs turn St r n s₁) (k : ∀ k us loc₁ H₁ μ₁, n = us.length → vs.drop k = us → forK C o vs turn k us loc₁ H₁ = some r → LoopI C hb env nm its μ₀ s₀ loc₁ H₁ μ₁ s₁ → St k s₁.heap → itemsOf C H₁ o = some vs → Z) : Z :=
  let ⟨a, b, c, d, e, f, g, h, i, j, l⟩ := h
  k a b c d e f g h i j l
theorem KI.behind {k : Nat} {us : List V} {g : Fl × Loc × Hp} {μ₃ : Mu} {fl : Flow} (hd : vs.drop (k + 1) = us) (e3 : (match g with | (f, loc, H) => match f with | .next => (open Classical in if itemsOf C H o = some vs then forK C o vs turn (k + 1) us loc H else none) | .brk => some (.next, loc, H) | .ret v => some (.ret v, loc, H)) = some r)
    (L : LoopI C hb env nm its μ₀ s₀ g.2.1 g.2.2 μ₃ s₁) (S : St (k + 1) s₁.heap) (fr : FlRel μ₃ s₁.heap g.1 fl) :
    (match (generalizing := false) fl with | .next | .cont => ∃ m, m < us.length + 1 ∧ KI C hb env nm its μ₀ s₀ o vs turn St r m s₁ | .brk => KP C hb env nm its μ₀ s₀ r (.ok .next) s₁ | .ret v => KP C hb env nm its μ₀ s₀ r (.ok (.ret v)) s₁) := by
  obtain ⟨g, loc₂, H₂⟩ := g
  cases g with
  | next =>
    have e3 : (open Classical in if itemsOf C H₂ o = some vs then forK C o vs turn (k + 1) us loc₂ H₂ else none) = some r := e3
    refine @if_go _ _ (_) _ _ _ e3 fun e4 e3 => ?_
    cases fl <;> first | exact fr.elim | exact ⟨us.length, Nat.lt_succ_self _, k + 1, us, loc₂, H₂, μ₃, rfl, hd, e3, L, S, e4⟩
  | brk => cases e3; cases fl <;> first | exact fr.elim | exact KP.of L.len L trivial
  | ret v => cases e3; cases fl <;> first | exact fr.elim | exact KP.of L.len L fr
theorem drop_at {k : Nat} {u : V} {us : List V} (h : vs.drop k = u :: us) : vs[k]? = some u ∧ vs.drop (k + 1) = us := ⟨by rw [← List.head?_drop, h]; rfl, by rw [← List.tail_drop, h]; rfl⟩
end
theorem loopK_sound {tgt : Expr} {body : List Stmt} {yld : Nat → V → V} {turn : Nat → V → Loc → Hp → Option (Fl × Loc × Hp)} {its : List Addr} {it q : Addr} {St : Nat → Heap → Prop} (T : TurnK prog w C hb env nm d tgt body yld turn) (P : Proto prog w A tgt its it q yld St) (hA : AOk A d)
    (ok : CxOk K C) (X : K.In hb) (hit : ∀ b ∈ its, hb.get? b = none) {r : Fl × Loc × Hp} {s₀ : Shared} {μ₀ : Mu} {o : V} {vs : List V} (ro : VRel μ₀ s₀.heap o (.ref q))
    (he : forK C o vs turn 0 vs loc H = some r) (L0 : LoopI C hb env nm its μ₀ s₀ loc H μ₀ s₀) (S0 : St 0 s₀.heap) (e0 : itemsOf C H o = some vs) :
    codeAny (model prog w) A (.forLoop tgt (.ref it) body [] env) (KP C hb env nm its μ₀ s₀ r) s₀ := by
  have f0 : ∀ b ∈ its ++ fa env, FrObj s₀.heap b := fun b m => (List.mem_append.mp m).elim (fun m => itOb (P.ok 0 _ S0 b m)) (L0.fr.fr b)
  refine codeAny_forLoop_any (KI C hb env nm its μ₀ s₀ o vs turn St r) (fun n s₁ h => h.go fun k us loc₁ H₁ μ₁ hn hd he L S e => ?_) vs.length ⟨0, vs, loc, H, μ₀, rfl, rfl, he, L0, S0, e0⟩
  obtain ⟨l, items, n, e1, g, rs⟩ := itemsOf_sound ok X L.rep e (ro.step L.step f0)
  cases e1
  have hq : q ∉ its := fun m => by
    obtain ⟨o, _, h1, h2, _⟩ := P.ok k _ S q m
    rw [show s₁.heap.get? q = _ from g] at h1
    cases h1
    cases h2
  cases us with
  | nil =>
    have hk : items.toArray[k]? = none := by
      have := rs.length
      have : vs.length ≤ k := List.drop_eq_nil_iff.mp hd
      simp; lia
    refine wpAny_mono (P.done k s₁ _ _ S g hk hq) (fun r s₂ ⟨h1, h', t, h2, h3⟩ => ?_) fun _ _ z => z.elim
    subst h1 h2
    cases he
    have L' := (L.iter (tk := t) hit (P.ok k _ S) h3).2
    exact wpAny_execs_nil (KP.of L'.len L' trivial)
  | cons u us =>
    obtain ⟨hu, hd'⟩ := drop_at hd
    obtain ⟨x, hx, rx⟩ := rs.get hu
    refine wpAny_mono (P.item k s₁ x _ _ S g (by simpa using hx) hq) (fun r s₂ ⟨y, h1, h2⟩ => ?_) fun _ _ z => z.elim
    subst h1
    refine wpAny_mono h2 (fun _ s₃ ⟨h', t, h3, h4, S', h5⟩ => ?_) fun _ _ z => z.elim
    subst h3
    obtain ⟨st, L'⟩ := L.iter (tk := t) hit (P.ok k _ S) h4
    refine bC (o := turn k u loc₁ H₁) he fun g2 e2 e3 => ?_
    refine wpAny_mono (T k u y loc₁ H₁ _ _ _ A _ μ₁ e2 L.len hA L'.rep L'.fr (h5 μ₁ u (fun b m => L.rep.rel.ownLt m) (rx.step st fun b m => itOb (P.ok k _ S b m)))) (fun _ s₂ t => wpAny_mono t (fun fl s₃ ⟨hl, μ₃, O, fr⟩ => ?_) fun _ _ x => x.elim) fun _ _ x => x.elim
    have ff : ∀ b ∈ its ++ fa env, FrObj h' b := fun b m => (List.mem_append.mp m).elim (fun m => itOb (P.ok _ _ S' b m)) (L'.fr.fr b)
    subst hn
    exact KI.behind hd' e3 ⟨O.rep, L'.step.trans (O.step.mono (fun b m => List.mem_append_right _ m) ff), O.fr, O.gens.trans L'.gens, O.os.trans L'.os, hl⟩
      (P.fr _ _ _ S' fun b m o e => O.step.keep b o (let ⟨o', vs', a, b', _⟩ := P.ok _ _ S' b m; notOwn_fields L'.rep a ⟨vs', b'⟩) (fun q => it_notFa (env := env) (P.ok _ _ S' b m) (fa_data L'.fr) q) e) fr

theorem itList {h : Heap} {it l : Addr} {i : Nat} (e : h.IsListIter it l i) : ItOk h it := let ⟨o, a, b, c⟩ := e; ⟨o, _, a, c, by rw [b]; decide, fun q t h => by cases h⟩
theorem itEnum {h : Heap} {e it : Addr} {i : Int} {old : Value} (x : IsEnum h e it i old) : ItOk h e := ⟨_, _, x, rfl, by show Value.type "enumerate" ≠ Value.type "method"; decide, fun q t h => by cases h⟩

theorem protoList (hh : A.handled = none) {tgt : Expr} (ht : ∀ it y s (Q : Unit → Shared → Prop) l i, s.heap.IsListIter it l i → Q () s → wpAny (model prog w) A (letOwnedTupleGo tgt (.ref it) y) Q noE s) {it q : Addr} : Proto prog w A tgt [it] it q (fun _ v => v) (fun i h => h.IsListIter it q i) where
  ok := fun k h x b m => by rw [List.mem_singleton.mp m]; exact itList x
  fr := fun k h h' x e => x.at fun o => e it (.head _) o
  item := fun k s x items n S g hx hq => by
    refine wpAny_pyNext_list_item S (IsL.isList g) hx fun h' S' sb => ⟨x, rfl, ht it x _ _ _ _ S' ⟨h', s.toks, rfl, fun b o n e => (sb.2 b (by simpa using n)).trans e, S', fun μ u _ r => r⟩⟩
  done := fun k s items n S g hx hq => by
    refine wpAny_pyNext_list_end hh S (IsL.isList g) hx fun h' sb => ⟨rfl, h', s.toks, rfl, fun b o n e => sb b o (by simpa using n) e⟩

theorem protoEnum (hh : A.handled = none) {xs : List Expr} {k : Nat} {p : Pos} {e it q : Addr} (hne : e ≠ it) : Proto prog w A (.Tuple xs k p) [e, it] e q (fun k v => .tup [.int k, v]) (fun i h => (∃ old, IsEnum h e it i old) ∧ h.IsListIter it q i) where
  ok := fun k h ⟨⟨old, x⟩, y⟩ b m => by
    rcases List.mem_cons.mp m with rfl | m
    · exact itEnum x
    · rw [List.mem_singleton.mp m]; exact itList y
  fr := fun k h h' ⟨⟨old, x⟩, y⟩ f => ⟨⟨old, f e (.head _) _ x⟩, y.at fun o => f it (.tail _ (.head _)) o⟩
  item := fun k s x items n ⟨⟨old, S⟩, S2⟩ g hx hq => by
    refine wpAny_pyNext_enum_item S S2 (IsL.isList g) hx hne fun h' a b c z kk => ⟨_, rfl, wpAny_letOwnedTupleGo_enum a fun h2 a2 sb => ?_⟩
    have ne : ∀ {b : Addr}, b ∉ [e, it] → b ≠ e ∧ b ≠ it := fun m => ⟨fun h => m (h ▸ .head _), fun h => m (h ▸ .tail _ (.head _))⟩
    have lt : e < s.heap.objs.size := Heap.lt_size S
    refine ⟨h2, _, rfl, fun b o n e' => (sb.2 b (ne n).1).trans (kk b o (ne n).1 (ne n).2 e'), ⟨⟨x, ?_⟩, b.extBut sb.extBut (Ne.symm hne)⟩, fun μ u w r => ?_⟩
    · have : ((k + 1 : Nat) : Int) = (k : Int) + 1 := by push_cast; rfl
      rw [this]; exact a2
    · refine .tup (items := [.int k s.toks, x]) (n := 0) ((sb.2 _ (Nat.ne_of_gt lt)).trans c) (fun m => ?_) (.cons (.int _ _) (.cons r .nil))
      obtain ⟨o, e'⟩ := w _ m
      exact absurd (Heap.lt_size e') (Nat.lt_irrefl _)
  done := fun k s items n ⟨⟨old, S⟩, S2⟩ g hx hq => by
    refine wpAny_pyNext_enum_end hh S S2 (IsL.isList g) hx fun h' sb => ⟨rfl, h', s.toks, rfl, fun b o n e' => sb b o (fun h => n (h ▸ .tail _ (.head _))) e'⟩
theorem loop_tail {tgt : Expr} {body : List Stmt} {yld : Nat → V → V} {turn : Nat → V → Loc → Hp → Option (Fl × Loc × Hp)} {its : List Addr} {it q : Addr} {St : Nat → Heap → Prop} (T : TurnK prog w C hb env nm d tgt body yld turn) (P : Proto prog w A tgt its it q yld St) (hA : AOk A d)
    (ok : CxOk K C) (X : K.In hb) {H1 : Hp} {f : Fl} {loc' : Loc} {μ1 : Mu} {s2 : Shared} {o : V} {vs : List V} (hl : loc.length = nm.length) (R : Rep C hb μ H s.heap) (F : FrI env nm loc μ s.heap) (O : Out C hb μ s μ1 H1 s2) (new : ∀ b ∈ its, s.heap.get? b = none)
    (ro : VRel μ1 s2.heap o (.ref q)) (he : forK C o vs turn 0 vs loc H1 = some (f, loc', H')) (S0 : St 0 s2.heap) (e0 : itemsOf C H1 o = some vs) {R' : PySem.Result → Shared → Prop} (hR : ∀ fl s', StOut C hb env nm μ s f loc' H' fl s' → R' (.ok fl) s') :
    codeAny (model prog w) A (.forLoop tgt (.ref it) body [] env) R' s2 := by
  have hit : ∀ b ∈ its, hb.get? b = none := fun b m => by
    cases e : hb.get? b with
    | none => rfl
    | some o => have := R.base _ _ e; rw [new b m] at this; cases this
  refine codeAny_mono (loopK_sound T P hA ok X hit ro he ⟨O.rep, .refl _ _ _, F.s O.step, rfl, rfl, hl⟩ S0 e0) fun r s' hr => ?_
  rcases r with e | fl
  · exact hr.elim
  · obtain ⟨l1, μ', L, fr⟩ := hr
    exact hR fl s' ⟨l1, μ', ⟨L.rep, Step.dropNew O.step L.step new F.fr, L.fr, L.gens.trans O.gens, L.os.trans O.os⟩, fr⟩
theorem forIn_sound {tgt iter : Expr} {body : List Stmt} {pos : Pos} {turn : Nat → V → Loc → Hp → Option (Fl × Loc × Hp)} (T : TurnK prog w C hb env nm d tgt body (fun _ v => v) turn) (hA : AOk A d)
    (ht : ∀ it y s (Q : Unit → Shared → Prop) l i, s.heap.IsListIter it l i → Q () s → wpAny (model prog w) A (letOwnedTupleGo tgt (.ref it) y) Q noE s)
    (ok : CxOk K C) (X : K.In hb) {H1 : Hp} {f : Fl} {loc' : Loc} {o : V} {vs : List V} (hl : loc.length = nm.length) (R : Rep C hb μ H s.heap) (F : FrI env nm loc μ s.heap) (he : forK C o vs turn 0 vs loc H1 = some (f, loc', H')) (e0 : itemsOf C H1 o = some vs)
    (hiter : wpAny (model prog w) A (eval iter env) (EOut C hb μ s H1 o) noE s) (hs : ∀ x, foldedSetIterable iter env x = pure x) :
    wpAny (model prog w) A (exec (.For tgt iter body [] pos) env) (StOut C hb env nm μ s f loc' H') noE s := by
  refine wpAny_For (mono_no hiter fun u s1 ⟨μ1, O1, r1⟩ => ?_) hs
  obtain ⟨q, items, n, rfl, g, rs⟩ := itemsOf_sound ok X O1.rep e0 r1
  refine wpAny_pyIter_list (IsL.isList g) ?_
  have P2 := Out.push O1.rep { cls := .type "list_iterator", data := .fields #[.ref q, .int 0 0] } s1.toks
  have O2 := O1.trans P2
  have new : s.heap.get? s1.heap.objs.size = none := O1.fresh (Heap.get?_none_of_le (Nat.le_refl _))
  exact loop_tail T (protoList hA.h ht) hA ok X hl R F O2 (by simpa using new) (r1.s P2.step) he ⟨_, Heap.get?_push_size _ rfl, rfl, rfl⟩ e0 fun fl s' h => h
theorem forEnum_sound {xs : List Expr} {k : Nat} {p : Pos} {iter : Expr} {body : List Stmt} {pos : Pos} {turn : Nat → V → Loc → Hp → Option (Fl × Loc × Hp)} (T : TurnK prog w C hb env nm d (.Tuple xs k p) body (fun k v => .tup [.int k, v]) turn) (hA : AOk A d)
    (ok : CxOk K C) (X : K.In hb) {H1 : Hp} {f : Fl} {loc' : Loc} {o : V} {vs : List V} (hl : loc.length = nm.length) (R : Rep C hb μ H s.heap) (F : FrI env nm loc μ s.heap) (he : forK C o vs turn 0 vs loc H1 = some (f, loc', H')) (e0 : itemsOf C H1 o = some vs)
    (hiter : ∀ Q : Value → Shared → Prop, (∀ u s1, EOut C hb μ s H1 o u s1 → wpAny (model prog w) A (call (.type "enumerate") [u]) Q noE s1) → wpAny (model prog w) A (eval iter env) Q noE s) (hs : ∀ x, foldedSetIterable iter env x = pure x) :
    wpAny (model prog w) A (exec (.For (.Tuple xs k p) iter body [] pos) env) (StOut C hb env nm μ s f loc' H') noE s := by
  refine wpAny_For (hiter _ fun u s1 ⟨μ1, O1, r1⟩ => ?_) hs
  obtain ⟨q, items, n, rfl, g, rs⟩ := itemsOf_sound ok X O1.rep e0 r1
  refine call_enumerate_list (IsL.isList g) fun h' a b c kk => ?_
  refine wpAny_pyIter_enum a ?_
  obtain ⟨st, R2⟩ := O1.rep.keep kk
  have O2 : Out C hb μ s μ1 H1 { s1 with heap := h' } := O1.trans ⟨R2, st, rfl, rfl⟩
  have new : ∀ b ∈ [s1.heap.objs.size + 1, s1.heap.objs.size], s.heap.get? b = none := fun b m => O1.fresh (Heap.get?_none_of_le (by
    rcases List.mem_cons.mp m with rfl | m
    · lia
    · rw [List.mem_singleton.mp m]; lia))
  exact loop_tail T (protoEnum hA.h (Nat.succ_ne_self _)) hA ok X hl R F O2 new (r1.s st) he ⟨⟨_, a⟩, b⟩ e0 fun fl s' h => h
end
end Mine
end
section
open PySem PySem.W PySem.Calls PyProof.Rows Builtin Builtin.ObjectAttr
set_option autoImplicit false
namespace Mine
section
variable {prog : Program} {w : World} {A : Around} {s : Shared} {K : Frag} {C : Cx} {hb : Heap} {mg mb : Str → Option Value} {μ : Mu} {H H' : Hp} {env : Env} {nm : List Str} {loc loc' : Loc} {cf : CallF} {d : Nat}

theorem iadd_list {E : Value → Shared → Prop} {l b : Addr} {items items2 : Array Value} {n n2 : Nat} {Q : Value → Shared → Prop} (g : IsL s.heap l items n) (g2 : IsL s.heap b items2 n2) (hz : items.size + items2.size ≤ sizeLine)
    (hQ : Q (.ref l) { s with heap := s.heap.update l (Obj.mapSeq fun x => x ++ items2), toks := s.toks }) : wpAny (model prog w) A (inplaceOp .Add (.ref l) (.ref b)) Q E s := by
  have hT : s.TypeIs (.ref l) "list" := (IsL.isList g).typeIs
  unfold inplaceOp
  refine wpAny_holding ?_
  have hfi : fillsInplaceSlot (.type "list") "add" (Operator.Add == .Add) = pure false := by
    unfold fillsInplaceSlot
    show (typeLookup (.type "list") (dunderI "add") >>= fun fi => pure (fi.isSome && !isSeqSlot fi)) = pure false
    rw [PySem.F.slot_list_iadd.lookup]
    rfl
  have hsi : seqSlot? (.type "list") (dunderI "add") = pure (some (.builtin "list.__iadd__")) := PySem.seqSlot_of PySem.F.slot_list_iadd.lookup (by decide +kernel)
  refine wpAny_bind (wpAny_typeOf hT (wpAny_bind (wpAny_of_eq hfi ?_)))
  show wpAny _ A (if false = true then _ else _) Q E s
  rw [if_neg Bool.false_ne_true]
  refine wpAny_bind (wpAny_binaryOp1_none (nm := "add") hT (IsL.isList g2).typeIs noFill_list_add ?_)
  refine wpAny_bind (wpAny_of_eq hsi ?_)
  refine wpAny_bind (wpAny_rule ?_)
  exact call_meets PySem.F.slot_list_iadd hT PySem.F.entry_list_iadd (PySem.F.args_list_iadd_2 _ _) (PySem.AutoSeq1.list___iadd___list_list_0 l items n b items2 n2 (extend_door hz) (by lia) (by lia)) ⟨g, g2, hQ⟩
theorem more_sound (R : Rep C hb μ H s.heap) {x : V} {us : List V} {a : Value} {q : Addr} {items2 : List Value} {n2 : Nat} (e : moreL H x us = some H') (r : VRel μ s.heap x a) (g2 : IsL s.heap q items2.toArray n2) (r2 : VRels μ s.heap us items2) {E : Value → Shared → Prop} :
    wpAny (model prog w) A (inplaceOp .Add a (.ref q)) (fun v s' => v = a ∧ UOut C hb μ s H' s') E s := by
  obtain ⟨l, p, vs, items, n, rfl, hp, ho, g, rs, h2, hs, rfl⟩ := moreL_list R e r
  have hl := rs.length
  have hl2 := r2.length
  refine iadd_list g g2 (by rw [List.size_toArray, List.size_toArray, hl, hl2, sizeLine_eq]; lia) ⟨rfl, μ, ?_⟩
  have up := IsL.update g (fun xs => xs ++ items2.toArray)
  exact own_set R ho hp (o' := .list (vs ++ us)) (Heap.SameBut.update ..) (fun st => ⟨items ++ items2, _, by have := up; rw [show items.toArray ++ items2.toArray = (items ++ items2).toArray by simp] at this; exact this, (rs.append r2).s st, h2, by rw [List.length_append, sizeLine_eq]; lia⟩) s.toks

theorem setItem_slice {E : Value → Shared → Prop} {l sl q : Addr} {items items2 : List Value} {n n2 lo hi : Nat} {tl tu : Tok} {Q : Unit → Shared → Prop} (g : IsL s.heap l items.toArray n) (hs : s.heap.IsSliceOf sl (.int lo tl) (.int hi tu) .none) (g2 : IsL s.heap q items2.toArray n2) (h1 : lo ≤ hi) (h2 : hi ≤ items.length) (h3 : items2.length = hi - lo)
    (hz : items.length ≤ 65536) (hQ : ∀ h' n', IsL h' l (items.take lo ++ items2 ++ items.drop hi).toArray n' → Heap.SameBut l s.heap h' → Q () { s with heap := h' }) : wpAny (model prog w) A (setItem (.ref l) (.ref sl) (.ref q)) Q E s := by
  have hT := (IsL.isList g).typeIs
  obtain ⟨ob, hob⟩ : ∃ ob : Obj, ob = { cls := .type "list", dict := none, data := .seq items.toArray n, slots := #[] } := ⟨_, rfl⟩
  have ho : s.heap.get? l = some ob := by rw [hob]; exact g
  have hd : ob.data = .seq items.toArray n := by rw [hob]
  obtain ⟨ob2, hob2⟩ : ∃ ob : Obj, ob = { cls := .type "list", dict := none, data := .seq items2.toArray n2, slots := #[] } := ⟨_, rfl⟩
  have ho2 : s.heap.get? q = some ob2 := by rw [hob2]; exact g2
  have hd2 : ob2.data = .seq items2.toArray n2 := by rw [hob2]
  obtain ⟨os, hos, hcs, hds⟩ := id hs
  have hTs : s.TypeIs (.ref sl) "slice" := ⟨os, hos, hcs⟩
  unfold setItem
  try with_reducible refine wpAny_holding ?_
  first | refine wpAny_bind (wpAny_pure ?_) | skip
  refine wpAny_bind (wpAny_sequenceKey hT (by decide) ?_)
  refine wpAny_bind (wpAny_callSpecial?_slot (name := Str.ofString "__setitem__") hT slot_list_setitem
    (wpAny_call_entry slot_list_setitem hT entry_list_setitem ?_ (args_list_setitem _ _ _)))
  show wpAny _ _ (Builtin.List.listSubscript? (.ref sl) >>= _) _ _ s
  refine wpAny_bind ?_
  unfold Builtin.List.listSubscript?
  refine wpAny_bind (wpAny_specialOf hTs slice_no_index ?_)
  simp only [Option.isNone_none, if_true]
  refine wpAny_pure ?_
  show wpAny _ _ (typeOf (.ref sl) >>= _) _ _ s
  refine wpAny_bind (wpAny_typeOf hTs ?_)
  rw [if_neg (by decide)]
  rw [listSliceParts_eq]
  refine wpAny_bind (wpAny_bind (wpAny_field hos hds (x := .none) rfl (wpAny_bind (wpAny_listPart .none ?_))))
  rw [if_neg (show ¬ ((rawPart none == rawInt 0) = true) from Bool.false_ne_true)]
  refine wpAny_bind (wpAny_field hos hds (x := .int lo tl) rfl (wpAny_bind (wpAny_listPart (.int _ _) ?_)))
  refine wpAny_bind (wpAny_field hos hds (x := .int hi tu) rfl (wpAny_bind (wpAny_listPart (.int _ _) (wpAny_pure ?_))))
  have li : ∀ {Q : Array Value → Shared → Prop} {E : Value → Shared → Prop} {A : Around}, Q items2.toArray s → wpAny (model prog w) A (Builtin.List.listItems (.ref q)) Q E s := fun h => by
    unfold Builtin.List.listItems
    exact wpAny_bind (wpAny_seqItems ho2 hd2 (wpAny_pure h))
  have two : ∀ {c : Bool} {f : Array Value → Sem Fin} {Q : Fin → Shared → Prop} {E : Value → Shared → Prop} {A : Around} {m : String}, wpAny (model prog w) A (f items2.toArray) Q E s → wpAny (model prog w) A (if c = true then (Builtin.List.listItems (.ref q) >>= f) else (Builtin.List.listAllItems (.ref q) m >>= f)) Q E s := fun {c f Q E A m} h => by
    cases c with
    | true =>
      show wpAny _ _ (Builtin.List.listItems (.ref q) >>= f) Q E s
      refine wpAny_bind ?_
      exact li h
    | false =>
      show wpAny _ _ (Builtin.List.listAllItems (.ref q) m >>= f) Q E s
      refine wpAny_bind ?_
      unfold Builtin.List.listAllItems
      refine wpAny_bind (wpAny_typeOf (IsL.isList g2).typeIs ?_)
      rw [if_pos (by rfl)]
      exact li h
  refine two ?_
  refine wpAny_bind (m := Builtin.List.listItems (.ref l)) ?_
  unfold Builtin.List.listItems
  refine wpAny_bind (wpAny_seqItems ho hd (wpAny_pure ?_))
  refine wpAny_bind (wpAny_of_eq (sliceIndices_raw (some (lo : Int)) (some (hi : Int)) none items.toArray.size (by decide)) ?_)
  have hb1 : sliceBounds (some (lo : Int)) (some (hi : Int)) none items.toArray.size = ((lo : Int), (hi : Int), 1) := by
    rw [List.size_toArray]
    unfold sliceBounds
    simp only [Option.getD_none]
    rw [if_neg (by lia : ¬ (lo : Int) < 0), if_neg (by lia : ¬ (hi : Int) < 0), if_pos (by decide), if_pos (by decide)]
    congr 1
    · lia
    · congr 1
      lia
  rw [hb1]
  dsimp only
  rw [if_pos (by rfl)]
  refine wpAny_bind (wpAny_rule ?_)
  have tl : Builtin.List.listTooLong (items.toArray.size + items2.toArray.size) = false := by
    unfold Builtin.List.listTooLong
    rw [List.size_toArray, List.size_toArray, sizeLine_eq]
    exact decide_eq_false (by lia)
  rw [tl]
  simp only [Bool.false_eq_true, if_false]
  have hext : ∀ xs : List Value, xs.toArray.extract 0 (lo : Int).toNat ++ items2.toArray ++ xs.toArray.extract (max (lo : Int) (hi : Int)).toNat = (xs.take lo ++ items2 ++ xs.drop hi).toArray := fun xs => by
    rw [show (max (lo : Int) (hi : Int)).toNat = hi by lia, show ((lo : Int)).toNat = lo by lia]
    rw [List.size_toArray, List.extract_toArray, List.extract_toArray]
    simp [List.extract_eq_take_drop]
    exact List.take_of_length_le (by simp)
  have hfx := hext items
  have up := IsL.update g (fun xs => xs.extract 0 (lo : Int).toNat ++ items2.toArray ++ xs.extract (max (lo : Int) (hi : Int)).toNat)
  rw [hfx] at up
  have hsz : (items.take lo ++ items2 ++ items.drop hi).toArray.size = items.length := by
    rw [List.size_toArray, List.length_append, List.length_append, List.length_take, List.length_drop]; lia
  refine wpAny_bind (m := updateSeq l _) (wpAny_updateSeq ho hd ?_ (by rw [List.size_toArray, sizeLine_eq]; lia) (by rw [hfx, hsz, sizeLine_eq]; lia))
  exact wpAny_bind (wpAny_letGo (wpAny_pure ⟨_, rfl, wpAny_pure (hQ _ _ up (Heap.SameBut.update ..))⟩))

theorem putSlice_sound (R : Rep C hb μ H s.heap) {x : V} {us : List V} {a : Value} {sl q : Addr} {items2 : List Value} {n2 lo hi : Nat} {tl tu : Tok} {E : Value → Shared → Prop} (e : putSlice H x lo hi us = some H') (r : VRel μ s.heap x a) (hs : s.heap.IsSliceOf sl (.int lo tl) (.int hi tu) .none) (g2 : IsL s.heap q items2.toArray n2) (r2 : VRels μ s.heap us items2) :
    wpAny (model prog w) A (setItem a (.ref sl) (.ref q)) (fun _ => UOut C hb μ s H') E s := by
  cases r <;> first | (cases e; done) | skip
  rename_i l p hp
  refine listC e fun vs ho e => if_got e fun hk e => ?_
  subst e
  obtain ⟨items, n, g, rs, h2, hz⟩ := R.rel.objs _ _ _ ho hp
  have hl := rs.length
  have hl2 := r2.length
  refine setItem_slice g hs g2 hk.1 (by lia) (by lia) (by lia) fun h' n' g' sb => ⟨μ, ?_⟩
  exact own_set R ho hp (o' := .list (vs.take lo ++ us ++ vs.drop hi)) sb (fun st => ⟨_, n', g', (((rs.take lo).append r2).append (rs.drop hi)).s st, h2, by rw [List.length_append, List.length_append, List.length_take, List.length_drop]; lia⟩) s.toks
theorem storeD_sound (R : Rep C hb μ H s.heap) {x k v : V} {a b c : Value} {E : Value → Shared → Prop} (e : storeD H x k v = some H') (r : VRel μ s.heap x a) (rk : VRel μ s.heap k b) (rv : VRel μ s.heap v c) :
    wpAny (model prog w) A (setItem a b c) (fun _ => UOut C hb μ s H') E s := by
  cases r <;> first | (cases e; done) | skip
  cases rk <;> first | (cases e; done) | skip
  rename_i l p hp k t
  refine dictC e fun es ho e => if_got e fun hk e => ?_
  subst e
  obtain ⟨⟨h2, hm⟩, hi, hs, kvs, hd, he, rs⟩ := R.rel.objs _ _ _ ho hp
  have hl : es.length = kvs.length := by have := congrArg List.length he; simpa using this
  have hst : stored kvs k c = kvs ++ [(k, c)] := by
    unfold stored
    refine if_neg fun q => ?_
    obtain ⟨z, hz, hz2⟩ := List.any_eq_true.mp q
    have hz2 : z.1 = k := by simpa using hz2
    have : k ∈ es.map (·.1) := by rw [he]; exact List.mem_map.mpr ⟨z, hz, hz2⟩
    obtain ⟨y, hy, hy2⟩ := List.mem_map.mp this
    have := List.any_eq_false.mp hk.2 y hy
    exact this (beq_iff_eq.mpr hy2)
  refine wpAny_setItem_pairs (by exact beq_self_eq_true k) (hd prog w) (fun h' hmm sb => ⟨μ, ?_⟩) (by rw [sizeLine_eq]; lia)
  rw [hst] at hmm
  exact own_set R ho hp (o' := .dict (es ++ [(k, v)])) sb (fun st => ⟨⟨h2, hm⟩, isD0 hmm, by rw [List.length_append]; exact hk.1, _, fun prog' w' => dict_any hmm, by rw [List.map_append, List.map_append, he]; rfl, by rw [List.map_append, List.map_append]; exact (rs.append (.cons rv .nil)).s st⟩) (s.toks + 1)
theorem chkAttrs_cons {i a : Nat} {as : List Nat} {xs : List Expr} {P : List Expr → Prop} (h : chkAttrs C nm i (a :: as) xs = true) (k : ∀ y n p1 p2 ys, nm[i]? = some y → plainName y = true → C.names[a]? = some n → chkAttrs C nm i as ys = true → P (.Attribute (.Name y p1) n p2 :: ys)) : P xs :=
  consC h fun q ys t => attr_c (P := fun z => P (z :: ys)) (anL t) fun y n p1 p2 h1 h2 h3 => k y n p1 p2 ys h1 h2 h3 (anR t)
theorem attrs_shape {i : Nat} : ∀ {as : List Nat} {xs : List Expr}, chkAttrs C nm i as xs = true → (assignEach xs env).length = as.length ∧ ∀ k, List.findIdx?.go (fun x : Bool × (Value → Sem Unit) => x.1) (assignEach xs env) k = none
  | [], xs, h => by rw [show xs = [] from List.isEmpty_iff.mp h]; exact ⟨rfl, fun _ => rfl⟩
  | a :: as, xs, h => chkAttrs_cons (P := fun xs => (assignEach xs env).length = as.length + 1 ∧ ∀ k, List.findIdx?.go (fun x : Bool × (Value → Sem Unit) => x.1) (assignEach xs env) k = none) h fun y n p1 p2 ys _ _ _ h' => ⟨congrArg (· + 1) (attrs_shape h').1, fun k => (attrs_shape h').2 (k + 1)⟩
theorem setAs_lens {o : V} : ∀ {as : List Nat} {vs : List V} {H H' : Hp}, setAs C o as vs H = some H' → as.length = vs.length
  | [], [], _, _, _ => rfl
  | [], _ :: _, _, _, e => by cases e
  | _ :: _, [], _, _, e => by cases e
  | a :: as, v :: vs, H, H', e => by
    unfold setAs at e
    split at e
    · cases e
    · obtain ⟨H1, _, e⟩ := Option.bind_eq_some_iff.mp e
      exact congrArg (· + 1) (setAs_lens e)
theorem attrs_sound (ok : CxOk K C) (X : K.In hb) {i : Nat} {o : V} (hv : locV loc i = some o) : ∀ {as : List Nat} {xs : List Expr} {vs : List V} {items : List Value} {H H' : Hp} {s : Shared} {μ : Mu},
    chkAttrs C nm i as xs = true → setAs C o as vs H = some H' → VRels μ s.heap vs items → Rep C hb μ H s.heap → FrI env nm loc μ s.heap →
    wpAny (model prog w) A (assignInOrder ((assignEach xs env).map (·.2)) items) (fun _ => UOut C hb μ s H') noE s
  | [], xs, vs, items, H, H', s, μ, hx, e, r, R, F => by
    rw [show xs = [] from List.isEmpty_iff.mp hx]
    cases vs with
    | cons _ _ => cases e
    | nil => cases e; exact wpAny_pure ⟨μ, Out.refl R⟩
  | a :: as, xs, vs, items, H, H', s, μ, hx, e, r, R, F => by
    refine chkAttrs_cons (P := fun xs => wpAny (model prog w) A (assignInOrder ((assignEach xs env).map (·.2)) items) (fun _ => UOut C hb μ s H') noE s) hx fun y n p1 p2 ys h1 h2 h3 h' => ?_
    cases vs with
    | nil => cases e
    | cons v vs =>
      cases r with
      | cons ra r =>
        unfold setAs at e
        split at e
        · cases e
        · rename_i hc
          obtain ⟨H1, e1, e⟩ := Option.bind_eq_some_iff.mp e
          show wpAny _ A (do holding _ (assign (.Attribute (.Name y p1) n p2) env _); assignInOrder ((assignEach ys env).map (·.2)) _) _ _ s
          refine wpAny_bind (wpAny_holding ?_)
          rw [arm_assign_Attribute]
          refine wpAny_bind (wpAny_holding (name_sound F hv h1 h2 fun ov ro => wpAny_bind (wpAny_standAt (wpAny_bind (wpAny_holding (mono_no (setAttr_sound ok X R e1 hc h3 ro ra) fun _ s2 ⟨μ2, O2⟩ => wpAny_release ?_))))))
          exact mono_no (attrs_sound ok X hv h' e (r.s O2.step) O2.rep (F.s O2.step)) fun _ s3 ⟨μ3, O3⟩ => ⟨μ3, O2.trans O3⟩
end
end Mine
end
section
open PySem PySem.W PySem.Calls PyProof.Rows Builtin Builtin.ObjectAttr
set_option autoImplicit false
namespace Mine
section
variable {prog : Program} {w : World} {K : Frag} {C : Cx} {hb : Heap} {mg mb : Str → Option Value} {env : Env} {nm : List Str} {cf : CallF} {d : Nat}
theorem parts_of {H : Hp} {v : V} {vs : List V} (e : itemsOf C H v = some vs) : partsOf C H v = some vs := by
  cases v <;> first | exact e | cases e
theorem inter_no (h : env.scope.kind = .function) : interactive env = false := by unfold interactive; simp [h]
theorem names_len : ∀ {is : List Nat} {ns : List Str}, namesAt nm is ns = true → is.length = ns.length
  | [], [], _ => rfl
  | [], _ :: _, h => no h
  | _ :: _, [], h => no h
  | i :: is, n :: ns, h => congrArg (· + 1) (names_len (anR h))
section
variable {A : Around} {s : Shared} {μ : Mu} {H H1 H' : Hp} {loc loc' : Loc}
def GA (prog : Program) (w : World) (C : Cx) (hb : Heap) (env : Env) (nm : List Str) (A : Around) (s : Shared) (μ : Mu) (y : Expr) (p : Pos) (loc' : Loc) (H' : Hp) (x : Expr) : Prop := wpAny (model prog w) A (exec (.Assign [x] y p) env) (StOut C hb env nm μ s .next loc' H') noE s
def GA2 (prog : Program) (w : World) (C : Cx) (hb : Heap) (env : Env) (nm : List Str) (A : Around) (s : Shared) (μ : Mu) (y : Expr) (p : Pos) (loc' : Loc) (H' : Hp) (a b : Expr) : Prop := wpAny (model prog w) A (exec (.Assign [a, b] y p) env) (StOut C hb env nm μ s .next loc' H') noE s
variable (ok : CxOk K C) (B : Base K hb mg mb) (co : CallOk C hb prog w cf d) (kn : FnKnown hb cf) (hN : ∀ b ∈ fa env, hb.get? b = none)
include ok B co kn hN
theorem assign_sound {t : E} {x y : Expr} {p : Pos} {v : V} {z : Loc × Hp} {e : E} (h1 : chkT C env.scope nm t x = true) (h3 : chkE C env.scope nm e y = true) (ev : GV prog w C hb env A s μ H1 v y) (e2 : assignE C cf t v loc H1 = some z) (hl : loc.length = nm.length) (hA : AOk A d) (F : FrI env nm loc μ s.heap) : GA prog w C hb env nm A s μ y p z.1 z.2 x := by
  cases t with
  | loc i =>
    exact exC1 (o := exName' x) h1 fun n px g => if_some e2 fun hi e2 => by
      cases e2
      exact wpAny_Assign_Name (eT ev fun u s1 μ1 O1 r1 => sT (store_sound hN O1.rep (F.s O1.step) (eq_of_beq (anL g)) hi (kind_of F (eq_of_beq (anL g)) (anR g)) r1) fun _ s2 μ2 O2 => nx ((List.length_set ..).trans hl) ((O1.toS F).trans O2)) (plainSwap h3 _ _ _)
  | attr i a =>
    refine attr_c h1 fun n m p1 p2 g1 g2 g4 => bC (o := locV loc i) e2 fun o hv e2 => ?_
    cases hc : C.cattr a with
    | some c => rw [hc] at e2; cases e2
    | none =>
      rw [hc] at e2
      exact bC (o := storeAttr H1 o a v) e2 fun H3 e3 e2 => by
        cases e2
        exact plainObj_wpAny_Assign_Attribute (eT ev fun u s1 μ1 O1 r1 => name_sound (F.s O1.step) hv g1 g2 fun ov ro => uT (setAttr_sound ok B.X O1.rep e3 hc g4 ro r1) fun _ s2 μ2 O2 => nx hl ((O1.trans O2).toS F)) (plainSwap h3 _ _ _)
  | sub o i =>
    exact exC1 (o := exSub' x) h1 fun q px g => bC (o := evalE C cf loc o H1) e2 fun a e3 e2 => bC (o := evalE C cf loc i a.2) e2 fun b e4 e2 => bC (o := storeItem b.2 a.1 b.1 v) e2 fun H5 e5 e2 => by
      cases e2
      exact wpAny_Assign_Subscript (eT ev fun u s1 μ1 O1 r1 => eT ((evalE_sound ok B co kn _).1 _ _ _ _ _ _ _ (anL g) e3 hA O1.rep (F.s O1.step)) fun ov s2 μ2 O2 r2 => eT ((evalE_sound ok B co kn _).1 _ _ _ _ _ _ _ (anR g) e4 hA O2.rep ((F.s O1.step).s O2.step)) fun iv s3 μ3 O3 r3 =>
        uT (setItem_sound O3.rep e5 (r2.s O3.step) r3 (r1.s (O2.step.trans O3.step))) fun _ s4 μ4 O4 => nx hl ((((O1.trans O2).trans O3).trans O4).toS F)) (plainSwap h3 _ _ _)
  | _ => exact no h1
theorem aug_sound {t : E} {op : Operator} {x y : Expr} {p : Pos} {e : E} {f : Fl} (h1 : chkA C env.scope nm t x = true) (h5 : chkE C env.scope nm e y = true) (he : evalS C cf (.aug t op e) loc H = some (f, loc', H')) (hl : loc.length = nm.length) (hA : AOk A d) (R : Rep C hb μ H s.heap) (F : FrI env nm loc μ s.heap) : G1 prog w C hb env nm A s μ f loc' H' (.AugAssign x op y p) := by
  cases t with
  | loc i =>
    exact exC1 (o := exName' x) (P := fun x => G1 prog w C hb env nm A s μ f loc' H' (.AugAssign x op y p)) h1 fun n px g => bC (o := locV loc i) he fun a hv he => bC (o := evalE C cf loc e H) he fun b e1 he => bC (o := binV op a b.1) he fun z e2 he => bC (o := assignE C cf (.loc i) z loc b.2) he fun l e3 he => if_some e3 fun hi e3 => by
      cases e3
      exact s1S he (wpAny_AugAssign_Name (load_sound F hv (eq_of_beq (anL (anL g))) (anR (anL g)) fun u0 r0 => eT ((evalE_sound ok B co kn e).1 _ _ _ _ _ _ _ h5 e1 hA R F) fun u s1 μ1 O1 r1 => ibinV_sound e2 (r0.s O1.step) r1 fun k hk =>
        (fun O2 : Out C hb μ s μ1 b.2 _ => sT (store_sound hN O2.rep (F.s O2.step) (eq_of_beq (anL (anL g))) hi (kind_of F (eq_of_beq (anL (anL g))) (anR g)) (v := z) (pe (P := fun z => VRel _ _ z _) hk (.int _ _))) fun _ s2 μ2 O3 => nx ((List.length_set ..).trans hl) ((O2.toS F).trans O3)) (O1.trans (Out.tok O1.rep (s1.toks + 1)))))
  | attr i a =>
    refine attr_c (P := fun x => G1 prog w C hb env nm A s μ f loc' H' (.AugAssign x op y p)) h1 fun n m p1 p2 g1 g2 g3 => bC (o := locV loc i) he fun x hv he => ?_
    cases hc : C.cattr a with
    | some c => rw [hc] at he; cases he
    | none =>
      rw [hc] at he
      exact bC (o := attrV C H x a) he fun old e0 he => bC (o := evalE C cf loc e H) he fun b e1 he => bC (o := binV op old b.1) he fun z e2 he => bC (o := storeAttr b.2 x a z) he fun H2 e3 he => s1S he
        (wpAny_AugAssign_AttributeAny (name_sound F hv g1 g2 fun ov ro => eT (getAttr_sound ok B.X R e0 g3 ro) fun u0 s0 μ0 O0 r0 => eT ((evalE_sound ok B co kn e).1 _ _ _ _ _ _ _ h5 e1 hA O0.rep (F.s O0.step)) fun u s1 μ1 O1 r1 => ibinV_sound e2 (r0.s O1.step) r1 fun k hk =>
          (fun O2 : Out C hb μ0 s0 μ1 b.2 _ => uT (setAttr_sound ok B.X O2.rep e3 hc g3 ((ro.s O0.step).s O2.step) (v := z) (pe (P := fun z => VRel _ _ z _) hk (.int _ _))) fun _ s2 μ2 O3 => nx hl (((O0.trans O2).trans O3).toS F)) (O1.trans (Out.tok O1.rep (s1.toks + 1)))))
  | _ => exact no h1
theorem swapT_sound {is : List Nat} {e : E} {st : Stmt} {v : V × Hp} {f : Fl} (hx : chk1 C env.scope nm (.assignT is e) st = true) (e1 : evalE C cf loc e H = some v) (he : (match v.1 with | .tup vs => (setFwd is.reverse vs.reverse loc).bind fun loc => some (.next, loc, v.2) | _ => none) = some (f, loc', H')) (hl : loc.length = nm.length) (hA : AOk A d) (R : Rep C hb μ H s.heap) (F : FrI env nm loc μ s.heap) : G1 prog w C hb env nm A s μ f loc' H' st := by
  obtain ⟨v, H1⟩ := v
  cases v <;> first | (cases he; done) | skip
  rename_i vs
  refine assignT_c hx fun ts tk tp ws k0 p0 pos h1 h2 h3 h4 => bC (o := setFwd is.reverse vs.reverse loc) he fun loc2 e2 he => s1S he (Assign_Tuple_swapped (eT ((evalE_sound ok B co kn e).1 _ _ _ _ _ _ _ h4 e1 hA R F) fun u s1 μ1 O1 r1 => ?_) rfl (swap_sound F.fk h1))
  cases r1 with
  | @tup _ items k q g n r =>
    have hlen : items.length = (swapNm env.scope ts).length := by
      rw [r.length, ← List.length_reverse, ← setFwd_lens e2, names_len h2, List.length_reverse]
    refine (show wpAny _ A (unpackItems _ _ none) _ _ s1 from ?_)
    rw [← hlen]
    have := unpackItems_tuple (Q := fun vs s' => wpAny (model prog w) A (assignInOrder ((swapNm env.scope ts).reverse.map fun n => bindName env n) vs.reverse) (fun _ => StOut C hb env nm μ s Fl.next loc2 H1 Flow.next) noE s') (E := noE) (prog := prog) (w := w) (A := A) hA.h (⟨_, g, rfl, k, rfl⟩ : IsTup s1.heap q items.toArray) (fun h' he => by
      obtain ⟨st2, R2⟩ := O1.rep.keep fun b o e => he b o (fun q => absurd (Heap.lt_size e) (by rw [q]; exact Nat.lt_irrefl _)) e
      have O2 : Out C hb μ1 s1 μ1 H1 { s1 with heap := h' } := ⟨R2, st2, rfl, rfl⟩
      exact sT (setFwd_sound hN h2 (by rw [List.all_reverse]; exact h3) e2 ((r.s st2).reverse) R2 ((F.s O1.step).s st2)) fun _ s3 μ3 O3 => nx ((setFwd_len e2).trans hl) (((O1.trans O2).toS F).trans O3))
    simpa using this
theorem assignD_sound {d' k j : Nat} {e : E} {st : Stmt} {v : V × Hp} {f : Fl} (hx : chk1 C env.scope nm (.assignD d' k j e) st = true) (e1 : evalE C cf loc e H = some v)
    (he : (match v.1 with | .tup [u, z] => (locV loc d').bind fun o => (locV loc k).bind fun y => (storeD v.2 o y u).bind fun H => (setFwd [j] [z] loc).bind fun loc => some (.next, loc, H) | _ => none) = some (f, loc', H')) (hl : loc.length = nm.length) (hA : AOk A d) (R : Rep C hb μ H s.heap) (F : FrI env nm loc μ s.heap) : G1 prog w C hb env nm A s μ f loc' H' st := by
  obtain ⟨v, H1⟩ := v
  dsimp only at he
  split at he
  case h_2 => cases he
  rename_i u z
  refine exC1 (o := stAssign' st) hx fun q p g => exC2 (o := exTuple' q.1) (P := fun t => G1 prog w C hb env nm A s μ f loc' H' (.Assign [t] q.2 p)) (anL (anL g)) fun ts kk p1 g1 => consC (P := fun ts => G1 prog w C hb env nm A s μ f loc' H' (.Assign [.Tuple ts kk p1] q.2 p)) g1 fun t tr g2 =>
    exC1 (o := exSub' t) (P := fun t => G1 prog w C hb env nm A s μ f loc' H' (.Assign [.Tuple (t :: tr) kk p1] q.2 p)) (anL g2) fun r p3 g3 => loc_c (P := fun x => G1 prog w C hb env nm A s μ f loc' H' (.Assign [.Tuple (.Subscript x r.2 p3 :: tr) kk p1] q.2 p)) (anL g3) fun y1 yp1 a2 a3 =>
      loc_c (P := fun x => G1 prog w C hb env nm A s μ f loc' H' (.Assign [.Tuple (.Subscript (.Name y1 yp1) x p3 :: tr) kk p1] q.2 p)) (anR g3) fun y2 yp2 b2 b3 => chkNames_cons (P := fun tr => G1 prog w C hb env nm A s μ f loc' H' (.Assign [.Tuple (.Subscript (.Name y1 yp1) (.Name y2 yp2) p3 :: tr) kk p1] q.2 p)) (anR g2) fun x p4 ys n1 n2 n3 =>
        pe (P := fun ys => G1 prog w C hb env nm A s μ f loc' H' (.Assign [.Tuple (.Subscript (.Name y1 yp1) (.Name y2 yp2) p3 :: .Name x p4 :: ys) kk p1] q.2 p)) (chkNames_nil n3) ?_
  refine bC (o := locV loc d') he fun o hv he => bC (o := locV loc k) he fun y hk he => bC (o := storeD H1 o y u) he fun H2 e2 he => bC (o := setFwd [j] [z] loc) he fun loc2 e3 he => s1S he ?_
  obtain ⟨c, hc⟩ := Option.isSome_iff_exists.mp (anR (anL g))
  have e8 : ∃ a b c', q.2 = .Call a b [] c' := by
    cases hq : exCall' q.2 with
    | none => rw [show exCall q.2 = (exCall' q.2).map Subtype.val from rfl, hq] at hc; cases hc
    | some a => exact ⟨_, _, _, a.2⟩
  obtain ⟨c1, c2, c3, e8⟩ := e8
  refine PyProof.Rows.Assign_Tuple (eT ((evalE_sound ok B co kn e).1 _ _ _ _ _ _ _ (anR g) e1 hA R F) fun w s1 μ1 O1 r1 => ?_) (by rw [e8]; rfl) (by rw [e8]; rfl)
  rw [arm_assign_Tuple]
  refine wpAny_bind (wpAny_standAt (parts_sound ok B.X hA.h O1.rep (v := .tup [u, z]) (vs := [u, z]) rfl r1 rfl rfl fun items s2 O2 r2 => ?_))
  cases r2 with
  | cons ra r2 =>
    cases r2 with
    | cons rb r2 =>
      cases r2
      have F2 := (F.s O1.step).s O2.step
      show wpAny _ A (do holding _ (assign (.Subscript (.Name y1 yp1) (.Name y2 yp2) p3) env _); (do holding _ (assign (.Name x p4) env _); pure ())) _ _ s2
      refine wpAny_bind (wpAny_holding ?_)
      rw [arm_assign_Subscript]
      exact wpAny_bind (wpAny_holding (name_sound F2 hv a2 a3 fun ov ro => wpAny_bind (wpAny_holding (name_sound F2 hk b2 b3 fun kv rk => wpAny_bind (wpAny_standAt (wpAny_bind (wpAny_holding (uT (storeD_sound O2.rep e2 ro rk ra) fun _ s3 μ3 O3 => wpAny_release (wpAny_bind (wpAny_holding
        (if_some e3 fun hi e3 => by
          cases e3
          exact sT (put_name hN O3.rep (F2.s O3.step) n1 n2 hi (rb.s O3.step)) fun _ s4 μ4 O4 => wpAny_pure (nx ((List.length_set ..).trans hl) ((((O1.trans O2).trans O3).toS F).trans O4)))))))))))))
theorem setSlice_sound {i lo hi : Nat} {a : Addr} {st : Stmt} {f : Fl} (hx : chk1 C env.scope nm (.setSlice i lo hi a) st = true) (he : evalS C cf (.setSlice i lo hi a) loc H = some (f, loc', H')) (hl : loc.length = nm.length) (hA : AOk A d) (R : Rep C hb μ H s.heap) (F : FrI env nm loc μ s.heap) : G1 prog w C hb env nm A s μ f loc' H' st := by
  refine exC1 (o := stAssign' st) hx fun q p g => exC1 (o := exSub' q.1) (P := fun x => G1 prog w C hb env nm A s μ f loc' H' (.Assign [x] q.2 p)) (anL g) fun u p1 g1 => loc_c (P := fun x => G1 prog w C hb env nm A s μ f loc' H' (.Assign [.Subscript x u.2 p1] q.2 p)) (anL g1) fun y1 yp1 a2 a3 =>
    exC1 (o := exSlice' u.2) (P := fun x => G1 prog w C hb env nm A s μ f loc' H' (.Assign [.Subscript (.Name y1 yp1) x p1] q.2 p)) (anR g1) fun r p3 g3 => oC (anL (anL g3)) fun xl hxl g4 => oC (anR (anL g3)) fun xh hxh g5 => ?_
  rw [hxl, hxh, Option.isNone_iff_eq_none.mp (anR g3)]
  refine bC (o := C.lists a) he fun us e1 he => bC (o := locV loc i) he fun o hv he => bC (o := putSlice H o lo hi us) he fun H2 e2 he => s1S he ?_
  have ev : ∀ {v : V} {x : Expr} {s : Shared} {μ : Mu}, chkE C env.scope nm (.cst v) x = true → Rep C hb μ H s.heap → FrI env nm loc μ s.heap → GV prog w C hb env A s μ H v x := fun hc R F => (evalE_sound ok B co kn _).1 _ _ _ _ _ _ _ hc rfl hA R F
  refine wpAny_Assign_Subscript (eT (ev (anR g) R F) fun v s1 μ1 O1 r1 => name_sound (F.s O1.step) hv a2 a3 fun ov ro =>
    wpAny_Slice (wpAny_evalPart_some (eT (ev g4 O1.rep (F.s O1.step)) fun v2 s2 μ2 O2 r2 => wpAny_evalPart_some (eT (ev g5 O2.rep ((F.s O1.step).s O2.step)) fun v3 s3 μ3 O3 r3 => wpAny_evalPart_none ?_)))) (plainSwap (anR g) _ _ _)
  cases r2
  cases r3
  have P1 := fun o => Out.push O3.rep o s3.toks
  have st := fun o => (O2.step.trans O3.step).trans (P1 o).step
  obtain ⟨l, items, n, rfl, g, rs⟩ := itemsOf_sound ok B.X (P1 _).rep (o := .kref a) e1 (r1.s (st _))
  exact uT (putSlice_sound (P1 _).rep e2 (ro.s (st _)) (Heap.IsSliceOf.new ..) g rs) fun _ s5 μ5 O5 => nx hl (((((O1.trans O2).trans O3).trans (P1 _)).trans O5).toS F)
theorem append_st {i : Nat} {e : E} {x : Expr} (g : ((exCall x).elim false fun q => (exAttr q.1).elim false fun r => chkLoc nm i r.1 && (r.2.1 == ("append" : Str)) && (exOne q.2.1).elim false (chkE C env.scope nm e) && decide (r.2.2.endLine = q.2.2.line)) = true) {o : V} {H0 H2 : Hp} {v : V × Hp} (hv : locV loc i = some o) (e0 : moreL H o [] = some H0) (e1 : evalE C cf loc e H = some v) (e2 : moreL v.2 o [v.1] = some H2) (hA : AOk A d) (R : Rep C hb μ H s.heap) (F : FrI env nm loc μ s.heap) :
    (∀ l, swapsWith x none l env = pure false) ∧ wpAny (model prog w) A (eval x env) (fun _ => UOut C hb μ s H2) noE s := by
  refine exC0 (o := exCall' x) (P := fun x => (∀ l, swapsWith x none l env = pure false) ∧ wpAny (model prog w) A (eval x env) (fun _ => UOut C hb μ s H2) noE s) g fun q g => exC0 (o := exAttr' q.1) (P := fun z => (∀ l, swapsWith (.Call z q.2.1 [] q.2.2) none l env = pure false) ∧ wpAny (model prog w) A (eval (.Call z q.2.1 [] q.2.2) env) (fun _ => UOut C hb μ s H2) noE s) g fun r g => ⟨fun l => rfl, ?_⟩
  refine loc_c (P := fun z => wpAny (model prog w) A (eval (.Call (.Attribute z r.2.1 r.2.2) q.2.1 [] q.2.2) env) (fun _ => UOut C hb μ s H2) noE s) (anL (anL (anL g))) fun y yp n1 n2 => oneC (P := fun z => wpAny (model prog w) A (eval (.Call (.Attribute (.Name y yp) r.2.1 r.2.2) z [] q.2.2) env) (fun _ => UOut C hb μ s H2) noE s) (anR (anL g)) fun z g3 => ?_
  rw [eq_of_beq (anR (anL (anL g)))]
  refine wpAny_Call_method1_late rfl (by rw [of_decide_eq_true (anR g)]; exact beq_self_eq_true _) (star_of (chk_odd g3) ▸ rfl) (name_sound F hv n1 n2 fun ov r1 => ?_)
  obtain ⟨l, p0, vs, items, n, rfl, _, _, gl, _⟩ := moreL_list R e0 r1
  exact ⟨"list", "list.append", PySem.F.plainAttrs_list, PySem.slot_list_append, PySem.type_list_append, ⟨_, gl, rfl⟩, fun a q => by cases q; exact ⟨_, gl, rfl⟩, Calls.callWith_builtin rfl (Calls.evalArgs_plain (Calls.spliced_cons (eT ((evalE_sound ok B co kn e).1 _ _ _ _ _ _ _ g3 e1 hA R F) fun u s1 μ1 O1 r2 => Calls.spliced_nil (uT (append_sound O1.rep e2 (r1.s O1.step) r2) fun _ s2 μ2 O2 => ⟨μ2, O1.trans O2⟩))))⟩
theorem evalS_sound (b : S) : Ps prog w C hb env nm cf d b := by
  induction b with
  | pass => exact only1 (fun st loc H f loc' H' A s μ hx he hl hA R F => (stPass_eq hx).elim fun p e => pe e (s1S he (wpAny_Pass (nx hl (SOut.refl R F))))) fun _ => rfl
  | expr e =>
    exact only1 (fun st loc H f loc' H' A s μ hx he hl hA R F => exC1 (o := stExpr' st) hx fun x p h1 => bC (o := evalE C cf loc e H) he fun v e1 he => s1S he
      (wpAny_Expr_any (eT ((evalE_sound ok B co kn e).1 _ _ _ _ _ _ _ h1 e1 hA R F) fun u s1 μ1 O1 r1 => nx hl (O1.toS F)) (inter_no F.fk) (plainSwap h1 _ _ _))) fun _ => rfl
  | assign t e =>
    exact only1 (fun st loc H f loc' H' A s μ hx he hl hA R F => exC1 (o := stAssign' st) hx fun q p g => bC (o := evalE C cf loc e H) he fun v e1 he => bC (o := assignE C cf t v.1 loc v.2) he fun z e2 he => s1S he
      (assign_sound ok B co kn hN (anL g) (anR g) ((evalE_sound ok B co kn e).1 _ _ _ _ _ _ _ (anR g) e1 hA R F) e2 hl hA F)) fun _ => rfl
  | assignT is e => exact only1 (fun st loc H f loc' H' A s μ hx he hl hA R F => bC (o := evalE C cf loc e H) he fun v e1 he => swapT_sound ok B co kn hN hx e1 he hl hA R F) fun _ => rfl
  | aug t op e =>
    exact only1 (fun st loc H f loc' H' A s μ hx he hl hA R F => exC1 (o := stAug' st) hx fun q p g => pe (P := fun o => G1 prog w C hb env nm A s μ f loc' H' (.AugAssign q.1 o q.2.2 p)) (of_decide_eq_true (anR (anL g))).symm (aug_sound ok B co kn hN (anL (anL g)) (anR g) he hl hA R F)) fun _ => rfl
  | ite c a b iha ihb =>
    refine only1 (fun st loc H f loc' H' A s μ hx he hl hA R F => exC1 (o := stIf' st) hx fun q p g => bC (o := evalE C cf loc c H) he fun u e1 he => bC (o := truthH u.2 u.1) he fun t e2 he => wpAny_If (tT ((evalE_sound ok B co kn c).2.2 _ _ _ _ _ _ _ _ (anL (anL g)) e1 e2 hA R F) fun s1 μ1 O1 => ?_)) fun _ => rfl
    cases t with
    | true => exact stA (O1.toS F) (iha.2 _ _ _ _ _ _ _ _ _ (anR (anL g)) he hl hA O1.rep (F.s O1.step))
    | false => exact stA (O1.toS F) (ihb.2 _ _ _ _ _ _ _ _ _ (anR g) he hl hA O1.rep (F.s O1.step))
  | ret e =>
    refine only1 (fun st loc H f loc' H' A s μ hx he hl hA R F => exC1 (o := stRet' st) hx fun o p g => bC (o := evalE C cf loc e H) he fun v e1 he => s1S he ?_) fun _ => rfl
    cases o with
    | some x => exact wpAny_Return_some (eT ((evalE_sound ok B co kn e).1 _ _ _ _ _ _ _ g e1 hA R F) fun u s1 μ1 O1 r1 => stO hl (O1.toS F) r1)
    | none =>
      have g : isNoneE e = true := g
      cases e with
      | cst v =>
        cases v with
        | none => cases e1; exact wpAny_Return_none (stO hl (SOut.refl R F) .none)
        | _ => exact no g
      | _ => exact no g
  | skip => exact onlyS (fun st loc H f loc' H' A s μ hx he hl hA R F => pe (List.isEmpty_iff.mp hx) (sSS he (wpAny_execs_nil (nx hl (SOut.refl R F))))) fun _ => rfl
  | seq a b iha ihb =>
    refine onlyS (fun st loc H f loc' H' A s μ hx he hl hA R F => oC (o := stCons st) (f := fun q => chk1 C env.scope nm a q.1 && chkS C env.scope nm b q.2) hx fun q hq g => pe (stCons_eq hq) (bC (o := evalS C cf a loc H) he fun z e1 e2 => wpAny_execs_cons (stT (iha.1 _ _ _ _ _ _ _ _ _ (anL g) e1 hl hA R F) fun fl s1 μ1 l1 O1 r1 => ?_))) fun _ => rfl
    obtain ⟨z, loc1, H1⟩ := z
    cases z with
    | next => cases fl <;> first | exact r1.elim | exact stA O1 (ihb.2 _ _ _ _ _ _ _ _ _ (anR g) e2 l1 hA O1.rep O1.fr)
    | brk => cases fl <;> first | exact r1.elim | exact fS (P := fun f l K => StOut C hb env nm μ s f l K .brk s1) e2 (stO l1 O1 trivial)
    | ret v => cases fl <;> first | exact r1.elim | exact fS (P := fun f l K => StOut C hb env nm μ s f l K (.ret _) s1) e2 (stO l1 O1 r1)
  | forRange t n body ih =>
    refine only1 (fun st loc H f loc' H' A s μ hx he hl hA R F => for_c hx fun x xp rp a rpos xs pos h1 h2 h4 h5 h6 => bC (o := evalE C cf loc n H) he fun v e1 he => bC (o := rangeV v.1) he fun vs e2 e3 => ?_) fun _ => rfl
    obtain ⟨v, H1⟩ := v
    cases v <;> first | (cases e2; done) | skip
    rename_i k
    refine if_some e2 fun hk e2 => ?_
    cases e2
    exact for_sound hA hl F hk e3 (fun i tk px loc H f loc' H' A s μ he hl hA R F => bC (o := assignE C cf (.loc t) (.int i) loc H) he fun z h7 h8 => if_some h7 fun hi h7 => wpAny_assign_Name (sT (store_sound hN R F h1 hi (.inl h2) (v := .int i) (.int _ _)) fun _ s2 μ2 O2 => by
      cases h7
      exact stA O2 (ih.2 _ _ _ _ _ _ _ _ _ h6 h8 ((List.length_set ..).trans hl) hA O2.rep O2.fr))) (range_call ok B R F h4 (star_of (chk_odd h5)) ((evalE_sound ok B co kn n).1 _ _ _ _ _ _ _ h5 e1 hA R F)) (fun _ => rfl)
  | brk => exact only1 (fun st loc H f loc' H' A s μ hx he hl hA R F => (ps_of (o := stBrkP st) hx).elim fun p e => pe e (s1S he (wpAny_Break (stO hl (SOut.refl R F) trivial)))) fun _ => rfl
  | two i j e =>
    exact only1 (fun st loc H f loc' H' A s μ hx he hl hA R F => exC1 (o := stTwo' st) hx fun q p g => bC (o := evalE C cf loc e H) he fun v e1 he => bC (o := setFwd [i, j] [v.1, v.1] loc) he fun l2 e2 he => s1S he
      (chkNames_cons (P := fun zs => ∀ a b, zs = [a, b] → GA2 prog w C hb env nm A s μ q.2.2 p l2 v.2 a b) (anL g) (fun x p1 ys a1 a2 g1 a b ez => by
        injection ez with z1 z2
        subst z1
        exact chkNames_cons (P := fun zs => zs = [b] → GA2 prog w C hb env nm A s μ q.2.2 p l2 v.2 (.Name x p1) b) g1 (fun y p2 zs b1 b2 g2 ez => by
          injection ez with z1 z2
          subst z1
          exact if_go e2 fun hi e2 => if_go e2 fun hj e2 => by
            cases e2
            exact wpAny_Assign_two (eT ((evalE_sound ok B co kn e).1 _ _ _ _ _ _ _ (anR g) e1 hA R F) fun u s1 μ1 O1 r1 => sT (put_name hN O1.rep (F.s O1.step) a1 a2 hi r1) fun _ s2 μ2 O2 =>
              sT (put_name hN O2.rep O2.fr b1 b2 hj (r1.step O2.step (F.s O1.step).fr)) fun _ s3 μ3 O3 => nx ((List.length_set ..).trans ((List.length_set ..).trans hl)) (((O1.toS F).trans O2).trans O3))) z2) q.1 q.2.1 rfl)) fun _ => rfl
  | append i e =>
    exact only1 (fun st loc H f loc' H' A s μ hx he hl hA R F => exC1 (o := stExpr' st) hx fun x p g => bC (o := locV loc i) he fun o hv he => bC (o := moreL H o []) he fun H0 e0 he => bC (o := evalE C cf loc e H) he fun v e1 he => bC (o := moreL v.2 o [v.1]) he fun H2 e2 he => s1S he
      (have h := append_st ok B co kn hN g hv e0 e1 e2 hA R F
       wpAny_Expr_any (uT h.2 fun u s1 μ1 O1 => nx hl (O1.toS F)) (inter_no F.fk) (h.1 _))) fun _ => rfl
  | unpack is e =>
    exact only1 (fun st loc H f loc' H' A s μ hx he hl hA R F => exC1 (o := stAssign' st) hx fun q p g => bC (o := evalE C cf loc e H) he fun v e1 he => bC (o := itemsOf C v.2 v.1) he fun vs e2 he => bC (o := setFwd is vs loc) he fun l2 e3 he => s1S he
      (exC2 (o := exTuple' q.1) (P := fun t => GA prog w C hb env nm A s μ q.2 p l2 v.2 t) (anL (anL g)) fun ts k p1 g1 => isName (P := fun y => chkE C env.scope nm e y = true → GA prog w C hb env nm A s μ y p l2 v.2 (.Tuple ts k p1)) (anR (anL g)) (fun y yp g3 =>
        PyProof.Rows.Assign_Tuple (eT ((evalE_sound ok B co kn e).1 _ _ _ _ _ _ _ g3 e1 hA R F) fun u s1 μ1 O1 r1 => sT (unpack_names ok B.X hA.h hN O1.rep (F.s O1.step) (parts_of e2) r1 g1 e3) fun _ s2 μ2 O2 => nx ((setFwd_len e3).trans hl) ((O1.toS F).trans O2)) rfl rfl) (anR g))) fun _ => rfl
  | assignAs i as e =>
    exact only1 (fun st loc H f loc' H' A s μ hx he hl hA R F => exC1 (o := stAssign' st) hx fun q p g => bC (o := evalE C cf loc e H) he fun v e1 he => bC (o := partsOf C v.2 v.1) he fun vs e2 he => bC (o := locV loc i) he fun o hv he => bC (o := setAs C o as vs v.2) he fun H2 e3 he => s1S he
      (exC2 (o := exTuple' q.1) (P := fun t => GA prog w C hb env nm A s μ q.2 p loc H2 t) (anL (anL g)) fun ts k p1 g1 => isName (P := fun y => chkE C env.scope nm e y = true → GA prog w C hb env nm A s μ y p loc H2 (.Tuple ts k p1)) (anR (anL g)) (fun y yp g3 =>
        PyProof.Rows.Assign_Tuple (eT ((evalE_sound ok B co kn e).1 _ _ _ _ _ _ _ g3 e1 hA R F) fun u s1 μ1 O1 r1 => by
          rw [arm_assign_Tuple]
          exact wpAny_bind (wpAny_standAt (parts_sound ok B.X hA.h O1.rep e2 r1 ((attrs_shape (env := env) g1).1.trans (setAs_lens e3)) ((attrs_shape (env := env) g1).2 0) fun items s2 O2 r2 => uT (attrs_sound ok B.X hv g1 e3 r2 O2.rep ((F.s O1.step).s O2.step)) fun _ s3 μ3 O3 => nx hl (((O1.trans O2).trans O3).toS F)))) rfl rfl) (anR g))) fun _ => rfl
  | assignD d' k j e => exact only1 (fun st loc H f loc' H' A s μ hx he hl hA R F => bC (o := evalE C cf loc e H) he fun v e1 he => assignD_sound ok B co kn hN hx e1 he hl hA R F) fun _ => rfl
  | augL i e =>
    exact only1 (fun st loc H f loc' H' A s μ hx he hl hA R F => exC1 (o := stAug' st) hx fun q p g => pe (P := fun o => G1 prog w C hb env nm A s μ f loc' H' (.AugAssign q.1 o q.2.2 p)) (of_decide_eq_true (anR (anL g))).symm
      (exC1 (o := exName' q.1) (P := fun x => G1 prog w C hb env nm A s μ f loc' H' (.AugAssign x .Add q.2.2 p)) (anL (anL g)) fun x px g1 => bC (o := locV loc i) he fun o hv he => bC (o := evalE C cf loc e H) he fun v e1 he => bC (o := itemsOf C v.2 v.1) he fun us e2 he => bC (o := moreL v.2 o us) he fun H2 e3 he => s1S he
        (wpAny_AugAssign_Name (load_sound F hv (eq_of_beq (anL (anL g1))) (anR (anL g1)) fun u0 r0 => eT ((evalE_sound ok B co kn e).1 _ _ _ _ _ _ _ (anR g) e1 hA R F) fun u s1 μ1 O1 r1 => by
          obtain ⟨l, items, n, rfl, gl, rs⟩ := itemsOf_sound ok B.X O1.rep e2 r1
          refine mono_no (more_sound O1.rep e3 (r0.s O1.step) gl rs) fun v s2 ⟨hv2, μ2, O2⟩ => ?_
          subst hv2
          obtain ⟨hi, hg⟩ := List.getElem?_eq_some_iff.mp (locV_some hv)
          refine sT (store_sound hN O2.rep (F.s (O1.trans O2).step) (eq_of_beq (anL (anL g1))) hi (kind_of F (eq_of_beq (anL (anL g1))) (anR g1)) (r0.s (O1.trans O2).step)) fun _ s3 μ3 O3 => ?_
          rw [← hg, List.set_getElem_self] at O3
          exact nx hl (((O1.trans O2).toS F).trans O3))))) fun _ => rfl
  | setSlice i lo hi a => exact only1 (fun st loc H f loc' H' A s μ hx he hl hA R F => setSlice_sound ok B co kn hN hx he hl hA R F) fun _ => rfl
  | forIn ts e body ih =>
    exact only1 (fun st loc H f loc' H' A s μ hx he hl hA R F => exC1 (o := stFor' st) hx fun q p g => bC (o := evalE C cf loc e H) he fun v e1 he => bC (o := itemsOf C v.2 v.1) he fun vs e2 e3 =>
      forIn_sound (fun k u x' loc H f loc' H' A s μ he hl hA R F r => bC (o := setTgt C H ts u loc) he fun loc1 h7 h8 => sT (tgt_sound ok B.X hA.h hN (anL (anL g)) h7 R F r).2 fun _ s2 μ2 O2 => stA O2 (ih.2 _ _ _ _ _ _ _ _ _ (anR g) h8 ((tgt_sound (A := A) (prog := prog) (w := w) ok B.X hA.h hN (anL (anL g)) h7 R F r).1.trans hl) hA O2.rep O2.fr)) hA (tgt_go (anL (anL g))) ok B.X hl R F e3 e2 ((evalE_sound ok B co kn e).1 _ _ _ _ _ _ _ (anR (anL g)) e1 hA R F) (fold_of (chk_odd (anR (anL g))) _)) fun _ => rfl
  | forEnum i j e body ih =>
    exact only1 (fun st loc H f loc' H' A s μ hx he hl hA R F => exC1 (o := stFor' st) hx fun q p g => exC2 (o := exTuple' q.1) (P := fun t => G1 prog w C hb env nm A s μ f loc' H' (.For t q.2.1 q.2.2 [] p)) (anL (anL g)) fun xs k p1 g1 => named_c (P := fun z => G1 prog w C hb env nm A s μ f loc' H' (.For (.Tuple xs k p1) z q.2.2 [] p)) (n := "enumerate") (anR (anL g)) fun np y cpos h1 h2 => bC (o := evalE C cf loc e H) he fun v e1 he => bC (o := itemsOf C v.2 v.1) he fun vs e2 e3 =>
      forEnum_sound (fun k u x' loc H f loc' H' A s μ he hl hA R F r => bC (o := setFwd [i, j] [.int k, u] loc) he fun loc1 h7 h8 => sT (unpack_names ok B.X hA.h hN R F (v := .tup [.int k, u]) rfl r g1 h7) fun _ s2 μ2 O2 => stA O2 (ih.2 _ _ _ _ _ _ _ _ _ (anR g) h8 ((setFwd_len h7).trans hl) hA O2.rep O2.fr)) hA ok B.X hl R F e3 e2 (fun Q h =>
        wpAny_Call_NameR (Name_function_global F.fk h1 (loadGlobal_builtin (env := env) (by rw [F.gl]; exact B.g.keeps R.base) (mg_none_of B.X B.g ok.en) (by rw [F.bl]; exact B.b.keeps R.base) ((B.builtins _ (by decide)).trans (by rfl))
          (pe (P := fun l => wpAny (model prog w) A (callWith cpos _ [] (backTo cpos l) []) _ noE s) (star_of (chk_odd h2)) (PyProof.Rows.callWith_type rfl (Calls.evalArgs_plain (Calls.spliced_cons (mono_no ((evalE_sound ok B co kn e).1 _ _ _ _ _ _ _ h2 e1 hA R F) fun v s1 O1 => Calls.spliced_nil (h v s1 O1))))))))) (fun _ => rfl)) fun _ => rfl
end
end
end Mine
end
section
open PySem PySem.W PySem.Calls PyProof.Rows Builtin Builtin.ObjectAttr
set_option autoImplicit false
namespace Mine

theorem Step.dropAll {fs : List Addr} {μ μ' : Mu} {h h₁ h' : Heap} (k : ∀ b o, h.get? b = some o → h₁.get? b = some o) (y : Step fs μ h₁ μ' h') (hn : ∀ b ∈ fs, h.get? b = none) : Step [] μ h μ' h' := by
  refine ⟨fun b o n _ e => y.keep b o n (fun m => by rw [hn b m] at e; cases e) (k b o e), y.pre, fun b q => (y.own b q).imp id fun l => ⟨?_, fun q => nomatch q⟩⟩
  cases e : h.get? b with
  | none => rfl
  | some o => rw [k b o e] at l; cases l.1

section
variable {kindOf : Str → Option NameKind}
theorem bindL_out : ∀ {names : List Str} {vals : List Value} {m : Str → Option Value} {x : Str}, x ∉ names → bindL kindOf (names.zip vals) m x = m x
  | [], _, _, _, _ => rfl
  | _ :: _, [], _, _, _ => rfl
  | n :: ns, v :: vs, m, x, h => by
    have h1 : x ≠ n := fun q => h (by rw [q]; exact .head _)
    have h2 : x ∉ ns := fun q => h (.tail _ q)
    show bindL kindOf (ns.zip vs) _ x = m x
    rw [bindL_out h2]
    split
    · exact if_neg h1
    · rfl
theorem bindC_out : ∀ {names : List Str} {vals : List Value} {m : Str → Option Value} {x : Str}, x ∉ names → bindC kindOf (names.zip vals) m x = m x
  | [], _, _, _, _ => rfl
  | _ :: _, [], _, _, _ => rfl
  | n :: ns, v :: vs, m, x, h => by
    have h1 : x ≠ n := fun q => h (by rw [q]; exact .head _)
    have h2 : x ∉ ns := fun q => h (.tail _ q)
    show bindC kindOf (ns.zip vs) _ x = m x
    rw [bindC_out h2]
    split
    · rfl
    · exact if_neg h1
theorem bindL_at : ∀ {names : List Str} {vals : List Value} {m : Str → Option Value} {i : Nat} {x : Str} {v : Value}, names.Nodup → names[i]? = some x → vals[i]? = some v → kindOf x = some .local → bindL kindOf (names.zip vals) m x = some v
  | [], _, _, _, _, _, _, h, _, _ => by simp at h
  | _ :: _, [], _, _, _, _, _, _, h, _ => by simp at h
  | n :: ns, u :: us, m, 0, x, v, nd, h1, h2, hk => by
    simp at h1 h2; subst h1 h2
    show bindL kindOf (ns.zip us) _ n = _
    rw [bindL_out (List.nodup_cons.mp nd).1, if_pos hk]
    exact if_pos rfl
  | n :: ns, u :: us, m, i + 1, x, v, nd, h1, h2, hk => by
    show bindL kindOf (ns.zip us) _ x = _
    exact bindL_at (List.nodup_cons.mp nd).2 (by simpa using h1) (by simpa using h2) hk
theorem bindC_at : ∀ {names : List Str} {vals : List Value} {m : Str → Option Value} {i : Nat} {x : Str} {v : Value}, names.Nodup → names[i]? = some x → vals[i]? = some v → kindOf x ≠ some .local → bindC kindOf (names.zip vals) m x = some v
  | [], _, _, _, _, _, _, h, _, _ => by simp at h
  | _ :: _, [], _, _, _, _, _, _, h, _ => by simp at h
  | n :: ns, u :: us, m, 0, x, v, nd, h1, h2, hk => by
    simp at h1 h2; subst h1 h2
    show bindC kindOf (ns.zip us) _ n = _
    rw [bindC_out (List.nodup_cons.mp nd).1, if_neg hk]
    exact if_pos rfl
  | n :: ns, u :: us, m, i + 1, x, v, nd, h1, h2, hk => by
    show bindC kindOf (ns.zip us) _ x = _
    exact bindC_at (List.nodup_cons.mp nd).2 (by simpa using h1) (by simpa using h2) hk
end

noncomputable def plainParams (p : Arguments) (names : List Str) : Bool :=
  p.posonlyargs.isEmpty && p.vararg.isNone && p.kwonlyargs.isEmpty && p.kwarg.isNone && p.args.map (·.arg) == names

theorem fm_congr {α β : Type} {f g : α → Option β} : ∀ {l : List α}, (∀ x ∈ l, f x = g x) → l.filterMap f = l.filterMap g
  | [], _ => rfl
  | x :: l, h => by rw [List.filterMap_cons, List.filterMap_cons, h x (.head _), fm_congr fun y hy => h y (.tail _ hy)]

theorem zip_look : ∀ {names : List Str} {vals : List Value}, names.Nodup → names.length = vals.length → names.filterMap (fun n => ((names.zip vals).lookup n).map fun x => (n, x)) = names.zip vals ∧ ∀ n ∈ names, ((names.zip vals).lookup n).isSome = true
  | [], vals, _, h => by cases vals <;> simp at h ⊢
  | n :: ns, [], _, h => by simp at h
  | n :: ns, v :: vs, nd, h => by
    obtain ⟨h1, h2⟩ := List.nodup_cons.mp nd
    obtain ⟨i1, i2⟩ := zip_look (vals := vs) h2 (by simpa using h)
    have ne : ∀ m ∈ ns, (m == n) = false := fun m hm => beq_eq_false_iff_ne.mpr fun q => h1 (q ▸ hm)
    refine ⟨?_, fun m hm => ?_⟩
    · rw [List.filterMap_cons]
      simp only [List.zip_cons_cons, List.lookup_cons, beq_self_eq_true, Option.map_some]
      congr 1
      refine Eq.trans (fm_congr fun m hm => ?_) i1
      rw [ne m hm]
    · simp only [List.zip_cons_cons, List.lookup_cons]
      split
      · rfl
      · rename_i q
        rcases List.mem_cons.mp hm with rfl | hm
        · simp at q
        · exact i2 m hm

theorem ite_no {α : Type} {c : Bool} {X Y Z : α} (h : c = false) (e : Y = Z) : (if c = true then X else Y) = Z := by subst h; exact e
theorem filt_no {l : List Str} {f : Str → Bool} (h : ∀ n ∈ l, f n = false) : (!(l.filter f).isEmpty) = false := by
  rw [List.filter_eq_nil_iff.mpr fun n hn => by rw [h n hn]; exact Bool.false_ne_true]; rfl
theorem none_no {α : Type} {o : Option α} (h : o.isSome = true) : o.isNone = false := by cases o; cases h; rfl
theorem for_nil {β : Type} {l : List (Str × Value)} {b : β} {f : Str × Value → β → Sem (ForInStep β)} {k : β → Sem (List (Str × Value))} {Z : Sem (List (Str × Value))} (h : l = []) (e : k b = Z) : (forIn l b f >>= k) = Z := by subst h; exact e
theorem bind_plain {fd : FuncData} {vals : List Value} {names : List Str} (hp : plainParams fd.params names = true) (hd : fd.defaults = .none) (nd : names.Nodup) (hl : names.length = vals.length) : bindArgs fd ⟨vals, []⟩ = pure (names.zip vals) := by
  simp only [plainParams, Bool.and_eq_true, List.isEmpty_iff, Option.isNone_iff_eq_none, beq_iff_eq] at hp
  obtain ⟨⟨⟨⟨h1, h2⟩, h3⟩, h4⟩, h5⟩ := hp
  obtain ⟨z1, z2⟩ := zip_look nd hl
  obtain ⟨nm, qn, ⟨po, ar, va, kwo, kwd, kwa, df⟩, bd, sc, gl, bn, dfs, kwdf, clo, cd⟩ := fd
  dsimp only at h1 h2 h3 h4 h5 hd
  subst h1 h2 h3 h4 h5 hd
  unfold bindArgs
  refine ite_no (c := decide (vals.length > (ar.map (·.arg)).length) && true) ?_ ?_
  · rw [decide_eq_false (by rw [hl]; exact Nat.lt_irrefl _)]; rfl
  · refine ite_no (filt_no fun n hn => none_no (z2 n (List.mem_of_mem_take hn))) (for_nil ?_ ?_)
    · exact (congrArg _ List.drop_nil).trans List.zip_nil_right
    · exact congrArg Sem.pure ((congrArg (List.filterMap _) (List.append_nil _)).trans z1)

theorem callD_succ (C : Cx) (d : Nat) (f : Addr) (args : List V) (H : Hp) : callD C (d + 1) f args H = match C.fn f with
    | none => none
    | some fn => runFn C (callD C d) fn args H := rfl

def FnSound (C : Cx) (hb : Heap) (prog : Program) (w : World) (f : Addr) (fn : Fn) : Prop :=
  ∀ d cf, cf = callD C d → CallOk C hb prog w cf d → FnKnown hb cf → ∀ args H V H', runFn C cf fn args H = some (V, H') → ∀ A (s : Shared) (μ : Mu) vals, AOk A (d + 1) → Rep C hb μ H s.heap → VRels μ s.heap args vals →
    codeAny (model prog w) A (.call (.ref f) ⟨vals, []⟩) (fun r s' => ∃ v, r = .ok (.ret v) ∧ EOut C hb μ s H' V v s') s

theorem callD_known {hb : Heap} {C : Cx} (hf : ∀ f fn, C.fn f = some fn → FnAt f hb) : ∀ d, FnKnown hb (callD C d)
  | 0, _, _, _, _, e => by cases e
  | d + 1, f, args, H, r, e => by
    rw [callD_succ] at e
    split at e
    · cases e
    · rename_i fn q; exact hf f fn q

theorem callD_sound {C : Cx} {hb : Heap} {prog : Program} {w : World} (hf : ∀ f fn, C.fn f = some fn → FnAt f hb) (hs : ∀ f fn, C.fn f = some fn → FnSound C hb prog w f fn) : ∀ d, CallOk C hb prog w (callD C d) d
  | 0, _, _, _, _, _, e => by cases e
  | d + 1, f, args, H, V, H', e => by
    rw [callD_succ] at e
    split at e
    · cases e
    · rename_i fn q
      exact hs f fn q d _ rfl (callD_sound hf hs d) (callD_known hf d) args H V H' e

noncomputable def isNoneV : Value → Bool
  | .none => true
  | _ => false
theorem isNoneV_eq {v : Value} (h : isNoneV v = true) : v = .none := by cases v <;> first | rfl | cases h
noncomputable def nodupB : List Str → Bool
  | [] => true
  | x :: r => !r.contains x && nodupB r
theorem nodupB_nd : ∀ {l : List Str}, nodupB l = true → l.Nodup
  | [], _ => .nil
  | x :: r, h => by
    simp only [nodupB, Bool.and_eq_true, Bool.not_eq_true'] at h
    exact List.nodup_cons.mpr ⟨fun q => by have := List.contains_iff_mem.mpr q; rw [this] at h; exact absurd h.1 (by decide), nodupB_nd h.2⟩

noncomputable def fnOk (K : Frag) (C : Cx) (f : Addr) (fn : Fn) : Bool := match K.lookup f with
  | some ⟨_, _, .func fd, _⟩ => (match fd.body with
    | .stmts body => fd.closure.isEmpty && !fd.scope.isCoroutine && !fd.scope.isGenerator && decide (fd.scope.kind = .function) && decide (fd.globals = mainGlobals) && decide (fd.builtins = builtinsNs) &&
        codeIn K fd.code fd.qualname && plainParams fd.params (fn.names.take fn.arity) && isNoneV fd.defaults && decide (fn.arity ≤ fn.names.length) && nodupB fn.names &&
        fn.names.all (fun x => fd.scope.names.lookup x == some .local) && fd.scope.names.all (fun x => decide (x.2 ≠ .cell)) && chkS C fd.scope fn.names fn.body body
    | _ => false)
  | _ => false

theorem cellsFrom_none : ∀ {names : List (Str × NameKind)} {n : Nat} {acc : List (Str × Addr)}, (∀ x ∈ names, x.2 ≠ .cell) → cellsFrom n names acc = acc
  | [], _, _, _ => rfl
  | (x, k) :: r, n, acc, h => by
    unfold cellsFrom
    have hk : (k == NameKind.cell) = false := beq_eq_false_iff_ne.mpr (h (x, k) (.head _))
    rw [hk]
    exact cellsFrom_none fun y hy => h y (.tail _ hy)

section
variable {K : Frag} {C : Cx} {hb : Heap} {mg mb : Str → Option Value} {μ : Mu} {H : Hp} {s s₁ : Shared} {env : Env} {nm : List Str} {args : List V} {vals : List Value} {kn : Nat}

theorem loc_args {i : Nat} {v : V} (e : (args.map some ++ List.replicate kn none)[i]? = some (some v)) : args[i]? = some v := by
  rcases Nat.lt_or_ge i args.length with l | l
  · rw [List.getElem?_append_left (by simpa using l), List.getElem?_map] at e
    cases q : args[i]? with
    | none => rw [q] at e; cases e
    | some u => rw [q] at e; simpa using e
  · rw [List.getElem?_append_right (by simpa using l), List.getElem?_replicate] at e
    split at e <;> cases e

theorem frI_call (R : Rep C hb μ H s.heap) (ra : VRels μ s.heap args vals) (hlen : args.length ≤ nm.length) (nd : nm.Nodup)
    (x : InCallC s env.locals (bindL env.kindOf ((nm.take args.length).zip vals) fun _ => none) env.cells (bindC env.kindOf ((nm.take args.length).zip vals) fun _ => none) s₁)
    (fk : env.scope.kind = .function) (hg : env.globals = mainGlobals) (hb' : env.builtins = builtinsNs) (hk : ∀ y ∈ nm, env.kindOf y = some .local ∨ (env.kindOf y = some .cell ∧ ∃ c, env.cells.lookup y = some c))
    (hc : ∀ n c, (n, c) ∈ env.cells → env.cells.lookup n = some c) :
    Out C hb μ s μ H s₁ ∧ FrI env nm (args.map some ++ List.replicate kn none) μ s₁.heap ∧ ∀ b ∈ fa env, s.heap.get? b = none := by
  obtain ⟨h₁, tk, e₁⟩ := x.toInCall.same
  obtain ⟨st, R1⟩ := R.keep x.toInCall.keep
  have fresh : ∀ b ∈ fa env, s.heap.get? b = none := fun b hb1 => by
    rcases List.mem_cons.mp hb1 with rfl | hb1
    · exact Heap.get?_none_of_le x.toInCall.fresh
    · obtain ⟨p, hp, rfl⟩ := List.mem_map.mp hb1
      exact Heap.get?_none_of_le (Nat.le_trans x.toInCall.fresh (Nat.le_of_lt (x.above p.1 p.2 hp)))
  have nd' : (nm.take args.length).Nodup := nd.sublist (List.take_sublist _ _)
  have at' : ∀ {i : Nat} {y : Str} {v : V}, nm[i]? = some y → (args.map some ++ List.replicate kn none)[i]? = some (some v) → ∃ u, (nm.take args.length)[i]? = some y ∧ vals[i]? = some u ∧ VRel μ s₁.heap v u := by
    intro i y v h1 h2
    have h3 := loc_args h2
    obtain ⟨u, h4, h5⟩ := ra.get h3
    have hlt := (List.getElem?_eq_some_iff.mp h3).1
    exact ⟨u, by rw [List.getElem?_take, if_pos hlt]; exact h1, h4, h5.s st⟩
  refine ⟨⟨R1, st, by rw [e₁], by rw [e₁]⟩, ⟨fk, hg, hb', ?_, ⟨_, x.toInCall.ns, ?_⟩, ?_, ?_, ?_, ?_, ?_, ?_, x.apart, ?_⟩, fresh⟩
  · intro i j y h1 h2
    exact (List.getElem?_inj (List.getElem?_eq_some_iff.mp h1).1 nd).mp (h1.trans h2.symm)
  · intro i y v h1 h2 h3
    obtain ⟨u, h4, h5, h6⟩ := at' h1 h2
    exact ⟨u, bindL_at nd' h4 h5 h3, h6⟩
  · intro i y v h1 h2 h3
    obtain ⟨u, h4, h5, h6⟩ := at' h1 h2
    rcases hk y (List.mem_of_getElem? h1) with q | ⟨q, c, hcc⟩
    · rw [q] at h3; rcases h3 with h3 | h3 <;> cases h3
    · have hn : env.kindOf y ≠ some .local := by rw [q]; decide
      have := x.cell y c hcc
      rw [bindC_at nd' h4 h5 hn] at this
      exact ⟨c, u, hcc, this, h6⟩
  · intro i y h1
    exact (hk y (List.mem_of_getElem? h1)).imp id fun q => .inl q.1
  · intro i y h1 h2
    rcases hk y (List.mem_of_getElem? h1) with q | ⟨_, q⟩
    · rw [q] at h2; cases h2
    · exact q
  · intro b hb1 q
    obtain ⟨o, e⟩ := R.rel.ownLt q
    rw [fresh b hb1] at e; cases e
  · intro b hb1
    rcases List.mem_cons.mp hb1 with rfl | hb1
    · obtain ⟨o, es, ep, e, ed, _⟩ := x.toInCall.ns
      exact ⟨o, e, .inl ⟨es, ep, ed⟩⟩
    · obtain ⟨p, hp, rfl⟩ := List.mem_map.mp hb1
      obtain ⟨o, e, ed⟩ := x.cell p.1 p.2 (hc _ _ hp)
      exact ⟨o, e, .inr (.inl ⟨_, ed⟩)⟩
  · intro p hp
    exact ⟨_, x.cell p.1 p.2 (hc _ _ hp)⟩
  · intro p hp
    exact Nat.ne_of_gt (x.above p.1 p.2 hp)
end

theorem fnOk_sound {K : Frag} {C : Cx} {hb : Heap} {mg mb : Str → Option Value} {prog : Program} {w : World} (ok : CxOk K C) (B : Base K hb mg mb) {f : Addr} {fn : Fn} (hx : fnOk K C f fn = true) : FnAt f hb ∧ FnSound C hb prog w f fn := by
  unfold fnOk at hx
  split at hx
  case h_2 => cases hx
  case h_1 oc od fd sl ho =>
  split at hx
  case h_2 => cases hx
  case h_1 body hbody =>
  simp only [Bool.and_eq_true, List.isEmpty_iff, Bool.not_eq_true', decide_eq_true_eq, List.all_eq_true, beq_iff_eq, Prod.forall] at hx
  obtain ⟨⟨⟨⟨⟨⟨⟨⟨⟨⟨⟨⟨⟨hclo, hco⟩, hgen⟩, hkind⟩, hgl⟩, hbl⟩, hcode⟩, hpl⟩, hdef⟩, har⟩, hnd⟩, hloc⟩, hcell⟩, hchk⟩ := hx
  refine ⟨⟨_, _, _, _, B.X _ _ ho⟩, ?_⟩
  intro d cf _ co kn args H V H' e A s μ vals hA R ra
  unfold runFn at e
  split at e
  case isFalse => cases e
  case isTrue hg =>
  have hlen := hg
  have nd := nodupB_nd hnd
  have X := R.in B.X
  have hcs : ∀ n, cellsFrom n fd.scope.names [] = [] := fun n => cellsFrom_none fun x hx => hcell x.1 x.2 hx
  have htake : (fn.names.take fn.arity).length = vals.length := by rw [List.length_take, Nat.min_eq_left har, ra.length, hlen]
  refine codeAny_call_cells (binds := (fn.names.take fn.arity).zip vals) (by have := hA.dp; lia) (X _ _ ho) rfl (B.nolimit.keeps R.base) (codeRec_of X hcode) hbody (bind_plain hpl (isNoneV_eq hdef) (nd.sublist (List.take_sublist _ _)) htake) hclo (fun x hx => ?_) (fun s₁ x => ?_) hco hgen hkind
  · left
    exact hloc x.1 ((List.take_sublist _ _).subset (List.of_mem_zip (show (x.1, x.2) ∈ _ from hx)).1)
  · have hce : (callEnvC fd s.heap.objs.size f).cells = [] := hcs _
    rw [← hlen] at x
    obtain ⟨O1, F1, fr1⟩ := frI_call (kn := fn.names.length - fn.arity) (env := callEnvC fd s.heap.objs.size f) (nm := fn.names) R ra (hlen ▸ har) nd x hkind hgl hbl (fun y hy => .inl (hloc y hy)) (fun n c hm => by rw [hce] at hm; cases hm)
    have hN : ∀ b ∈ fa (callEnvC fd s.heap.objs.size f), hb.get? b = none := fun b hb1 => by
      cases q : hb.get? b with
      | none => rfl
      | some o => have := R.base b o q; rw [fr1 b hb1] at this; cases this
    have hll : (args.map some ++ List.replicate (fn.names.length - fn.arity) none).length = fn.names.length := by
      rw [List.length_append, List.length_map, List.length_replicate]; lia
    have done : ∀ {fl : Fl} {loc' : Loc} {H' : Hp}, evalS C cf fn.body (args.map some ++ List.replicate (fn.names.length - fn.arity) none) H = some (fl, loc', H') → ∀ {v : Mine.V}, (∀ μ h fw, FlRel μ h fl fw → VRel μ h v (match fw with | .ret v => v | _ => .none)) →
        wpAny (model prog w) (A.deeper (callEnvC fd s.heap.objs.size f)) (execs body (callEnvC fd s.heap.objs.size f)) (fun f s' => ∃ u, (Except.ok (.ret (match f with | .ret v => v | _ => .none)) : Result) = .ok (.ret u) ∧ EOut C hb μ s H' v u s') noE s₁ := by
      intro fl loc' H' e1 v hv
      refine mono_no ((evalS_sound ok B co kn hN fn.body).2 _ _ _ _ _ _ _ _ _ hchk e1 hll (hA.deeper _) O1.rep F1) fun fw s2 ⟨_, μ2, S2, rf⟩ => ⟨_, rfl, μ2, ⟨S2.rep, ?_, S2.gens.trans O1.gens, S2.os.trans O1.os⟩, hv _ _ _ rf⟩
      exact Step.dropAll x.toInCall.keep S2.step fr1
    refine wpAny_mono (Q := fun f s' => ∃ u, (Except.ok (.ret (match f with | .ret v => v | _ => .none)) : Result) = .ok (.ret u) ∧ EOut C hb μ s H' V u s') (E := noE) ?_ (fun _ _ q => q) (fun _ _ q => q.elim)
    split at e
    · rename_i e1
      cases e
      exact done e1 fun μ h fw q => by cases fw <;> first | exact q | exact q.elim
    · rename_i e1
      cases e
      exact done e1 fun μ h fw q => by cases fw <;> first | exact .none | exact q.elim
    · cases e
end Mine
end
section
open PySem PySem.W PySem.Calls PyProof.Rows
set_option maxRecDepth 100000
namespace Mine
noncomputable def attrNames : List Str := (["name", "byteMask", "addrMask", "addrHighMask", "spBase", "excycles", "addcycles", "processorCycles", "memory", "start_pc", "pc", "sp", "a", "x", "y", "p", "RESET", "NEGATIVE", "OVERFLOW", "UNUSED", "BREAK", "DECIMAL", "ZERO", "CARRY", "BYTE_WIDTH", "ADDR_WIDTH", "instruct", "cycletime", "extracycles", "step", "reset", "ByteAt", "WordAt", "ProgramCounter", "ImmediateByte", "ZeroPageAddr", "ZeroPageXAddr", "ZeroPageYAddr", "BranchRelAddr", "stPush", "stPop", "stPushWord", "stPopWord", "FlagsNZ", "opBST", "opROL", "opEOR", "opADC", "opROR", "opSTA", "opSTX", "opCMPR", "opSBC", "opINCR", "opLDA", "opLDY", "opLDX"] : List String).map Str.ofString
noncomputable def attrTab : List (Option CA) := [none, none, none, none, none, none, none, none, none, none, none, none, none, none, none, none, some (.val (.int 65532)), some (.val (.int 128)), some (.val (.int 64)), some (.val (.int 32)), some (.val (.int 16)), some (.val (.int 8)), some (.val (.int 2)), some (.val (.int 1)), some (.val (.int 8)), some (.val (.int 16)), some (.val (.kref 1423)), some (.val (.kref 1424)), some (.val (.kref 1425)), some (.fn 43), some (.fn 50), some (.fn 71), some (.fn 78), some (.fn 92), some (.fn 99), some (.fn 106), some (.fn 113), some (.fn 120), some (.fn 162), some (.fn 169), some (.fn 176), some (.fn 183), some (.fn 190), some (.fn 197), some (.fn 232), some (.fn 267), some (.fn 274), some (.fn 281), some (.fn 288), some (.fn 295), some (.fn 309), some (.fn 316), some (.fn 323), some (.fn 337), some (.fn 344), some (.fn 351), some (.fn 358)]
noncomputable def lst_instruct : List V := [.kref 372, .kref 379, .kref 365, .kref 365, .kref 365, .kref 386, .kref 393, .kref 365, .kref 400, .kref 407, .kref 414, .kref 365, .kref 365, .kref 421, .kref 428, .kref 365, .kref 435, .kref 442, .kref 365, .kref 365, .kref 365, .kref 449, .kref 456, .kref 365, .kref 463, .kref 470, .kref 365, .kref 365, .kref 365, .kref 477, .kref 484, .kref 365, .kref 491, .kref 498, .kref 365, .kref 365, .kref 505, .kref 512, .kref 519, .kref 365, .kref 526, .kref 533, .kref 540, .kref 365, .kref 547, .kref 554, .kref 561, .kref 365, .kref 568, .kref 575, .kref 365, .kref 365, .kref 365, .kref 582, .kref 589, .kref 365, .kref 596, .kref 603, .kref 365, .kref 365, .kref 365, .kref 610, .kref 617, .kref 365, .kref 624, .kref 631, .kref 365, .kref 365, .kref 365, .kref 638, .kref 645, .kref 365, .kref 652, .kref 659, .kref 666, .kref 365, .kref 673, .kref 680, .kref 687, .kref 365, .kref 694, .kref 701, .kref 365, .kref 365, .kref 365, .kref 708, .kref 715, .kref 365, .kref 722, .kref 729, .kref 365, .kref 365, .kref 365, .kref 736, .kref 743, .kref 365, .kref 750, .kref 757, .kref 365, .kref 365, .kref 365, .kref 764, .kref 771, .kref 365, .kref 778, .kref 785, .kref 792, .kref 365, .kref 799, .kref 806, .kref 813, .kref 365, .kref 820, .kref 827, .kref 365, .kref 365, .kref 365, .kref 834, .kref 841, .kref 365, .kref 848, .kref 855, .kref 365, .kref 365, .kref 365, .kref 862, .kref 869, .kref 365, .kref 365, .kref 876, .kref 365, .kref 365, .kref 883, .kref 890, .kref 897, .kref 365, .kref 904, .kref 365, .kref 911, .kref 365, .kref 918, .kref 925, .kref 932, .kref 365, .kref 939, .kref 946, .kref 365, .kref 365, .kref 953, .kref 960, .kref 967, .kref 365, .kref 974, .kref 981, .kref 988, .kref 365, .kref 365, .kref 995, .kref 365, .kref 365, .kref 1002, .kref 1009, .kref 1016, .kref 365, .kref 1023, .kref 1030, .kref 1037, .kref 365, .kref 1044, .kref 1051, .kref 1058, .kref 365, .kref 1065, .kref 1072, .kref 1079, .kref 365, .kref 1086, .kref 1093, .kref 365, .kref 365, .kref 1100, .kref 1107, .kref 1114, .kref 365, .kref 1121, .kref 1128, .kref 1135, .kref 365, .kref 1142, .kref 1149, .kref 1156, .kref 365, .kref 1163, .kref 1170, .kref 365, .kref 365, .kref 1177, .kref 1184, .kref 1191, .kref 365, .kref 1198, .kref 1205, .kref 1212, .kref 365, .kref 1219, .kref 1226, .kref 1233, .kref 365, .kref 1240, .kref 1247, .kref 365, .kref 365, .kref 365, .kref 1254, .kref 1261, .kref 365, .kref 1268, .kref 1275, .kref 365, .kref 365, .kref 365, .kref 1282, .kref 1289, .kref 365, .kref 1296, .kref 1303, .kref 365, .kref 365, .kref 1310, .kref 1317, .kref 1324, .kref 365, .kref 1331, .kref 1338, .kref 1345, .kref 365, .kref 1352, .kref 1359, .kref 1366, .kref 365, .kref 1373, .kref 1380, .kref 365, .kref 365, .kref 365, .kref 1387, .kref 1394, .kref 365, .kref 1401, .kref 1408, .kref 365, .kref 365, .kref 365, .kref 1415, .kref 1422, .kref 365]
noncomputable def lst_cycletime : List V := [.int 7, .int 6, .int 0, .int 0, .int 0, .int 3, .int 5, .int 0, .int 3, .int 2, .int 2, .int 0, .int 0, .int 4, .int 6, .int 0, .int 2, .int 5, .int 0, .int 0, .int 0, .int 4, .int 6, .int 0, .int 2, .int 4, .int 0, .int 0, .int 0, .int 4, .int 7, .int 0, .int 6, .int 6, .int 0, .int 0, .int 3, .int 3, .int 5, .int 0, .int 4, .int 2, .int 2, .int 0, .int 4, .int 4, .int 6, .int 0, .int 2, .int 5, .int 0, .int 0, .int 0, .int 4, .int 6, .int 0, .int 2, .int 4, .int 0, .int 0, .int 0, .int 4, .int 7, .int 0, .int 6, .int 6, .int 0, .int 0, .int 0, .int 3, .int 5, .int 0, .int 3, .int 2, .int 2, .int 0, .int 3, .int 4, .int 6, .int 0, .int 2, .int 5, .int 0, .int 0, .int 0, .int 4, .int 6, .int 0, .int 2, .int 4, .int 0, .int 0, .int 0, .int 4, .int 7, .int 0, .int 6, .int 6, .int 0, .int 0, .int 0, .int 3, .int 5, .int 0, .int 4, .int 2, .int 2, .int 0, .int 5, .int 4, .int 6, .int 0, .int 2, .int 5, .int 0, .int 0, .int 0, .int 4, .int 6, .int 0, .int 2, .int 4, .int 0, .int 0, .int 0, .int 4, .int 7, .int 0, .int 0, .int 6, .int 0, .int 0, .int 3, .int 3, .int 3, .int 0, .int 2, .int 0, .int 2, .int 0, .int 4, .int 4, .int 4, .int 0, .int 2, .int 6, .int 0, .int 0, .int 4, .int 4, .int 4, .int 0, .int 2, .int 5, .int 2, .int 0, .int 0, .int 5, .int 0, .int 0, .int 2, .int 6, .int 2, .int 0, .int 3, .int 3, .int 3, .int 0, .int 2, .int 2, .int 2, .int 0, .int 4, .int 4, .int 4, .int 0, .int 2, .int 5, .int 0, .int 0, .int 4, .int 4, .int 4, .int 0, .int 2, .int 4, .int 2, .int 0, .int 4, .int 4, .int 4, .int 0, .int 2, .int 6, .int 0, .int 0, .int 3, .int 3, .int 5, .int 0, .int 2, .int 2, .int 2, .int 0, .int 4, .int 4, .int 3, .int 0, .int 2, .int 5, .int 0, .int 0, .int 0, .int 4, .int 6, .int 0, .int 2, .int 4, .int 0, .int 0, .int 0, .int 4, .int 7, .int 0, .int 2, .int 6, .int 0, .int 0, .int 3, .int 3, .int 5, .int 0, .int 2, .int 2, .int 2, .int 0, .int 4, .int 4, .int 6, .int 0, .int 2, .int 5, .int 0, .int 0, .int 0, .int 4, .int 6, .int 0, .int 2, .int 4, .int 0, .int 0, .int 0, .int 4, .int 7, .int 0]
noncomputable def lst_extracycles : List V := [.int 0, .int 0, .int 0, .int 0, .int 0, .int 0, .int 0, .int 0, .int 0, .int 0, .int 0, .int 0, .int 0, .int 0, .int 0, .int 0, .int 2, .int 1, .int 0, .int 0, .int 0, .int 0, .int 0, .int 0, .int 0, .int 1, .int 0, .int 0, .int 0, .int 1, .int 0, .int 0, .int 0, .int 0, .int 0, .int 0, .int 0, .int 0, .int 0, .int 0, .int 0, .int 0, .int 0, .int 0, .int 0, .int 0, .int 0, .int 0, .int 2, .int 1, .int 0, .int 0, .int 0, .int 0, .int 0, .int 0, .int 0, .int 1, .int 0, .int 0, .int 0, .int 1, .int 0, .int 0, .int 0, .int 0, .int 0, .int 0, .int 0, .int 0, .int 0, .int 0, .int 0, .int 0, .int 0, .int 0, .int 0, .int 0, .int 0, .int 0, .int 2, .int 1, .int 0, .int 0, .int 0, .int 0, .int 0, .int 0, .int 0, .int 1, .int 0, .int 0, .int 0, .int 1, .int 0, .int 0, .int 0, .int 0, .int 0, .int 0, .int 0, .int 0, .int 0, .int 0, .int 0, .int 0, .int 0, .int 0, .int 0, .int 0, .int 0, .int 0, .int 2, .int 1, .int 0, .int 0, .int 0, .int 0, .int 0, .int 0, .int 0, .int 1, .int 0, .int 0, .int 0, .int 1, .int 0, .int 0, .int 0, .int 0, .int 0, .int 0, .int 0, .int 0, .int 0, .int 0, .int 0, .int 0, .int 0, .int 0, .int 0, .int 0, .int 0, .int 0, .int 2, .int 0, .int 0, .int 0, .int 0, .int 0, .int 0, .int 0, .int 0, .int 0, .int 0, .int 0, .int 0, .int 0, .int 0, .int 0, .int 0, .int 0, .int 0, .int 0, .int 0, .int 0, .int 0, .int 0, .int 0, .int 0, .int 0, .int 0, .int 0, .int 0, .int 0, .int 0, .int 2, .int 1, .int 0, .int 0, .int 0, .int 0, .int 0, .int 0, .int 0, .int 1, .int 0, .int 0, .int 1, .int 1, .int 1, .int 0, .int 0, .int 0, .int 0, .int 0, .int 0, .int 0, .int 0, .int 0, .int 0, .int 0, .int 0, .int 0, .int 0, .int 0, .int 0, .int 0, .int 2, .int 1, .int 0, .int 0, .int 0, .int 0, .int 0, .int 0, .int 0, .int 1, .int 0, .int 0, .int 0, .int 1, .int 0, .int 0, .int 0, .int 0, .int 0, .int 0, .int 0, .int 0, .int 0, .int 0, .int 0, .int 0, .int 0, .int 0, .int 0, .int 0, .int 0, .int 0, .int 2, .int 1, .int 0, .int 0, .int 0, .int 0, .int 0, .int 0, .int 0, .int 1, .int 0, .int 0, .int 0, .int 1, .int 0, .int 0]
noncomputable def changeL : List Int := [8, 72, 138, 72, 152, 72, 186, 164, 248, 150, 240, 182, 244, 134, 248, 181, 240, 170, 154, 104, 168, 104, 170, 104, 40, 96]
noncomputable def m_init : Fn := { arity := 3, names := ["self", "memory", "pc"], body := (.seq (.assign (.attr 0 0) (.cst (.str "6502"))) (.seq (.assign (.attr 0 1) (.bin .Sub (.bin .LShift (.cst (.int 1)) (.attr 0 24)) (.cst (.int 1)))) (.seq (.assign (.attr 0 2) (.bin .Sub (.bin .LShift (.cst (.int 1)) (.attr 0 25)) (.cst (.int 1)))) (.seq (.assign (.attr 0 3) (.bin .LShift (.attr 0 1) (.attr 0 24))) (.seq (.assign (.attr 0 4) (.bin .LShift (.cst (.int 1)) (.attr 0 24))) (.seq (.assign (.attr 0 5) (.cst (.int 0))) (.seq (.assign (.attr 0 6) (.cst (.bool false))) (.seq (.assign (.attr 0 7) (.cst (.int 0))) (.seq (.ite (.cmp .Is (.loc 1) (.cst .none)) (.seq (.assign (.loc 1) (.bin .Mult (.cst (.int 65536)) (.flist (.cons (.cst (.int 0)) .nil)))) .skip) .skip) (.seq (.assign (.attr 0 8) (.loc 1)) (.seq (.assign (.attr 0 9) (.loc 2)) (.seq (.expr (.mcall 0 30 .nil)) .skip)))))))))))) }
noncomputable def m_reset : Fn := { arity := 1, names := ["self"], body := (.seq (.assign (.attr 0 10) (.attr 0 9)) (.seq (.ite (.cmp .Is (.attr 0 10) (.cst .none)) (.seq (.assign (.attr 0 10) (.mcall 0 32 (.cons (.attr 0 16) .nil))) .skip) .skip) (.seq (.assign (.attr 0 11) (.attr 0 1)) (.seq (.assign (.attr 0 12) (.cst (.int 0))) (.seq (.assign (.attr 0 13) (.cst (.int 0))) (.seq (.assign (.attr 0 14) (.cst (.int 0))) (.seq (.assign (.attr 0 15) (.bin .BitOr (.attr 0 20) (.attr 0 19))) (.seq (.assign (.attr 0 7) (.cst (.int 0))) .skip)))))))) }
noncomputable def m_step : Fn := { arity := 1, names := ["self", "instructCode"], body := (.seq (.assign (.loc 1) (.sub (.attr 0 8) (.attr 0 10))) (.seq (.assign (.attr 0 10) (.bin .BitAnd (.bin .Add (.attr 0 10) (.cst (.int 1))) (.attr 0 2))) (.seq (.assign (.attr 0 5) (.cst (.int 0))) (.seq (.assign (.attr 0 6) (.sub (.attr 0 28) (.loc 1))) (.seq (.expr (.call (.sub (.attr 0 26) (.loc 1)) (.cons (.loc 0) .nil))) (.seq (.aug (.attr 0 10) .BitAnd (.attr 0 2)) (.seq (.aug (.attr 0 7) .Add (.bin .Add (.sub (.attr 0 27) (.loc 1)) (.attr 0 5))) (.seq (.ret (.loc 0)) .skip)))))))) }
noncomputable def m_ByteAt : Fn := { arity := 2, names := ["self", "addr"], body := (.seq (.ret (.sub (.attr 0 8) (.loc 1))) .skip) }
noncomputable def m_WordAt : Fn := { arity := 2, names := ["self", "addr"], body := (.seq (.ret (.bin .Add (.mcall 0 31 (.cons (.loc 1) .nil)) (.bin .LShift (.mcall 0 31 (.cons (.bin .Add (.loc 1) (.cst (.int 1))) .nil)) (.attr 0 24)))) .skip) }
noncomputable def m_ProgramCounter : Fn := { arity := 1, names := ["self"], body := (.seq (.ret (.attr 0 10)) .skip) }
noncomputable def m_ImmediateByte : Fn := { arity := 1, names := ["self"], body := (.seq (.ret (.mcall 0 31 (.cons (.attr 0 10) .nil))) .skip) }
noncomputable def m_ZeroPageAddr : Fn := { arity := 1, names := ["self"], body := (.seq (.ret (.mcall 0 31 (.cons (.attr 0 10) .nil))) .skip) }
noncomputable def m_ZeroPageXAddr : Fn := { arity := 1, names := ["self"], body := (.seq (.ret (.bin .BitAnd (.attr 0 1) (.bin .Add (.attr 0 13) (.mcall 0 31 (.cons (.attr 0 10) .nil))))) .skip) }
noncomputable def m_ZeroPageYAddr : Fn := { arity := 1, names := ["self"], body := (.seq (.ret (.bin .BitAnd (.attr 0 1) (.bin .Add (.attr 0 14) (.mcall 0 31 (.cons (.attr 0 10) .nil))))) .skip) }
noncomputable def m_BranchRelAddr : Fn := { arity := 1, names := ["self", "addr"], body := (.seq (.aug (.attr 0 5) .Add (.cst (.int 1))) (.seq (.assign (.loc 1) (.mcall 0 34 .nil)) (.seq (.aug (.attr 0 10) .Add (.cst (.int 1))) (.seq (.ite (.bin .BitAnd (.loc 1) (.attr 0 17)) (.seq (.assign (.loc 1) (.bin .Sub (.bin .Sub (.attr 0 10) (.bin .BitXor (.loc 1) (.attr 0 1))) (.cst (.int 1)))) .skip) (.seq (.assign (.loc 1) (.bin .Add (.attr 0 10) (.loc 1))) .skip)) (.seq (.ite (.cmp .NotEq (.bin .BitAnd (.attr 0 10) (.attr 0 3)) (.bin .BitAnd (.loc 1) (.attr 0 3))) (.seq (.aug (.attr 0 5) .Add (.cst (.int 1))) .skip) .skip) (.seq (.assign (.attr 0 10) (.bin .BitAnd (.loc 1) (.attr 0 2))) .skip)))))) }
noncomputable def m_stPush : Fn := { arity := 2, names := ["self", "z"], body := (.seq (.assign (.sub (.attr 0 8) (.bin .Add (.attr 0 11) (.attr 0 4))) (.bin .BitAnd (.loc 1) (.attr 0 1))) (.seq (.aug (.attr 0 11) .Sub (.cst (.int 1))) (.seq (.aug (.attr 0 11) .BitAnd (.attr 0 1)) .skip))) }
noncomputable def m_stPop : Fn := { arity := 1, names := ["self"], body := (.seq (.aug (.attr 0 11) .Add (.cst (.int 1))) (.seq (.aug (.attr 0 11) .BitAnd (.attr 0 1)) (.seq (.ret (.mcall 0 31 (.cons (.bin .Add (.attr 0 11) (.attr 0 4)) .nil))) .skip))) }
noncomputable def m_stPushWord : Fn := { arity := 2, names := ["self", "z"], body := (.seq (.expr (.mcall 0 39 (.cons (.bin .BitAnd (.bin .RShift (.loc 1) (.attr 0 24)) (.attr 0 1)) .nil))) (.seq (.expr (.mcall 0 39 (.cons (.bin .BitAnd (.loc 1) (.attr 0 1)) .nil))) .skip)) }
noncomputable def m_stPopWord : Fn := { arity := 1, names := ["self", "z"], body := (.seq (.assign (.loc 1) (.mcall 0 40 .nil)) (.seq (.aug (.loc 1) .Add (.bin .LShift (.mcall 0 40 .nil) (.attr 0 24))) (.seq (.ret (.loc 1)) .skip))) }
noncomputable def m_FlagsNZ : Fn := { arity := 2, names := ["self", "value"], body := (.seq (.aug (.attr 0 15) .BitAnd (.inv (.bin .BitOr (.attr 0 22) (.attr 0 17)))) (.seq (.ite (.cmp .Eq (.loc 1) (.cst (.int 0))) (.seq (.aug (.attr 0 15) .BitOr (.attr 0 22)) .skip) (.seq (.aug (.attr 0 15) .BitOr (.bin .BitAnd (.loc 1) (.attr 0 17))) .skip)) .skip)) }
noncomputable def m_opBST : Fn := { arity := 2, names := ["self", "x"], body := (.seq (.ite (.bin .BitAnd (.attr 0 15) (.loc 1)) (.seq (.expr (.mcall 0 38 .nil)) .skip) (.seq (.aug (.attr 0 10) .Add (.cst (.int 1))) .skip)) .skip) }
noncomputable def m_opROL : Fn := { arity := 2, names := ["self", "x", "tbyte", "addr"], body := (.seq (.ite (.cmp .Is (.loc 1) (.cst .none)) (.seq (.assign (.loc 2) (.attr 0 12)) .skip) (.seq (.assign (.loc 3) (.call (.loc 1) .nil)) (.seq (.assign (.loc 2) (.mcall 0 31 (.cons (.loc 3) .nil))) .skip))) (.seq (.ite (.bin .BitAnd (.attr 0 15) (.attr 0 23)) (.seq (.ite (.bin .BitAnd (.loc 2) (.attr 0 17)) (.seq .pass .skip) (.seq (.aug (.attr 0 15) .BitAnd (.inv (.attr 0 23))) .skip)) (.seq (.assign (.loc 2) (.bin .BitOr (.bin .LShift (.loc 2) (.cst (.int 1))) (.cst (.int 1)))) .skip)) (.seq (.ite (.bin .BitAnd (.loc 2) (.attr 0 17)) (.seq (.aug (.attr 0 15) .BitOr (.attr 0 23)) .skip) .skip) (.seq (.assign (.loc 2) (.bin .LShift (.loc 2) (.cst (.int 1)))) .skip))) (.seq (.aug (.loc 2) .BitAnd (.attr 0 1)) (.seq (.expr (.mcall 0 43 (.cons (.loc 2) .nil))) (.seq (.ite (.cmp .Is (.loc 1) (.cst .none)) (.seq (.assign (.attr 0 12) (.loc 2)) .skip) (.seq (.assign (.sub (.attr 0 8) (.loc 3)) (.loc 2)) .skip)) .skip))))) }
noncomputable def m_opEOR : Fn := { arity := 2, names := ["self", "x"], body := (.seq (.aug (.attr 0 12) .BitXor (.mcall 0 31 (.cons (.call (.loc 1) .nil) .nil))) (.seq (.expr (.mcall 0 43 (.cons (.attr 0 12) .nil))) .skip)) }
noncomputable def m_opADC : Fn := { arity := 2, names := ["self", "x", "data", "halfcarry", "decimalcarry", "adjust0", "adjust1", "nibble0", "nibble1", "aluresult", "result", "tmp"], body := (.seq (.assign (.loc 2) (.mcall 0 31 (.cons (.call (.loc 1) .nil) .nil))) (.seq (.ite (.bin .BitAnd (.attr 0 15) (.attr 0 21)) (.seq (.assign (.loc 3) (.cst (.int 0))) (.seq (.assign (.loc 4) (.cst (.int 0))) (.seq (.assign (.loc 5) (.cst (.int 0))) (.seq (.assign (.loc 6) (.cst (.int 0))) (.seq (.assign (.loc 7) (.bin .Add (.bin .Add (.bin .BitAnd (.loc 2) (.cst (.int 15))) (.bin .BitAnd (.attr 0 12) (.cst (.int 15)))) (.bin .BitAnd (.attr 0 15) (.attr 0 23)))) (.seq (.ite (.cmp .Gt (.loc 7) (.cst (.int 9))) (.seq (.assign (.loc 5) (.cst (.int 6))) (.seq (.assign (.loc 3) (.cst (.int 1))) .skip)) .skip) (.seq (.assign (.loc 8) (.bin .Add (.bin .Add (.bin .BitAnd (.bin .RShift (.loc 2) (.cst (.int 4))) (.cst (.int 15))) (.bin .BitAnd (.bin .RShift (.attr 0 12) (.cst (.int 4))) (.cst (.int 15)))) (.loc 3))) (.seq (.ite (.cmp .Gt (.loc 8) (.cst (.int 9))) (.seq (.assign (.loc 6) (.cst (.int 6))) (.seq (.assign (.loc 4) (.cst (.int 1))) .skip)) .skip) (.seq (.assign (.loc 7) (.bin .BitAnd (.loc 7) (.cst (.int 15)))) (.seq (.assign (.loc 8) (.bin .BitAnd (.loc 8) (.cst (.int 15)))) (.seq (.assign (.loc 9) (.bin .Add (.bin .LShift (.loc 8) (.cst (.int 4))) (.loc 7))) (.seq (.assign (.loc 7) (.bin .BitAnd (.bin .Add (.loc 7) (.loc 5)) (.cst (.int 15)))) (.seq (.assign (.loc 8) (.bin .BitAnd (.bin .Add (.loc 8) (.loc 6)) (.cst (.int 15)))) (.seq (.aug (.attr 0 15) .BitAnd (.inv (.bin .BitOr (.bin .BitOr (.bin .BitOr (.attr 0 23) (.attr 0 18)) (.attr 0 17)) (.attr 0 22)))) (.seq (.ite (.cmp .Eq (.loc 9) (.cst (.int 0))) (.seq (.aug (.attr 0 15) .BitOr (.attr 0 22)) .skip) (.seq (.aug (.attr 0 15) .BitOr (.bin .BitAnd (.loc 9) (.attr 0 17))) .skip)) (.seq (.ite (.cmp .Eq (.loc 4) (.cst (.int 1))) (.seq (.aug (.attr 0 15) .BitOr (.attr 0 23)) .skip) .skip) (.seq (.ite (.bin .BitAnd (.bin .BitAnd (.inv (.bin .BitXor (.attr 0 12) (.loc 2))) (.bin .BitXor (.attr 0 12) (.loc 9))) (.attr 0 17)) (.seq (.aug (.attr 0 15) .BitOr (.attr 0 18)) .skip) .skip) (.seq (.assign (.attr 0 12) (.bin .Add (.bin .LShift (.loc 8) (.cst (.int 4))) (.loc 7))) .skip)))))))))))))))))) (.seq (.ite (.bin .BitAnd (.attr 0 15) (.attr 0 23)) (.seq (.assign (.loc 11) (.cst (.int 1))) .skip) (.seq (.assign (.loc 11) (.cst (.int 0))) .skip)) (.seq (.assign (.loc 10) (.bin .Add (.bin .Add (.loc 2) (.attr 0 12)) (.loc 11))) (.seq (.aug (.attr 0 15) .BitAnd (.inv (.bin .BitOr (.bin .BitOr (.bin .BitOr (.attr 0 23) (.attr 0 18)) (.attr 0 17)) (.attr 0 22)))) (.seq (.ite (.bin .BitAnd (.bin .BitAnd (.inv (.bin .BitXor (.attr 0 12) (.loc 2))) (.bin .BitXor (.attr 0 12) (.loc 10))) (.attr 0 17)) (.seq (.aug (.attr 0 15) .BitOr (.attr 0 18)) .skip) .skip) (.seq (.assign (.loc 2) (.loc 10)) (.seq (.ite (.cmp .Gt (.loc 2) (.attr 0 1)) (.seq (.aug (.attr 0 15) .BitOr (.attr 0 23)) (.seq (.aug (.loc 2) .BitAnd (.attr 0 1)) .skip)) .skip) (.seq (.ite (.cmp .Eq (.loc 2) (.cst (.int 0))) (.seq (.aug (.attr 0 15) .BitOr (.attr 0 22)) .skip) (.seq (.aug (.attr 0 15) .BitOr (.bin .BitAnd (.loc 2) (.attr 0 17))) .skip)) (.seq (.assign (.attr 0 12) (.loc 2)) .skip))))))))) .skip)) }
noncomputable def m_opROR : Fn := { arity := 2, names := ["self", "x", "tbyte", "addr"], body := (.seq (.ite (.cmp .Is (.loc 1) (.cst .none)) (.seq (.assign (.loc 2) (.attr 0 12)) .skip) (.seq (.assign (.loc 3) (.call (.loc 1) .nil)) (.seq (.assign (.loc 2) (.mcall 0 31 (.cons (.loc 3) .nil))) .skip))) (.seq (.ite (.bin .BitAnd (.attr 0 15) (.attr 0 23)) (.seq (.ite (.bin .BitAnd (.loc 2) (.cst (.int 1))) (.seq .pass .skip) (.seq (.aug (.attr 0 15) .BitAnd (.inv (.attr 0 23))) .skip)) (.seq (.assign (.loc 2) (.bin .BitOr (.bin .RShift (.loc 2) (.cst (.int 1))) (.attr 0 17))) .skip)) (.seq (.ite (.bin .BitAnd (.loc 2) (.cst (.int 1))) (.seq (.aug (.attr 0 15) .BitOr (.attr 0 23)) .skip) .skip) (.seq (.assign (.loc 2) (.bin .RShift (.loc 2) (.cst (.int 1)))) .skip))) (.seq (.expr (.mcall 0 43 (.cons (.loc 2) .nil))) (.seq (.ite (.cmp .Is (.loc 1) (.cst .none)) (.seq (.assign (.attr 0 12) (.loc 2)) .skip) (.seq (.assign (.sub (.attr 0 8) (.loc 3)) (.loc 2)) .skip)) .skip)))) }
noncomputable def m_opSTA : Fn := { arity := 2, names := ["self", "x"], body := (.seq (.assign (.sub (.attr 0 8) (.call (.loc 1) .nil)) (.attr 0 12)) .skip) }
noncomputable def m_opSTX : Fn := { arity := 2, names := ["self", "y"], body := (.seq (.assign (.sub (.attr 0 8) (.call (.loc 1) .nil)) (.attr 0 13)) .skip) }
noncomputable def m_opCMPR : Fn := { arity := 3, names := ["self", "get_address", "register_value", "tbyte"], body := (.seq (.assign (.loc 3) (.mcall 0 31 (.cons (.call (.loc 1) .nil) .nil))) (.seq (.aug (.attr 0 15) .BitAnd (.inv (.bin .BitOr (.bin .BitOr (.attr 0 23) (.attr 0 22)) (.attr 0 17)))) (.seq (.ite (.cmp .Eq (.loc 2) (.loc 3)) (.seq (.aug (.attr 0 15) .BitOr (.bin .BitOr (.attr 0 23) (.attr 0 22))) .skip) (.seq (.ite (.cmp .Gt (.loc 2) (.loc 3)) (.seq (.aug (.attr 0 15) .BitOr (.attr 0 23)) .skip) .skip) .skip)) (.seq (.aug (.attr 0 15) .BitOr (.bin .BitAnd (.bin .Sub (.loc 2) (.loc 3)) (.attr 0 17))) .skip)))) }
noncomputable def m_opSBC : Fn := { arity := 2, names := ["self", "x", "data", "halfcarry", "decimalcarry", "adjust0", "adjust1", "nibble0", "nibble1", "aluresult", "result"], body := (.seq (.assign (.loc 2) (.mcall 0 31 (.cons (.call (.loc 1) .nil) .nil))) (.seq (.ite (.bin .BitAnd (.attr 0 15) (.attr 0 21)) (.seq (.assign (.loc 3) (.cst (.int 1))) (.seq (.assign (.loc 4) (.cst (.int 0))) (.seq (.assign (.loc 5) (.cst (.int 0))) (.seq (.assign (.loc 6) (.cst (.int 0))) (.seq (.assign (.loc 7) (.bin .Add (.bin .Add (.bin .BitAnd (.attr 0 12) (.cst (.int 15))) (.bin .BitAnd (.inv (.loc 2)) (.cst (.int 15)))) (.bin .BitAnd (.attr 0 15) (.attr 0 23)))) (.seq (.ite (.cmp .LtE (.loc 7) (.cst (.int 15))) (.seq (.assign (.loc 3) (.cst (.int 0))) (.seq (.assign (.loc 5) (.cst (.int 10))) .skip)) .skip) (.seq (.assign (.loc 8) (.bin .Add (.bin .Add (.bin .BitAnd (.bin .RShift (.attr 0 12) (.cst (.int 4))) (.cst (.int 15))) (.bin .BitAnd (.bin .RShift (.inv (.loc 2)) (.cst (.int 4))) (.cst (.int 15)))) (.loc 3))) (.seq (.ite (.cmp .LtE (.loc 8) (.cst (.int 15))) (.seq (.assign (.loc 6) (.bin .LShift (.cst (.int 10)) (.cst (.int 4)))) .skip) .skip) (.seq (.assign (.loc 9) (.bin .Add (.bin .Add (.attr 0 12) (.bin .BitAnd (.inv (.loc 2)) (.attr 0 1))) (.bin .BitAnd (.attr 0 15) (.attr 0 23)))) (.seq (.ite (.cmp .Gt (.loc 9) (.attr 0 1)) (.seq (.assign (.loc 4) (.cst (.int 1))) .skip) .skip) (.seq (.aug (.loc 9) .BitAnd (.attr 0 1)) (.seq (.assign (.loc 7) (.bin .BitAnd (.bin .Add (.loc 9) (.loc 5)) (.cst (.int 15)))) (.seq (.assign (.loc 8) (.bin .BitAnd (.bin .RShift (.bin .Add (.loc 9) (.loc 6)) (.cst (.int 4))) (.cst (.int 15)))) (.seq (.aug (.attr 0 15) .BitAnd (.inv (.bin .BitOr (.bin .BitOr (.bin .BitOr (.attr 0 23) (.attr 0 22)) (.attr 0 17)) (.attr 0 18)))) (.seq (.ite (.cmp .Eq (.loc 9) (.cst (.int 0))) (.seq (.aug (.attr 0 15) .BitOr (.attr 0 22)) .skip) (.seq (.aug (.attr 0 15) .BitOr (.bin .BitAnd (.loc 9) (.attr 0 17))) .skip)) (.seq (.ite (.cmp .Eq (.loc 4) (.cst (.int 1))) (.seq (.aug (.attr 0 15) .BitOr (.attr 0 23)) .skip) .skip) (.seq (.ite (.bin .BitAnd (.bin .BitAnd (.bin .BitXor (.attr 0 12) (.loc 2)) (.bin .BitXor (.attr 0 12) (.loc 9))) (.attr 0 17)) (.seq (.aug (.attr 0 15) .BitOr (.attr 0 18)) .skip) .skip) (.seq (.assign (.attr 0 12) (.bin .Add (.bin .LShift (.loc 8) (.cst (.int 4))) (.loc 7))) .skip)))))))))))))))))) (.seq (.assign (.loc 10) (.bin .Add (.bin .Add (.attr 0 12) (.bin .BitAnd (.inv (.loc 2)) (.attr 0 1))) (.bin .BitAnd (.attr 0 15) (.attr 0 23)))) (.seq (.aug (.attr 0 15) .BitAnd (.inv (.bin .BitOr (.bin .BitOr (.bin .BitOr (.attr 0 23) (.attr 0 22)) (.attr 0 18)) (.attr 0 17)))) (.seq (.ite (.bin .BitAnd (.bin .BitAnd (.bin .BitXor (.attr 0 12) (.loc 2)) (.bin .BitXor (.attr 0 12) (.loc 10))) (.attr 0 17)) (.seq (.aug (.attr 0 15) .BitOr (.attr 0 18)) .skip) .skip) (.seq (.assign (.loc 2) (.bin .BitAnd (.loc 10) (.attr 0 1))) (.seq (.ite (.cmp .Eq (.loc 2) (.cst (.int 0))) (.seq (.aug (.attr 0 15) .BitOr (.attr 0 22)) .skip) .skip) (.seq (.ite (.cmp .Gt (.loc 10) (.attr 0 1)) (.seq (.aug (.attr 0 15) .BitOr (.attr 0 23)) .skip) .skip) (.seq (.aug (.attr 0 15) .BitOr (.bin .BitAnd (.loc 2) (.attr 0 17))) (.seq (.assign (.attr 0 12) (.loc 2)) .skip))))))))) .skip)) }
noncomputable def m_opINCR : Fn := { arity := 2, names := ["self", "x", "tbyte", "addr"], body := (.seq (.ite (.cmp .Is (.loc 1) (.cst .none)) (.seq (.assign (.loc 2) (.attr 0 12)) .skip) (.seq (.assign (.loc 3) (.call (.loc 1) .nil)) (.seq (.assign (.loc 2) (.mcall 0 31 (.cons (.loc 3) .nil))) .skip))) (.seq (.aug (.attr 0 15) .BitAnd (.inv (.bin .BitOr (.attr 0 22) (.attr 0 17)))) (.seq (.assign (.loc 2) (.bin .BitAnd (.bin .Add (.loc 2) (.cst (.int 1))) (.attr 0 1))) (.seq (.ite (.loc 2) (.seq (.aug (.attr 0 15) .BitOr (.bin .BitAnd (.loc 2) (.attr 0 17))) .skip) (.seq (.aug (.attr 0 15) .BitOr (.attr 0 22)) .skip)) (.seq (.ite (.cmp .Is (.loc 1) (.cst .none)) (.seq (.assign (.attr 0 12) (.loc 2)) .skip) (.seq (.assign (.sub (.attr 0 8) (.loc 3)) (.loc 2)) .skip)) .skip))))) }
noncomputable def m_opLDA : Fn := { arity := 2, names := ["self", "x"], body := (.seq (.assign (.attr 0 12) (.mcall 0 31 (.cons (.call (.loc 1) .nil) .nil))) (.seq (.expr (.mcall 0 43 (.cons (.attr 0 12) .nil))) .skip)) }
noncomputable def m_opLDY : Fn := { arity := 2, names := ["self", "x"], body := (.seq (.assign (.attr 0 14) (.mcall 0 31 (.cons (.call (.loc 1) .nil) .nil))) (.seq (.expr (.mcall 0 43 (.cons (.attr 0 14) .nil))) .skip)) }
noncomputable def m_opLDX : Fn := { arity := 2, names := ["self", "y"], body := (.seq (.assign (.attr 0 13) (.mcall 0 31 (.cons (.call (.loc 1) .nil) .nil))) (.seq (.expr (.mcall 0 43 (.cons (.attr 0 13) .nil))) .skip)) }
noncomputable def m_inst_0xa9 : Fn := { arity := 1, names := ["self"], body := (.seq (.expr (.mcall 0 54 (.cons (.attr 0 33) .nil))) (.seq (.aug (.attr 0 10) .Add (.cst (.int 1))) .skip)) }
noncomputable def m_inst_0xa2 : Fn := { arity := 1, names := ["self"], body := (.seq (.expr (.mcall 0 56 (.cons (.attr 0 33) .nil))) (.seq (.aug (.attr 0 10) .Add (.cst (.int 1))) .skip)) }
noncomputable def m_inst_0xa0 : Fn := { arity := 1, names := ["self"], body := (.seq (.expr (.mcall 0 55 (.cons (.attr 0 33) .nil))) (.seq (.aug (.attr 0 10) .Add (.cst (.int 1))) .skip)) }
noncomputable def m_inst_0x69 : Fn := { arity := 1, names := ["self"], body := (.seq (.expr (.mcall 0 47 (.cons (.attr 0 33) .nil))) (.seq (.aug (.attr 0 10) .Add (.cst (.int 1))) .skip)) }
noncomputable def m_inst_0xe9 : Fn := { arity := 1, names := ["self"], body := (.seq (.expr (.mcall 0 52 (.cons (.attr 0 33) .nil))) (.seq (.aug (.attr 0 10) .Add (.cst (.int 1))) .skip)) }
noncomputable def m_inst_0xc9 : Fn := { arity := 1, names := ["self"], body := (.seq (.expr (.mcall 0 51 (.cons (.attr 0 33) (.cons (.attr 0 12) .nil)))) (.seq (.aug (.attr 0 10) .Add (.cst (.int 1))) .skip)) }
noncomputable def m_inst_0x85 : Fn := { arity := 1, names := ["self"], body := (.seq (.expr (.mcall 0 49 (.cons (.attr 0 35) .nil))) (.seq (.aug (.attr 0 10) .Add (.cst (.int 1))) .skip)) }
noncomputable def m_inst_0x65 : Fn := { arity := 1, names := ["self"], body := (.seq (.expr (.mcall 0 47 (.cons (.attr 0 35) .nil))) (.seq (.aug (.attr 0 10) .Add (.cst (.int 1))) .skip)) }
noncomputable def m_inst_0xe6 : Fn := { arity := 1, names := ["self"], body := (.seq (.expr (.mcall 0 53 (.cons (.attr 0 35) .nil))) (.seq (.aug (.attr 0 10) .Add (.cst (.int 1))) .skip)) }
noncomputable def m_inst_0x2a : Fn := { arity := 1, names := ["self"], body := (.seq (.expr (.mcall 0 45 (.cons (.cst .none) .nil))) .skip) }
noncomputable def m_inst_0x66 : Fn := { arity := 1, names := ["self"], body := (.seq (.expr (.mcall 0 48 (.cons (.attr 0 35) .nil))) (.seq (.aug (.attr 0 10) .Add (.cst (.int 1))) .skip)) }
noncomputable def m_inst_0x45 : Fn := { arity := 1, names := ["self"], body := (.seq (.expr (.mcall 0 46 (.cons (.attr 0 35) .nil))) (.seq (.aug (.attr 0 10) .Add (.cst (.int 1))) .skip)) }
noncomputable def m_inst_0xaa : Fn := { arity := 1, names := ["self"], body := (.seq (.assign (.attr 0 13) (.attr 0 12)) (.seq (.expr (.mcall 0 43 (.cons (.attr 0 13) .nil))) .skip)) }
noncomputable def m_inst_0x98 : Fn := { arity := 1, names := ["self"], body := (.seq (.assign (.attr 0 12) (.attr 0 14)) (.seq (.expr (.mcall 0 43 (.cons (.attr 0 12) .nil))) .skip)) }
noncomputable def m_inst_0x48 : Fn := { arity := 1, names := ["self"], body := (.seq (.expr (.mcall 0 39 (.cons (.attr 0 12) .nil))) .skip) }
noncomputable def m_inst_0x68 : Fn := { arity := 1, names := ["self"], body := (.seq (.assign (.attr 0 12) (.mcall 0 40 .nil)) (.seq (.expr (.mcall 0 43 (.cons (.attr 0 12) .nil))) .skip)) }
noncomputable def m_inst_0xca : Fn := { arity := 1, names := ["self"], body := (.seq (.aug (.attr 0 13) .Sub (.cst (.int 1))) (.seq (.aug (.attr 0 13) .BitAnd (.attr 0 1)) (.seq (.expr (.mcall 0 43 (.cons (.attr 0 13) .nil))) .skip))) }
noncomputable def m_inst_0xc8 : Fn := { arity := 1, names := ["self"], body := (.seq (.aug (.attr 0 14) .Add (.cst (.int 1))) (.seq (.aug (.attr 0 14) .BitAnd (.attr 0 1)) (.seq (.expr (.mcall 0 43 (.cons (.attr 0 14) .nil))) .skip))) }
noncomputable def m_inst_0xb0 : Fn := { arity := 1, names := ["self"], body := (.seq (.expr (.mcall 0 44 (.cons (.attr 0 23) .nil))) .skip) }
noncomputable def m_inst_0xba : Fn := { arity := 1, names := ["self"], body := (.seq (.assign (.attr 0 13) (.attr 0 11)) (.seq (.expr (.mcall 0 43 (.cons (.attr 0 13) .nil))) .skip)) }
noncomputable def m_inst_0x20 : Fn := { arity := 1, names := ["self"], body := (.seq (.expr (.mcall 0 41 (.cons (.bin .BitAnd (.bin .Add (.attr 0 10) (.cst (.int 1))) (.attr 0 2)) .nil))) (.seq (.assign (.attr 0 10) (.mcall 0 32 (.cons (.attr 0 10) .nil))) .skip)) }
noncomputable def m_inst_0x4c : Fn := { arity := 1, names := ["self"], body := (.seq (.assign (.attr 0 10) (.mcall 0 32 (.cons (.attr 0 10) .nil))) .skip) }
noncomputable def m_inst_0x08 : Fn := { arity := 1, names := ["self"], body := (.seq (.expr (.mcall 0 39 (.cons (.bin .BitOr (.bin .BitOr (.attr 0 15) (.attr 0 20)) (.attr 0 19)) .nil))) .skip) }
noncomputable def m_inst_0x8a : Fn := { arity := 1, names := ["self"], body := (.seq (.assign (.attr 0 12) (.attr 0 13)) (.seq (.expr (.mcall 0 43 (.cons (.attr 0 12) .nil))) .skip)) }
noncomputable def m_inst_0xa4 : Fn := { arity := 1, names := ["self"], body := (.seq (.expr (.mcall 0 55 (.cons (.attr 0 35) .nil))) (.seq (.aug (.attr 0 10) .Add (.cst (.int 1))) .skip)) }
noncomputable def m_inst_0x96 : Fn := { arity := 1, names := ["self"], body := (.seq (.expr (.mcall 0 50 (.cons (.attr 0 37) .nil))) (.seq (.aug (.attr 0 10) .Add (.cst (.int 1))) .skip)) }
noncomputable def m_inst_0xb6 : Fn := { arity := 1, names := ["self"], body := (.seq (.expr (.mcall 0 56 (.cons (.attr 0 37) .nil))) (.seq (.aug (.attr 0 10) .Add (.cst (.int 1))) .skip)) }
noncomputable def m_inst_0x86 : Fn := { arity := 1, names := ["self"], body := (.seq (.expr (.mcall 0 50 (.cons (.attr 0 35) .nil))) (.seq (.aug (.attr 0 10) .Add (.cst (.int 1))) .skip)) }
noncomputable def m_inst_0xb5 : Fn := { arity := 1, names := ["self"], body := (.seq (.expr (.mcall 0 54 (.cons (.attr 0 36) .nil))) (.seq (.aug (.attr 0 10) .Add (.cst (.int 1))) .skip)) }
noncomputable def m_inst_0x9a : Fn := { arity := 1, names := ["self"], body := (.seq (.assign (.attr 0 11) (.attr 0 13)) .skip) }
noncomputable def m_inst_0xa8 : Fn := { arity := 1, names := ["self"], body := (.seq (.assign (.attr 0 14) (.attr 0 12)) (.seq (.expr (.mcall 0 43 (.cons (.attr 0 14) .nil))) .skip)) }
noncomputable def m_inst_0x28 : Fn := { arity := 1, names := ["self"], body := (.seq (.assign (.attr 0 15) (.bin .BitOr (.bin .BitOr (.mcall 0 40 .nil) (.attr 0 20)) (.attr 0 19))) .skip) }
noncomputable def m_inst_0x60 : Fn := { arity := 1, names := ["self"], body := (.seq (.assign (.attr 0 10) (.mcall 0 42 .nil)) (.seq (.aug (.attr 0 10) .Add (.cst (.int 1))) .skip)) }
noncomputable def f_law_codes : Fn := { arity := 0, names := [], body := (.seq (.ret (.flist (.cons (.cst (.int 169)) (.cons (.cst (.int 162)) (.cons (.cst (.int 160)) (.cons (.cst (.int 105)) (.cons (.cst (.int 233)) (.cons (.cst (.int 201)) (.cons (.cst (.int 133)) (.cons (.cst (.int 101)) (.cons (.cst (.int 230)) (.cons (.cst (.int 42)) (.cons (.cst (.int 102)) (.cons (.cst (.int 69)) (.cons (.cst (.int 170)) (.cons (.cst (.int 152)) (.cons (.cst (.int 72)) (.cons (.cst (.int 104)) (.cons (.cst (.int 202)) (.cons (.cst (.int 200)) (.cons (.cst (.int 176)) (.cons (.cst (.int 186)) .nil)))))))))))))))))))))) .skip) }
noncomputable def sA0 : S := (.unpack [7, 8, 9] (.loc 1))
noncomputable def sA1 : S := (.unpack [10, 11, 12, 13, 14] (.loc 2))
noncomputable def sA2 : S := (.assign (.loc 5) (.nlist .nil))
noncomputable def sAB0 : S := (.assign (.loc 18) (.cst .none))
noncomputable def sAB1 : S := (.ite (.cmp .Eq (.loc 15) (.cst (.int 0))) (.seq (.two 7 18 (.loc 16)) .skip) (.seq (.ite (.cmp .Eq (.loc 15) (.cst (.int 1))) (.seq (.two 8 18 (.loc 16)) .skip) (.seq (.ite (.cmp .Eq (.loc 15) (.cst (.int 2))) (.seq (.two 9 18 (.loc 16)) .skip) (.seq (.ite (.cmp .In (.loc 15) (.flist (.cons (.cst (.int 3)) (.cons (.cst (.int 4)) (.cons (.cst (.int 7)) .nil))))) (.seq (.assign (.loc 19) (.sub (.loc 4) (.loc 17))) (.seq (.ite (.cmp .Eq (.loc 15) (.cst (.int 3))) (.seq (.assign (.loc 19) (.loc 16)) .skip) .skip) (.seq (.ite (.cmp .Eq (.loc 15) (.cst (.int 4))) (.seq (.assign (.loc 19) (.bin .Sub (.cst (.int 255)) (.loc 16))) .skip) .skip) (.seq (.assign (.loc 20) (.bin .Add (.bin .Add (.loc 7) (.loc 19)) (.loc 10))) (.seq (.assign (.loc 21) (.bin .Sub (.bin .Add (.bin .Add (.bin .BitXor (.loc 7) (.cst (.int 128))) (.bin .BitXor (.loc 19) (.cst (.int 128)))) (.loc 10)) (.cst (.int 256)))) (.seq (.assign (.loc 12) (.ite (.chain .LtE .LtE (.neg (.cst (.int 128))) 21 (.cst (.int 127))) (.cst (.int 0)) (.cst (.int 1)))) (.seq (.assign (.loc 10) (.bin .FloorDiv (.loc 20) (.cst (.int 256)))) (.seq (.two 7 18 (.bin .Mod (.loc 20) (.cst (.int 256)))) .skip)))))))) (.seq (.ite (.cmp .Eq (.loc 15) (.cst (.int 5))) (.seq (.assign (.loc 10) (.ite (.cmp .GtE (.loc 7) (.loc 16)) (.cst (.int 1)) (.cst (.int 0)))) (.seq (.assign (.loc 18) (.bin .Mod (.bin .Sub (.loc 7) (.loc 16)) (.cst (.int 256)))) .skip)) (.seq (.ite (.cmp .Eq (.loc 15) (.cst (.int 6))) (.seq (.assign (.sub (.loc 4) (.loc 17)) (.loc 7)) .skip) (.seq (.ite (.cmp .Eq (.loc 15) (.cst (.int 8))) (.seq (.assign (.loc 18) (.bin .Mod (.bin .Add (.sub (.loc 4) (.loc 17)) (.cst (.int 1))) (.cst (.int 256)))) (.seq (.assign (.sub (.loc 4) (.loc 17)) (.loc 18)) .skip)) (.seq (.ite (.cmp .Eq (.loc 15) (.cst (.int 9))) (.seq (.assign (.loc 20) (.bin .Add (.bin .Mult (.cst (.int 2)) (.loc 7)) (.loc 10))) (.seq (.assign (.loc 10) (.bin .FloorDiv (.loc 20) (.cst (.int 256)))) (.seq (.two 7 18 (.bin .Mod (.loc 20) (.cst (.int 256)))) .skip))) (.seq (.ite (.cmp .Eq (.loc 15) (.cst (.int 10))) (.seq (.assign (.loc 20) (.bin .Add (.bin .Mult (.cst (.int 256)) (.loc 10)) (.sub (.loc 4) (.loc 17)))) (.seq (.assign (.loc 10) (.bin .Mod (.loc 20) (.cst (.int 2)))) (.seq (.assign (.loc 18) (.bin .FloorDiv (.loc 20) (.cst (.int 2)))) (.seq (.assign (.sub (.loc 4) (.loc 17)) (.loc 18)) .skip)))) (.seq (.ite (.cmp .Eq (.loc 15) (.cst (.int 11))) (.seq (.two 7 18 (.bin .BitXor (.loc 7) (.sub (.loc 4) (.loc 17)))) .skip) (.seq (.ite (.cmp .Eq (.loc 15) (.cst (.int 12))) (.seq (.two 8 18 (.loc 7)) .skip) (.seq (.ite (.cmp .Eq (.loc 15) (.cst (.int 13))) (.seq (.two 7 18 (.loc 9)) .skip) (.seq (.ite (.cmp .Eq (.loc 15) (.cst (.int 14))) (.seq (.append 5 (.loc 7)) .skip) (.seq (.ite (.cmp .Eq (.loc 15) (.cst (.int 15))) (.seq (.two 7 18 (.pop 5)) .skip) (.seq (.ite (.cmp .Eq (.loc 15) (.cst (.int 16))) (.seq (.two 8 18 (.bin .Mod (.bin .Sub (.loc 8) (.cst (.int 1))) (.cst (.int 256)))) .skip) (.seq (.ite (.or (.cmp .Eq (.loc 15) (.cst (.int 17))) (.and (.cmp .Eq (.loc 15) (.cst (.int 18))) (.cmp .Eq (.loc 10) (.cst (.int 0))))) (.seq (.two 9 18 (.bin .Mod (.bin .Add (.loc 9) (.cst (.int 1))) (.cst (.int 256)))) .skip) (.seq (.ite (.cmp .Eq (.loc 15) (.cst (.int 19))) (.seq (.two 8 18 (.bin .Sub (.loc 3) (.len (.loc 5)))) .skip) .skip) .skip)) .skip)) .skip)) .skip)) .skip)) .skip)) .skip)) .skip)) .skip)) .skip)) .skip)) .skip)) .skip)) .skip)) .skip)) .skip))
noncomputable def sAB2 : S := (.ite (.cmp .IsNot (.loc 18) (.cst .none)) (.seq (.assign (.loc 11) (.ite (.cmp .Eq (.loc 18) (.cst (.int 0))) (.cst (.int 1)) (.cst (.int 0)))) (.seq (.assign (.loc 13) (.bin .FloorDiv (.loc 18) (.cst (.int 128)))) .skip)) .skip)
noncomputable def sAloop : S := (.seq sAB0 (.seq sAB1 (.seq sAB2 .skip)))
noncomputable def sA4 : S := (.assign (.loc 6) (.bin .Add (.bin .Add (.bin .Add (.bin .Add (.bin .Add (.cst (.int 48)) (.loc 10)) (.bin .Mult (.cst (.int 2)) (.loc 11))) (.bin .Mult (.cst (.int 4)) (.loc 14))) (.bin .Mult (.cst (.int 64)) (.loc 12))) (.bin .Mult (.cst (.int 128)) (.loc 13))))
noncomputable def sA5 : S := (.ret (.tup (.cons (.tup (.cons (.loc 7) (.cons (.loc 8) (.cons (.loc 9) (.cons (.bin .Sub (.loc 3) (.len (.loc 5))) (.cons (.loc 6) .nil)))))) (.cons (.loc 5) .nil))))
noncomputable def sA3 : S := (.forIn [15, 16, 17] (.loc 0) sAloop)
noncomputable def f_law_alone : Fn := { arity := 5, names := ["orders", "registers", "flags", "base", "cells", "stack", "p", "a", "x", "y", "carry", "zero", "over", "minus", "held", "kind", "value", "cell", "told", "more", "whole", "signed"], body := (.seq sA0 (.seq sA1 (.seq sA2 (.seq sA3 (.seq sA4 (.seq sA5 .skip)))))) }
noncomputable def fnTab : List (Addr × Fn) := [(50, m_reset), (43, m_step), (71, m_ByteAt), (78, m_WordAt), (92, m_ProgramCounter), (99, m_ImmediateByte), (106, m_ZeroPageAddr), (113, m_ZeroPageXAddr), (120, m_ZeroPageYAddr), (162, m_BranchRelAddr), (169, m_stPush), (176, m_stPop), (183, m_stPushWord), (190, m_stPopWord), (197, m_FlagsNZ), (232, m_opBST), (267, m_opROL), (274, m_opEOR), (281, m_opADC), (288, m_opROR), (295, m_opSTA), (309, m_opSTX), (316, m_opCMPR), (323, m_opSBC), (337, m_opINCR), (344, m_opLDA), (351, m_opLDY), (358, m_opLDX), (1051, m_inst_0xa9), (1016, m_inst_0xa2), (1002, m_inst_0xa0), (785, m_inst_0x69), (1338, m_inst_0xe9), (1205, m_inst_0xc9), (890, m_inst_0x85), (764, m_inst_0x65), (1324, m_inst_0xe6), (540, m_inst_0x2a), (771, m_inst_0x66), (638, m_inst_0x45), (1058, m_inst_0xaa), (974, m_inst_0x98), (652, m_inst_0x48), (778, m_inst_0x68), (1212, m_inst_0xca), (1198, m_inst_0xc8), (1086, m_inst_0xb0), (1135, m_inst_0xba), (491, m_inst_0x20), (673, m_inst_0x4c), (400, m_inst_0x08), (911, m_inst_0x8a), (1023, m_inst_0xa4), (967, m_inst_0x96), (1114, m_inst_0xb6), (897, m_inst_0x86), (1107, m_inst_0xb5), (988, m_inst_0x9a), (1044, m_inst_0xa8), (526, m_inst_0x28), (750, m_inst_0x60), (1440, f_law_codes), (1447, f_law_alone)]
noncomputable def lawNm : List Str := (["script", "first", "drawn", "many", "seed", "memory", "place", "cells", "ends", "stacks", "turn", "start", "mpu", "base", "opening", "at", "orders", "depth", "number", "registers", "flags", "p", "stack", "kind", "value", "cell", "octets", "octet", "further", "began", "down"] : List String).map Str.ofString
noncomputable def sN0 : S := (.assign (.loc 23) (.bin .Mod (.loc 18) (.cst (.int 20))))
noncomputable def sN1 : S := (.assign (.loc 24) (.bin .Mod (.bin .FloorDiv (.loc 18) (.cst (.int 20))) (.cst (.int 256))))
noncomputable def sN2 : S := (.assign (.loc 25) (.bin .Add (.bin .Mult (.cst (.int 16)) (.loc 10)) (.bin .Mod (.loc 24) (.cst (.int 16)))))
noncomputable def sN3 : S := (.ite (.and (.cmp .Eq (.loc 23) (.cst (.int 15))) (.cmp .Eq (.loc 17) (.cst (.int 0)))) (.seq (.assign (.loc 23) (.cst (.int 14))) .skip) .skip)
noncomputable def sN4 : S := (.ite (.cmp .Eq (.loc 23) (.cst (.int 14))) (.seq (.aug (.loc 17) .Add (.cst (.int 1))) .skip) .skip)
noncomputable def sN5 : S := (.ite (.cmp .Eq (.loc 23) (.cst (.int 15))) (.seq (.aug (.loc 17) .Sub (.cst (.int 1))) .skip) .skip)
noncomputable def sN6 : S := (.append 16 (.tup (.cons (.loc 23) (.cons (.loc 24) (.cons (.loc 25) .nil)))))
noncomputable def sN7 : S := (.assign (.loc 26) (.nlist (.cons (.sub (.call (.cst (.kref 1440)) .nil) (.loc 23)) .nil)))
noncomputable def sN8 : S := (.ite (.cmp .Lt (.loc 23) (.cst (.int 6))) (.seq (.append 26 (.loc 24)) .skip) (.seq (.ite (.cmp .In (.loc 23) (.flist (.cons (.cst (.int 6)) (.cons (.cst (.int 7)) (.cons (.cst (.int 8)) (.cons (.cst (.int 10)) (.cons (.cst (.int 11)) .nil))))))) (.seq (.append 26 (.loc 25)) .skip) (.seq (.ite (.cmp .Eq (.loc 23) (.cst (.int 18))) (.seq (.augL 26 (.flist (.cons (.cst (.int 1)) (.cons (.cst (.int 200)) .nil)))) .skip) .skip) .skip)) .skip))
noncomputable def sN9 : S := (.ite (.cmp .NotEq (.bin .Mod (.bin .FloorDiv (.loc 18) (.cst (.int 5120))) (.cst (.int 4))) (.cst (.int 3))) (.seq (.augL 26 (.flist (.cons (.cst (.int 32)) (.cons (.cst (.int 0)) (.cons (.cst (.int 2)) .nil))))) .skip) .skip)
noncomputable def sN10 : S := (.forIn [27] (.loc 26) (.seq (.assign (.sub (.loc 5) (.loc 15)) (.loc 27)) (.seq (.aug (.loc 15) .Add (.cst (.int 1))) .skip)))
noncomputable def sNum : S := (.seq sN0 (.seq sN1 (.seq sN2 (.seq sN3 (.seq sN4 (.seq sN5 (.seq sN6 (.seq sN7 (.seq sN8 (.seq sN9 (.seq sN10 .skip)))))))))))
noncomputable def sT0 : S := (.assign (.loc 13) (.bin .Sub (.cst (.int 255)) (.bin .Mult (.cst (.int 64)) (.loc 10))))
noncomputable def sT1 : S := (.assign (.loc 14) (.bin .Add (.cst (.int 544)) (.bin .Mult (.cst (.int 64)) (.loc 10))))
noncomputable def sT2 : S := (.assign (.loc 15) (.loc 14))
noncomputable def sT3 : S := (.assign (.loc 16) (.nlist .nil))
noncomputable def sT4 : S := (.assign (.loc 17) (.cst (.int 0)))
noncomputable def sT6 : S := (.forEnum 28 27 (.flist (.cons (.cst (.int 32)) (.cons (.cst (.int 0)) (.cons (.cst (.int 2)) (.cons (.cst (.int 76)) (.cons (.bin .Mod (.loc 15) (.cst (.int 256))) (.cons (.bin .FloorDiv (.loc 15) (.cst (.int 256))) .nil))))))) (.seq (.assign (.sub (.loc 5) (.bin .Add (.loc 15) (.loc 28))) (.loc 27)) .skip))
noncomputable def sT7 : S := (.assign (.loc 19) (.flist (.cons (.bin .Mod (.bin .Add (.loc 4) (.bin .Mult (.cst (.int 50)) (.loc 10))) (.cst (.int 256))) (.cons (.bin .Mod (.bin .Add (.bin .FloorDiv (.loc 4) (.cst (.int 3))) (.bin .Mult (.cst (.int 90)) (.loc 10))) (.cst (.int 256))) (.cons (.bin .Mod (.bin .Add (.bin .FloorDiv (.loc 4) (.cst (.int 5))) (.bin .Mult (.cst (.int 130)) (.loc 10))) (.cst (.int 256))) .nil)))))
noncomputable def sT8 : S := (.assign (.loc 20) (.flist (.cons (.bin .Mod (.bin .Add (.loc 4) (.loc 10)) (.cst (.int 2))) (.cons (.bin .Mod (.bin .Add (.bin .FloorDiv (.loc 4) (.cst (.int 2))) (.loc 10)) (.cst (.int 2))) (.cons (.bin .Mod (.bin .Add (.bin .FloorDiv (.loc 4) (.cst (.int 4))) (.loc 10)) (.cst (.int 2))) (.cons (.bin .Mod (.bin .Add (.bin .FloorDiv (.loc 4) (.cst (.int 8))) (.loc 10)) (.cst (.int 2))) (.cons (.bin .Mod (.loc 10) (.cst (.int 2))) .nil)))))))
noncomputable def sT9 : S := (.assign (.loc 21) (.bin .Add (.bin .Add (.bin .Add (.bin .Add (.bin .Add (.cst (.int 48)) (.sub (.loc 20) (.cst (.int 0)))) (.bin .Mult (.cst (.int 2)) (.sub (.loc 20) (.cst (.int 1))))) (.bin .Mult (.cst (.int 4)) (.sub (.loc 20) (.cst (.int 4))))) (.bin .Mult (.cst (.int 64)) (.sub (.loc 20) (.cst (.int 2))))) (.bin .Mult (.cst (.int 128)) (.sub (.loc 20) (.cst (.int 3))))))
noncomputable def sT10 : S := (.ite (.cmp .Eq (.loc 10) (.cst (.int 0))) (.seq (.assign (.loc 29) (.cat (.loc 19) (.flist (.cons (.loc 21) .nil)))) .skip) (.seq (.forEnum 30 27 (.cat (.flist (.cons (.bin .FloorDiv (.bin .Sub (.loc 14) (.cst (.int 1))) (.cst (.int 256))) (.cons (.bin .Mod (.bin .Sub (.loc 14) (.cst (.int 1))) (.cst (.int 256))) (.cons (.loc 21) .nil)))) (.loc 19)) (.seq (.assign (.sub (.loc 5) (.bin .Sub (.bin .Add (.cst (.int 256)) (.loc 13)) (.loc 30))) (.loc 27)) .skip)) (.seq (.assign (.sub (.loc 5) (.bin .Add (.cst (.int 240)) (.loc 10))) (.bin .Sub (.loc 13) (.cst (.int 6)))) .skip)))
noncomputable def sT11 : S := (.assign (.sub (.loc 5) (.bin .Add (.cst (.int 244)) (.loc 10))) (.bin .Mod (.bin .Add (.loc 10) (.cst (.int 1))) (.loc 3)))
noncomputable def sT12 : S := (.assignD 8 15 22 (.call (.cst (.kref 1447)) (.cons (.loc 16) (.cons (.loc 19) (.cons (.loc 20) (.cons (.loc 13) (.cons (.loc 7) .nil)))))))
noncomputable def sT13 : S := (.append 9 (.tup (.cons (.loc 13) (.cons (.loc 22) .nil))))
noncomputable def sT5 : S := (.forIn [18] (.stepS (.loc 2) (.loc 10) (.loc 3)) sNum)
noncomputable def sTurn : S := (.seq sT0 (.seq sT1 (.seq sT2 (.seq sT3 (.seq sT4 (.seq sT5 (.seq sT6 (.seq sT7 (.seq sT8 (.seq sT9 (.seq sT10 (.seq sT11 (.seq sT12 (.seq sT13 .skip))))))))))))))
noncomputable def sL0 : S := (.assign (.loc 1) (.ite (.loc 0) (.sub (.loc 0) (.cst (.int 0))) (.cst (.int 0))))
noncomputable def sL1 : S := (.assign (.loc 2) (.slice false (.loc 0) (.cst (.int 1)) (.cst (.int 13))))
noncomputable def sL2 : S := (.assign (.loc 3) (.bin .Add (.cst (.int 2)) (.bin .Mod (.loc 1) (.cst (.int 3)))))
noncomputable def sL3 : S := (.assign (.loc 4) (.bin .Mod (.bin .Add (.bin .FloorDiv (.loc 1) (.cst (.int 3))) (.sum (.loc 2))) (.cst (.int 65536))))
noncomputable def sL4 : S := (.assign (.loc 5) (.rep (.cst (.int 0)) (.cst (.int 1024))))
noncomputable def sL5 : S := (.forRange 6 (.cst (.int 64)) (.seq (.assign (.sub (.loc 5) (.loc 6)) (.bin .Mod (.bin .Add (.bin .Mult (.cst (.int 7)) (.loc 6)) (.loc 4)) (.cst (.int 256)))) .skip))
noncomputable def sL6 : S := (.assign (.loc 7) (.slice true (.loc 5) (.cst .none) (.cst (.int 64))))
noncomputable def sL7 : S := (.setSlice 5 512 538 1433)
noncomputable def sL8 : S := (.assign (.loc 8) .ndict)
noncomputable def sL9 : S := (.assign (.loc 9) (.nlist .nil))
noncomputable def sL11 : S := (.assign (.loc 11) (.slice false (.loc 5) (.cst .none) (.cst .none)))
noncomputable def sL10 : S := (.forRange 10 (.loc 3) sTurn)
noncomputable def sPre : S := (.seq sL0 (.seq sL1 (.seq sL2 (.seq sL3 (.seq sL4 (.seq sL5 (.seq sL6 (.seq sL7 (.seq sL8 (.seq sL9 (.seq sL10 (.seq sL11 .skip))))))))))))
noncomputable def sR0 : S := (.ite (.cmp .In (.attr 12 10) (.loc 8)) (.seq (.ite (.cmp .NotEq (.tup (.cons (.attr 12 12) (.cons (.attr 12 13) (.cons (.attr 12 14) (.cons (.attr 12 11) (.cons (.attr 12 15) .nil)))))) (.popD 8 (.attr 12 10))) (.seq (.ret (.cst (.bool false))) .skip) .skip) (.seq (.ite (.not (.loc 8)) (.seq .brk .skip) .skip) .skip)) .skip)
noncomputable def sR1 : S := (.expr (.mcall 12 29 .nil))
noncomputable def sRun : S := (.seq sR0 (.seq sR1 .skip))
noncomputable def sQ0 : S := (.assignAs 12 [12, 13, 14, 15] (.loc 29))
noncomputable def sQ2 : S := (.ite (.loc 8) (.seq (.ret (.cst (.bool false))) .skip) .skip)
noncomputable def sQ3 : S := (.forIn [13, 22] (.loc 9) (.seq (.forEnum 30 27 (.loc 22) (.seq (.ite (.cmp .NotEq (.sub (.loc 5) (.bin .Sub (.bin .Add (.cst (.int 256)) (.loc 13)) (.loc 30))) (.loc 27)) (.seq (.ret (.cst (.bool false))) .skip) .skip) .skip)) .skip))
noncomputable def sQ4 : S := (.ite (.or (.cmp .NotEq (.slice false (.loc 5) (.cst .none) (.cst (.int 64))) (.loc 7)) (.or (.cmp .NotEq (.slice false (.loc 5) (.cst (.int 64)) (.cst (.int 240))) (.slice false (.loc 11) (.cst (.int 64)) (.cst (.int 240)))) (.cmp .NotEq (.slice false (.loc 5) (.cst (.int 244)) (.cst (.int 248))) (.slice false (.loc 11) (.cst (.int 244)) (.cst (.int 248)))))) (.seq (.ret (.cst (.bool false))) .skip) .skip)
noncomputable def sQ5 : S := (.ite (.cmp .NotEq (.slice false (.loc 5) (.cst (.int 249)) (.cst (.int 256))) (.slice false (.loc 11) (.cst (.int 249)) (.cst (.int 256)))) (.seq (.ret (.cst (.bool false))) .skip) .skip)
noncomputable def sQ6 : S := (.ret (.cmp .Eq (.slice false (.loc 5) (.cst (.int 512)) (.cst .none)) (.slice false (.loc 11) (.cst (.int 512)) (.cst .none))))
noncomputable def sQ1 : S := (.forRange 10 (.cst (.int 700)) sRun)
noncomputable def sPost : S := (.seq sQ0 (.seq sQ1 (.seq sQ2 (.seq sQ3 (.seq sQ4 (.seq sQ5 (.seq sQ6 .skip)))))))
noncomputable def g04 : Str → Option Addr := fun x => if PySem.W.Fast.sEq x "_law_change" then some 1433 else if PySem.W.Fast.sEq x "_law_codes" then some 1440 else if PySem.W.Fast.sEq x "_law_alone" then some 1447 else none
noncomputable def cxL : Cx where
  names := attrNames
  cls := 1428
  cattr := fun a => (attrTab[a]?).join
  fn := fun f => fnTab.lookup f
  lists := fun a => if a = 1423 then some lst_instruct else if a = 1424 then some lst_cycletime else if a = 1425 then some lst_extracycles else if a = 1433 then some (changeL.map .int) else none
  glob := g04
end Mine
end
section
open PySem PySem.W PySem.Calls PyProof.Rows
set_option autoImplicit false
namespace Mine
noncomputable section
noncomputable def isSN (v : Option (Option Value)) : Bool := match v with
  | some none => true
  | _ => false
theorem isSN_eq {v : Option (Option Value)} (h : isSN v = true) : v = some none := by
  cases v with
  | none => cases h
  | some u =>
    cases u with
    | none => rfl
    | some _ => cases h
noncomputable def valB (v : V) (x : Value) : Bool := match v with
  | .none => isNoneV x
  | .int i => (match x with | .int j _ => decide (i = j) | _ => false)
  | .str s => (match x with | .str t _ => PySem.W.Fast.sEq s t | _ => false)
  | .kref a => (match x with | .ref b => Nat.beq a b | _ => false)
  | _ => false
theorem valB_rel {v : V} {x : Value} (h : valB v x = true) (μ : Mu) (hp : Heap) : VRel μ hp v x := by
  cases v with
  | none => rw [isNoneV_eq h]; exact .none
  | int i => cases x <;> simp [valB] at h; subst h; exact .int _ _
  | str s => cases x <;> simp only [valB, Bool.false_eq_true] at h; rw [PySem.W.Fast.sEq_iff.mp h]; exact .str _ _
  | kref a => cases x <;> simp only [valB, Bool.false_eq_true] at h; rw [Nat.eq_of_beq_eq_true h]; exact .kref _
  | _ => cases h
noncomputable def valsB : List V → List Value → Bool
  | [], [] => true
  | v :: vs, x :: xs => valB v x && valsB vs xs
  | _, _ => false
theorem valsB_rel : ∀ {vs : List V} {xs : List Value}, valsB vs xs = true → ∀ (μ : Mu) (hp : Heap), VRels μ hp vs xs
  | [], [], _, _, _ => .nil
  | [], _ :: _, h, _, _ => by cases h
  | _ :: _, [], h, _, _ => by cases h
  | v :: vs, x :: xs, h, μ, hp => by
    simp only [valsB, Bool.and_eq_true] at h
    exact .cons (valB_rel h.1 μ hp) (valsB_rel h.2 μ hp)

noncomputable def attrB (K : Frag) (C : Cx) (a : Nat) (x : Str) : Bool := match C.cattr a with
  | none => isSN (findIn K (.ref C.cls) x)
  | some (.val v) => (match findIn K (.ref C.cls) x with
    | some (some val) => isSN (specialIn K val "__get__") && handedIn val && !copiedNames.contains x && valB v val
    | _ => false)
  | some (.fn f) => (match findIn K (.ref C.cls) x with
    | some (some (.ref g)) => Nat.beq g f && isFn K (.ref f) && (match specialIn K (.ref f) "__get__" with | some (some (.builtin n)) => n == "function.__get__" | _ => false) && (match takesIn K (.ref f) with | some false => true | _ => false) && !copiedNames.contains x
    | _ => false)
noncomputable def attrsB (K : Frag) (C : Cx) : Nat → List Str → Bool
  | _, [] => true
  | a, x :: r => attrB K C a x && attrsB K C (a + 1) r
theorem attrsB_at {K : Frag} {C : Cx} : ∀ {l : List Str} {i : Nat}, attrsB K C i l = true → ∀ {a : Nat} {x : Str}, l[a]? = some x → attrB K C (i + a) x = true
  | [], _, _, _, _, h => by simp at h
  | y :: r, i, hb, 0, x, h => by
    simp only [attrsB, Bool.and_eq_true] at hb
    simp at h; subst h; exact hb.1
  | y :: r, i, hb, a + 1, x, h => by
    simp only [attrsB, Bool.and_eq_true] at hb
    have := attrsB_at hb.2 (a := a) (x := x) (by simpa using h)
    rwa [show i + 1 + a = i + (a + 1) by lia] at this

theorem cxOk_of {K : Frag} {C : Cx} (nd : C.names.Nodup) (hd : hasDictIn K C.cls = true) (ga : findIn K (.ref C.cls) "__getattribute__" = some (some (.builtin "object.__getattribute__"))) (gat : findIn K (.ref C.cls) "__getattr__" = some none)
    (sa : findIn K (.ref C.cls) "__setattr__" = some (some (.builtin "object.__setattr__"))) (po : plainOver K C.cls = true) (hb : attrsB K C 0 C.names = true)
    (ls : ∀ (a : Addr) (vs : List V), C.lists a = some vs → ∃ items n, K.lookup a = some { cls := .type "list", data := .seq items.toArray n } ∧ valsB vs items = true)
    (gl : ∀ (x : Str) (a : Addr), C.glob x = some a → nsIn K mainGlobals x = some (some (.ref a))) (rg : nsIn K mainGlobals ("range" : Str) = some none) (ln : nsIn K mainGlobals ("len" : Str) = some none) (sm : nsIn K mainGlobals ("sum" : Str) = some none) (en : nsIn K mainGlobals ("enumerate" : Str) = some none) : CxOk K C := by
  have at' : ∀ {a : Nat} {x : Str}, C.names[a]? = some x → attrB K C a x = true := fun h => by
    have := attrsB_at hb h
    rwa [Nat.zero_add] at this
  refine ⟨?_, hd, ga, gat, sa, po, ?_, ?_, ?_, ?_, gl, rg, ln, sm, en⟩
  · intro i j y h1 h2
    exact (List.getElem?_inj (List.getElem?_eq_some_iff.mp h1).1 nd).mp (h1.trans h2.symm)
  · intro a x h1 h2
    have := at' h1
    unfold attrB at this
    rw [h2] at this
    exact isSN_eq this
  · intro a x v h1 h2
    have := at' h1
    unfold attrB at this
    rw [h2] at this
    dsimp only at this
    split at this
    · rename_i val hv
      simp only [Bool.and_eq_true, Bool.not_eq_true'] at this
      obtain ⟨⟨⟨k1, k2⟩, k3⟩, k4⟩ := this
      exact ⟨val, hv, isSN_eq k1, k2, k3, fun μ h => valB_rel k4 μ h⟩
    · cases this
  · intro a x f h1 h2
    have := at' h1
    unfold attrB at this
    rw [h2] at this
    dsimp only at this
    split at this
    · rename_i g hv
      simp only [Bool.and_eq_true, Bool.not_eq_true'] at this
      obtain ⟨⟨⟨⟨k1, k2⟩, k3⟩, k4⟩, k5⟩ := this
      have e := Nat.eq_of_beq_eq_true k1
      subst e
      refine ⟨hv, k2, ?_, ?_, k5⟩
      · split at k3
        · rename_i n hn; rw [hn, beq_iff_eq.mp k3]
        · cases k3
      · split at k4
        · rename_i hn; exact hn
        · cases k4
    · cases this
  · intro a vs h
    obtain ⟨items, n, h1, h2⟩ := ls a vs h
    exact ⟨items, n, h1, valsB_rel h2⟩
end
end Mine
end
section
open PySem PySem.W PySem.Calls PyProof.Rows
set_option autoImplicit false
set_option maxRecDepth 100000
namespace Mine
noncomputable def wanted (o : Obj) : Bool := match o.data with
  | .func fd => (match fd.code with | .ref _ => true | _ => false)
  | .fields vs => Nat.beq vs.size 19
  | .dict _ _ => true
  | .seq xs _ => Nat.ble 20 xs.size || Nat.beq xs.size 2
  | .cls _ => true
  | _ => false
noncomputable def keepK : Nat → List Obj → Frag
  | _, [] => []
  | i, o :: r => match wanted o with
    | true => (i, o) :: keepK (i + 1) r
    | false => keepK (i + 1) r
noncomputable def KK (P : Params) : Frag := keepK 0 (finObjs P)
noncomputable def bodyOk (K : Frag) (C : Cx) (f : Addr) (fn : Fn) : Bool := match K.lookup f with
  | some ⟨_, _, .func fd, _⟩ => (match fd.body with
    | .stmts body => fd.closure.isEmpty && !fd.scope.isCoroutine && !fd.scope.isGenerator && decide (fd.scope.kind = .function) && decide (fd.globals = mainGlobals) && decide (fd.builtins = builtinsNs) &&
        codeIn K fd.code fd.qualname && nodupB fn.names && fn.names.all (fun x => fd.scope.names.lookup x == some .local) && fd.scope.names.all (fun x => decide (x.2 ≠ .cell)) && chkS C fd.scope fn.names fn.body body
    | _ => false)
  | _ => false
noncomputable def fnsOk (K : Frag) (C : Cx) : List (Addr × Fn) → Bool
  | [] => true
  | p :: r => fnOk K C p.1 p.2 && fnsOk K C r
noncomputable def itemsK (P : Params) (a : Addr) : List Value := match (KK P).lookup a with
  | some ⟨_, _, .seq xs _, _⟩ => xs.toList
  | _ => []
theorem okNd : attrNames.Nodup := nodup_of_codes (by kernel_rfl)
noncomputable def bigCk (P : Params) : Bool := hasDictIn (KK P) 1428 && (findIn (KK P) (.ref 1428) "__getattribute__" == some (some (.builtin "object.__getattribute__"))) && (findIn (KK P) (.ref 1428) "__getattr__" == some none) && (findIn (KK P) (.ref 1428) "__setattr__" == some (some (.builtin "object.__setattr__"))) && plainOver (KK P) 1428 &&
  (nsIn (KK P) mainGlobals ("range" : Str) == some none) && (nsIn (KK P) mainGlobals ("len" : Str) == some none) && (nsIn (KK P) mainGlobals ("sum" : Str) == some none) && (nsIn (KK P) mainGlobals ("enumerate" : Str) == some none) &&
  (nsIn (KK P) mainGlobals ("MPU" : Str) == some (some (.ref 1428))) && (nsIn (KK P) mainGlobals ("_law_change" : Str) == some (some (.ref 1433))) && (nsIn (KK P) mainGlobals ("_law_codes" : Str) == some (some (.ref 1440))) && (nsIn (KK P) mainGlobals ("_law_alone" : Str) == some (some (.ref 1447))) &&
  attrsB (KK P) cxL 0 attrNames && fnsOk (KK P) cxL fnTab &&
  bodyOk (KK P) cxL 36 m_init && makesIn (KK P) 1428 && (findIn (KK P) (.ref 1428) "__init__" == some (some (.ref 36))) && (typeIn (KK P) (.ref 36) == some (.type "function")) && keepIn (KK P) (.ref 1428)
theorem bigOk (P : Params) : bigCk P = true := by kernel_rfl
theorem okL1 (P : Params) : (KK P).lookup 1423 = some { cls := .type "list", data := .seq (itemsK P 1423).toArray 0 } := by kernel_rfl
theorem okL2 (P : Params) : (KK P).lookup 1424 = some { cls := .type "list", data := .seq (itemsK P 1424).toArray 0 } := by kernel_rfl
theorem okL3 (P : Params) : (KK P).lookup 1425 = some { cls := .type "list", data := .seq (itemsK P 1425).toArray 0 } := by kernel_rfl
theorem okL4 (P : Params) : (KK P).lookup 1433 = some { cls := .type "list", data := .seq (itemsK P 1433).toArray 0 } := by kernel_rfl
theorem okM (P : Params) : (valsB lst_instruct (itemsK P 1423) && valsB lst_cycletime (itemsK P 1424) && valsB lst_extracycles (itemsK P 1425) && valsB (changeL.map .int) (itemsK P 1433)) = true := by kernel_rfl
end Mine
end
section
open PySem PySem.W PySem.Calls PyProof.Rows Builtin Builtin.ObjectAttr
set_option autoImplicit false
set_option maxRecDepth 100000
namespace Mine
noncomputable def flV : Fl → Option V
  | .ret v => some v
  | .next => some .none
  | .brk => none
section
variable {prog : Program} {w : World} {K : Frag} {C : Cx} {hb : Heap} {mg mb : Str → Option Value}

theorem fn_call0 (B : Base K hb mg mb) {A : Around} {d : Nat} {s : Shared} {μ : Mu} {H : Hp} {a : Addr} {o : Obj} {fd : FuncData} {body : List Stmt} {args : Args} {nm : List Str} {as : List V} {vals : List Value} {Post : Value → Shared → Prop}
    (hA : AOk A (d + 1)) (R : Rep C hb μ H s.heap) (ra : VRels μ s.heap as vals) (ho : s.heap.get? a = some o) (hd : o.data = .func fd) (hcode : s.heap.CodeRec fd.code fd.qualname) (hbody : fd.body = .stmts body)
    (hbind : BindsTo s fd args ((nm.take as.length).zip vals)) (hlen : as.length ≤ nm.length) (hnd : nm.Nodup) (hclo : fd.closure = []) (hg : fd.globals = mainGlobals) (hbn : fd.builtins = builtinsNs)
    (hco : fd.scope.isCoroutine = false) (hgen : fd.scope.isGenerator = false) (hkind : fd.scope.kind = .function)
    (hk : ∀ n, ∀ y ∈ nm, fd.scope.names.lookup y = some .local ∨ (fd.scope.names.lookup y = some .cell ∧ ∃ c, (cellsFrom n fd.scope.names []).lookup y = some c))
    (hc : ∀ m n c, (n, c) ∈ cellsFrom m fd.scope.names [] → (cellsFrom m fd.scope.names []).lookup n = some c)
    (h : ∀ env s1, env = callEnvC fd s.heap.objs.size a → Out C hb μ s μ H s1 → (∀ b o, s.heap.get? b = some o → s1.heap.get? b = some o) → FrI env nm (as.map some ++ List.replicate (nm.length - as.length) none) μ s1.heap → (∀ b ∈ fa env, s.heap.get? b = none) → (∀ b ∈ fa env, hb.get? b = none) → AOk (A.deeper env) d →
      wpAny (model prog w) (A.deeper env) (execs body env) (fun fw s' => Post (match fw with | .ret v => v | _ => .none) s') noE s1) :
    codeAny (model prog w) A (.call (.ref a) args) (fun r s' => ∃ v, r = .ok (.ret v) ∧ Post v s') s := by
  refine codeAny_call_function (by have := hA.dp; lia) ho hd hco hgen hbody hcode (hbind _ _ _ _ ?_)
  rw [hclo]
  refine wpAny_newFunctionEnv_cells hkind (fun x hx => ?_) fun env he s1 x => ?_
  · have := hk (s.heap.objs.size + 1) x.1 ((List.take_sublist _ _).subset (List.of_mem_zip (show (x.1, x.2) ∈ _ from hx)).1)
    rcases this with h | ⟨h, c, e⟩
    · exact .inl h
    · exact .inr ⟨h, by rw [e]; rfl⟩
  subst he
  refine ⟨B.nolimit.keeps fun b o e => x.toInCall.keep b o (R.base b o e), codeAny_func ?_⟩
  obtain ⟨O1, F1, fr1⟩ := frI_call (kn := nm.length - as.length) (env := callEnvC fd s.heap.objs.size a) (nm := nm) R ra hlen hnd x hkind hg hbn (fun y hy => hk _ y hy) (fun n c hm => hc _ n c hm)
  have hN : ∀ b ∈ fa (callEnvC fd s.heap.objs.size a), hb.get? b = none := fun b hb1 => by
    cases q : hb.get? b with
    | none => rfl
    | some o => have := R.base b o q; rw [fr1 b hb1] at this; cases this
  exact wpAny_mono (h _ _ rfl O1 x.toInCall.keep F1 fr1 hN (hA.deeper _)) (fun fw s2 q => ⟨_, rfl, q⟩) (fun _ _ q => q.elim)
theorem fn_call (B : Base K hb mg mb) {A : Around} {d : Nat} {s : Shared} {μ : Mu} {H H' : Hp} {a : Addr} {o : Obj} {fd : FuncData} {body : List Stmt} {args : Args} {nm : List Str} {as : List V} {vals : List Value} {fl : Fl} {loc' : Loc} {V : V}
    (hA : AOk A (d + 1)) (R : Rep C hb μ H s.heap) (ra : VRels μ s.heap as vals) (ho : s.heap.get? a = some o) (hd : o.data = .func fd) (hcode : s.heap.CodeRec fd.code fd.qualname) (hbody : fd.body = .stmts body)
    (hbind : BindsTo s fd args ((nm.take as.length).zip vals)) (hlen : as.length ≤ nm.length) (hnd : nm.Nodup) (hclo : fd.closure = []) (hg : fd.globals = mainGlobals) (hbn : fd.builtins = builtinsNs)
    (hco : fd.scope.isCoroutine = false) (hgen : fd.scope.isGenerator = false) (hkind : fd.scope.kind = .function)
    (hk : ∀ n, ∀ y ∈ nm, fd.scope.names.lookup y = some .local ∨ (fd.scope.names.lookup y = some .cell ∧ ∃ c, (cellsFrom n fd.scope.names []).lookup y = some c))
    (hc : ∀ m n c, (n, c) ∈ cellsFrom m fd.scope.names [] → (cellsFrom m fd.scope.names []).lookup n = some c) (hV : flV fl = some V)
    (h : ∀ env s1, env = callEnvC fd s.heap.objs.size a → Rep C hb μ H s1.heap → FrI env nm (as.map some ++ List.replicate (nm.length - as.length) none) μ s1.heap → (∀ b ∈ fa env, hb.get? b = none) → AOk (A.deeper env) d →
      wpAny (model prog w) (A.deeper env) (execs body env) (StOut C hb env nm μ s1 fl loc' H') noE s1) :
    codeAny (model prog w) A (.call (.ref a) args) (fun r s' => ∃ v, r = .ok (.ret v) ∧ EOut C hb μ s H' V v s') s := by
  refine fn_call0 B hA R ra ho hd hcode hbody hbind hlen hnd hclo hg hbn hco hgen hkind hk hc fun env s1 he O1 kp F1 fr1 hN hA' => ?_
  refine mono_no (h env s1 he O1.rep F1 hN hA') fun fw s2 ⟨_, μ2, S2, rf⟩ => ⟨μ2, ⟨S2.rep, Step.dropAll kp S2.step fr1, S2.gens.trans O1.gens, S2.os.trans O1.os⟩, ?_⟩
  cases fl with
  | ret v => cases hV; cases fw <;> first | exact rf | exact rf.elim
  | next => cases hV; cases fw <;> first | exact .none | exact rf.elim
  | brk => cases hV

theorem inst_new {μ : Mu} {H : Hp} {s : Shared} (R : Rep C hb μ H s.heap) :
    EOut C hb μ s (H ++ [.inst []]) (.ref H.length) (.ref (s.heap.objs.size + 1)) { s with heap := (s.heap.push emptyDict).push (instObj C.cls s.heap.objs.size) } := by
  have hn : ∀ n, s.heap.get? (s.heap.objs.size + n) = none := fun n => Heap.get?_none_of_le (Nat.le_add_right _ _)
  have k : ∀ b o, s.heap.get? b = some o → ((s.heap.push emptyDict).push (instObj C.cls s.heap.objs.size)).get? b = some o := fun b o e => Heap.get?_push_of_some _ (Heap.get?_push_of_some _ e)
  have hs : (s.heap.push emptyDict).objs.size = s.heap.objs.size + 1 := Heap.size_push ..
  have g1 : ((s.heap.push emptyDict).push (instObj C.cls s.heap.objs.size)).get? (s.heap.objs.size + 1) = some (instObj C.cls s.heap.objs.size) := by rw [← hs]; exact Heap.get?_push_size _ rfl
  have g2 : ((s.heap.push emptyDict).push (instObj C.cls s.heap.objs.size)).get? s.heap.objs.size = some emptyDict := Heap.get?_push_of_some _ (Heap.get?_push_size _ rfl)
  obtain ⟨st, RR⟩ := R.rel.push (p := (s.heap.objs.size + 1, s.heap.objs.size)) (o := .inst []) k (hn 1) (hn 0) (fun st => ⟨g1, [], 0, g2, .nil⟩)
  refine ⟨_, ⟨⟨RR, fun b o e => k _ _ (R.base b o e), fun b q => ?_⟩, st, rfl, rfl⟩, ?_⟩
  · rcases st.own b q with q | q
    · exact R.new b q
    · cases e : hb.get? b with
      | none => rfl
      | some o => have := R.base b o e; rw [q.1] at this; cases this
  · refine .ref (p := (s.heap.objs.size + 1, s.heap.objs.size)) ?_
    rw [← R.rel.len, List.getElem?_append_right (Nat.le_refl _), Nat.sub_self]; rfl
theorem make_sound (X : K.In hb) {A : Around} {s : Shared} {μ : Mu} {H H' : Hp} {kw : List (Str × Value)} {fI : Addr} (R : Rep C hb μ H s.heap) (hm : makesIn K C.cls = true) (hi : findIn K (.ref C.cls) "__init__" = some (some (.ref fI))) (hf : typeIn K (.ref fI) = some (.type "function"))
    (h : ∀ μ1 (s1 : Shared) x, Out C hb μ s μ1 (H ++ [.inst []]) s1 → VRel μ1 s1.heap (.ref H.length) x →
      codeAny (model prog w) (A.under (.builtin "type.__call__" ⟨[.ref C.cls], kw⟩)) (.call (.ref fI) ⟨[x], kw⟩) (fun r s' => ∃ v, r = .ok (.ret v) ∧ EOut C hb μ1 s1 H' .none v s') s1) :
    wpAny (model prog w) A (call (.ref C.cls) [] kw) (EOut C hb μ s H' (.ref H.length)) noE s := by
  refine wpAny_call ?_
  have X1 := R.in X
  obtain ⟨hh, g, dr, t, os⟩ := s
  obtain ⟨μ1, O1, r1⟩ := inst_new R
  refine make_core (makes_of X1 hm) (looks_findIn X1 hi) (fun self => bind_fn X1 self hf) (.inl rfl) ?_
  refine codeAny_mono (h μ1 _ _ O1 r1) fun r s' ⟨v, e, μ2, O2, r2⟩ => ?_
  subst e
  have hv : v = .none := by cases r2; rfl
  exact ⟨hv, μ2, O1.trans O2, r1.s O2.step⟩
end
theorem keepK_at : ∀ (l : List Obj) (i b : Nat) (o : Obj), (keepK i l).lookup b = some o → i ≤ b ∧ l[b - i]? = some o ∧ wanted o = true
  | [], _, _, _, h => by cases h
  | x :: r, i, b, o, h => by
    have tl : (keepK (i + 1) r).lookup b = some o → i ≤ b ∧ (x :: r)[b - i]? = some o ∧ wanted o = true := fun h => by
      obtain ⟨h1, h2, h3⟩ := keepK_at r (i + 1) b o h
      refine ⟨by lia, ?_, h3⟩
      rw [show b - i = (b - (i + 1)) + 1 by lia, List.getElem?_cons_succ]; exact h2
    have hk : keepK i (x :: r) = match wanted x with | true => (i, x) :: keepK (i + 1) r | false => keepK (i + 1) r := rfl
    rw [hk] at h
    cases hw : wanted x with
    | false => rw [hw] at h; exact tl h
    | true =>
      rw [hw] at h
      simp only [List.lookup_cons] at h
      cases hb : (b == i) with
      | true =>
        rw [hb] at h
        have : b = i := by simpa using hb
        subst this
        cases h
        refine ⟨Nat.le_refl _, ?_, hw⟩
        rw [Nat.sub_self]; rfl
      | false => rw [hb] at h; exact tl h
theorem wanted_live {o : Obj} (h : wanted o = true) : ∀ l : List Obj, ∀ b : Nat, l[b]? = some o → (⟨l.toArray, {}⟩ : Heap).get? b = some o := by
  intro l b e
  unfold Heap.get?
  rw [List.getElem?_toArray, e]
  obtain ⟨c, dd, data, sl⟩ := o
  cases data <;> first | rfl | cases h
theorem fnsOk_at {K : Frag} {C : Cx} : ∀ {l : List (Addr × Fn)} {f : Addr} {fn : Fn}, fnsOk K C l = true → l.lookup f = some fn → fnOk K C f fn = true
  | [], _, _, _, h => by cases h
  | p :: r, f, fn, hk, h => by
    obtain ⟨k1, k2⟩ := Bool.and_eq_true_iff.mp (show (fnOk K C p.1 p.2 && fnsOk K C r) = true from hk)
    obtain ⟨q, z⟩ := p
    rw [List.lookup_cons] at h
    split at h
    · rename_i e
      cases h
      rw [beq_iff_eq.mp e]; exact k1
    · exact fnsOk_at k2 h
structure BigOk (P : Params) : Prop where
  hd : hasDictIn (KK P) 1428 = true
  ga : findIn (KK P) (.ref 1428) "__getattribute__" = some (some (.builtin "object.__getattribute__"))
  gat : findIn (KK P) (.ref 1428) "__getattr__" = some none
  sa : findIn (KK P) (.ref 1428) "__setattr__" = some (some (.builtin "object.__setattr__"))
  po : plainOver (KK P) 1428 = true
  rg : nsIn (KK P) mainGlobals ("range" : Str) = some none
  ln : nsIn (KK P) mainGlobals ("len" : Str) = some none
  sm : nsIn (KK P) mainGlobals ("sum" : Str) = some none
  en : nsIn (KK P) mainGlobals ("enumerate" : Str) = some none
  g1 : nsIn (KK P) mainGlobals ("MPU" : Str) = some (some (.ref 1428))
  g2 : nsIn (KK P) mainGlobals ("_law_change" : Str) = some (some (.ref 1433))
  g3 : nsIn (KK P) mainGlobals ("_law_codes" : Str) = some (some (.ref 1440))
  g4 : nsIn (KK P) mainGlobals ("_law_alone" : Str) = some (some (.ref 1447))
  att : attrsB (KK P) cxL 0 attrNames = true
  fns : fnsOk (KK P) cxL fnTab = true
  ini : bodyOk (KK P) cxL 36 m_init = true
  mkk : makesIn (KK P) 1428 = true
  mi : findIn (KK P) (.ref 1428) "__init__" = some (some (.ref 36))
  mt : typeIn (KK P) (.ref 36) = some (.type "function")
  kp : keepIn (KK P) (.ref 1428) = true
theorem big (P : Params) : BigOk P := by
  have h := bigOk P
  unfold bigCk at h
  simp only [Bool.and_eq_true, beq_iff_eq] at h
  obtain ⟨⟨⟨⟨⟨⟨⟨⟨⟨⟨⟨⟨⟨⟨⟨⟨⟨⟨⟨h1, h2⟩, h3⟩, h4⟩, h5⟩, h6⟩, h7⟩, h8⟩, h9⟩, h10⟩, h11⟩, h12⟩, h13⟩, h14⟩, h15⟩, h16⟩, h17⟩, h18⟩, h19⟩, h20⟩ := h
  exact ⟨h1, h2, h3, h4, h5, h6, h7, h8, h9, h10, h11, h12, h13, h14, h15, h16, h17, h18, h19, h20⟩
theorem cxOk (P : Params) : CxOk (KK P) cxL := by
  have b := big P
  refine cxOk_of okNd b.hd b.ga b.gat b.sa b.po b.att ?_ ?_ b.rg b.ln b.sm b.en
  · intro a vs h
    have m := okM P
    simp only [Bool.and_eq_true] at m
    have h' : (if a = 1423 then some lst_instruct else if a = 1424 then some lst_cycletime else if a = 1425 then some lst_extracycles else if a = 1433 then some (changeL.map .int) else none) = some vs := h
    split at h'
    · rename_i e; cases h'; rw [e]; exact ⟨_, _, okL1 P, m.1.1.1⟩
    · split at h'
      · rename_i e; cases h'; rw [e]; exact ⟨_, _, okL2 P, m.1.1.2⟩
      · split at h'
        · rename_i e; cases h'; rw [e]; exact ⟨_, _, okL3 P, m.1.2⟩
        · split at h'
          · rename_i e; cases h'; rw [e]; exact ⟨_, _, okL4 P, m.2⟩
          · cases h'
  · intro x a h
    have h' : g04 x = some a := h
    unfold g04 at h'
    split at h'
    · rename_i e; cases h'; rw [PySem.W.Fast.sEq_iff.mp e]; exact b.g2
    · split at h'
      · rename_i e; cases h'; rw [PySem.W.Fast.sEq_iff.mp e]; exact b.g3
      · split at h'
        · rename_i e; cases h'; rw [PySem.W.Fast.sEq_iff.mp e]; exact b.g4
        · cases h'
section
variable {prog : Program} {w : World} {h : Heap} {mg mb : Str → Option Value}
theorem kk_in (P : Params) (Y : ∀ b o, (H1 P).get? b = some o → h.get? b = some o) : (KK P).In h := by
  intro b o e
  obtain ⟨_, h2, h3⟩ := keepK_at (finObjs P) 0 b o e
  rw [Nat.sub_zero] at h2
  exact Y b o (wanted_live h3 _ _ h2)
theorem base_of (P : Params) (Y : ∀ b o, (H1 P).get? b = some o → h.get? b = some o) (g : h.Ns mainGlobals mg) (b : h.Ns builtinsNs mb) (nl : h.NoLimit) (bl : ∀ x : Str, x ≠ "__name__" → mb x = bootBuiltins x) : Base (KK P) h mg mb where
  X := kk_in P Y
  g := g
  b := b
  nolimit := nl
  builtins := bl
theorem law_calls (P : Params) (B : Base (KK P) h mg mb) (d : Nat) : CallOk cxL h prog w (callD cxL d) d ∧ FnKnown h (callD cxL d) := by
  have each : ∀ f fn, cxL.fn f = some fn → FnAt f h ∧ FnSound cxL h prog w f fn := fun f fn e => fnOk_sound (cxOk P) B (fnsOk_at (big P).fns e)
  exact ⟨callD_sound (fun f fn e => (each f fn e).1) (fun f fn e => (each f fn e).2) d, callD_known (fun f fn e => (each f fn e).1) d⟩
noncomputable def fdO (P : Params) : Option FuncData := match (KK P).lookup 36 with
  | some ⟨_, _, .func fd, _⟩ => some fd
  | _ => none
theorem okBind (P : Params) (S : Setting) (x m p : Value) : ((fdO P).bind fun fd => peek (KK P) S (bindArgs fd ⟨[x], [(("memory" : Str), m), (("pc" : Str), p)]⟩)) = some [(("self" : Str), x), (("memory" : Str), m), (("pc" : Str), p)] := by kernel_rfl
theorem init_sound (P : Params) (B : Base (KK P) h mg mb) {A : Around} {d : Nat} {s : Shared} {μ : Mu} {xl ml : Nat} {pc : Int} {xv mv pv : Value} {H H' : Hp} {L' : Loc} (hA : AOk A (d + 1)) (R : Rep cxL h μ H s.heap)
    (ev : evalS cxL (callD cxL d) m_init.body [some (.ref xl), some (.ref ml), some (.int pc)] H = some (.next, L', H'))
    (rx : VRel μ s.heap (.ref xl) xv) (rm : VRel μ s.heap (.ref ml) mv) (rp : VRel μ s.heap (.int pc) pv) :
    codeAny (model prog w) A (.call (.ref 36) ⟨[xv], [(("memory" : Str), mv), (("pc" : Str), pv)]⟩) (fun r s' => ∃ v, r = .ok (.ret v) ∧ EOut cxL h μ s H' .none v s') s := by
  have hx := (big P).ini
  unfold bodyOk at hx
  split at hx
  case h_2 => cases hx
  case h_1 oc od fd sl ho =>
  split at hx
  case h_2 => cases hx
  case h_1 body hbody =>
  simp only [Bool.and_eq_true, List.isEmpty_iff, Bool.not_eq_true', decide_eq_true_eq, List.all_eq_true, beq_iff_eq, Prod.forall] at hx
  obtain ⟨⟨⟨⟨⟨⟨⟨⟨⟨⟨hclo, hco⟩, hgen⟩, hkind⟩, hgl⟩, hbl⟩, hcode⟩, hnd⟩, hloc⟩, hcell⟩, hchk⟩ := hx
  have hfd : fdO P = some fd := by unfold fdO; rw [ho]
  have X := R.in B.X
  have hcs : ∀ n, cellsFrom n fd.scope.names [] = [] := fun n => cellsFrom_none fun x hx => hcell x.1 x.2 hx
  obtain ⟨co, kn⟩ := law_calls (prog := prog) (w := w) P B d
  refine fn_call (d := d) (as := [.ref xl, .ref ml, .int pc]) (vals := [xv, mv, pv]) (nm := m_init.names) (fl := .next) (V := .none) (loc' := L') B hA R (.cons rx (.cons rm (.cons rp .nil))) (X _ _ ho) rfl (codeRec_of X hcode) hbody ?_ (Nat.le_refl 3) (nodupB_nd hnd) hclo hgl hbl hco hgen hkind (fun n y hy => .inl (hloc y hy)) (fun m n c hm => by rw [hcs] at hm; cases hm) rfl ?_
  · refine kp_binds X fun S => ?_
    have := okBind P S xv mv pv
    rw [hfd] at this
    exact this
  · intro env s1 he R1 F1 hN hA'
    have hsc : env.scope = fd.scope := by rw [he]; rfl
    rw [← hsc] at hchk
    exact (evalS_sound (cxOk P) B co kn hN m_init.body).2 _ _ _ _ _ _ _ _ _ hchk ev rfl hA' R1 F1
theorem aok_make {A : Around} {d : Nat} {a : Addr} {kw : List (Str × Value)} (h : AOk A (d + 1)) : AOk (A.under (.builtin "type.__call__" ⟨[.ref a], kw⟩)) d := by
  have hd := h.dp
  have hu := h.un
  have e1 : (A.under (.builtin "type.__call__" ⟨[.ref a], kw⟩)).depth = A.depth + 1 := rfl
  have e2 : (A.under (.builtin "type.__call__" ⟨[.ref a], kw⟩)).units = A.units + 1 := rfl
  refine ⟨h.h, ?_, ?_⟩
  · rw [e1]; lia
  · rw [e2]; lia
end
end Mine
end
section
open PySem PySem.W PySem.Calls PyProof.Rows Builtin Builtin.ObjectAttr
set_option autoImplicit false
set_option maxRecDepth 100000
namespace Mine
theorem AOk.less {A : Around} {d e : Nat} (h : AOk A d) (k : e ≤ d) : AOk A e := ⟨h.h, by have := h.dp; lia, by have := h.un; lia⟩
theorem rep_nil {C : Cx} {hb h : Heap} (k : ∀ b o, hb.get? b = some o → h.get? b = some o) : Rep C hb [] [] h :=
  ⟨⟨rfl, fun i o p h => by simp at h, fun i j p q _ h => by simp at h⟩, k, fun b q => by obtain ⟨p, hp, _⟩ := q; cases hp⟩
theorem not_own_nil {b : Addr} : ¬ InOwn [] b := fun ⟨_, h, _⟩ => nomatch h
noncomputable def l0 (ns : List Int) : Loc := some (.fl (ns.map .int)) :: List.replicate 30 none
noncomputable def lawCk (osc : Scope) (e : Expr) : Bool := chkS cxL osc lawNm sPre (lawD.body.take 12) && chkE cxL osc lawNm (.cst (.int 544)) e && chkS cxL osc lawNm sPost (lawD.body.drop 13)
theorem lawShape : ∃ (p0 p1 p2 p3 p4 p5 p6 : Pos) (e : Expr), lawD.body.drop 12 = .Assign [.Name "mpu" p0] (.Call (.Name "MPU" p1) [] [⟨some "memory", .Name "memory" p2, p3⟩, ⟨some "pc", e, p4⟩] p5) p6 :: lawD.body.drop 13 ∧ lawCk lawD.scope e = true := ⟨_, _, _, _, _, _, _, _, rfl, by kernel_rfl⟩
noncomputable def lawScB (sc : Scope) : Bool := nodupB lawNm && lawNm.all (fun x => sc.names.lookup x == some .local) && sc.names.all (fun x => decide (x.2 ≠ .cell)) && (sc.names.lookup ("MPU" : Str) == some .globalImplicit) && decide (sc.kind = .function) && !sc.isCoroutine && !sc.isGenerator && plainParams lawD.params ["script"] && lawD.params.defaults.isEmpty
theorem lawSc_ok : lawScB lawD.scope = true := by kernel_rfl
section
variable {prog : Program} {w : World} {A : Around} {s : Shared} {mg mb : Str → Option Value} {h : Heap} {env : Env} {K : Frag} {C : Cx} {hb : Heap} {nm : List Str} {loc : Loc} {μ : Mu} {H H' : Hp}
theorem x_cons {st : Stmt} {rest : List Stmt} {Q : Flow → Shared → Prop} {loc1 : Loc} {H1 : Hp} (h1 : wpAny (model prog w) A (exec st env) (StOut C hb env nm μ s .next loc1 H1) noE s)
    (h2 : ∀ μ1 s1, SOut C hb env nm μ s loc1 H1 μ1 s1 → loc1.length = nm.length → wpAny (model prog w) A (execs rest env) Q noE s1) : wpAny (model prog w) A (execs (st :: rest) env) Q noE s := by
  refine wpAny_execs_cons (mono_no h1 fun fl s1 ⟨l1, μ1, S1, r1⟩ => ?_)
  cases fl <;> first | exact r1.elim | exact h2 μ1 s1 S1 l1
theorem x_app {Q : Flow → Shared → Prop} (ys xs : List Stmt) (h : wpAny (model prog w) A (execs xs env) (fun fl s' => match fl with | .next => wpAny (model prog w) A (execs ys env) Q noE s' | fl => Q fl s') noE s) : wpAny (model prog w) A (execs (xs ++ ys) env) Q noE s := by
  intro Γ p hΓ
  have key : ∀ (xs : List Stmt) (p : Pos) (s : Shared), Sem.wp (model prog w) Γ (execs xs env) (fun fl _ s' => match fl with | .next => wpAny (model prog w) A (execs ys env) Q noE s' | fl => Q fl s') (fun e _ s' => noE e s') p s → Sem.wp (model prog w) Γ (execs (xs ++ ys) env) (fun a _ s' => Q a s') (fun e _ s' => noE e s') p s := by
    intro xs
    induction xs with
    | nil =>
      intro p s h
      rw [show execs [] env = pure .next from rfl, Sem.wp_pure'] at h
      exact h Γ p hΓ
    | cons x xs ih =>
      intro p s h
      rw [List.cons_append, execs_cons, Sem.wp_bind']
      rw [execs_cons, Sem.wp_bind'] at h
      refine Sem.wp_mono _ Γ _ (fun f p' s' h' => ?_) (fun _ _ _ h' => h') _ _ h
      cases f with
      | next => exact ih p' s' h'
      | _ => exact h'
  exact key xs p s (h Γ p hΓ)
end
theorem len_ok {R : WRecords} {xs : List WData} (h : PySem.Challenge.rw_im0101_04.pre.holds R { args := [.list xs] } = true) : xs.length ≤ 63 := by
  have h0 : (WTm.and (WTm.not (WTm.lt (WTm.lit (.int 63)) (WTm.len (WTm.arg 0)))) (WTm.lit (.bool true))).holds R { args := [.list xs] } = true := h
  have h1 := (holds_andW h0).1
  have h2 : (match (some (WData.bool (!decide ((63 : Int) < (xs.length : Int)))) : Option WData) with | some (.bool true) => true | _ => false) = true := h1
  by_cases q : (63 : Int) < (xs.length : Int)
  · rw [decide_eq_true q] at h2; cases h2
  · lia
theorem ints_of {R : WRecords} {P : Params} {h : Heap} {μ : Mu} {xs : List WData} : ∀ {vs : List Value}, WShape.hasItems R xs .int = true → WellAll P h vs xs → ∃ ns : List Int, xs.length = ns.length ∧ VRels μ h (ns.map .int) vs := by
  induction xs with
  | nil => intro vs _ hw; cases hw; exact ⟨[], rfl, .nil⟩
  | cons x xs ih =>
    intro vs hx hw
    have hx' := Bool.and_eq_true_iff.mp hx
    cases hw with
    | cons w ws =>
      obtain ⟨ns, e, r⟩ := ih hx'.2 ws
      have q := hx'.1
      cases w with
      | int i t => exact ⟨i :: ns, congrArg (· + 1) e, .cons (.int i t) r⟩
      | _ => exact Bool.noConfusion (show false = true from q)
theorem args_ok {w : World} {h : Heap} {μ : Mu} {args : List WData} {vals : List Value} (hpre : PySem.Challenge.rw_im0101_04.row.toRowW.claim.pre args = true) (hw : WellAll w.params h vals args) (no : ∀ q, ¬ InOwn μ q) : ∃ ns : List Int, ns.length ≤ 63 ∧ VRels μ h [.fl (ns.map .int)] vals := by
  obtain ⟨hs, hc⟩ := pre_splitW hpre
  obtain ⟨d, r, rfl, hd, hr⟩ := hasAllW_cons (show WShape.hasAll [] args [.list .int] = true from hs)
  obtain rfl := hasAllW_nil hr
  cases hw with
  | cons wd wn =>
    cases wn
    cases wd with
    | list hg hv =>
      rename_i a vs xs
      have hi : WShape.hasItems [] xs .int = true := by
        have hd' : (WShape.hasItems [] xs .int || false) = true := hd
        rwa [Bool.or_false] at hd'
      obtain ⟨ns, e, r⟩ := ints_of (μ := μ) hi hv
      exact ⟨ns, by rw [← e]; exact len_ok hc, .cons (.fl (n := 0) hg (no _) r) .nil⟩
    | _ => exact Bool.noConfusion (show false = true from hd)
theorem post_ok (args : List WData) : PySem.Challenge.rw_im0101_04.row.toRowW.claim.post args (.bool true) args = true := by kernel_rfl
theorem aok_caller : AOk callerA 12 := ⟨rfl, by show callerA.depth + 12 < recursionLimit; decide +kernel, by show callerA.units + 8 * 12 < 9000; decide +kernel⟩
end Mine
end
section
open PySem PySem.W PySem.Calls PyProof.Rows Builtin Builtin.ObjectAttr
set_option autoImplicit false
set_option maxRecDepth 100000
namespace Mine
noncomputable def xch (k i : Nat) : Nat := if i = 1 then k else if i = k then 1 else i
theorem xch_inv (k i : Nat) : xch k (xch k i) = i := by
  unfold xch
  by_cases h : i = 1
  · subst h; rw [if_pos rfl]
    by_cases h2 : k = 1
    · rw [if_pos h2, h2]
    · rw [if_neg h2, if_pos rfl]
  · rw [if_neg h]
    by_cases h2 : i = k
    · rw [if_pos h2, if_pos rfl, h2]
    · rw [if_neg h2, if_neg h, if_neg h2]
theorem xch_id {k i : Nat} (h1 : i ≠ 1) (h2 : i ≠ k) : xch k i = i := by unfold xch; rw [if_neg h1, if_neg h2]
noncomputable def xchL {α : Type} (l : List α) (k : Nat) : List α := match l[1]?, l[k]? with
  | some a, some b => (l.set 1 b).set k a
  | _, _ => l
theorem xchL_get {α : Type} {l : List α} {k : Nat} (h1 : 1 < k) (h : k < l.length) (i : Nat) : (xchL l k)[xch k i]? = l[i]? := by
  have e1 : l[1]? = some (l[1]'(by lia)) := List.getElem?_eq_getElem _
  have e2 : l[k]? = some l[k] := List.getElem?_eq_getElem h
  unfold xchL
  rw [e1, e2]
  show ((l.set 1 l[k]).set k (l[1]'(by lia)))[xch k i]? = _
  by_cases i1 : i = 1
  · subst i1
    unfold xch
    rw [if_pos rfl, List.getElem?_set_self (by rw [List.length_set]; exact h), e1]
  by_cases i2 : i = k
  · subst i2
    unfold xch
    rw [if_neg i1, if_pos rfl, List.getElem?_set_ne i1, List.getElem?_set_self (by lia), e2]
  · rw [xch_id i1 i2, List.getElem?_set_ne (Ne.symm i2), List.getElem?_set_ne (Ne.symm i1)]
theorem xchL_len {α : Type} (l : List α) (k : Nat) : (xchL l k).length = l.length := by
  unfold xchL
  split
  · rw [List.length_set, List.length_set]
  · rfl
mutual
noncomputable def V.ren (s : Nat → Nat) : V → V
  | .tup vs => .tup (V.renL s vs)
  | .fl vs => .fl (V.renL s vs)
  | .meth f o => .meth f (s o)
  | .ref l => .ref (s l)
  | .none => .none
  | .bool b => .bool b
  | .int i => .int i
  | .str x => .str x
  | .kref a => .kref a
noncomputable def V.renL (s : Nat → Nat) : List V → List V
  | [] => []
  | v :: vs => v.ren s :: V.renL s vs
end
noncomputable def HO.ren (s : Nat → Nat) : HO → HO
  | .list vs => .list (V.renL s vs)
  | .inst fs => .inst (fs.map fun p => (p.1, p.2.ren s))
  | .dict es => .dict (es.map fun p => (p.1, p.2.ren s))
theorem renL_map (s : Nat → Nat) : ∀ vs : List V, V.renL s vs = vs.map (V.ren s)
  | [] => rfl
  | v :: vs => congrArg (v.ren s :: ·) (renL_map s vs)
theorem renL_ints (s : Nat → Nat) : ∀ ns : List Int, V.renL s (ns.map .int) = ns.map .int
  | [] => rfl
  | n :: ns => congrArg (V.int n :: ·) (renL_ints s ns)
section
variable {s : Nat → Nat} {μ μ' : Mu} {h : Heap} {C : Cx} {hb : Heap} {H H' : Hp}
theorem ren_own (i2 : ∀ i, s (s i) = i) (hs : ∀ i, μ'[s i]? = μ[i]?) {b : Addr} (q : InOwn μ' b) : InOwn μ b := by
  obtain ⟨p, hm, e⟩ := q
  obtain ⟨i, hi, rfl⟩ := List.getElem_of_mem hm
  have hp : μ[s i]? = some μ'[i] := ((hs (s i)).symm.trans (congrArg (μ'[·]?) (i2 i))).trans (List.getElem?_eq_getElem hi)
  exact ⟨_, List.mem_of_getElem? hp, e⟩
theorem VRel.ren (i2 : ∀ i, s (s i) = i) (hs : ∀ i, μ'[s i]? = μ[i]?) {v : V} {a : Value} (r : VRel μ h v a) : VRel μ' h (v.ren s) a :=
  VRel.rec (motive_1 := fun v a _ => VRel μ' h (v.ren s) a) (motive_2 := fun v a _ => VRels μ' h (V.renL s v) a) .none (fun b => .bool b) (fun i t => .int i t) (fun i t => .str i t) (fun a => .kref a) (fun e => .ref ((hs _).trans e))
    (fun e g n => .meth ((hs _).trans e) g fun q => n (ren_own i2 hs q)) (fun g n _ ih => .fl g (fun q => n (ren_own i2 hs q)) ih) (fun g n _ ih => .tup g (fun q => n (ren_own i2 hs q)) ih) .nil (fun _ _ ia ir => .cons ia ir) r
theorem VRels.ren (i2 : ∀ i, s (s i) = i) (hs : ∀ i, μ'[s i]? = μ[i]?) {v : List V} {a : List Value} (r : VRels μ h v a) : VRels μ' h (V.renL s v) a :=
  VRels.ind (P := fun v a => VRels μ' h (V.renL s v) a) .nil (fun a _ ih => .cons (a.ren i2 hs) ih) r
theorem FldRel.ren {nms : List Str} (i2 : ∀ i, s (s i) = i) (hs : ∀ i, μ'[s i]? = μ[i]?) {fs : List (Nat × V)} {es : List DictEntry} (r : FldRel nms μ h fs es) : FldRel nms μ' h (fs.map fun p => (p.1, p.2.ren s)) es := by
  induction r with
  | nil => exact .nil
  | cons e v _ ih => exact .cons e (v.ren i2 hs) ih
theorem ORel.ren {nms : List Str} {c : Addr} (i2 : ∀ i, s (s i) = i) (hs : ∀ i, μ'[s i]? = μ[i]?) {o : HO} {p : Addr × Addr} (r : ORel nms c μ h o p) : ORel nms c μ' h (o.ren s) p := by
  cases o with
  | list vs => obtain ⟨items, n, a, b, c, d⟩ := r; exact ⟨items, n, a, b.ren i2 hs, c, by rw [renL_map, List.length_map]; exact d⟩
  | inst fs => obtain ⟨a, es, n, b, c⟩ := r; exact ⟨a, es, n, b, c.ren i2 hs⟩
  | dict es =>
    obtain ⟨e, i, l, kvs, d, q, v⟩ := r
    have e1 : (es.map fun p => (p.1, p.2.ren s)).map (·.1) = es.map (·.1) := by rw [List.map_map]; rfl
    have e2 : (es.map fun p => (p.1, p.2.ren s)).map (·.2) = V.renL s (es.map (·.2)) := by rw [renL_map, List.map_map, List.map_map]; rfl
    exact ⟨e, i, by rw [List.length_map]; exact l, kvs, d, e1.trans q, e2 ▸ v.ren i2 hs⟩
theorem Rep.ren (i2 : ∀ i, s (s i) = i) (hs : ∀ i, μ'[s i]? = μ[i]?) (hl : H'.length = H.length) (hm : μ'.length = μ.length) (hH : ∀ i, H'[s i]? = (H[i]?).map (HO.ren s)) (R : Rep C hb μ H h) : Rep C hb μ' H' h := by
  refine ⟨⟨by rw [hm, hl]; exact R.rel.len, fun i o p ho hp => ?_, fun i j p q n hp hq => ?_⟩, R.base, fun b q => R.new b (ren_own i2 hs q)⟩
  · rw [← i2 i, hH] at ho
    rw [← i2 i, hs] at hp
    obtain ⟨o', e, rfl⟩ := Option.map_eq_some_iff.mp ho
    exact (R.rel.objs _ _ _ e hp).ren i2 hs
  · rw [← i2 i, hs] at hp
    rw [← i2 j, hs] at hq
    exact R.rel.apart _ _ _ _ (fun e => n (by rw [← i2 i, e, i2])) hp hq
theorem FrI.ren {env : Env} {nm : List Str} {loc : Loc} (i2 : ∀ i, s (s i) = i) (hs : ∀ i, μ'[s i]? = μ[i]?) (F : FrI env nm loc μ h) : FrI env nm (loc.map (Option.map (V.ren s))) μ' h := by
  have ld : ∀ {i : Nat} {v : V}, (loc.map (Option.map (V.ren s)))[i]? = some (some v) → ∃ u, loc[i]? = some (some u) ∧ v = u.ren s := fun {i v} e => by
    rw [List.getElem?_map] at e
    obtain ⟨u, e1, e2⟩ := Option.map_eq_some_iff.mp e
    obtain ⟨w, rfl, rfl⟩ := Option.map_eq_some_iff.mp e2
    exact ⟨w, e1, rfl⟩
  refine ⟨F.fk, F.gl, F.bl, F.inj, ?_, ?_, F.kd, F.ck, fun b hb q => F.own b hb (ren_own i2 hs q), F.fr, F.cl, F.ap, F.al⟩
  · obtain ⟨m, hm, f⟩ := F.ns
    refine ⟨m, hm, fun i x v h1 h2 h3 => ?_⟩
    obtain ⟨u, e, rfl⟩ := ld h2
    obtain ⟨y, a, b⟩ := f i x u h1 e h3
    exact ⟨y, a, b.ren i2 hs⟩
  · intro i x v h1 h2 h3
    obtain ⟨u, e, rfl⟩ := ld h2
    obtain ⟨c, y, a, d, b⟩ := F.cs i x u h1 e h3
    exact ⟨c, y, a, d, b.ren i2 hs⟩
end
def LawRun2 (ns : List Int) : Prop := ∃ (L1 : Loc) (H1 : Hp) (ml : Nat) (Li : Loc) (H2 : Hp) (L3 : Loc) (H3 : Hp),
  evalS cxL (callD cxL 9) sPre (l0 ns) [] = some (.next, L1, H1) ∧ locV L1 5 = some (.ref ml) ∧
  evalS cxL (callD cxL 7) m_init.body [some (.ref H1.length), some (.ref ml), some (.int 544)] (H1 ++ [.inst []]) = some (.next, Li, H2) ∧
  1 < H1.length ∧ H1.length < H2.length ∧
  evalS cxL (callD cxL 9) sPost ((L1.set 12 (some (.ref H1.length))).map (Option.map (V.ren (xch H1.length)))) (xchL (H2.map (HO.ren (xch H1.length))) H1.length) = some (.ret (.bool true), L3, H3)
section
variable {prog : Program} {w : World} {A : Around} {s : Shared} {mg mb : Str → Option Value} {h : Heap} {env : Env} {K : Frag} {C : Cx} {hb : Heap} {nm : List Str} {loc : Loc} {μ : Mu} {H H' : Hp}
theorem law_body2 (P : Params) (B : Base (KK P) h mg mb) {ns : List Int} (hsc : env.scope = lawD.scope) (run : LawRun2 ns) (R : Rep cxL h [] [] s.heap) (F : FrI env lawNm (l0 ns) [] s.heap) (hN : ∀ b ∈ fa env, h.get? b = none) (hA : AOk A 9) :
    wpAny (model prog w) A (execs lawD.body env) (fun fw s' => (match fw with | .ret v => v | _ => .none) = .bool true ∧ (∀ b o, b ∉ fa env → s.heap.get? b = some o → s'.heap.get? b = some o) ∧ s'.gens = s.gens ∧ s'.os = s.os) noE s := by
  obtain ⟨L1, H1, ml, Li, H2, L3, H3, r1, rm, r2, k1, k2, r3⟩ := run
  obtain ⟨p0, p1, p2, p3, p4, p5, p6, e, hb, ck⟩ := lawShape
  have so := lawSc_ok
  rw [← hsc] at so ck
  simp only [lawScB, Bool.and_eq_true, decide_eq_true_eq, Bool.not_eq_true', List.all_eq_true, beq_iff_eq] at so
  obtain ⟨⟨⟨⟨⟨⟨⟨⟨nd, sl⟩, sc⟩, sm⟩, sk⟩, _⟩, _⟩, _⟩, _⟩ := so
  simp only [lawCk, Bool.and_eq_true] at ck
  obtain ⟨⟨c1, c2⟩, c3⟩ := ck
  have ok := cxOk P
  obtain ⟨co, kn⟩ := law_calls (prog := prog) (w := w) P B 9
  rw [← List.take_append_drop 12 lawD.body, hb]
  refine x_app _ _ (mono_no ((evalS_sound ok B co kn hN sPre).2 _ _ _ _ _ _ _ _ _ c1 r1 rfl hA R F) fun fl s1 ⟨l1, μ1, S1, f1⟩ => ?_)
  cases fl <;> first | exact f1.elim | skip
  have st : wpAny (model prog w) A (eval (.Call (.Name "MPU" p1) [] [⟨some "memory", .Name "memory" p2, p3⟩, ⟨some "pc", e, p4⟩] p5) env) (EOut cxL h μ1 s1 H2 (.ref H1.length)) noE s1 := by
    have X1 := S1.rep.in B.X
    have F1 := S1.fr
    refine wpAny_Call_Name_kw (Name_function_global F1.fk sm (loadGlobal_global (env := env) (by rw [F1.gl]; exact B.g.keeps S1.rep.base) (mg_of B.X B.g (big P).g1) ?_) (by decide))
    refine callWith_KW0 X1 (big P).kp rfl (kws_cons (name_sound F1 (i := 5) (v := .ref ml) rm rfl (by decide) fun mv rm => kws_cons (mono_no ((evalE_sound ok B co kn (.cst (.int 544))).1 _ _ _ _ _ _ _ c2 rfl hA S1.rep F1) fun pv s4 ⟨μ4, O4, r4⟩ => kws_nil ⟨O4.rep.in B.X, ?_⟩)))
    refine mono_no (make_sound (C := cxL) (H' := H2) (kw := [(("memory" : Str), mv), (("pc" : Str), pv)]) B.X O4.rep (big P).mkk (big P).mi (big P).mt fun μ5 s5 x O5 rx => ?_) fun v s6 ⟨μ6, O6, r6⟩ => ⟨μ6, O4.trans O6, r6⟩
    exact init_sound (d := 7) P B (aok_make (hA.less (by decide))) O5.rep r2 rx ((rm.s O4.step).s O5.step) (r4.s O5.step)
  have hkl : env.kindOf ("mpu" : Str) = some .local := sl _ (by decide +kernel)
  refine x_cons (C := cxL) (hb := h) (nm := lawNm) (μ := μ1) (loc1 := L1.set 12 (some (.ref H1.length))) (H1 := H2) (wpAny_Assign_Name (mono_no st fun u s2 ⟨μ2, O2, r2⟩ => ?_) rfl) fun μ2 s2 S2 l2 => ?_
  · refine mono_no (store_sound hN O2.rep (S1.fr.s O2.step) (x := "mpu") rfl (by rw [l1]; decide) (.inl hkl) r2) fun _ s2 ⟨μ2, O3⟩ => ⟨by rw [List.length_set]; exact l1, μ2, (O2.toS S1.fr).trans O3, trivial⟩
  have S12 := S1.trans S2
  have i2 := xch_inv H1.length
  have hml : H1.length < μ2.length := by rw [S12.rep.rel.len]; exact k2
  have hs := xchL_get (l := μ2) k1 hml
  have R3 : Rep cxL h (xchL μ2 H1.length) (xchL (H2.map (HO.ren (xch H1.length))) H1.length) s2.heap := S12.rep.ren i2 hs (by rw [xchL_len, List.length_map]) (xchL_len _ _) fun i => by rw [xchL_get k1 (by rw [List.length_map]; exact k2), List.getElem?_map]
  refine mono_no ((evalS_sound ok B co kn hN sPost).2 _ _ _ _ _ _ _ _ _ c3 r3 (by rw [List.length_map]; exact l2) hA R3 (S12.fr.ren i2 hs)) fun fw s3 ⟨_, μ3, S3, f3⟩ => ?_
  refine ⟨?_, fun b o nf e => ?_, S3.gens.trans S12.gens, (Prod.mk.inj (S3.os.trans S12.os)).1⟩
  · cases fw with
    | ret u => have f3 : VRel μ3 s3.heap (.bool true) u := f3; cases f3; rfl
    | _ => exact f3.elim
  · refine S3.step.keep b o (fun q => ?_) nf (S12.step.keep b o not_own_nil nf e)
    rcases S12.step.own b (ren_own i2 hs q) with q | q
    · exact not_own_nil q
    · rw [q.1] at e; cases e
end
theorem law_walk2 (plain : ∀ ns : List Int, ns.length ≤ 63 → LawRun2 ns) : WalkO qE loose (fun _ _ => True) HeldK PySem.Challenge.rw_im0101_04.row.toRowW lawD [] fun f vs => PySem.call f vs := by
  intro w s₀ s₁ mg mb G Y a o pm cd doc dV kV ho hd hcd hD hmg hgens args vals as hpre hlay hrd hwl hlo
  have hY : ∀ b o, (H1 w.params).get? b = some o → s₁.heap.get? b = some o := Y
  have B := base_of w.params hY G.T.g G.T.b G.T.nolimit G.T.builtins
  obtain ⟨ns, hns, ra⟩ := args_ok (μ := []) hpre hwl (fun _ => not_own_nil)
  have so := lawSc_ok
  simp only [lawScB, Bool.and_eq_true, decide_eq_true_eq, Bool.not_eq_true', List.all_eq_true, beq_iff_eq, List.isEmpty_iff, Prod.forall] at so
  obtain ⟨⟨⟨⟨⟨⟨⟨⟨nd, sl⟩, sc⟩, sm⟩, sk⟩, sco⟩, sgen⟩, spl⟩, sdf⟩ := so
  have hdV : dV = .none := by
    rcases hD.pos with ⟨_, e⟩ | ⟨n, _⟩
    · exact e
    · exact absurd sdf n
  subst hdV
  have hlen := ra.length
  have hcs : ∀ n, cellsFrom n lawD.scope.names [] = [] := fun n => cellsFrom_none fun x hx => sc x.1 x.2 hx
  have R : Rep cxL s₁.heap [] [] s₁.heap := rep_nil fun b o e => e
  have main := fn_call0 (prog := PySem.Challenge.rw_im0101_04.row.toRowW.prog) (w := w) (C := cxL) (A := callerA) (d := 10) (args := ⟨vals, []⟩) (nm := lawNm) (body := lawD.body) (Post := fun v s' => v = .bool true ∧ OldK s₁.heap s'.heap ∧ s'.os = s₁.os ∧ s'.gens = #[]) B (aok_caller.less (by decide)) R ra ho hd hcd rfl
    (BindsTo.of_eq (bind_plain (names := lawNm.take 1) spl rfl (by decide) (by rw [hlen]; rfl))) (Nat.le_of_ble_eq_true rfl) (nodupB_nd nd) rfl rfl rfl sco sgen sk (fun n y hy => .inl (sl y hy))
    (fun m n c hm => by
      have hm : (n, c) ∈ cellsFrom m lawD.scope.names [] := hm
      rw [hcs] at hm; cases hm)
    (fun env s1 he O1 kp F1 fr1 hN hA => by
      have hsc : env.scope = lawD.scope := by rw [he]; rfl
      refine mono_no (law_body2 w.params B hsc (plain ns hns) O1.rep F1 hN (hA.less (by decide))) fun fw s' ⟨h1, h2, h4, h5⟩ => ⟨h1, ⟨fun b o e => ?_, fun b o e => ?_⟩, h5.trans (Prod.mk.inj O1.os).1, h4.trans (O1.gens.trans hgens)⟩
      · exact .inl (h2 b o (fun z => by rw [fr1 b z] at e; cases e) (kp b o e))
      · exact ⟨_, h2 b o (fun z => by rw [fr1 b z] at e; cases e) (kp b o e)⟩)
  refine wpAny_call (codeAny_mono main fun r s' hr => ?_)
  obtain ⟨v, e, hv, hO, hos, hg⟩ := hr
  subst e
  subst hv
  exact ⟨.inl ⟨_, .bool true, [], rfl, fun cls => rfl, .bool true, post_ok args, fun _ => ⟨.nil, fun _ ha => nomatch ha⟩⟩, hO, hos, .of_eq hg⟩
end Mine
end
section
open PySem PySem.W PySem.Calls PyProof.Rows
set_option autoImplicit false
set_option maxRecDepth 100000
namespace Mine
section
variable {C : Cx} {cf : CallF} {L L' : Loc} {H H1 H2 H' : Hp}
theorem seq_next {a b : S} (h : evalS C cf a L H = some (.next, L', H')) : evalS C cf (.seq a b) L H = evalS C cf b L' H' := by
  show (evalS C cf a L H).bind _ = _
  rw [h]; rfl
theorem seq_ret {a b : S} {v : V} (h : evalS C cf a L H = some (.ret v, L', H')) : evalS C cf (.seq a b) L H = some (.ret v, L', H') := by
  show (evalS C cf a L H).bind _ = _
  rw [h]; rfl
theorem evalE_bin {op : Operator} {a b : E} {x y z : V} (h1 : evalE C cf L a H = some (x, H1)) (h2 : evalE C cf L b H1 = some (y, H2)) (h3 : binV op x y = some z) : evalE C cf L (.bin op a b) H = some (z, H2) := by
  show (evalE C cf L a H).bind _ = _
  rw [h1]
  show (evalE C cf L b H1).bind _ = _
  rw [h2]
  show (binV op x y).bind _ = _
  rw [h3]; rfl
theorem e_loc {i : Nat} {v : V} (h : locV L i = some v) : evalE C cf L (.loc i) H = some (v, H) := by
  show (locV L i).bind _ = _
  rw [h]; rfl
theorem e_cmp {op : CmpOp} {a b : E} {x y : V} {z : Bool} (h1 : evalE C cf L a H = some (x, H1)) (h2 : evalE C cf L b H1 = some (y, H2)) (h3 : cmpH C H2 op x y = some z) : evalE C cf L (.cmp op a b) H = some (.bool z, H2) := by
  show (evalE C cf L a H).bind _ = _
  rw [h1]
  show (evalE C cf L b H1).bind _ = _
  rw [h2]
  show (cmpH C H2 op x y).bind _ = _
  rw [h3]; rfl
theorem e_ite {c a b : E} {x : V} {t : Bool} (h : evalE C cf L c H = some (x, H1)) (ht : truthH H1 x = some t) : evalE C cf L (.ite c a b) H = if t then evalE C cf L a H1 else evalE C cf L b H1 := by
  show (evalE C cf L c H).bind _ = _
  rw [h]
  show (truthH H1 x).bind _ = _
  rw [ht]; rfl
theorem e_orB {a b : E} {p q : Bool} (h1 : evalE C cf L a H = some (.bool p, H)) (h2 : evalE C cf L b H = some (.bool q, H)) : evalE C cf L (.or a b) H = some (.bool (p || q), H) := by
  show (evalE C cf L a H).bind _ = _
  rw [h1]
  cases p with
  | true => rfl
  | false => exact h2
theorem e_sub {o i : E} {vs : List V} {k : Int} {v : V} (h1 : evalE C cf L o H = some (.fl vs, H1)) (h2 : evalE C cf L i H1 = some (.int k, H2)) (h0 : 0 ≤ k) (hk : k < 2 ^ 32) (hv : vs[k.toNat]? = some v) : evalE C cf L (.sub o i) H = some (v, H2) := by
  show (evalE C cf L o H).bind _ = _
  rw [h1]
  show (evalE C cf L i H1).bind _ = _
  rw [h2]
  show (subV C H2 (.fl vs) (.int k)).bind _ = _
  have : subV C H2 (.fl vs) (.int k) = some v := by
    show (if 0 ≤ k ∧ k < 2 ^ 32 then (itemsOf C H2 (.fl vs)).bind fun vs => vs[k.toNat]? else none) = _
    rw [if_pos ⟨h0, hk⟩]; exact hv
  rw [this]; rfl
theorem e_subV {o i : E} {x : V} {k : Int} {vs : List V} {v : V} (h1 : evalE C cf L o H = some (x, H1)) (h2 : evalE C cf L i H1 = some (.int k, H2)) (h0 : 0 ≤ k) (hk : k < 2 ^ 32) (hx : itemsOf C H2 x = some vs) (hv : vs[k.toNat]? = some v) : evalE C cf L (.sub o i) H = some (v, H2) := by
  show (evalE C cf L o H).bind _ = _
  rw [h1]
  show (evalE C cf L i H1).bind _ = _
  rw [h2]
  show (subV C H2 x (.int k)).bind _ = _
  have : subV C H2 x (.int k) = some v := by
    show (if 0 ≤ k ∧ k < 2 ^ 32 then (itemsOf C H2 x).bind fun vs => vs[k.toNat]? else none) = _
    rw [if_pos ⟨h0, hk⟩, hx]; exact hv
  rw [this]; rfl
theorem s_ite {c : E} {a b : S} {x : V} {t : Bool} (h : evalE C cf L c H = some (x, H1)) (ht : truthH H1 x = some t) : evalS C cf (.ite c a b) L H = if t then evalS C cf a L H1 else evalS C cf b L H1 := by
  show (evalE C cf L c H).bind _ = _
  rw [h]
  show (truthH H1 x).bind _ = _
  rw [ht]; rfl
theorem s_set {i : Nat} {e : E} {v : V} (h : evalE C cf L e H = some (v, H1)) (hi : i < L.length) : evalS C cf (.assign (.loc i) e) L H = some (.next, L.set i (some v), H1) := by
  show (evalE C cf L e H).bind _ = _
  rw [h]
  show (if i < L.length then some (L.set i (some v), H1) else none).bind _ = _
  rw [if_pos hi]; rfl
theorem s_ret {e : E} {v : V} (h : evalE C cf L e H = some (v, H1)) : evalS C cf (.ret e) L H = some (.ret v, L, H1) := by
  show (evalE C cf L e H).bind _ = _
  rw [h]; rfl
theorem s_expr {e : E} {v : V} (h : evalE C cf L e H = some (v, H1)) : evalS C cf (.expr e) L H = some (.next, L, H1) := by
  show (evalE C cf L e H).bind _ = _
  rw [h]; rfl
theorem s_aug {i : Nat} {op : Operator} {e : E} {x y z : V} (h0 : locV L i = some x) (h : evalE C cf L e H = some (y, H1)) (h2 : binV op x y = some z) (hi : i < L.length) : evalS C cf (.aug (.loc i) op e) L H = some (.next, L.set i (some z), H1) := by
  show (locV L i).bind _ = _
  rw [h0]
  show (evalE C cf L e H).bind _ = _
  rw [h]
  show (binV op x y).bind _ = _
  rw [h2]
  show (if i < L.length then some (L.set i (some z), H1) else none).bind _ = _
  rw [if_pos hi]; rfl
theorem s_attr {i a : Nat} {e : E} {v o : V} (h : evalE C cf L e H = some (v, H1)) (ho : locV L i = some o) (hc : C.cattr a = none) (hs : storeAttr H1 o a v = some H2) : evalS C cf (.assign (.attr i a) e) L H = some (.next, L, H2) := by
  show (evalE C cf L e H).bind _ = _
  rw [h]
  show (Option.bind (locV L i) (fun x => match C.cattr a with | some _ => none | none => (storeAttr H1 x a v).bind fun H => some (L, H))).bind _ = _
  rw [ho]
  show (match C.cattr a with | some _ => none | none => (storeAttr H1 o a v).bind fun H => some (L, H)).bind _ = _
  rw [hc]
  show ((storeAttr H1 o a v).bind fun H => some (L, H)).bind _ = _
  rw [hs]; rfl
theorem s_augA {i a : Nat} {op : Operator} {e : E} {o x y z : V} (ho : locV L i = some o) (hc : C.cattr a = none) (h0 : attrV C H o a = some x) (h : evalE C cf L e H = some (y, H1)) (h2 : binV op x y = some z) (hs : storeAttr H1 o a z = some H2) : evalS C cf (.aug (.attr i a) op e) L H = some (.next, L, H2) := by
  show (locV L i).bind _ = _
  rw [ho]
  show (match C.cattr a with | some _ => none | none => (attrV C H o a).bind _) = _
  rw [hc]
  show (attrV C H o a).bind _ = _
  rw [h0]
  show (evalE C cf L e H).bind _ = _
  rw [h]
  show (binV op x y).bind _ = _
  rw [h2]
  show (storeAttr H1 o a z).bind _ = _
  rw [hs]; rfl
theorem e_callM {i l : Nat} {f : Addr} {v : V} (h0 : locV L i = some (.meth f l)) (h : cf f [.ref l] H = some (v, H1)) : evalE C cf L (.call (.loc i) .nil) H = some (v, H1) := by
  show ((locV L i).bind _).bind _ = _
  rw [h0]
  exact h
theorem s_sub {o i e : E} {v : V} {k : Int} {l : Nat} {vs : List V} {H3 : Hp} (h : evalE C cf L e H = some (v, H1)) (ho : evalE C cf L o H1 = some (.ref l, H2)) (hi : evalE C cf L i H2 = some (.int k, H3)) (hl : H3[l]? = some (.list vs)) (h0 : 0 ≤ k) (hk : k < vs.length) : evalS C cf (.assign (.sub o i) e) L H = some (.next, L, H3.set l (.list (vs.set k.toNat v))) := by
  show (evalE C cf L e H).bind _ = _
  rw [h]
  show ((evalE C cf L o H1).bind _).bind _ = _
  rw [ho]
  show ((evalE C cf L i H2).bind _).bind _ = _
  rw [hi]
  show ((match H3[l]? with | some (.list vs) => if 0 ≤ k ∧ k < vs.length then some (H3.set l (.list (vs.set k.toNat v))) else none | _ => none).bind _).bind _ = _
  rw [hl]
  show ((if 0 ≤ k ∧ k < vs.length then some (H3.set l (.list (vs.set k.toNat v))) else none).bind _).bind _ = _
  rw [if_pos ⟨h0, hk⟩]; rfl
theorem s_one {a : S} (h : evalS C cf a L H = some (.next, L', H1)) : evalS C cf (.seq a .skip) L H = some (.next, L', H1) := by
  rw [seq_next h]; rfl
theorem e_attr {i a l : Nat} {fs : List (Nat × V)} {v : V} (h0 : locV L i = some (.ref l)) (h1 : H[l]? = some (.inst fs)) (hc : C.cattr a = none) (hf : fget fs a = some v) : evalE C cf L (.attr i a) H = some (v, H) := by
  have hm : attrV C H (.ref l) a = some v := by
    show (match H[l]? with | some (.inst fs) => (match C.cattr a with | none => fget fs a | some ca => match fget fs a with | some _ => none | none => match ca with | .val v => some v | .fn f => some (.meth f l)) | _ => none) = _
    rw [h1]
    show (match C.cattr a with | none => fget fs a | some ca => match fget fs a with | some _ => none | none => match ca with | .val v => some v | .fn f => some (.meth f l)) = _
    rw [hc]; exact hf
  show (locV L i).bind _ = _
  rw [h0]
  show (attrV C H (.ref l) a).bind _ = _
  rw [hm]; rfl
theorem e_attrC {i a l : Nat} {fs : List (Nat × V)} {v : V} (h0 : locV L i = some (.ref l)) (h1 : H[l]? = some (.inst fs)) (hc : C.cattr a = some (.val v)) (hf : fget fs a = none) : evalE C cf L (.attr i a) H = some (v, H) := by
  have hm : attrV C H (.ref l) a = some v := by
    show (match H[l]? with | some (.inst fs) => (match C.cattr a with | none => fget fs a | some ca => match fget fs a with | some _ => none | none => match ca with | .val v => some v | .fn f => some (.meth f l)) | _ => none) = _
    rw [h1]
    show (match C.cattr a with | none => fget fs a | some ca => match fget fs a with | some _ => none | none => match ca with | .val v => some v | .fn f => some (.meth f l)) = _
    rw [hc]
    show (match fget fs a with | some _ => none | none => some v) = _
    rw [hf]
  show (locV L i).bind _ = _
  rw [h0]
  show (attrV C H (.ref l) a).bind _ = _
  rw [hm]; rfl
theorem e_mcall {i a : Nat} {l : Nat} {f : Addr} {v : V} {fs : List (Nat × V)} (h0 : locV L i = some (.ref l)) (h1 : H[l]? = some (.inst fs)) (h2 : C.cattr a = some (.fn f)) (h3 : fget fs a = none) (h : cf f [.ref l] H = some (v, H1)) : evalE C cf L (.mcall i a .nil) H = some (v, H1) := by
  have hm : methV C H (.ref l) a = some f := by
    show (match H[l]? with | some (.inst fs) => (match C.cattr a, fget fs a with | some (.fn f), none => some f | _, _ => none) | _ => none) = _
    rw [h1]
    show (match C.cattr a, fget fs a with | some (.fn f), none => some f | _, _ => none) = _
    rw [h2, h3]
  show (locV L i).bind _ = _
  rw [h0]
  show (methV C H (.ref l) a).bind _ = _
  rw [hm]
  exact h
theorem e_mcall1 {i a : Nat} {l : Nat} {e : E} {f : Addr} {u v : V} {fs : List (Nat × V)} (h0 : locV L i = some (.ref l)) (h1 : H[l]? = some (.inst fs)) (h2 : C.cattr a = some (.fn f)) (h3 : fget fs a = none) (he : evalE C cf L e H = some (u, H2)) (h : cf f [.ref l, u] H2 = some (v, H1)) : evalE C cf L (.mcall i a (.cons e .nil)) H = some (v, H1) := by
  have hm : methV C H (.ref l) a = some f := by
    show (match H[l]? with | some (.inst fs) => (match C.cattr a, fget fs a with | some (.fn f), none => some f | _, _ => none) | _ => none) = _
    rw [h1]
    show (match C.cattr a, fget fs a with | some (.fn f), none => some f | _, _ => none) = _
    rw [h2, h3]
  show (locV L i).bind _ = _
  rw [h0]
  show (methV C H (.ref l) a).bind _ = _
  rw [hm]
  show ((evalE C cf L e H).bind _).bind _ = _
  rw [he]
  exact h
theorem e_mcall2 {i a : Nat} {l : Nat} {e e2 : E} {f : Addr} {u u2 v : V} {fs : List (Nat × V)} (h0 : locV L i = some (.ref l)) (h1 : H[l]? = some (.inst fs)) (h2 : C.cattr a = some (.fn f)) (h3 : fget fs a = none) (he : evalE C cf L e H = some (u, H)) (he2 : evalE C cf L e2 H = some (u2, H)) (h : cf f [.ref l, u, u2] H = some (v, H1)) : evalE C cf L (.mcall i a (.cons e (.cons e2 .nil))) H = some (v, H1) := by
  have hm : methV C H (.ref l) a = some f := by
    show (match H[l]? with | some (.inst fs) => (match C.cattr a, fget fs a with | some (.fn f), none => some f | _, _ => none) | _ => none) = _
    rw [h1]
    show (match C.cattr a, fget fs a with | some (.fn f), none => some f | _, _ => none) = _
    rw [h2, h3]
  show (locV L i).bind _ = _
  rw [h0]
  show (methV C H (.ref l) a).bind _ = _
  rw [hm]
  show ((evalE C cf L e H).bind _).bind _ = _
  rw [he]
  show (((evalE C cf L e2 H).bind _).bind _).bind _ = _
  rw [he2]
  exact h
theorem e_callV1 {o e : E} {f : Addr} {u v : V} (h1 : evalE C cf L o H = some (.kref f, H1)) (h2 : evalE C cf L e H1 = some (u, H2)) (h : cf f [u] H2 = some (v, H')) : evalE C cf L (.call o (.cons e .nil)) H = some (v, H') := by
  show (evalE C cf L o H).bind _ = _
  rw [h1]
  show ((evalE C cf L e H1).bind _).bind _ = _
  rw [h2]
  exact h
theorem e_cons {a r : E} {x : V} {xs : List V} (h1 : evalE C cf L a H = some (x, H)) (h2 : evalE C cf L r H = some (.tup xs, H)) : evalE C cf L (.cons a r) H = some (.tup (x :: xs), H) := by
  show (evalE C cf L a H).bind _ = _
  rw [h1]
  show (evalE C cf L r H).bind _ = _
  rw [h2]; rfl
theorem e_tup {es : E} {xs : List V} (h : evalE C cf L es H = some (.tup xs, H)) : evalE C cf L (.tup es) H = some (.tup xs, H) := by
  show (evalE C cf L es H).bind _ = _
  rw [h]; rfl
theorem e_tup2 {a b : E} {x y : V} (h1 : evalE C cf L a H = some (x, H)) (h2 : evalE C cf L b H = some (y, H)) : evalE C cf L (.tup (.cons a (.cons b .nil))) H = some (.tup [x, y], H) := e_tup (e_cons h1 (e_cons h2 rfl))
theorem e_tup5 {a b c d e : E} {x y z u v : V} (h1 : evalE C cf L a H = some (x, H)) (h2 : evalE C cf L b H = some (y, H)) (h3 : evalE C cf L c H = some (z, H)) (h4 : evalE C cf L d H = some (u, H)) (h5 : evalE C cf L e H = some (v, H)) : evalE C cf L (.tup (.cons a (.cons b (.cons c (.cons d (.cons e .nil)))))) H = some (.tup [x, y, z, u, v], H) := e_tup (e_cons h1 (e_cons h2 (e_cons h3 (e_cons h4 (e_cons h5 rfl)))))
theorem run_ret {d : Nat} {f : Addr} {fn : Fn} {args : List V} {v : V} (hf : C.fn f = some fn) {L0 : Loc} (ha : args.length = fn.arity) (hL : args.map some ++ List.replicate (fn.names.length - fn.arity) none = L0) (h : evalS C (callD C d) fn.body L0 H = some (.ret v, L', H1)) : callD C (d + 1) f args H = some (v, H1) := by
  show (match C.fn f with | none => none | some fn => runFn C (callD C d) fn args H) = _
  rw [hf]
  show runFn C (callD C d) fn args H = _
  unfold runFn
  rw [if_pos ha, hL, h]
theorem run_next {d : Nat} {f : Addr} {fn : Fn} {args : List V} (hf : C.fn f = some fn) {L0 : Loc} (ha : args.length = fn.arity) (hL : args.map some ++ List.replicate (fn.names.length - fn.arity) none = L0) (h : evalS C (callD C d) fn.body L0 H = some (.next, L', H1)) : callD C (d + 1) f args H = some (.none, H1) := by
  show (match C.fn f with | none => none | some fn => runFn C (callD C d) fn args H) = _
  rw [hf]
  show runFn C (callD C d) fn args H = _
  unfold runFn
  rw [if_pos ha, hL, h]
end
end Mine
end
section
open PySem PySem.W PySem.Calls PyProof.Rows
set_option autoImplicit false
set_option maxRecDepth 100000
namespace Mine
structure Flg where
  c : Bool
  z : Bool
  h : Bool
  v : Bool
  n : Bool
noncomputable def b2 (b : Bool) : Int := if b then 1 else 0
noncomputable def pOf (g : Flg) : Int := 48 + b2 g.c + 2 * b2 g.z + 4 * b2 g.h + 64 * b2 g.v + 128 * b2 g.n
structure Rg where
  pc : Int
  a : Int
  x : Int
  y : Int
  sp : Int
  fl : Flg
structure Ext where
  ex : Int
  ac : V
  cy : Int
noncomputable def mkF (e : Ext) (g : Rg) : List (Nat × V) := [(0, .str "6502"), (1, .int 255), (2, .int 65535), (3, .int 65280), (4, .int 256), (5, .int e.ex), (6, e.ac), (7, .int e.cy), (8, .ref 0), (9, .int 544), (10, .int g.pc), (11, .int g.sp), (12, .int g.a), (13, .int g.x), (14, .int g.y), (15, .int (pOf g.fl))]
noncomputable def memL (f : Int → Int) : List V := (List.range 1024).map fun (i : Nat) => .int (f i)
noncomputable abbrev Hm (f : Int → Int) (e : Ext) (g : Rg) (r : Hp) : Hp := .list (memL f) :: .inst (mkF e g) :: r
noncomputable def upd (f : Int → Int) (i v : Int) : Int → Int := fun j => if j = i then v else f j
theorem memL_len (f : Int → Int) : (memL f).length = 1024 := by unfold memL; simp
theorem memL_at (f : Int → Int) {j : Nat} (h : j < 1024) : (memL f)[j]? = some (.int (f (j : Int))) := by
  unfold memL
  rw [List.getElem?_map, List.getElem?_range h]; rfl
theorem memL_get (f : Int → Int) {i : Int} (h0 : 0 ≤ i) (h1 : i < 1024) : (memL f)[i.toNat]? = some (.int (f i)) := by
  rw [memL_at f (by lia), Int.toNat_of_nonneg h0]
theorem memL_set (f : Int → Int) {i v : Int} (h0 : 0 ≤ i) : (memL f).set i.toNat (.int v) = memL (upd f i v) := by
  refine List.ext_getElem? fun j => ?_
  rw [List.getElem?_set, memL_len]
  by_cases hj : j < 1024
  · rw [memL_at _ hj, memL_at _ hj]
    unfold upd
    by_cases e : i.toNat = j
    · rw [if_pos e, if_pos (by lia), if_pos (by lia)]
    · rw [if_neg e, if_neg (by lia)]
  · have n : ∀ f, (memL f)[j]? = none := fun f => List.getElem?_eq_none (by rw [memL_len]; lia)
    rw [n, n]
    by_cases e : i.toNat = j
    · rw [if_pos e, if_neg (by lia)]
    · rw [if_neg e]
noncomputable def bik (x : Int) (k : Nat) : Int := x / 2 ^ k % 2
theorem bt_succ (x : Int) (k : Nat) : bik x (k + 1) = bik (x / 2) k := by
  unfold bik
  rw [Int.ediv_ediv_of_nonneg (by decide), Int.pow_succ, Int.mul_comm]
theorem bt_zero (x : Int) : bik x 0 = x % 2 := by unfold bik; rw [Int.pow_zero, Int.ediv_one]
theorem and_half (x y : Int) : Builtin.bitAnd x y / 2 = Builtin.bitAnd (x / 2) (y / 2) ∧ Builtin.bitAnd x y % 2 = (x % 2) * (y % 2) := by
  rw [kbt_halves]
  generalize Builtin.bitAnd (x / 2) (y / 2) = w
  rcases Int.emod_two_eq x with h | h <;> rcases Int.emod_two_eq y with h' | h' <;> rw [h, h'] <;> simp <;> lia
theorem xor_half (x y : Int) : Builtin.bitXor x y / 2 = Builtin.bitXor (x / 2) (y / 2) ∧ Builtin.bitXor x y % 2 = (x % 2 + y % 2) % 2 := by
  rw [bitXor_and, bitXor_and, kbt_halves]
  generalize Builtin.bitAnd (x / 2) (y / 2) = w
  rcases Int.emod_two_eq x with h | h <;> rcases Int.emod_two_eq y with h' | h' <;> rw [h, h'] <;> simp <;> lia
theorem bt_and : ∀ (k : Nat) (x y : Int), bik (Builtin.bitAnd x y) k = bik x k * bik y k
  | 0, x, y => by rw [bt_zero, bt_zero, bt_zero]; exact (and_half x y).2
  | k + 1, x, y => by rw [bt_succ, bt_succ, bt_succ, (and_half x y).1]; exact bt_and k _ _
theorem bt_xor : ∀ (k : Nat) (x y : Int), bik (Builtin.bitXor x y) k = (bik x k + bik y k) % 2
  | 0, x, y => by rw [bt_zero, bt_zero, bt_zero]; exact (xor_half x y).2
  | k + 1, x, y => by rw [bt_succ, bt_succ, bt_succ, (xor_half x y).1]; exact bt_xor k _ _
theorem bt_not : ∀ (k : Nat) (x : Int), bik (Builtin.bitNot x) k = 1 - bik x k
  | 0, x => by rw [bt_zero, bt_zero, kbt_not]; lia
  | k + 1, x => by
    rw [bt_succ, bt_succ, ← bt_not k, kbt_not, kbt_not]
    congr 1; lia
theorem and128 (v : Int) : Builtin.bitAnd v 128 = bik v 7 * 128 := kbt_bit v 7
theorem bt7 {v : Int} (h0 : 0 ≤ v) (h1 : v ≤ 255) : bik v 7 = b2 (decide (128 ≤ v)) := by
  show v / 128 % 2 = _
  unfold b2
  by_cases h : 128 ≤ v
  · rw [decide_eq_true h]; simp; lia
  · rw [decide_eq_false h]; simp; lia
theorem or128 {t : Int} (h0 : 0 ≤ t) (h1 : t < 128) : Builtin.bitOr t 128 = t + 128 := by
  have h : ∀ n : Fin 128, Builtin.bitOr (n.val : Int) 128 = (n.val : Int) + 128 := by decide +kernel
  have := h ⟨t.toNat, by lia⟩
  simpa [Int.toNat_of_nonneg h0] using this
theorem or1 {t : Int} (h0 : 0 ≤ t) (h1 : t < 256) : Builtin.bitOr (t * 2) 1 = t * 2 + 1 := by
  have h : ∀ n : Fin 256, Builtin.bitOr ((n.val : Int) * 2) 1 = (n.val : Int) * 2 + 1 := by decide +kernel
  have := h ⟨t.toNat, by lia⟩
  simpa [Int.toNat_of_nonneg h0] using this
noncomputable def nzF (g : Flg) (v : Int) : Flg := ⟨g.c, v == 0, g.h, g.v, decide (128 ≤ v)⟩
noncomputable def setC (g : Flg) (b : Bool) : Flg := ⟨b, g.z, g.h, g.v, g.n⟩
theorem fl_nz (g : Flg) : Builtin.bitAnd (pOf g) (Builtin.bitNot (Builtin.bitOr 2 128)) = pOf ⟨g.c, false, g.h, g.v, false⟩ := by
  have : ∀ c z h v n : Bool, Builtin.bitAnd (pOf ⟨c, z, h, v, n⟩) (Builtin.bitNot (Builtin.bitOr 2 128)) = pOf ⟨c, false, h, v, false⟩ := by decide +kernel
  exact this _ _ _ _ _
theorem fl_z (c h v : Bool) : Builtin.bitOr (pOf ⟨c, false, h, v, false⟩) 2 = pOf ⟨c, true, h, v, false⟩ := by
  have : ∀ c h v : Bool, Builtin.bitOr (pOf ⟨c, false, h, v, false⟩) 2 = pOf ⟨c, true, h, v, false⟩ := by decide +kernel
  exact this _ _ _
theorem fl_n (c z h v b : Bool) : Builtin.bitOr (pOf ⟨c, z, h, v, false⟩) (b2 b * 128) = pOf ⟨c, z, h, v, b⟩ := by
  have : ∀ c z h v b : Bool, Builtin.bitOr (pOf ⟨c, z, h, v, false⟩) (b2 b * 128) = pOf ⟨c, z, h, v, b⟩ := by decide +kernel
  exact this _ _ _ _ _
theorem fl_c (g : Flg) : Builtin.bitAnd (pOf g) 1 = b2 g.c := by
  have : ∀ c z h v n : Bool, Builtin.bitAnd (pOf ⟨c, z, h, v, n⟩) 1 = b2 c := by decide +kernel
  exact this _ _ _ _ _
theorem fl_d (g : Flg) : Builtin.bitAnd (pOf g) 8 = 0 := by
  have : ∀ c z h v n : Bool, Builtin.bitAnd (pOf ⟨c, z, h, v, n⟩) 8 = 0 := by decide +kernel
  exact this _ _ _ _ _
theorem fl_cvnz (g : Flg) : Builtin.bitAnd (pOf g) (Builtin.bitNot (Builtin.bitOr (Builtin.bitOr (Builtin.bitOr 1 64) 128) 2)) = pOf ⟨false, false, g.h, false, false⟩ := by
  have : ∀ c z h v n : Bool, Builtin.bitAnd (pOf ⟨c, z, h, v, n⟩) (Builtin.bitNot (Builtin.bitOr (Builtin.bitOr (Builtin.bitOr 1 64) 128) 2)) = pOf ⟨false, false, h, false, false⟩ := by decide +kernel
  exact this _ _ _ _ _
theorem fl_v (c z h n : Bool) : Builtin.bitOr (pOf ⟨c, z, h, false, n⟩) 64 = pOf ⟨c, z, h, true, n⟩ := by
  have : ∀ c z h n : Bool, Builtin.bitOr (pOf ⟨c, z, h, false, n⟩) 64 = pOf ⟨c, z, h, true, n⟩ := by decide +kernel
  exact this _ _ _ _
theorem fl_sc (g : Flg) : Builtin.bitOr (pOf g) 1 = pOf (setC g true) := by
  have : ∀ c z h v n : Bool, Builtin.bitOr (pOf ⟨c, z, h, v, n⟩) 1 = pOf (setC ⟨c, z, h, v, n⟩ true) := by decide +kernel
  exact this _ _ _ _ _
theorem fl_rc (g : Flg) : Builtin.bitAnd (pOf g) (Builtin.bitNot 1) = pOf (setC g false) := by
  have : ∀ c z h v n : Bool, Builtin.bitAnd (pOf ⟨c, z, h, v, n⟩) (Builtin.bitNot 1) = pOf (setC ⟨c, z, h, v, n⟩ false) := by decide +kernel
  exact this _ _ _ _ _
theorem fl_czn (g : Flg) : Builtin.bitAnd (pOf g) (Builtin.bitNot (Builtin.bitOr (Builtin.bitOr 1 2) 128)) = pOf ⟨false, false, g.h, g.v, false⟩ := by
  have : ∀ c z h v n : Bool, Builtin.bitAnd (pOf ⟨c, z, h, v, n⟩) (Builtin.bitNot (Builtin.bitOr (Builtin.bitOr 1 2) 128)) = pOf ⟨false, false, h, v, false⟩ := by decide +kernel
  exact this _ _ _ _ _
theorem fl_cz (h v : Bool) : Builtin.bitOr (pOf ⟨false, false, h, v, false⟩) (Builtin.bitOr 1 2) = pOf ⟨true, true, h, v, false⟩ := by
  have : ∀ h v : Bool, Builtin.bitOr (pOf ⟨false, false, h, v, false⟩) (Builtin.bitOr 1 2) = pOf ⟨true, true, h, v, false⟩ := by decide +kernel
  exact this _ _
theorem fl_bu (g : Flg) : Builtin.bitOr (Builtin.bitOr (pOf g) 16) 32 = pOf g := by
  have : ∀ c z h v n : Bool, Builtin.bitOr (Builtin.bitOr (pOf ⟨c, z, h, v, n⟩) 16) 32 = pOf ⟨c, z, h, v, n⟩ := by decide +kernel
  exact this _ _ _ _ _
end Mine
end
section
open PySem PySem.W PySem.Calls PyProof.Rows
set_option autoImplicit false
set_option maxRecDepth 100000
namespace Mine
theorem b_add (x y : Int) : binV .Add (.int x) (.int y) = some (.int (x + y)) := rfl
theorem b_and (x y : Int) : binV .BitAnd (.int x) (.int y) = some (.int (Builtin.bitAnd x y)) := rfl
theorem b_or (x y : Int) : binV .BitOr (.int x) (.int y) = some (.int (Builtin.bitOr x y)) := rfl
theorem b_shl {i : Int} (h0 : 0 ≤ i) (h1 : i ≤ 65535) (k : Int) (k0 : 0 ≤ k) (k1 : k ≤ 64) : binV .LShift (.int i) (.int k) = some (.int (i * 2 ^ k.toNat)) := by
  show (if (0 : Int) ≤ k ∧ k ≤ 64 ∧ i.natAbs < 2 ^ 64 then some (i * 2 ^ k.toNat) else none).map V.int = _
  rw [if_pos ⟨k0, k1, by lia⟩]; rfl
section
variable {f : Int → Int} {e : Ext} {g : Rg} {r : Hp} {d : Nat}
theorem c_ByteAt {i : Int} (h0 : 0 ≤ i) (h1 : i < 1024) : callD cxL (d + 1) 71 [.ref 1, .int i] (Hm f e g r) = some (.int (f i), Hm f e g r) :=
  run_ret (fn := m_ByteAt) (L' := [some (.ref 1), some (.int i)]) (L0 := [some (.ref 1), some (.int i)]) rfl rfl rfl (seq_ret (s_ret (e_subV (x := .ref 0) (vs := memL f) (e_attr (l := 1) (fs := mkF e g) rfl rfl rfl rfl) rfl h0 (by lia) rfl (memL_get f h0 h1))))
def Adr (d : Nat) (fa : Addr) (f : Int → Int) (e : Ext) (g : Rg) (r : Hp) (i : Int) : Prop := callD cxL d fa [.ref 1] (Hm f e g r) = some (.int i, Hm f e g r)
theorem c_pc : callD cxL (d + 1) 92 [.ref 1] (Hm f e g r) = some (.int g.pc, Hm f e g r) := by kernel_rfl
theorem c_zp (h0 : 0 ≤ g.pc) (h1 : g.pc < 1024) : Adr (d + 2) 106 f e g r (f g.pc) :=
  run_ret (fn := m_ZeroPageAddr) (L' := [some (.ref 1)]) (L0 := [some (.ref 1)]) rfl rfl rfl (seq_ret (s_ret (e_mcall1 (l := 1) (f := 71) (fs := mkF e g) rfl rfl rfl rfl (e_attr (l := 1) (fs := mkF e g) rfl rfl rfl rfl) (c_ByteAt h0 h1))))
theorem c_zpx (h0 : 0 ≤ g.pc) (h1 : g.pc < 1024) : Adr (d + 2) 113 f e g r ((g.x + f g.pc) % 256) :=
  run_ret (fn := m_ZeroPageXAddr) (L' := [some (.ref 1)]) (L0 := [some (.ref 1)]) rfl rfl rfl (seq_ret (s_ret (evalE_bin (x := .int 255) (y := .int (g.x + f g.pc)) (e_attr (l := 1) (fs := mkF e g) rfl rfl rfl rfl)
    (evalE_bin (x := .int g.x) (e_attr (l := 1) (fs := mkF e g) rfl rfl rfl rfl) (e_mcall1 (l := 1) (f := 71) (fs := mkF e g) rfl rfl rfl rfl (e_attr (l := 1) (fs := mkF e g) rfl rfl rfl rfl) (c_ByteAt h0 h1)) (b_add _ _)) (by rw [b_and, bitAnd_m8']))))
theorem c_zpy (h0 : 0 ≤ g.pc) (h1 : g.pc < 1024) : Adr (d + 2) 120 f e g r ((g.y + f g.pc) % 256) :=
  run_ret (fn := m_ZeroPageYAddr) (L' := [some (.ref 1)]) (L0 := [some (.ref 1)]) rfl rfl rfl (seq_ret (s_ret (evalE_bin (x := .int 255) (y := .int (g.y + f g.pc)) (e_attr (l := 1) (fs := mkF e g) rfl rfl rfl rfl)
    (evalE_bin (x := .int g.y) (e_attr (l := 1) (fs := mkF e g) rfl rfl rfl rfl) (e_mcall1 (l := 1) (f := 71) (fs := mkF e g) rfl rfl rfl rfl (e_attr (l := 1) (fs := mkF e g) rfl rfl rfl rfl) (c_ByteAt h0 h1)) (b_add _ _)) (by rw [b_and, bitAnd_m8']))))
theorem c_WordAt {i : Int} (h0 : 0 ≤ i) (h1 : i < 1023) (b0 : 0 ≤ f (i + 1)) (b1 : f (i + 1) ≤ 255) : callD cxL (d + 2) 78 [.ref 1, .int i] (Hm f e g r) = some (.int (f i + f (i + 1) * 256), Hm f e g r) :=
  run_ret (fn := m_WordAt) (L' := [some (.ref 1), some (.int i)]) (L0 := [some (.ref 1), some (.int i)]) rfl rfl rfl (seq_ret (s_ret (evalE_bin (e_mcall1 (l := 1) (f := 71) (u := .int i) (fs := mkF e g) rfl rfl rfl rfl rfl (c_ByteAt h0 (by lia)))
    (evalE_bin (e_mcall1 (l := 1) (f := 71) (u := .int (i + 1)) (fs := mkF e g) rfl rfl rfl rfl rfl (c_ByteAt (by lia) (by lia))) (e_attrC (l := 1) (fs := mkF e g) (v := .int 8) rfl rfl rfl rfl) (b_shl b0 (by lia) 8 (by decide) (by decide))) (b_add _ _))))
theorem c_nz {v : Int} (h0 : 0 ≤ v) (h1 : v ≤ 255) : callD cxL (d + 1) 197 [.ref 1, .int v] (Hm f e g r) = some (.none, Hm f e { g with fl := nzF g.fl v } r) := by
  refine run_next (fn := m_FlagsNZ) (L' := [some (.ref 1), some (.int v)]) (L0 := [some (.ref 1), some (.int v)]) rfl rfl rfl ((seq_next (L' := [some (.ref 1), some (.int v)]) (H' := Hm f e { g with fl := ⟨g.fl.c, false, g.fl.h, g.fl.v, false⟩ } r) (s_augA (o := .ref 1) (x := .int (pOf g.fl)) (z := .int (pOf ⟨g.fl.c, false, g.fl.h, g.fl.v, false⟩)) rfl rfl rfl (y := .int (Builtin.bitNot (Builtin.bitOr 2 128))) rfl (by rw [b_and, fl_nz]) rfl)).trans (s_one ?_))
  rw [s_ite (x := .bool (v == 0)) (t := v == 0) (H1 := Hm f e { g with fl := ⟨g.fl.c, false, g.fl.h, g.fl.v, false⟩ } r) (e_cmp (x := .int v) (y := .int 0) rfl rfl rfl) rfl]
  cases hv : (v == 0) with
  | true =>
    have hz : v = 0 := beq_iff_eq.mp hv
    subst hz
    exact s_one (s_augA (o := .ref 1) (x := .int (pOf ⟨g.fl.c, false, g.fl.h, g.fl.v, false⟩)) (y := .int 2) (z := .int (pOf (nzF g.fl 0))) rfl rfl rfl rfl (by rw [b_or, fl_z]; rfl) rfl)
  | false =>
    have e1 : nzF g.fl v = ⟨g.fl.c, false, g.fl.h, g.fl.v, decide (128 ≤ v)⟩ := by unfold nzF; rw [hv]
    rw [e1]
    exact s_one (s_augA (o := .ref 1) (x := .int (pOf ⟨g.fl.c, false, g.fl.h, g.fl.v, false⟩)) (y := .int (b2 (decide (128 ≤ v)) * 128)) (z := .int (pOf ⟨g.fl.c, false, g.fl.h, g.fl.v, decide (128 ≤ v)⟩)) rfl rfl rfl (evalE_bin (x := .int v) (y := .int 128) rfl rfl (by rw [b_and, and128, bt7 h0 h1])) (by rw [b_or, fl_n]) rfl)
theorem c_push {z : Int} (s0 : 0 ≤ g.sp) (s1 : g.sp ≤ 255) : callD cxL (d + 1) 169 [.ref 1, .int z] (Hm f e g r) = some (.none, Hm (upd f (g.sp + 256) (z % 256)) e { g with sp := (g.sp - 1) % 256 } r) := by
  refine run_next (fn := m_stPush) (L' := [some (.ref 1), some (.int z)]) (L0 := [some (.ref 1), some (.int z)]) rfl rfl rfl ((seq_next (L' := [some (.ref 1), some (.int z)]) (H' := Hm (upd f (g.sp + 256) (z % 256)) e g r) ?_).trans ((seq_next (H' := Hm (upd f (g.sp + 256) (z % 256)) e { g with sp := g.sp - 1 } r) (L' := [some (.ref 1), some (.int z)]) (by kernel_rfl)).trans (s_one (s_augA (o := .ref 1) (x := .int (g.sp - 1)) (y := .int 255) (z := .int ((g.sp - 1) % 256)) rfl rfl rfl rfl (by rw [b_and, bitAnd_m8]) rfl))))
  have := s_sub (C := cxL) (cf := callD cxL d) (L := [some (.ref 1), some (.int z)]) (H := Hm f e g r) (o := .attr 0 8) (i := .bin .Add (.attr 0 11) (.attr 0 4)) (e := .bin .BitAnd (.loc 1) (.attr 0 1)) (v := .int (z % 256)) (k := g.sp + 256) (l := 0) (vs := memL f) (evalE_bin (x := .int z) (y := .int 255) rfl rfl (by rw [b_and, bitAnd_m8])) (e_attr (l := 1) (fs := mkF e g) rfl rfl rfl rfl) rfl rfl (by lia) (by rw [memL_len]; lia)
  rw [this]
  show some (Fl.next, _, HO.list ((memL f).set (g.sp + 256).toNat (.int (z % 256))) :: HO.inst (mkF e g) :: r) = _
  rw [memL_set f (by lia)]
theorem c_pop : callD cxL (d + 2) 176 [.ref 1] (Hm f e g r) = some (.int (f ((g.sp + 1) % 256 + 256)), Hm f e { g with sp := (g.sp + 1) % 256 } r) :=
  run_ret (fn := m_stPop) (L' := [some (.ref 1)]) (L0 := [some (.ref 1)]) rfl rfl rfl ((seq_next (L' := [some (.ref 1)]) (H' := Hm f e { g with sp := g.sp + 1 } r) (by kernel_rfl)).trans ((seq_next (L' := [some (.ref 1)]) (H' := Hm f e { g with sp := (g.sp + 1) % 256 } r) (s_augA (o := .ref 1) (x := .int (g.sp + 1)) (y := .int 255) (z := .int ((g.sp + 1) % 256)) rfl rfl rfl rfl (by rw [b_and, bitAnd_m8]) rfl)).trans
    (seq_ret (s_ret (e_mcall1 (l := 1) (f := 71) (u := .int ((g.sp + 1) % 256 + 256)) (fs := mkF e { g with sp := (g.sp + 1) % 256 }) rfl rfl rfl rfl rfl (c_ByteAt (by lia) (by lia)))))))
end
end Mine
end
section
open PySem PySem.W PySem.Calls PyProof.Rows
set_option autoImplicit false
set_option maxRecDepth 100000
namespace Mine
theorem tr_b (H : Hp) (b : Bool) : truthH H (.int (b2 b)) = some b := by cases b <;> rfl
theorem tr_b128 (H : Hp) (b : Bool) : truthH H (.int (b2 b * 128)) = some b := by cases b <;> rfl
theorem seq_then {C : Cx} {cf : CallF} {L L1 L2 : Loc} {H H1 H2 : Hp} {a b : S} {x : Fl} (h : evalS C cf a L H = some (.next, L1, H1)) (h2 : evalS C cf b L1 H1 = some (x, L2, H2)) : evalS C cf (.seq a b) L H = some (x, L2, H2) := (seq_next h).trans h2
theorem s_when {C : Cx} {cf : CallF} {L L' : Loc} {H H' : Hp} {c : E} {s : S} {x : V} {b : Bool} (hc : evalE C cf L c H = some (x, H)) (ht : truthH H x = some b) (h1 : b = true → evalS C cf s L H = some (.next, L', H')) (h0 : b = false → L = L' ∧ H = H') : evalS C cf (.ite c s .skip) L H = some (.next, L', H') := by
  rw [s_ite hc ht]
  cases b with
  | true => exact h1 rfl
  | false => obtain ⟨rfl, rfl⟩ := h0 rfl; rfl
section
variable {f : Int → Int} {e : Ext} {g : Rg} {r : Hp} {d : Nat} {fa : Addr} {i : Int}
theorem get_byte {L : Loc} {j : Nat} (h : locV L j = some (.meth fa 1)) (hs : locV L 0 = some (.ref 1)) (hx : callD cxL (d + 1) fa [.ref 1] (Hm f e g r) = some (.int i, Hm f e g r)) (i0 : 0 ≤ i) (i1 : i < 1024) : evalE cxL (callD cxL (d + 1)) L (.mcall 0 31 (.cons (.call (.loc j) .nil) .nil)) (Hm f e g r) = some (.int (f i), Hm f e g r) :=
  e_mcall1 (l := 1) (f := 71) (fs := mkF e g) hs rfl rfl rfl (e_callM h hx) (c_ByteAt i0 i1)
theorem do_nz {L : Loc} {x : E} {v : Int} (hs : locV L 0 = some (.ref 1)) (hx : evalE cxL (callD cxL (d + 1)) L x (Hm f e g r) = some (.int v, Hm f e g r)) (h0 : 0 ≤ v) (h1 : v ≤ 255) : evalS cxL (callD cxL (d + 1)) (.expr (.mcall 0 43 (.cons x .nil))) L (Hm f e g r) = some (.next, L, Hm f e { g with fl := nzF g.fl v } r) :=
  s_expr (e_mcall1 (l := 1) (f := 197) (fs := mkF e g) hs rfl rfl rfl hx (c_nz h0 h1))
theorem do_set {L : Loc} {j : Nat} {v k : Int} (h : locV L j = some (.int k)) (hs : locV L 0 = some (.ref 1)) {j2 : Nat} (hv : locV L j2 = some (.int v)) (h0 : 0 ≤ k) (h1 : k < 1024) {cf : CallF} : evalS cxL cf (.assign (.sub (.attr 0 8) (.loc j)) (.loc j2)) L (Hm f e g r) = some (.next, L, Hm (upd f k v) e g r) := by
  rw [s_sub (k := k) (l := 0) (vs := memL f) (e_loc hv) (e_attr (l := 1) (fs := mkF e g) hs rfl rfl rfl) (e_loc h) rfl h0 (by rw [memL_len]; lia)]
  show some (Fl.next, _, HO.list ((memL f).set k.toNat (.int v)) :: HO.inst (mkF e g) :: r) = _
  rw [memL_set f h0]
theorem c_LDA (hx : callD cxL (d + 1) fa [.ref 1] (Hm f e g r) = some (.int i, Hm f e g r)) (i0 : 0 ≤ i) (i1 : i < 1024) (b0 : 0 ≤ f i) (b1 : f i ≤ 255) : callD cxL (d + 2) 344 [.ref 1, .meth fa 1] (Hm f e g r) = some (.none, Hm f e { g with a := f i, fl := nzF g.fl (f i) } r) :=
  run_next (fn := m_opLDA) (L' := [some (.ref 1), some (.meth fa 1)]) (L0 := [some (.ref 1), some (.meth fa 1)]) rfl rfl rfl (seq_then (H1 := Hm f e { g with a := f i } r) (s_attr (get_byte rfl rfl hx i0 i1) rfl rfl rfl) (s_one (do_nz rfl rfl b0 b1)))
theorem c_LDX (hx : callD cxL (d + 1) fa [.ref 1] (Hm f e g r) = some (.int i, Hm f e g r)) (i0 : 0 ≤ i) (i1 : i < 1024) (b0 : 0 ≤ f i) (b1 : f i ≤ 255) : callD cxL (d + 2) 358 [.ref 1, .meth fa 1] (Hm f e g r) = some (.none, Hm f e { g with x := f i, fl := nzF g.fl (f i) } r) :=
  run_next (fn := m_opLDX) (L' := [some (.ref 1), some (.meth fa 1)]) (L0 := [some (.ref 1), some (.meth fa 1)]) rfl rfl rfl (seq_then (H1 := Hm f e { g with x := f i } r) (s_attr (get_byte rfl rfl hx i0 i1) rfl rfl rfl) (s_one (do_nz rfl rfl b0 b1)))
theorem c_LDY (hx : callD cxL (d + 1) fa [.ref 1] (Hm f e g r) = some (.int i, Hm f e g r)) (i0 : 0 ≤ i) (i1 : i < 1024) (b0 : 0 ≤ f i) (b1 : f i ≤ 255) : callD cxL (d + 2) 351 [.ref 1, .meth fa 1] (Hm f e g r) = some (.none, Hm f e { g with y := f i, fl := nzF g.fl (f i) } r) :=
  run_next (fn := m_opLDY) (L' := [some (.ref 1), some (.meth fa 1)]) (L0 := [some (.ref 1), some (.meth fa 1)]) rfl rfl rfl (seq_then (H1 := Hm f e { g with y := f i } r) (s_attr (get_byte rfl rfl hx i0 i1) rfl rfl rfl) (s_one (do_nz rfl rfl b0 b1)))
theorem put_call {L : Loc} {cf : CallF} {v : Int} {x : E} (h : locV L 1 = some (.meth fa 1)) (hs : locV L 0 = some (.ref 1)) (hv : evalE cxL cf L x (Hm f e g r) = some (.int v, Hm f e g r)) (hx : cf fa [.ref 1] (Hm f e g r) = some (.int i, Hm f e g r)) (i0 : 0 ≤ i) (i1 : i < 1024) : evalS cxL cf (.assign (.sub (.attr 0 8) (.call (.loc 1) .nil)) x) L (Hm f e g r) = some (.next, L, Hm (upd f i v) e g r) := by
  rw [s_sub (k := i) (l := 0) (vs := memL f) hv (e_attr (l := 1) (fs := mkF e g) hs rfl rfl rfl) (e_callM h hx) rfl i0 (by rw [memL_len]; lia)]
  show some (Fl.next, _, HO.list ((memL f).set i.toNat (.int v)) :: HO.inst (mkF e g) :: r) = _
  rw [memL_set f i0]
theorem c_STA (hx : callD cxL d fa [.ref 1] (Hm f e g r) = some (.int i, Hm f e g r)) (i0 : 0 ≤ i) (i1 : i < 1024) : callD cxL (d + 1) 295 [.ref 1, .meth fa 1] (Hm f e g r) = some (.none, Hm (upd f i g.a) e g r) :=
  run_next (fn := m_opSTA) (L' := [some (.ref 1), some (.meth fa 1)]) (L0 := [some (.ref 1), some (.meth fa 1)]) rfl rfl rfl (s_one (put_call rfl rfl rfl hx i0 i1))
theorem c_STX (hx : callD cxL d fa [.ref 1] (Hm f e g r) = some (.int i, Hm f e g r)) (i0 : 0 ≤ i) (i1 : i < 1024) : callD cxL (d + 1) 309 [.ref 1, .meth fa 1] (Hm f e g r) = some (.none, Hm (upd f i g.x) e g r) :=
  run_next (fn := m_opSTX) (L' := [some (.ref 1), some (.meth fa 1)]) (L0 := [some (.ref 1), some (.meth fa 1)]) rfl rfl rfl (s_one (put_call rfl rfl rfl hx i0 i1))
theorem c_EOR (hx : callD cxL (d + 1) fa [.ref 1] (Hm f e g r) = some (.int i, Hm f e g r)) (i0 : 0 ≤ i) (i1 : i < 1024) (b0 : 0 ≤ Builtin.bitXor g.a (f i)) (b1 : Builtin.bitXor g.a (f i) ≤ 255) : callD cxL (d + 2) 274 [.ref 1, .meth fa 1] (Hm f e g r) = some (.none, Hm f e { g with a := Builtin.bitXor g.a (f i), fl := nzF g.fl (Builtin.bitXor g.a (f i)) } r) :=
  run_next (fn := m_opEOR) (L' := [some (.ref 1), some (.meth fa 1)]) (L0 := [some (.ref 1), some (.meth fa 1)]) rfl rfl rfl (seq_then (H1 := Hm f e { g with a := Builtin.bitXor g.a (f i) } r) (s_augA (o := .ref 1) (x := .int g.a) rfl rfl rfl (get_byte rfl rfl hx i0 i1) rfl rfl) (s_one (do_nz rfl rfl b0 b1)))
theorem adr_byte {L : Loc} {j k : Nat} {a : S} (h : locV L 1 = some (.meth fa 1)) (hs : locV L 0 = some (.ref 1)) (hl : L.length = 4) (hx : callD cxL (d + 1) fa [.ref 1] (Hm f e g r) = some (.int i, Hm f e g r)) (i0 : 0 ≤ i) (i1 : i < 1024) (hj : L = [some (.ref 1), some (.meth fa 1), none, none]) : evalS cxL (callD cxL (d + 1)) (.ite (.cmp .Is (.loc 1) (.cst .none)) a (.seq (.assign (.loc 3) (.call (.loc 1) .nil)) (.seq (.assign (.loc 2) (.mcall 0 31 (.cons (.loc 3) .nil))) .skip))) L (Hm f e g r) = some (.next, [some (.ref 1), some (.meth fa 1), some (.int (f i)), some (.int i)], Hm f e g r) := by
  subst hj
  rw [s_ite (x := .bool false) (t := false) (H1 := Hm f e g r) (e_cmp (x := .meth fa 1) (y := .none) rfl rfl rfl) rfl]
  exact seq_then (L1 := [some (.ref 1), some (.meth fa 1), none, some (.int i)]) (s_set (e_callM rfl hx) (Nat.le_of_ble_eq_true rfl)) (s_one (s_set (e_mcall1 (l := 1) (f := 71) (fs := mkF e g) rfl rfl rfl rfl rfl (c_ByteAt i0 i1)) (Nat.le_of_ble_eq_true rfl)))
theorem adr_put {L : Loc} {a : S} {t : Int} {cf : CallF} (i0 : 0 ≤ i) (i1 : i < 1024) (hj : L = [some (.ref 1), some (.meth fa 1), some (.int t), some (.int i)]) : evalS cxL cf (.ite (.cmp .Is (.loc 1) (.cst .none)) a (.seq (.assign (.sub (.attr 0 8) (.loc 3)) (.loc 2)) .skip)) L (Hm f e g r) = some (.next, L, Hm (upd f i t) e g r) := by
  subst hj
  rw [s_ite (x := .bool false) (t := false) (H1 := Hm f e g r) (e_cmp (x := .meth fa 1) (y := .none) rfl rfl rfl) rfl]
  exact s_one (do_set rfl rfl rfl i0 i1)
theorem c_INC (hx : callD cxL (d + 1) fa [.ref 1] (Hm f e g r) = some (.int i, Hm f e g r)) (i0 : 0 ≤ i) (i1 : i < 1024) : callD cxL (d + 2) 337 [.ref 1, .meth fa 1] (Hm f e g r) = some (.none, Hm (upd f i ((f i + 1) % 256)) e { g with fl := nzF g.fl ((f i + 1) % 256) } r) := by
  have t0 : 0 ≤ (f i + 1) % 256 := by lia
  have t1 : (f i + 1) % 256 ≤ 255 := by lia
  generalize ht : (f i + 1) % 256 = t at t0 t1
  refine run_next (fn := m_opINCR) (L' := [some (.ref 1), some (.meth fa 1), some (.int t), some (.int i)]) (L0 := [some (.ref 1), some (.meth fa 1), none, none]) rfl rfl rfl (seq_then (adr_byte (j := 0) (k := 0) rfl rfl rfl hx i0 i1 rfl) ?_)
  refine seq_then (L1 := [some (.ref 1), some (.meth fa 1), some (.int (f i)), some (.int i)]) (H1 := Hm f e { g with fl := ⟨g.fl.c, false, g.fl.h, g.fl.v, false⟩ } r) (s_augA (o := .ref 1) (x := .int (pOf g.fl)) (z := .int (pOf ⟨g.fl.c, false, g.fl.h, g.fl.v, false⟩)) rfl rfl rfl (y := .int (Builtin.bitNot (Builtin.bitOr 2 128))) rfl (by rw [b_and, fl_nz]) rfl) ?_
  refine seq_then (L1 := [some (.ref 1), some (.meth fa 1), some (.int t), some (.int i)]) (H1 := Hm f e { g with fl := ⟨g.fl.c, false, g.fl.h, g.fl.v, false⟩ } r) (s_set (evalE_bin (x := .int (f i + 1)) (y := .int 255) rfl rfl (by rw [b_and, bitAnd_m8, ht])) (Nat.le_of_ble_eq_true rfl)) ?_
  refine seq_then (L1 := [some (.ref 1), some (.meth fa 1), some (.int t), some (.int i)]) (H1 := Hm f e { g with fl := nzF g.fl t } r) ?_ (s_one (adr_put i0 i1 rfl))
  rw [s_ite (x := .int t) (t := t != 0) (H1 := Hm f e { g with fl := ⟨g.fl.c, false, g.fl.h, g.fl.v, false⟩ } r) rfl rfl]
  by_cases hz : t = 0
  · subst hz
    exact s_one (s_augA (o := .ref 1) (x := .int (pOf ⟨g.fl.c, false, g.fl.h, g.fl.v, false⟩)) (y := .int 2) (z := .int (pOf (nzF g.fl 0))) rfl rfl rfl rfl (by rw [b_or, fl_z]; rfl) rfl)
  · have e1 : nzF g.fl t = ⟨g.fl.c, false, g.fl.h, g.fl.v, decide (128 ≤ t)⟩ := by unfold nzF; rw [beq_eq_false_iff_ne.mpr hz]
    rw [e1, if_pos (bne_iff_ne.mpr hz)]
    exact s_one (s_augA (o := .ref 1) (x := .int (pOf ⟨g.fl.c, false, g.fl.h, g.fl.v, false⟩)) (y := .int (b2 (decide (128 ≤ t)) * 128)) (z := .int (pOf ⟨g.fl.c, false, g.fl.h, g.fl.v, decide (128 ≤ t)⟩)) rfl rfl rfl (evalE_bin (x := .int t) (y := .int 128) rfl rfl (by rw [b_and, and128, bt7 t0 t1])) (by rw [b_or, fl_n]) rfl)
end
end Mine
end
section
open PySem PySem.W PySem.Calls PyProof.Rows
set_option autoImplicit false
set_option maxRecDepth 100000
namespace Mine
noncomputable def bO (x : Int) : Bool := decide (128 ≤ x)
noncomputable def ovf (a m w : Int) : Bool := (bO a == bO m) && (bO a != bO (w % 256))
theorem bt7w {w : Int} (h0 : 0 ≤ w) : bik w 7 = b2 (bO (w % 256)) := by
  show bik w 7 = b2 (decide (128 ≤ w % 256))
  rw [← bt7 (v := w % 256) (by lia) (by lia)]
  show w / 128 % 2 = w % 256 / 128 % 2
  lia
theorem ov_add {a m w : Int} (a0 : 0 ≤ a) (a1 : a ≤ 255) (m0 : 0 ≤ m) (m1 : m ≤ 255) (w0 : 0 ≤ w) : Builtin.bitAnd (Builtin.bitAnd (Builtin.bitNot (Builtin.bitXor a m)) (Builtin.bitXor a w)) 128 = b2 (ovf a m w) * 128 := by
  rw [and128, bt_and, bt_not, bt_xor, bt_xor, bt7 a0 a1, bt7 m0 m1, bt7w w0]
  unfold ovf bO
  congr 1
  cases decide (128 ≤ a) <;> cases decide (128 ≤ m) <;> cases decide (128 ≤ w % 256) <;> rfl
theorem ov_sub {a m w : Int} (a0 : 0 ≤ a) (a1 : a ≤ 255) (m0 : 0 ≤ m) (m1 : m ≤ 255) (w0 : 0 ≤ w) : Builtin.bitAnd (Builtin.bitAnd (Builtin.bitXor a m) (Builtin.bitXor a w)) 128 = b2 (ovf a (255 - m) w) * 128 := by
  rw [and128, bt_and, bt_xor, bt_xor, bt7 a0 a1, bt7 m0 m1, bt7w w0]
  have h : bO (255 - m) = !decide (128 ≤ m) := by
    unfold bO
    by_cases q : 128 ≤ m
    · rw [decide_eq_true q, decide_eq_false (by lia)]; rfl
    · rw [decide_eq_false q, decide_eq_true (by lia)]; rfl
  unfold ovf
  rw [h]
  unfold bO
  congr 1
  cases decide (128 ≤ a) <;> cases decide (128 ≤ m) <;> cases decide (128 ≤ w % 256) <;> rfl
noncomputable def sumF (g : Flg) (w : Int) (v : Bool) : Flg := ⟨decide (255 < w), w % 256 == 0, g.h, v, bO (w % 256)⟩
section
variable {f : Int → Int} {e : Ext} {g : Rg} {r : Hp} {d : Nat} {fa : Addr} {i : Int} {cf : CallF}
theorem p_or {L : Loc} {x : E} {k : Int} {fl : Flg} (hs : locV L 0 = some (.ref 1)) (hx : evalE cxL cf L x (Hm f e g r) = some (.int k, Hm f e g r)) (h : Builtin.bitOr (pOf g.fl) k = pOf fl) : evalS cxL cf (.aug (.attr 0 15) .BitOr x) L (Hm f e g r) = some (.next, L, Hm f e { g with fl := fl } r) :=
  s_augA (o := .ref 1) (x := .int (pOf g.fl)) (y := .int k) (z := .int (pOf fl)) hs rfl rfl hx (by rw [b_or, h]) rfl
theorem p_and {L : Loc} {x : E} {k : Int} {fl : Flg} (hs : locV L 0 = some (.ref 1)) (hx : evalE cxL cf L x (Hm f e g r) = some (.int k, Hm f e g r)) (h : Builtin.bitAnd (pOf g.fl) k = pOf fl) : evalS cxL cf (.aug (.attr 0 15) .BitAnd x) L (Hm f e g r) = some (.next, L, Hm f e { g with fl := fl } r) :=
  s_augA (o := .ref 1) (x := .int (pOf g.fl)) (y := .int k) (z := .int (pOf fl)) hs rfl rfl hx (by rw [b_and, h]) rfl
theorem c_ROL (a0 : 0 ≤ g.a) (a1 : g.a ≤ 255) : callD cxL (d + 2) 267 [.ref 1, .none] (Hm f e g r) = some (.none, Hm f e { g with a := (2 * g.a + b2 g.fl.c) % 256, fl := nzF (setC g.fl (bO g.a)) ((2 * g.a + b2 g.fl.c) % 256) } r) := by
  obtain ⟨c, hc⟩ : ∃ c, c = g.fl.c := ⟨_, rfl⟩
  obtain ⟨n, hn⟩ : ∃ n, n = bO g.a := ⟨_, rfl⟩
  have cb : 0 ≤ b2 c ∧ b2 c ≤ 1 := by cases c <;> decide
  rw [← hc, ← hn]
  have t0 : 0 ≤ (2 * g.a + b2 c) % 256 := by lia
  have t1 : (2 * g.a + b2 c) % 256 ≤ 255 := by lia
  generalize ht : (2 * g.a + b2 c) % 256 = t at t0 t1
  have hb : Builtin.bitAnd g.a 128 = b2 n * 128 := by rw [and128, bt7 a0 a1, hn]; rfl
  refine run_next (fn := m_opROL) (L' := [some (.ref 1), some .none, some (.int t), none]) (L0 := [some (.ref 1), some .none, none, none]) rfl rfl rfl (seq_then (L1 := [some (.ref 1), some .none, some (.int g.a), none]) (H1 := Hm f e g r) ?_ ?_)
  · rw [s_ite (x := .bool true) (t := true) (H1 := Hm f e g r) (e_cmp (x := .none) (y := .none) rfl rfl rfl) rfl]
    exact s_one (s_set rfl (Nat.le_of_ble_eq_true rfl))
  refine seq_then (L1 := [some (.ref 1), some .none, some (.int (g.a * 2 + b2 c)), none]) (H1 := Hm f e { g with fl := setC g.fl n } r) ?_ ?_
  · rw [s_ite (x := .int (b2 c)) (t := c) (H1 := Hm f e g r) (evalE_bin (x := .int (pOf g.fl)) (y := .int 1) rfl rfl (by rw [b_and, fl_c, hc])) (tr_b _ _)]
    cases c with
    | true =>
      refine seq_then (L1 := [some (.ref 1), some .none, some (.int g.a), none]) (H1 := Hm f e { g with fl := setC g.fl n } r) ?_ (s_one (s_set (evalE_bin (x := .int (g.a * 2)) (y := .int 1) (H1 := Hm f e { g with fl := setC g.fl n } r) (evalE_bin (x := .int g.a) (y := .int 1) rfl rfl (b_shl a0 (by lia) 1 (by decide) (by decide))) rfl (by rw [b_or, or1 a0 (by lia)]; rfl)) (Nat.le_of_ble_eq_true rfl)))
      rw [s_ite (x := .int (b2 n * 128)) (t := n) (H1 := Hm f e g r) (evalE_bin (x := .int g.a) (y := .int 128) rfl rfl (by rw [b_and, hb])) (tr_b128 _ _)]
      cases n with
      | true =>
        have : setC g.fl true = g.fl := by unfold setC; rw [hc]
        rw [this]
        rfl
      | false => exact s_one (p_and rfl (k := Builtin.bitNot 1) rfl (fl_rc _))
    | false =>
      refine seq_then (L1 := [some (.ref 1), some .none, some (.int g.a), none]) (H1 := Hm f e { g with fl := setC g.fl n } r) ?_ (s_one (s_set (evalE_bin (x := .int g.a) (y := .int 1) rfl rfl (by rw [b_shl a0 (by lia) 1 (by decide) (by decide)]; show some (V.int (g.a * 2)) = some (V.int (g.a * 2 + 0)); rw [Int.add_zero])) (Nat.le_of_ble_eq_true rfl)))
      refine s_when (x := .int (b2 n * 128)) (b := n) (evalE_bin (x := .int g.a) (y := .int 128) rfl rfl (by rw [b_and, hb])) (tr_b128 _ _) (fun q => ?_) (fun q => ⟨rfl, ?_⟩)
      · subst q; exact s_one (p_or rfl (k := 1) rfl (fl_sc _))
      · subst q
        have : setC g.fl false = g.fl := by unfold setC; rw [hc]
        rw [this]
  refine seq_then (L1 := [some (.ref 1), some .none, some (.int t), none]) (H1 := Hm f e { g with fl := setC g.fl n } r) (s_aug (x := .int (g.a * 2 + b2 c)) (y := .int 255) rfl rfl (by rw [b_and, bitAnd_m8, ← ht, Int.mul_comm]) (Nat.le_of_ble_eq_true rfl)) ?_
  refine seq_then (do_nz (g := { g with fl := setC g.fl n }) (v := t) rfl rfl t0 t1) (s_one ?_)
  rw [s_ite (x := .bool true) (t := true) (H1 := Hm f e { g with fl := nzF (setC g.fl n) t } r) (e_cmp (x := .none) (y := .none) rfl rfl rfl) rfl]
  exact s_one (s_attr (v := .int t) (o := .ref 1) rfl rfl rfl rfl)
theorem c_ROR (hx : callD cxL (d + 1) fa [.ref 1] (Hm f e g r) = some (.int i, Hm f e g r)) (i0 : 0 ≤ i) (i1 : i < 1024) (v0 : 0 ≤ f i) (v1 : f i ≤ 255) : callD cxL (d + 2) 288 [.ref 1, .meth fa 1] (Hm f e g r) = some (.none, Hm (upd f i (f i / 2 + 128 * b2 g.fl.c)) e { g with fl := nzF (setC g.fl (f i % 2 == 1)) (f i / 2 + 128 * b2 g.fl.c) } r) := by
  obtain ⟨c, hc⟩ : ∃ c, c = g.fl.c := ⟨_, rfl⟩
  obtain ⟨n, hn⟩ : ∃ n, n = (f i % 2 == 1) := ⟨_, rfl⟩
  have cb : 0 ≤ b2 c ∧ b2 c ≤ 1 := by cases c <;> decide
  rw [← hc, ← hn]
  have t0 : 0 ≤ f i / 2 + 128 * b2 c := by lia
  have t1 : f i / 2 + 128 * b2 c ≤ 255 := by lia
  generalize ht : f i / 2 + 128 * b2 c = t at t0 t1
  have hb : Builtin.bitAnd (f i) 1 = b2 n := by
    rw [bitAnd_m1, hn]
    unfold b2
    by_cases q : f i % 2 = 1
    · rw [q]; rfl
    · rw [if_neg (by simpa using q)]; lia
  have hsh : binV .RShift (.int (f i)) (.int 1) = some (.int (f i / 2)) := rfl
  refine run_next (fn := m_opROR) (L' := [some (.ref 1), some (.meth fa 1), some (.int t), some (.int i)]) (L0 := [some (.ref 1), some (.meth fa 1), none, none]) rfl rfl rfl (seq_then (adr_byte (j := 0) (k := 0) rfl rfl rfl hx i0 i1 rfl) ?_)
  refine seq_then (L1 := [some (.ref 1), some (.meth fa 1), some (.int t), some (.int i)]) (H1 := Hm f e { g with fl := setC g.fl n } r) ?_ (seq_then (do_nz (g := { g with fl := setC g.fl n }) (v := t) rfl rfl t0 t1) (s_one (adr_put (g := { g with fl := nzF (setC g.fl n) t }) i0 i1 rfl)))
  rw [s_ite (x := .int (b2 c)) (t := c) (H1 := Hm f e g r) (evalE_bin (x := .int (pOf g.fl)) (y := .int 1) rfl rfl (by rw [b_and, fl_c, hc])) (tr_b _ _)]
  cases c with
  | true =>
    refine seq_then (L1 := [some (.ref 1), some (.meth fa 1), some (.int (f i)), some (.int i)]) (H1 := Hm f e { g with fl := setC g.fl n } r) ?_ (s_one (s_set (evalE_bin (x := .int (f i / 2)) (y := .int 128) (H1 := Hm f e { g with fl := setC g.fl n } r) (evalE_bin (x := .int (f i)) (y := .int 1) rfl rfl hsh) rfl (by rw [b_or, or128 (by lia) (by lia), ← ht]; rfl)) (Nat.le_of_ble_eq_true rfl)))
    rw [s_ite (x := .int (b2 n)) (t := n) (H1 := Hm f e g r) (evalE_bin (x := .int (f i)) (y := .int 1) rfl rfl (by rw [b_and, hb])) (tr_b _ _)]
    cases n with
    | true =>
      have : setC g.fl true = g.fl := by unfold setC; rw [hc]
      rw [this]
      rfl
    | false => exact s_one (p_and rfl (k := Builtin.bitNot 1) rfl (fl_rc _))
  | false =>
    refine seq_then (L1 := [some (.ref 1), some (.meth fa 1), some (.int (f i)), some (.int i)]) (H1 := Hm f e { g with fl := setC g.fl n } r) ?_ (s_one (s_set (evalE_bin (x := .int (f i)) (y := .int 1) rfl rfl (by rw [hsh, ← ht]; show some (V.int (f i / 2)) = some (V.int (f i / 2 + 0)); rw [Int.add_zero])) (Nat.le_of_ble_eq_true rfl)))
    refine s_when (x := .int (b2 n)) (b := n) (evalE_bin (x := .int (f i)) (y := .int 1) rfl rfl (by rw [b_and, hb])) (tr_b _ _) (fun q => ?_) (fun q => ⟨rfl, ?_⟩)
    · subst q; exact s_one (p_or rfl (k := 1) rfl (fl_sc _))
    · subst q
      have : setC g.fl false = g.fl := by unfold setC; rw [hc]
      rw [this]
end
end Mine
end
section
open PySem PySem.W PySem.Calls PyProof.Rows
set_option autoImplicit false
set_option maxRecDepth 100000
namespace Mine
theorem b2r (c : Bool) : 0 ≤ b2 c ∧ b2 c ≤ 1 := by cases c <;> decide
theorem n128 {v : Int} (h0 : 0 ≤ v) (h1 : v ≤ 255) : Builtin.bitAnd v 128 = b2 (bO v) * 128 := by rw [and128, bt7 h0 h1]; rfl
section
variable {f : Int → Int} {e : Ext} {g : Rg} {r : Hp} {d : Nat} {fa : Addr} {i : Int} {cf : CallF}
theorem c_ADC (hx : callD cxL (d + 1) fa [.ref 1] (Hm f e g r) = some (.int i, Hm f e g r)) (i0 : 0 ≤ i) (i1 : i < 1024) (v0 : 0 ≤ f i) (v1 : f i ≤ 255) (a0 : 0 ≤ g.a) (a1 : g.a ≤ 255) : callD cxL (d + 2) 281 [.ref 1, .meth fa 1] (Hm f e g r) = some (.none, Hm f e { g with a := (g.a + f i + b2 g.fl.c) % 256, fl := sumF g.fl (g.a + f i + b2 g.fl.c) (ovf g.a (f i) (g.a + f i + b2 g.fl.c)) } r) := by
  obtain ⟨c, hc⟩ : ∃ c, c = g.fl.c := ⟨_, rfl⟩
  have cb := b2r c
  rw [← hc]
  generalize hm : f i = m at v0 v1
  have hw : m + g.a + b2 c = g.a + m + b2 c := by lia
  have w0 : 0 ≤ g.a + m + b2 c := by lia
  have w1 : g.a + m + b2 c ≤ 511 := by lia
  generalize g.a + m + b2 c = w at hw w0 w1
  have hov := ov_add a0 a1 v0 v1 w0
  generalize ovf g.a m w = v at hov
  have t0 : 0 ≤ w % 256 := by lia
  have t1 : w % 256 ≤ 255 := by lia
  refine run_next (fn := m_opADC) (L' := [some (.ref 1), some (.meth fa 1), some (.int (w % 256)), none, none, none, none, none, none, none, some (.int w), some (.int (b2 c))]) (L0 := [some (.ref 1), some (.meth fa 1), none, none, none, none, none, none, none, none, none, none]) rfl rfl rfl
    (seq_then (L1 := [some (.ref 1), some (.meth fa 1), some (.int m), none, none, none, none, none, none, none, none, none]) (H1 := Hm f e g r) (s_set (v := .int m) (by rw [get_byte rfl rfl hx i0 i1, hm]) (Nat.le_of_ble_eq_true rfl)) (s_one ?_))
  rw [s_ite (x := .int 0) (t := false) (H1 := Hm f e g r) (evalE_bin (x := .int (pOf g.fl)) (y := .int 8) rfl rfl (by rw [b_and, fl_d])) rfl]
  refine seq_then (L1 := [some (.ref 1), some (.meth fa 1), some (.int m), none, none, none, none, none, none, none, none, some (.int (b2 c))]) (H1 := Hm f e g r) ?_ ?_
  · rw [s_ite (x := .int (b2 c)) (t := c) (H1 := Hm f e g r) (evalE_bin (x := .int (pOf g.fl)) (y := .int 1) rfl rfl (by rw [b_and, fl_c, hc])) (tr_b _ _)]
    cases c <;> rfl
  refine seq_then (L1 := [some (.ref 1), some (.meth fa 1), some (.int m), none, none, none, none, none, none, none, some (.int w), some (.int (b2 c))]) (H1 := Hm f e g r) (s_set (evalE_bin (x := .int (m + g.a)) (y := .int (b2 c)) rfl rfl (by rw [b_add, hw])) (Nat.le_of_ble_eq_true rfl)) ?_
  refine seq_then (p_and rfl (k := Builtin.bitNot (Builtin.bitOr (Builtin.bitOr (Builtin.bitOr 1 64) 128) 2)) rfl (fl_cvnz _)) ?_
  refine seq_then (L1 := [some (.ref 1), some (.meth fa 1), some (.int m), none, none, none, none, none, none, none, some (.int w), some (.int (b2 c))]) (H1 := Hm f e { g with fl := ⟨false, false, g.fl.h, v, false⟩ } r) (s_when (x := .int (b2 v * 128)) (b := v) (evalE_bin (x := .int (Builtin.bitAnd (Builtin.bitNot (Builtin.bitXor g.a m)) (Builtin.bitXor g.a w))) (y := .int 128) (H1 := Hm f e { g with fl := ⟨false, false, g.fl.h, false, false⟩ } r) rfl rfl (by rw [b_and, hov])) (tr_b128 _ _) (fun q => ?_) (fun q => ⟨rfl, by rw [q]⟩)) ?_
  · subst q; exact s_one (p_or (g := { g with fl := ⟨false, false, g.fl.h, false, false⟩ }) rfl (k := 64) rfl (fl_v _ _ _ _))
  refine seq_then (L1 := [some (.ref 1), some (.meth fa 1), some (.int w), none, none, none, none, none, none, none, some (.int w), some (.int (b2 c))]) (H1 := Hm f e { g with fl := ⟨false, false, g.fl.h, v, false⟩ } r) (s_set rfl (Nat.le_of_ble_eq_true rfl)) ?_
  refine seq_then (L1 := [some (.ref 1), some (.meth fa 1), some (.int (w % 256)), none, none, none, none, none, none, none, some (.int w), some (.int (b2 c))]) (H1 := Hm f e { g with fl := ⟨decide (255 < w), false, g.fl.h, v, false⟩ } r) (s_when (x := .bool (decide (255 < w))) (b := decide (255 < w)) (e_cmp (x := .int w) (y := .int 255) rfl rfl rfl) rfl (fun q => ?_) (fun q => ?_)) ?_
  · rw [q]
    refine seq_then (p_or (g := { g with fl := ⟨false, false, g.fl.h, v, false⟩ }) rfl (k := 1) rfl (fl_sc _)) (s_one (s_aug (x := .int w) (y := .int 255) rfl rfl (by rw [b_and, bitAnd_m8]) (Nat.le_of_ble_eq_true rfl)))
  · have : w % 256 = w := by have := of_decide_eq_false q; lia
    rw [q, this]; exact ⟨rfl, rfl⟩
  refine seq_then (L1 := [some (.ref 1), some (.meth fa 1), some (.int (w % 256)), none, none, none, none, none, none, none, some (.int w), some (.int (b2 c))]) (H1 := Hm f e { g with fl := sumF g.fl w v } r) ?_ (s_one (s_attr (v := .int (w % 256)) (o := .ref 1) rfl rfl rfl rfl))
  unfold sumF
  generalize decide (255 < w) = cc
  generalize w % 256 = t at t0 t1
  rw [s_ite (x := .bool (t == 0)) (t := t == 0) (H1 := Hm f e { g with fl := ⟨cc, false, g.fl.h, v, false⟩ } r) (e_cmp (x := .int t) (y := .int 0) rfl rfl rfl) rfl]
  cases hz : (t == 0) with
  | true =>
    have := beq_iff_eq.mp hz
    subst this
    exact s_one (p_or (g := { g with fl := ⟨cc, false, g.fl.h, v, false⟩ }) rfl (k := 2) rfl (fl_z _ _ _))
  | false => exact s_one (p_or (g := { g with fl := ⟨cc, false, g.fl.h, v, false⟩ }) rfl (k := b2 (bO t) * 128) (evalE_bin (x := .int t) (y := .int 128) rfl rfl (by rw [b_and, n128 t0 t1])) (fl_n _ _ _ _ _))
theorem c_SBC (hx : callD cxL (d + 1) fa [.ref 1] (Hm f e g r) = some (.int i, Hm f e g r)) (i0 : 0 ≤ i) (i1 : i < 1024) (v0 : 0 ≤ f i) (v1 : f i ≤ 255) (a0 : 0 ≤ g.a) (a1 : g.a ≤ 255) : callD cxL (d + 2) 323 [.ref 1, .meth fa 1] (Hm f e g r) = some (.none, Hm f e { g with a := (g.a + (255 - f i) + b2 g.fl.c) % 256, fl := sumF g.fl (g.a + (255 - f i) + b2 g.fl.c) (ovf g.a (255 - f i) (g.a + (255 - f i) + b2 g.fl.c)) } r) := by
  obtain ⟨c, hc⟩ : ∃ c, c = g.fl.c := ⟨_, rfl⟩
  have cb := b2r c
  rw [← hc]
  generalize hm : f i = m at v0 v1
  have hn : Builtin.bitAnd (Builtin.bitNot m) 255 = 255 - m := by rw [bitAnd_m8, kbt_not]; lia
  have w0 : 0 ≤ g.a + (255 - m) + b2 c := by lia
  have w1 : g.a + (255 - m) + b2 c ≤ 511 := by lia
  generalize hw : g.a + (255 - m) + b2 c = w at w0 w1
  have hov := ov_sub a0 a1 v0 v1 w0
  generalize ovf g.a (255 - m) w = v at hov
  have t0 : 0 ≤ w % 256 := by lia
  have t1 : w % 256 ≤ 255 := by lia
  refine run_next (fn := m_opSBC) (L' := [some (.ref 1), some (.meth fa 1), some (.int (w % 256)), none, none, none, none, none, none, none, some (.int w)]) (L0 := [some (.ref 1), some (.meth fa 1), none, none, none, none, none, none, none, none, none]) rfl rfl rfl
    (seq_then (L1 := [some (.ref 1), some (.meth fa 1), some (.int m), none, none, none, none, none, none, none, none]) (H1 := Hm f e g r) (s_set (v := .int m) (by rw [get_byte rfl rfl hx i0 i1, hm]) (Nat.le_of_ble_eq_true rfl)) (s_one ?_))
  rw [s_ite (x := .int 0) (t := false) (H1 := Hm f e g r) (evalE_bin (x := .int (pOf g.fl)) (y := .int 8) rfl rfl (by rw [b_and, fl_d])) rfl]
  refine seq_then (L1 := [some (.ref 1), some (.meth fa 1), some (.int m), none, none, none, none, none, none, none, some (.int w)]) (H1 := Hm f e g r) (s_set (evalE_bin (x := .int (g.a + (255 - m))) (y := .int (b2 c)) (H1 := Hm f e g r) (evalE_bin (x := .int g.a) (y := .int (255 - m)) (H1 := Hm f e g r) rfl (evalE_bin (x := .int (Builtin.bitNot m)) (y := .int 255) rfl rfl (by rw [b_and, hn])) (b_add _ _)) (evalE_bin (x := .int (pOf g.fl)) (y := .int 1) rfl rfl (by rw [b_and, fl_c, hc])) (by rw [b_add, hw])) (Nat.le_of_ble_eq_true rfl)) ?_
  refine seq_then (p_and rfl (k := Builtin.bitNot (Builtin.bitOr (Builtin.bitOr (Builtin.bitOr 1 2) 64) 128)) rfl (fl_cvnz _)) ?_
  refine seq_then (L1 := [some (.ref 1), some (.meth fa 1), some (.int m), none, none, none, none, none, none, none, some (.int w)]) (H1 := Hm f e { g with fl := ⟨false, false, g.fl.h, v, false⟩ } r) (s_when (x := .int (b2 v * 128)) (b := v) (evalE_bin (x := .int (Builtin.bitAnd (Builtin.bitXor g.a m) (Builtin.bitXor g.a w))) (y := .int 128) (H1 := Hm f e { g with fl := ⟨false, false, g.fl.h, false, false⟩ } r) rfl rfl (by rw [b_and, hov])) (tr_b128 _ _) (fun q => ?_) (fun q => ⟨rfl, by rw [q]⟩)) ?_
  · subst q; exact s_one (p_or (g := { g with fl := ⟨false, false, g.fl.h, false, false⟩ }) rfl (k := 64) rfl (fl_v _ _ _ _))
  refine seq_then (L1 := [some (.ref 1), some (.meth fa 1), some (.int (w % 256)), none, none, none, none, none, none, none, some (.int w)]) (H1 := Hm f e { g with fl := ⟨false, false, g.fl.h, v, false⟩ } r) (s_set (evalE_bin (x := .int w) (y := .int 255) rfl rfl (by rw [b_and, bitAnd_m8])) (Nat.le_of_ble_eq_true rfl)) ?_
  unfold sumF
  have hcc : ∃ cc, cc = decide (255 < w) := ⟨_, rfl⟩
  obtain ⟨cc, hcc⟩ := hcc
  rw [← hcc]
  generalize w % 256 = t at t0 t1
  obtain ⟨z, hz⟩ : ∃ z, z = (t == 0) := ⟨_, rfl⟩
  rw [← hz]
  refine seq_then (L1 := [some (.ref 1), some (.meth fa 1), some (.int t), none, none, none, none, none, none, none, some (.int w)]) (H1 := Hm f e { g with fl := ⟨false, z, g.fl.h, v, false⟩ } r) (s_when (x := .bool z) (b := z) (by rw [hz]; exact e_cmp (x := .int t) (y := .int 0) rfl rfl rfl) rfl (fun q => ?_) (fun q => ⟨rfl, by rw [q]⟩)) ?_
  · rw [q]; exact s_one (p_or (g := { g with fl := ⟨false, false, g.fl.h, v, false⟩ }) rfl (k := 2) rfl (fl_z _ _ _))
  refine seq_then (L1 := [some (.ref 1), some (.meth fa 1), some (.int t), none, none, none, none, none, none, none, some (.int w)]) (H1 := Hm f e { g with fl := ⟨cc, z, g.fl.h, v, false⟩ } r) (s_when (x := .bool cc) (b := cc) (by rw [hcc]; exact e_cmp (x := .int w) (y := .int 255) rfl rfl rfl) rfl (fun q => ?_) (fun q => ⟨rfl, by rw [q]⟩)) ?_
  · rw [q]; exact s_one (p_or (g := { g with fl := ⟨false, z, g.fl.h, v, false⟩ }) rfl (k := 1) rfl (fl_sc _))
  refine seq_then (p_or (g := { g with fl := ⟨cc, z, g.fl.h, v, false⟩ }) rfl (k := b2 (bO t) * 128) (evalE_bin (x := .int t) (y := .int 128) rfl rfl (by rw [b_and, n128 t0 t1])) (fl_n _ _ _ _ _)) (s_one (s_attr (v := .int t) (o := .ref 1) rfl rfl rfl rfl))
theorem c_CMP {q : Int} (hx : callD cxL (d + 1) fa [.ref 1] (Hm f e g r) = some (.int i, Hm f e g r)) (i0 : 0 ≤ i) (i1 : i < 1024) (v0 : 0 ≤ f i) (v1 : f i ≤ 255) : callD cxL (d + 2) 316 [.ref 1, .meth fa 1, .int q] (Hm f e g r) = some (.none, Hm f e { g with fl := ⟨decide (f i ≤ q), q == f i, g.fl.h, g.fl.v, bO ((q - f i) % 256)⟩ } r) := by
  generalize hm : f i = m at v0 v1
  have hb : Builtin.bitAnd (q - m) 128 = b2 (bO ((q - m) % 256)) * 128 := by
    rw [and128]
    congr 1
    rw [show bO ((q - m) % 256) = decide (128 ≤ (q - m) % 256) from rfl, ← bt7 (v := (q - m) % 256) (by lia) (by lia)]
    show (q - m) / 128 % 2 = (q - m) % 256 / 128 % 2
    lia
  generalize bO ((q - m) % 256) = n at hb
  refine run_next (fn := m_opCMPR) (L' := [some (.ref 1), some (.meth fa 1), some (.int q), some (.int m)]) (L0 := [some (.ref 1), some (.meth fa 1), some (.int q), none]) rfl rfl rfl
    (seq_then (L1 := [some (.ref 1), some (.meth fa 1), some (.int q), some (.int m)]) (H1 := Hm f e g r) (s_set (v := .int m) (by rw [get_byte rfl rfl hx i0 i1, hm]) (Nat.le_of_ble_eq_true rfl)) ?_)
  refine seq_then (p_and rfl (k := Builtin.bitNot (Builtin.bitOr (Builtin.bitOr 1 2) 128)) rfl (fl_czn _)) ?_
  refine seq_then (L1 := [some (.ref 1), some (.meth fa 1), some (.int q), some (.int m)]) (H1 := Hm f e { g with fl := ⟨decide (m ≤ q), q == m, g.fl.h, g.fl.v, false⟩ } r) ?_ (s_one (p_or (g := { g with fl := ⟨decide (m ≤ q), q == m, g.fl.h, g.fl.v, false⟩ }) rfl (k := b2 n * 128) (evalE_bin (x := .int (q - m)) (y := .int 128) rfl rfl (by rw [b_and, hb])) (fl_n _ _ _ _ _)))
  rw [s_ite (x := .bool (q == m)) (t := q == m) (H1 := Hm f e { g with fl := ⟨false, false, g.fl.h, g.fl.v, false⟩ } r) (e_cmp (x := .int q) (y := .int m) rfl rfl rfl) rfl]
  by_cases hq : q = m
  · subst hq
    rw [decide_eq_true (Int.le_refl q), beq_self_eq_true]
    exact s_one (p_or (g := { g with fl := ⟨false, false, g.fl.h, g.fl.v, false⟩ }) rfl (k := Builtin.bitOr 1 2) rfl (fl_cz _ _))
  · rw [beq_eq_false_iff_ne.mpr hq, show decide (m ≤ q) = decide (m < q) by rw [decide_eq_decide]; lia]
    refine s_one (s_when (x := .bool (decide (m < q))) (b := decide (m < q)) (e_cmp (x := .int q) (y := .int m) rfl rfl rfl) rfl (fun z => ?_) (fun z => ⟨rfl, by rw [z]⟩))
    rw [z]; exact s_one (p_or (g := { g with fl := ⟨false, false, g.fl.h, g.fl.v, false⟩ }) rfl (k := 1) rfl (fl_sc _))
theorem c_pushW {z : Int} (s0 : 0 ≤ g.sp) (s1 : g.sp ≤ 255) (z0 : 0 ≤ z) (z1 : z < 65536) : callD cxL (d + 2) 183 [.ref 1, .int z] (Hm f e g r) = some (.none, Hm (upd (upd f (g.sp + 256) (z / 256)) ((g.sp - 1) % 256 + 256) (z % 256)) e { g with sp := ((g.sp - 1) % 256 - 1) % 256 } r) := by
  have p1 := c_push (f := f) (e := e) (g := g) (r := r) (d := d) (z := z / 256) s0 s1
  have p2 := c_push (f := upd f (g.sp + 256) (z / 256)) (e := e) (g := { g with sp := (g.sp - 1) % 256 }) (r := r) (d := d) (z := z % 256) (by dsimp only; lia) (by dsimp only; lia)
  rw [show z / 256 % 256 = z / 256 by lia] at p1
  rw [show z % 256 % 256 = z % 256 by lia] at p2
  refine run_next (fn := m_stPushWord) (L' := [some (.ref 1), some (.int z)]) (L0 := [some (.ref 1), some (.int z)]) rfl rfl rfl (seq_then (s_expr (e_mcall1 (l := 1) (f := 169) (fs := mkF e g) rfl rfl rfl rfl (evalE_bin (x := .int (z / 256)) (y := .int 255) (H1 := Hm f e g r) rfl rfl (by rw [b_and, bitAnd_m8, show z / 256 % 256 = z / 256 by lia])) p1)) (s_one (s_expr (e_mcall1 (l := 1) (f := 169) (fs := mkF e { g with sp := (g.sp - 1) % 256 }) rfl rfl rfl rfl (evalE_bin (x := .int z) (y := .int 255) rfl rfl (by rw [b_and, bitAnd_m8])) p2))))
theorem c_popW (b0 : ∀ j, 0 ≤ f j ∧ f j ≤ 255) : callD cxL (d + 3) 190 [.ref 1] (Hm f e g r) = some (.int (f ((g.sp + 1) % 256 + 256) + f (((g.sp + 1) % 256 + 1) % 256 + 256) * 256), Hm f e { g with sp := ((g.sp + 1) % 256 + 1) % 256 } r) := by
  have p1 := c_pop (f := f) (e := e) (g := g) (r := r) (d := d)
  have p2 := c_pop (f := f) (e := e) (g := { g with sp := (g.sp + 1) % 256 }) (r := r) (d := d)
  have b := b0 (((g.sp + 1) % 256 + 1) % 256 + 256)
  exact run_ret (fn := m_stPopWord) (L' := [some (.ref 1), some (.int (f ((g.sp + 1) % 256 + 256) + f (((g.sp + 1) % 256 + 1) % 256 + 256) * 256))]) (L0 := [some (.ref 1), none]) rfl rfl rfl (seq_then (L1 := [some (.ref 1), some (.int (f ((g.sp + 1) % 256 + 256)))]) (s_set (e_mcall (l := 1) (f := 176) (fs := mkF e g) rfl rfl rfl rfl p1) (Nat.le_of_ble_eq_true rfl))
    (seq_then (s_aug (x := .int (f ((g.sp + 1) % 256 + 256))) rfl (evalE_bin (e_mcall (l := 1) (f := 176) (fs := mkF e { g with sp := (g.sp + 1) % 256 }) rfl rfl rfl rfl p2) rfl (b_shl b.1 (by lia) 8 (by decide) (by decide))) (b_add _ _) (Nat.le_of_ble_eq_true rfl)) (seq_ret (s_ret rfl))))
end
end Mine
end
section
open PySem PySem.W PySem.Calls PyProof.Rows
set_option autoImplicit false
set_option maxRecDepth 100000
namespace Mine
def Stp (f : Int → Int) (g : Rg) (f' : Int → Int) (g' : Rg) : Prop := ∀ (r : Hp) (e : Ext), ∃ e', callD cxL 9 43 [.ref 1] (Hm f e g r) = some (.ref 1, Hm f' e' g' r)
def BOk (f : Int → Int) : Prop := ∀ j, 0 ≤ f j ∧ f j ≤ 255
section
variable {f f' : Int → Int} {e : Ext} {g g' : Rg} {r : Hp} {d : Nat} {cf : CallF}
theorem e_attrM {L : Loc} {H : Hp} {i a l : Nat} {fs : List (Nat × V)} {fa : Addr} (h0 : locV L i = some (.ref l)) (h1 : H[l]? = some (.inst fs)) (hc : cxL.cattr a = some (.fn fa)) (hf : fget fs a = none) : evalE cxL cf L (.attr i a) H = some (V.meth fa l, H) := by
  have hm : attrV cxL H (.ref l) a = some (V.meth fa l) := by
    show (match H[l]? with | some (.inst fs) => (match cxL.cattr a with | none => fget fs a | some ca => match fget fs a with | some _ => none | none => match ca with | .val v => some v | .fn f => some (V.meth f l)) | _ => none) = _
    rw [h1]
    show (match cxL.cattr a with | none => fget fs a | some ca => match fget fs a with | some _ => none | none => match ca with | .val v => some v | .fn f => some (V.meth f l)) = _
    rw [hc]
    show (match fget fs a with | some _ => none | none => some (V.meth fa l)) = _
    rw [hf]
  show (locV L i).bind _ = _
  rw [h0]
  show (attrV cxL H (.ref l) a).bind _ = _
  rw [hm]; rfl
theorem pc1 {L : Loc} (hs : locV L 0 = some (.ref 1)) : evalS cxL cf (.aug (.attr 0 10) .Add (.cst (.int 1))) L (Hm f e g r) = some (.next, L, Hm f e { g with pc := g.pc + 1 } r) :=
  s_augA (o := .ref 1) (x := .int g.pc) (y := .int 1) (z := .int (g.pc + 1)) hs rfl rfl rfl rfl rfl
theorem i_op {opI adI : Nat} {fI opA adA : Addr} (hf : cxL.fn fI = some { arity := 1, names := ["self"], body := .seq (.expr (.mcall 0 opI (.cons (.attr 0 adI) .nil))) (.seq (.aug (.attr 0 10) .Add (.cst (.int 1))) .skip) }) (ho : cxL.cattr opI = some (.fn opA)) (hn : fget (mkF e g) opI = none) (ha : cxL.cattr adI = some (.fn adA)) (hm : fget (mkF e g) adI = none)
    (hop : callD cxL d opA [.ref 1, .meth adA 1] (Hm f e g r) = some (.none, Hm f' e g' r)) : callD cxL (d + 1) fI [.ref 1] (Hm f e g r) = some (.none, Hm f' e { g' with pc := g'.pc + 1 } r) :=
  run_next (L' := [some (.ref 1)]) (L0 := [some (.ref 1)]) hf rfl rfl (seq_then (s_expr (e_mcall1 (l := 1) (fs := mkF e g) rfl rfl ho hn (e_attrM (l := 1) (fs := mkF e g) rfl rfl ha hm) hop)) (s_one (pc1 rfl)))
theorem c_step {code : Nat} {fI : Addr} {ex ct : Int} (hc : f g.pc = (code : Int)) (p0 : 0 ≤ g.pc) (p1 : g.pc < 1024) (h0 : code < 256) (h1 : lst_instruct[code]? = some (.kref fI)) (h2 : lst_extracycles[code]? = some (.int ex)) (h3 : lst_cycletime[code]? = some (.int ct))
    (hI : ∀ r e, ∃ e', callD cxL 8 fI [.ref 1] (Hm f e { g with pc := g.pc + 1 } r) = some (.none, Hm f' e' g' r)) (q0 : 0 ≤ g'.pc) (q1 : g'.pc < 65536) : Stp f g f' g' := by
  intro r e
  obtain ⟨e', hI⟩ := hI r ⟨0, .int ex, e.cy⟩
  have k : (code : Int) < 2 ^ 32 := by lia
  refine ⟨{ e' with cy := e'.cy + (ct + e'.ex) }, run_ret (fn := m_step) (L' := [some (.ref 1), some (.int (code : Int))]) (L0 := [some (.ref 1), none]) rfl rfl rfl ?_⟩
  refine seq_then (L1 := [some (.ref 1), some (.int (code : Int))]) (H1 := Hm f e g r) (s_set (e_subV (x := .ref 0) (vs := memL f) (k := g.pc) (H1 := Hm f e g r) (e_attr (l := 1) (fs := mkF e g) rfl rfl rfl rfl) rfl p0 (by lia) rfl (by rw [memL_get f p0 p1, hc])) (Nat.le_of_ble_eq_true rfl)) ?_
  refine seq_then (L1 := [some (.ref 1), some (.int (code : Int))]) (H1 := Hm f e { g with pc := g.pc + 1 } r) (s_attr (v := .int (g.pc + 1)) (o := .ref 1) (evalE_bin (x := .int (g.pc + 1)) (y := .int 65535) (H1 := Hm f e g r) rfl rfl (by rw [b_and, bitAnd_m16, show (g.pc + 1) % 65536 = g.pc + 1 by lia])) rfl rfl rfl) ?_
  refine seq_then (L1 := [some (.ref 1), some (.int (code : Int))]) (H1 := Hm f { e with ex := 0 } { g with pc := g.pc + 1 } r) rfl ?_
  refine seq_then (L1 := [some (.ref 1), some (.int (code : Int))]) (H1 := Hm f ⟨0, .int ex, e.cy⟩ { g with pc := g.pc + 1 } r) (s_attr (v := .int ex) (o := .ref 1) (e_subV (x := .kref 1425) (vs := lst_extracycles) (k := (code : Int)) (H1 := Hm f { e with ex := 0 } { g with pc := g.pc + 1 } r) (e_attrC (l := 1) (fs := mkF { e with ex := 0 } { g with pc := g.pc + 1 }) rfl rfl rfl rfl) rfl (by lia) k rfl h2) rfl rfl rfl) ?_
  refine seq_then (s_expr (e_callV1 (f := fI) (u := .ref 1) (e_subV (x := .kref 1423) (vs := lst_instruct) (k := (code : Int)) (H1 := Hm f ⟨0, .int ex, e.cy⟩ { g with pc := g.pc + 1 } r) (e_attrC (l := 1) (fs := mkF ⟨0, .int ex, e.cy⟩ { g with pc := g.pc + 1 }) rfl rfl rfl rfl) rfl (by lia) k rfl h1) rfl hI)) ?_
  refine seq_then (L1 := [some (.ref 1), some (.int (code : Int))]) (H1 := Hm f' e' g' r) (s_augA (o := .ref 1) (x := .int g'.pc) (y := .int 65535) (z := .int g'.pc) rfl rfl rfl rfl (by rw [b_and, bitAnd_m16, show g'.pc % 65536 = g'.pc by lia]) rfl) ?_
  exact seq_then (L1 := [some (.ref 1), some (.int (code : Int))]) (H1 := Hm f' { e' with cy := e'.cy + (ct + e'.ex) } g' r) (s_augA (o := .ref 1) (x := .int e'.cy) (y := .int (ct + e'.ex)) (z := .int (e'.cy + (ct + e'.ex))) rfl rfl rfl (evalE_bin (x := .int ct) (y := .int e'.ex) (H1 := Hm f' e' g' r) (e_subV (x := .kref 1424) (vs := lst_cycletime) (k := (code : Int)) (H1 := Hm f' e' g' r) (e_attrC (l := 1) (fs := mkF e' g') rfl rfl rfl rfl) rfl (by lia) k rfl h3) rfl rfl) rfl rfl) (seq_ret (s_ret rfl))
end
section
variable {f : Int → Int} {g : Rg}
structure GOk (g : Rg) : Prop where
  a : 0 ≤ g.a ∧ g.a ≤ 255
  x : 0 ≤ g.x ∧ g.x ≤ 255
  y : 0 ≤ g.y ∧ g.y ≤ 255
  sp : 0 ≤ g.sp ∧ g.sp ≤ 255
  pc : 0 ≤ g.pc ∧ g.pc < 1000
omit f g in
theorem xor_oct {a b : Int} (ha : 0 ≤ a ∧ a ≤ 255) (hb : 0 ≤ b ∧ b ≤ 255) : 0 ≤ Builtin.bitXor a b ∧ Builtin.bitXor a b ≤ 255 := by
  have h : ∀ k : Nat, ∀ a b : Int, 0 ≤ a → 0 ≤ b → a < 2 ^ k → b < 2 ^ k → 0 ≤ Builtin.bitXor a b ∧ Builtin.bitXor a b < 2 ^ k := by
    intro k
    induction k with
    | zero =>
      intro a b a0 b0 a1 b1
      have : a = 0 := by simp at a1; lia
      have : b = 0 := by simp at b1; lia
      subst a b
      decide
    | succ k ih =>
      intro a b a0 b0 a1 b1
      rw [Int.pow_succ] at *
      obtain ⟨h1, h2⟩ := ih (a / 2) (b / 2) (by lia) (by lia) (by lia) (by lia)
      obtain ⟨x1, x2⟩ := xor_half a b
      rw [← x1] at h1 h2
      lia
  have := h 8 a b ha.1 hb.1 (by lia) (by lia)
  lia
variable (B : BOk f) (G : GOk g)
include B G
theorem st_LDAi (hc : f g.pc = 169) : Stp f g f { g with pc := g.pc + 1 + 1, a := f (g.pc + 1), fl := nzF g.fl (f (g.pc + 1)) } :=
  have p := G.pc
  c_step (code := 169) hc (by lia) (by lia) (by decide) rfl rfl rfl (fun _ e => ⟨e, i_op rfl rfl rfl rfl rfl (c_LDA (g := { g with pc := g.pc + 1 }) c_pc (by (try dsimp only); lia) (by (try dsimp only); lia) (B _).1 (B _).2)⟩) (by (try dsimp only); lia) (by (try dsimp only); lia)
theorem st_LDXi (hc : f g.pc = 162) : Stp f g f { g with pc := g.pc + 1 + 1, x := f (g.pc + 1), fl := nzF g.fl (f (g.pc + 1)) } :=
  have p := G.pc
  c_step (code := 162) hc (by lia) (by lia) (by decide) rfl rfl rfl (fun _ e => ⟨e, i_op rfl rfl rfl rfl rfl (c_LDX (g := { g with pc := g.pc + 1 }) c_pc (by (try dsimp only); lia) (by (try dsimp only); lia) (B _).1 (B _).2)⟩) (by (try dsimp only); lia) (by (try dsimp only); lia)
theorem st_LDYi (hc : f g.pc = 160) : Stp f g f { g with pc := g.pc + 1 + 1, y := f (g.pc + 1), fl := nzF g.fl (f (g.pc + 1)) } :=
  have p := G.pc
  c_step (code := 160) hc (by lia) (by lia) (by decide) rfl rfl rfl (fun _ e => ⟨e, i_op rfl rfl rfl rfl rfl (c_LDY (g := { g with pc := g.pc + 1 }) c_pc (by (try dsimp only); lia) (by (try dsimp only); lia) (B _).1 (B _).2)⟩) (by (try dsimp only); lia) (by (try dsimp only); lia)
theorem st_ADCi (hc : f g.pc = 105) : Stp f g f { g with pc := g.pc + 1 + 1, a := (g.a + f (g.pc + 1) + b2 g.fl.c) % 256, fl := sumF g.fl (g.a + f (g.pc + 1) + b2 g.fl.c) (ovf g.a (f (g.pc + 1)) (g.a + f (g.pc + 1) + b2 g.fl.c)) } :=
  have p := G.pc
  c_step (code := 105) hc (by lia) (by lia) (by decide) rfl rfl rfl (fun _ e => ⟨e, i_op rfl rfl rfl rfl rfl (c_ADC (g := { g with pc := g.pc + 1 }) c_pc (by (try dsimp only); lia) (by (try dsimp only); lia) (B _).1 (B _).2 G.a.1 G.a.2)⟩) (by (try dsimp only); lia) (by (try dsimp only); lia)
theorem st_SBCi (hc : f g.pc = 233) : Stp f g f { g with pc := g.pc + 1 + 1, a := (g.a + (255 - f (g.pc + 1)) + b2 g.fl.c) % 256, fl := sumF g.fl (g.a + (255 - f (g.pc + 1)) + b2 g.fl.c) (ovf g.a (255 - f (g.pc + 1)) (g.a + (255 - f (g.pc + 1)) + b2 g.fl.c)) } :=
  have p := G.pc
  c_step (code := 233) hc (by lia) (by lia) (by decide) rfl rfl rfl (fun _ e => ⟨e, i_op rfl rfl rfl rfl rfl (c_SBC (g := { g with pc := g.pc + 1 }) c_pc (by (try dsimp only); lia) (by (try dsimp only); lia) (B _).1 (B _).2 G.a.1 G.a.2)⟩) (by (try dsimp only); lia) (by (try dsimp only); lia)
theorem st_STAz (hc : f g.pc = 133) : Stp f g (upd f (f (g.pc + 1)) g.a) { g with pc := g.pc + 1 + 1 } :=
  have p := G.pc
  c_step (code := 133) hc (by lia) (by lia) (by decide) rfl rfl rfl (fun _ e => ⟨e, i_op rfl rfl rfl rfl rfl (c_STA (g := { g with pc := g.pc + 1 }) (c_zp (g := { g with pc := g.pc + 1 }) (by (try dsimp only); lia) (by (try dsimp only); lia)) (B _).1 (by have := (B (g.pc + 1)).2; (try dsimp only); lia))⟩) (by (try dsimp only); lia) (by (try dsimp only); lia)
theorem st_STXz (hc : f g.pc = 134) : Stp f g (upd f (f (g.pc + 1)) g.x) { g with pc := g.pc + 1 + 1 } :=
  have p := G.pc
  c_step (code := 134) hc (by lia) (by lia) (by decide) rfl rfl rfl (fun _ e => ⟨e, i_op rfl rfl rfl rfl rfl (c_STX (g := { g with pc := g.pc + 1 }) (c_zp (g := { g with pc := g.pc + 1 }) (by (try dsimp only); lia) (by (try dsimp only); lia)) (B _).1 (by have := (B (g.pc + 1)).2; (try dsimp only); lia))⟩) (by (try dsimp only); lia) (by (try dsimp only); lia)
theorem st_ADCz (hc : f g.pc = 101) : Stp f g f { g with pc := g.pc + 1 + 1, a := (g.a + f (f (g.pc + 1)) + b2 g.fl.c) % 256, fl := sumF g.fl (g.a + f (f (g.pc + 1)) + b2 g.fl.c) (ovf g.a (f (f (g.pc + 1))) (g.a + f (f (g.pc + 1)) + b2 g.fl.c)) } :=
  have p := G.pc
  c_step (code := 101) hc (by lia) (by lia) (by decide) rfl rfl rfl (fun _ e => ⟨e, i_op rfl rfl rfl rfl rfl (c_ADC (g := { g with pc := g.pc + 1 }) (c_zp (g := { g with pc := g.pc + 1 }) (by (try dsimp only); lia) (by (try dsimp only); lia)) (B _).1 (by have := (B (g.pc + 1)).2; (try dsimp only); lia) (B _).1 (B _).2 G.a.1 G.a.2)⟩) (by (try dsimp only); lia) (by (try dsimp only); lia)
theorem st_INCz (hc : f g.pc = 230) : Stp f g (upd f (f (g.pc + 1)) ((f (f (g.pc + 1)) + 1) % 256)) { g with pc := g.pc + 1 + 1, fl := nzF g.fl ((f (f (g.pc + 1)) + 1) % 256) } :=
  have p := G.pc
  c_step (code := 230) hc (by lia) (by lia) (by decide) rfl rfl rfl (fun _ e => ⟨e, i_op rfl rfl rfl rfl rfl (c_INC (g := { g with pc := g.pc + 1 }) (c_zp (g := { g with pc := g.pc + 1 }) (by (try dsimp only); lia) (by (try dsimp only); lia)) (B _).1 (by have := (B (g.pc + 1)).2; (try dsimp only); lia))⟩) (by (try dsimp only); lia) (by (try dsimp only); lia)
theorem st_RORz (hc : f g.pc = 102) : Stp f g (upd f (f (g.pc + 1)) (f (f (g.pc + 1)) / 2 + 128 * b2 g.fl.c)) { g with pc := g.pc + 1 + 1, fl := nzF (setC g.fl (f (f (g.pc + 1)) % 2 == 1)) (f (f (g.pc + 1)) / 2 + 128 * b2 g.fl.c) } :=
  have p := G.pc
  c_step (code := 102) hc (by lia) (by lia) (by decide) rfl rfl rfl (fun _ e => ⟨e, i_op rfl rfl rfl rfl rfl (c_ROR (g := { g with pc := g.pc + 1 }) (c_zp (g := { g with pc := g.pc + 1 }) (by (try dsimp only); lia) (by (try dsimp only); lia)) (B _).1 (by have := (B (g.pc + 1)).2; (try dsimp only); lia) (B _).1 (B _).2)⟩) (by (try dsimp only); lia) (by (try dsimp only); lia)
theorem st_EORz (hc : f g.pc = 69) : Stp f g f { g with pc := g.pc + 1 + 1, a := (Builtin.bitXor g.a (f (f (g.pc + 1)))), fl := nzF g.fl (Builtin.bitXor g.a (f (f (g.pc + 1)))) } :=
  have p := G.pc
  c_step (code := 69) hc (by lia) (by lia) (by decide) rfl rfl rfl (fun _ e => ⟨e, i_op rfl rfl rfl rfl rfl (c_EOR (g := { g with pc := g.pc + 1 }) (c_zp (g := { g with pc := g.pc + 1 }) (by (try dsimp only); lia) (by (try dsimp only); lia)) (B _).1 (by have := (B (g.pc + 1)).2; (try dsimp only); lia) (xor_oct G.a (B _)).1 (xor_oct G.a (B _)).2)⟩) (by (try dsimp only); lia) (by (try dsimp only); lia)
theorem st_LDYz (hc : f g.pc = 164) : Stp f g f { g with pc := g.pc + 1 + 1, y := f (f (g.pc + 1)), fl := nzF g.fl (f (f (g.pc + 1))) } :=
  have p := G.pc
  c_step (code := 164) hc (by lia) (by lia) (by decide) rfl rfl rfl (fun _ e => ⟨e, i_op rfl rfl rfl rfl rfl (c_LDY (g := { g with pc := g.pc + 1 }) (c_zp (g := { g with pc := g.pc + 1 }) (by (try dsimp only); lia) (by (try dsimp only); lia)) (B _).1 (by have := (B (g.pc + 1)).2; (try dsimp only); lia) (B _).1 (B _).2)⟩) (by (try dsimp only); lia) (by (try dsimp only); lia)
theorem st_STXy (hc : f g.pc = 150) : Stp f g (upd f ((g.y + f (g.pc + 1)) % 256) g.x) { g with pc := g.pc + 1 + 1 } :=
  have p := G.pc
  c_step (code := 150) hc (by lia) (by lia) (by decide) rfl rfl rfl (fun _ e => ⟨e, i_op rfl rfl rfl rfl rfl (c_STX (g := { g with pc := g.pc + 1 }) (c_zpy (g := { g with pc := g.pc + 1 }) (by (try dsimp only); lia) (by (try dsimp only); lia)) (by (try dsimp only); lia) (by (try dsimp only); lia))⟩) (by (try dsimp only); lia) (by (try dsimp only); lia)
theorem st_LDXy (hc : f g.pc = 182) : Stp f g f { g with pc := g.pc + 1 + 1, x := f ((g.y + f (g.pc + 1)) % 256), fl := nzF g.fl (f ((g.y + f (g.pc + 1)) % 256)) } :=
  have p := G.pc
  c_step (code := 182) hc (by lia) (by lia) (by decide) rfl rfl rfl (fun _ e => ⟨e, i_op rfl rfl rfl rfl rfl (c_LDX (g := { g with pc := g.pc + 1 }) (c_zpy (g := { g with pc := g.pc + 1 }) (by (try dsimp only); lia) (by (try dsimp only); lia)) (by (try dsimp only); lia) (by (try dsimp only); lia) (B _).1 (B _).2)⟩) (by (try dsimp only); lia) (by (try dsimp only); lia)
theorem st_LDAx (hc : f g.pc = 181) : Stp f g f { g with pc := g.pc + 1 + 1, a := f ((g.x + f (g.pc + 1)) % 256), fl := nzF g.fl (f ((g.x + f (g.pc + 1)) % 256)) } :=
  have p := G.pc
  c_step (code := 181) hc (by lia) (by lia) (by decide) rfl rfl rfl (fun _ e => ⟨e, i_op rfl rfl rfl rfl rfl (c_LDA (g := { g with pc := g.pc + 1 }) (c_zpx (g := { g with pc := g.pc + 1 }) (by (try dsimp only); lia) (by (try dsimp only); lia)) (by (try dsimp only); lia) (by (try dsimp only); lia) (B _).1 (B _).2)⟩) (by (try dsimp only); lia) (by (try dsimp only); lia)
end
end Mine
end
section
open PySem PySem.W PySem.Calls PyProof.Rows
set_option autoImplicit false
set_option maxRecDepth 100000
namespace Mine
section
variable {f f' : Int → Int} {e : Ext} {g g' : Rg} {r : Hp} {d : Nat} {cf : CallF}
abbrev s1L : Loc := [some (.ref 1)]
theorem i_run {fI : Addr} {b : S} (hf : cxL.fn fI = some { arity := 1, names := ["self"], body := b }) {H H' : Hp} (h : evalS cxL (callD cxL d) b s1L H = some (.next, s1L, H')) : callD cxL (d + 1) fI [.ref 1] H = some (.none, H') :=
  run_next (L' := s1L) (L0 := s1L) hf rfl rfl h
theorem c_BST (c0 : f g.pc = 1) (p0 : 0 ≤ g.pc) (p1 : g.pc < 1000) : ∃ e', callD cxL (d + 4) 232 [.ref 1, .int 1] (Hm f e g r) = some (.none, Hm f e' { g with pc := g.pc + 1 + b2 g.fl.c } r) := by
  cases hc : g.fl.c with
  | false =>
    refine ⟨e, run_next (fn := m_opBST) (L' := [some (.ref 1), some (.int 1)]) (L0 := [some (.ref 1), some (.int 1)]) rfl rfl rfl (s_one ?_)⟩
    rw [s_ite (x := .int (b2 g.fl.c)) (t := g.fl.c) (H1 := Hm f e g r) (evalE_bin (x := .int (pOf g.fl)) (y := .int 1) rfl rfl (by rw [b_and, fl_c])) (tr_b _ _), hc, show g.pc + 1 + b2 false = g.pc + 1 by show g.pc + 1 + 0 = _; rw [Int.add_zero]]
    exact s_one (pc1 rfl)
  | true =>
    have hi : ∀ x : Int, evalE cxL (callD cxL (d + 2)) [some (.ref 1), some (.int x)] (.mcall 0 34 .nil) (Hm f { e with ex := e.ex + 1 } g r) = some (.int 1, Hm f { e with ex := e.ex + 1 } g r) := fun x =>
      e_mcall (l := 1) (f := 99) (fs := mkF { e with ex := e.ex + 1 } g) rfl rfl rfl rfl (run_ret (fn := m_ImmediateByte) (L' := s1L) (L0 := s1L) rfl rfl rfl (seq_ret (s_ret (e_mcall1 (l := 1) (f := 71) (fs := mkF { e with ex := e.ex + 1 } g) rfl rfl rfl rfl (e_attr (l := 1) (fs := mkF { e with ex := e.ex + 1 } g) rfl rfl rfl rfl) (by rw [c_ByteAt p0 (by lia), c0])))))
    have br : ∃ e', callD cxL (d + 3) 162 [.ref 1] (Hm f e g r) = some (.none, Hm f e' { g with pc := g.pc + 1 + 1 } r) := by
      obtain ⟨b, hb⟩ : ∃ b, b = (Builtin.bitAnd (g.pc + 1) 65280 != Builtin.bitAnd (g.pc + 1 + 1) 65280) := ⟨_, rfl⟩
      refine ⟨if b then { e with ex := e.ex + 1 + 1 } else { e with ex := e.ex + 1 }, run_next (fn := m_BranchRelAddr) (L' := [some (.ref 1), some (.int (g.pc + 1 + 1))]) (L0 := [some (.ref 1), none]) rfl rfl rfl ?_⟩
      refine seq_then (L1 := [some (.ref 1), none]) (H1 := Hm f { e with ex := e.ex + 1 } g r) rfl ?_
      refine seq_then (L1 := [some (.ref 1), some (.int 1)]) (H1 := Hm f { e with ex := e.ex + 1 } g r) (s_set (v := .int 1) (e_mcall (l := 1) (f := 99) (fs := mkF { e with ex := e.ex + 1 } g) rfl rfl rfl rfl (run_ret (fn := m_ImmediateByte) (L' := s1L) (L0 := s1L) rfl rfl rfl (seq_ret (s_ret (e_mcall1 (l := 1) (f := 71) (fs := mkF { e with ex := e.ex + 1 } g) rfl rfl rfl rfl (e_attr (l := 1) (fs := mkF { e with ex := e.ex + 1 } g) rfl rfl rfl rfl) (by rw [c_ByteAt p0 (by lia), c0])))))) (Nat.le_of_ble_eq_true rfl)) ?_
      refine seq_then (pc1 rfl) ?_
      refine seq_then (L1 := [some (.ref 1), some (.int (g.pc + 1 + 1))]) (H1 := Hm f { e with ex := e.ex + 1 } { g with pc := g.pc + 1 } r) ?_ ?_
      · rw [s_ite (x := .int 0) (t := false) (H1 := Hm f { e with ex := e.ex + 1 } { g with pc := g.pc + 1 } r) (evalE_bin (x := .int 1) (y := .int 128) rfl rfl rfl) rfl]
        exact s_one (s_set rfl (Nat.le_of_ble_eq_true rfl))
      refine seq_then (L1 := [some (.ref 1), some (.int (g.pc + 1 + 1))]) (H1 := Hm f (if b then { e with ex := e.ex + 1 + 1 } else { e with ex := e.ex + 1 }) { g with pc := g.pc + 1 } r) (s_when (x := .bool b) (b := b) (by rw [hb]; exact e_cmp (x := .int (Builtin.bitAnd (g.pc + 1) 65280)) (y := .int (Builtin.bitAnd (g.pc + 1 + 1) 65280)) rfl rfl rfl) rfl (fun q => by rw [q]; rfl) (fun q => by rw [q]; exact ⟨rfl, rfl⟩)) ?_
      exact s_one (s_attr (v := .int (g.pc + 1 + 1)) (o := .ref 1) (evalE_bin (x := .int (g.pc + 1 + 1)) (y := .int 65535) rfl rfl (by rw [b_and, bitAnd_m16, show (g.pc + 1 + 1) % 65536 = g.pc + 1 + 1 by lia])) rfl rfl rfl)
    obtain ⟨e', br⟩ := br
    refine ⟨e', run_next (fn := m_opBST) (L' := [some (.ref 1), some (.int 1)]) (L0 := [some (.ref 1), some (.int 1)]) rfl rfl rfl (s_one ?_)⟩
    rw [s_ite (x := .int (b2 g.fl.c)) (t := g.fl.c) (H1 := Hm f e g r) (evalE_bin (x := .int (pOf g.fl)) (y := .int 1) rfl rfl (by rw [b_and, fl_c])) (tr_b _ _), hc]
    exact s_one (s_expr (e_mcall (l := 1) (f := 162) (fs := mkF e g) rfl rfl rfl rfl br))
end
theorem pOf_oct (g : Flg) : 0 ≤ pOf g ∧ pOf g ≤ 255 := by
  have : ∀ c z h v n : Bool, 0 ≤ pOf ⟨c, z, h, v, n⟩ ∧ pOf ⟨c, z, h, v, n⟩ ≤ 255 := by decide
  exact this _ _ _ _ _
theorem BOk.upd {f : Int → Int} (B : BOk f) (i : Int) {v : Int} (h0 : 0 ≤ v) (h1 : v ≤ 255) : BOk (upd f i v) := by
  intro j
  unfold Mine.upd
  split
  · exact ⟨h0, h1⟩
  · exact B j
section
variable {f : Int → Int} {g : Rg} (B : BOk f) (G : GOk g)
include B G
theorem st_CMPi (hc : f g.pc = 201) : Stp f g f { g with pc := g.pc + 1 + 1, fl := ⟨decide (f (g.pc + 1) ≤ g.a), g.a == f (g.pc + 1), g.fl.h, g.fl.v, bO ((g.a - f (g.pc + 1)) % 256)⟩ } :=
  have p := G.pc
  have a := G.a
  have x := G.x
  have y := G.y
  have s := G.sp
  c_step (code := 201) hc (by lia) (by lia) (by decide) rfl rfl rfl (fun r e => ⟨e, i_run rfl (seq_then (s_expr (e_mcall2 (l := 1) (f := 316) (fs := mkF e { g with pc := g.pc + 1 }) rfl rfl rfl rfl (e_attrM (l := 1) (fs := mkF e { g with pc := g.pc + 1 }) rfl rfl rfl rfl) rfl (c_CMP (g := { g with pc := g.pc + 1 }) c_pc (by (try dsimp only); lia) (by (try dsimp only); lia) (B _).1 (B _).2))) (s_one (pc1 rfl)))⟩) (by (try dsimp only); lia) (by (try dsimp only); lia)
theorem st_ROL (hc : f g.pc = 42) : Stp f g f { g with pc := g.pc + 1, a := (2 * g.a + b2 g.fl.c) % 256, fl := nzF (setC g.fl (bO g.a)) ((2 * g.a + b2 g.fl.c) % 256) } :=
  have p := G.pc
  have a := G.a
  have x := G.x
  have y := G.y
  have s := G.sp
  c_step (code := 42) hc (by lia) (by lia) (by decide) rfl rfl rfl (fun r e => ⟨e, i_run rfl (s_one (s_expr (e_mcall1 (l := 1) (f := 267) (fs := mkF e { g with pc := g.pc + 1 }) rfl rfl rfl rfl rfl (c_ROL (g := { g with pc := g.pc + 1 }) a.1 a.2))))⟩) (by (try dsimp only); lia) (by (try dsimp only); lia)
theorem st_TAX (hc : f g.pc = 170) : Stp f g f { g with pc := g.pc + 1, x := g.a, fl := nzF g.fl g.a } :=
  have p := G.pc
  have a := G.a
  have x := G.x
  have y := G.y
  have s := G.sp
  c_step (code := 170) hc (by lia) (by lia) (by decide) rfl rfl rfl (fun r e => ⟨e, i_run rfl (seq_then (H1 := Hm f e { g with pc := g.pc + 1, x := g.a } r) rfl (s_one (do_nz (g := { g with pc := g.pc + 1, x := g.a }) rfl rfl a.1 a.2)))⟩) (by (try dsimp only); lia) (by (try dsimp only); lia)
theorem st_TXA (hc : f g.pc = 138) : Stp f g f { g with pc := g.pc + 1, a := g.x, fl := nzF g.fl g.x } :=
  have p := G.pc
  have a := G.a
  have x := G.x
  have y := G.y
  have s := G.sp
  c_step (code := 138) hc (by lia) (by lia) (by decide) rfl rfl rfl (fun r e => ⟨e, i_run rfl (seq_then (H1 := Hm f e { g with pc := g.pc + 1, a := g.x } r) rfl (s_one (do_nz (g := { g with pc := g.pc + 1, a := g.x }) rfl rfl x.1 x.2)))⟩) (by (try dsimp only); lia) (by (try dsimp only); lia)
theorem st_TYA (hc : f g.pc = 152) : Stp f g f { g with pc := g.pc + 1, a := g.y, fl := nzF g.fl g.y } :=
  have p := G.pc
  have a := G.a
  have x := G.x
  have y := G.y
  have s := G.sp
  c_step (code := 152) hc (by lia) (by lia) (by decide) rfl rfl rfl (fun r e => ⟨e, i_run rfl (seq_then (H1 := Hm f e { g with pc := g.pc + 1, a := g.y } r) rfl (s_one (do_nz (g := { g with pc := g.pc + 1, a := g.y }) rfl rfl y.1 y.2)))⟩) (by (try dsimp only); lia) (by (try dsimp only); lia)
theorem st_TAY (hc : f g.pc = 168) : Stp f g f { g with pc := g.pc + 1, y := g.a, fl := nzF g.fl g.a } :=
  have p := G.pc
  have a := G.a
  have x := G.x
  have y := G.y
  have s := G.sp
  c_step (code := 168) hc (by lia) (by lia) (by decide) rfl rfl rfl (fun r e => ⟨e, i_run rfl (seq_then (H1 := Hm f e { g with pc := g.pc + 1, y := g.a } r) rfl (s_one (do_nz (g := { g with pc := g.pc + 1, y := g.a }) rfl rfl a.1 a.2)))⟩) (by (try dsimp only); lia) (by (try dsimp only); lia)
theorem st_TSX (hc : f g.pc = 186) : Stp f g f { g with pc := g.pc + 1, x := g.sp, fl := nzF g.fl g.sp } :=
  have p := G.pc
  have a := G.a
  have x := G.x
  have y := G.y
  have s := G.sp
  c_step (code := 186) hc (by lia) (by lia) (by decide) rfl rfl rfl (fun r e => ⟨e, i_run rfl (seq_then (H1 := Hm f e { g with pc := g.pc + 1, x := g.sp } r) rfl (s_one (do_nz (g := { g with pc := g.pc + 1, x := g.sp }) rfl rfl s.1 s.2)))⟩) (by (try dsimp only); lia) (by (try dsimp only); lia)
theorem st_TXS (hc : f g.pc = 154) : Stp f g f { g with pc := g.pc + 1, sp := g.x } :=
  have p := G.pc
  have a := G.a
  have x := G.x
  have y := G.y
  have s := G.sp
  c_step (code := 154) hc (by lia) (by lia) (by decide) rfl rfl rfl (fun r e => ⟨e, i_run rfl (s_one rfl)⟩) (by (try dsimp only); lia) (by (try dsimp only); lia)
theorem st_PHA (hc : f g.pc = 72) : Stp f g (upd f (g.sp + 256) g.a) { g with pc := g.pc + 1, sp := (g.sp - 1) % 256 } :=
  have p := G.pc
  have a := G.a
  have x := G.x
  have y := G.y
  have s := G.sp
  c_step (code := 72) hc (by lia) (by lia) (by decide) rfl rfl rfl (fun r e => ⟨e, by
    have h := c_push (f := f) (e := e) (g := { g with pc := g.pc + 1 }) (r := r) (d := 6) (z := g.a) s.1 s.2
    rw [show g.a % 256 = g.a by lia] at h
    exact i_run rfl (s_one (s_expr (e_mcall1 (l := 1) (f := 169) (fs := mkF e { g with pc := g.pc + 1 }) rfl rfl rfl rfl rfl h)))⟩) (by (try dsimp only); lia) (by (try dsimp only); lia)
theorem st_PHP (hc : f g.pc = 8) : Stp f g (upd f (g.sp + 256) (pOf g.fl)) { g with pc := g.pc + 1, sp := (g.sp - 1) % 256 } :=
  have p := G.pc
  have a := G.a
  have x := G.x
  have y := G.y
  have s := G.sp
  c_step (code := 8) hc (by lia) (by lia) (by decide) rfl rfl rfl (fun r e => ⟨e, by
    have h := c_push (f := f) (e := e) (g := { g with pc := g.pc + 1 }) (r := r) (d := 6) (z := pOf g.fl) s.1 s.2
    rw [show pOf g.fl % 256 = pOf g.fl by have := pOf_oct g.fl; lia] at h
    exact i_run rfl (s_one (s_expr (e_mcall1 (l := 1) (f := 169) (fs := mkF e { g with pc := g.pc + 1 }) rfl rfl rfl rfl (evalE_bin (x := .int (Builtin.bitOr (pOf g.fl) 16)) (y := .int 32) (H1 := Hm f e { g with pc := g.pc + 1 } r) rfl rfl (by rw [b_or, fl_bu])) h)))⟩) (by (try dsimp only); lia) (by (try dsimp only); lia)
theorem st_PLA (hc : f g.pc = 104) : Stp f g f { g with pc := g.pc + 1, sp := ((g.sp + 1) % 256), a := f (((g.sp + 1) % 256) + 256), fl := nzF g.fl (f (((g.sp + 1) % 256) + 256)) } :=
  have p := G.pc
  have a := G.a
  have x := G.x
  have y := G.y
  have s := G.sp
  c_step (code := 104) hc (by lia) (by lia) (by decide) rfl rfl rfl (fun r e => ⟨e, i_run rfl (seq_then (H1 := Hm f e { g with pc := g.pc + 1, sp := ((g.sp + 1) % 256), a := f (((g.sp + 1) % 256) + 256) } r) (s_attr (v := .int (f (((g.sp + 1) % 256) + 256))) (o := .ref 1) (e_mcall (l := 1) (f := 176) (fs := mkF e { g with pc := g.pc + 1 }) rfl rfl rfl rfl (c_pop (d := 5))) rfl rfl rfl) (s_one (do_nz (g := { g with pc := g.pc + 1, sp := ((g.sp + 1) % 256), a := f (((g.sp + 1) % 256) + 256) }) rfl rfl (B _).1 (B _).2)))⟩) (by (try dsimp only); lia) (by (try dsimp only); lia)
theorem st_PLP (hc : f g.pc = 40) {fl' : Flg} (hp : f (((g.sp + 1) % 256) + 256) = pOf fl') : Stp f g f { g with pc := g.pc + 1, sp := ((g.sp + 1) % 256), fl := fl' } :=
  have p := G.pc
  have a := G.a
  have x := G.x
  have y := G.y
  have s := G.sp
  c_step (code := 40) hc (by lia) (by lia) (by decide) rfl rfl rfl (fun r e => ⟨e, i_run rfl (s_one (s_attr (v := .int (pOf fl')) (o := .ref 1) (evalE_bin (x := .int (Builtin.bitOr (pOf fl') 16)) (y := .int 32) (H1 := Hm f e { g with pc := g.pc + 1, sp := ((g.sp + 1) % 256) } r) (evalE_bin (x := .int (pOf fl')) (y := .int 16) (H1 := Hm f e { g with pc := g.pc + 1, sp := ((g.sp + 1) % 256) } r) (by rw [← hp]; exact e_mcall (l := 1) (f := 176) (fs := mkF e { g with pc := g.pc + 1 }) rfl rfl rfl rfl (c_pop (d := 5))) rfl rfl) rfl (by rw [b_or, fl_bu])) rfl rfl rfl))⟩) (by (try dsimp only); lia) (by (try dsimp only); lia)
theorem st_DEX (hc : f g.pc = 202) : Stp f g f { g with pc := g.pc + 1, x := ((g.x - 1) % 256), fl := nzF g.fl ((g.x - 1) % 256) } :=
  have p := G.pc
  have a := G.a
  have x := G.x
  have y := G.y
  have s := G.sp
  c_step (code := 202) hc (by lia) (by lia) (by decide) rfl rfl rfl (fun r e => ⟨e, i_run rfl (seq_then (H1 := Hm f e { g with pc := g.pc + 1, x := g.x - 1 } r) rfl (seq_then (L1 := s1L) (H1 := Hm f e { g with pc := g.pc + 1, x := ((g.x - 1) % 256) } r) (s_augA (o := .ref 1) (x := .int (g.x - 1)) (y := .int 255) (z := .int ((g.x - 1) % 256)) rfl rfl rfl rfl (by rw [b_and, bitAnd_m8]) rfl) (s_one (do_nz (g := { g with pc := g.pc + 1, x := ((g.x - 1) % 256) }) rfl rfl (by (try dsimp only); lia) (by (try dsimp only); lia)))))⟩) (by (try dsimp only); lia) (by (try dsimp only); lia)
theorem st_INY (hc : f g.pc = 200) : Stp f g f { g with pc := g.pc + 1, y := ((g.y + 1) % 256), fl := nzF g.fl ((g.y + 1) % 256) } :=
  have p := G.pc
  have a := G.a
  have x := G.x
  have y := G.y
  have s := G.sp
  c_step (code := 200) hc (by lia) (by lia) (by decide) rfl rfl rfl (fun r e => ⟨e, i_run rfl (seq_then (H1 := Hm f e { g with pc := g.pc + 1, y := g.y + 1 } r) rfl (seq_then (L1 := s1L) (H1 := Hm f e { g with pc := g.pc + 1, y := ((g.y + 1) % 256) } r) (s_augA (o := .ref 1) (x := .int (g.y + 1)) (y := .int 255) (z := .int ((g.y + 1) % 256)) rfl rfl rfl rfl (by rw [b_and, bitAnd_m8]) rfl) (s_one (do_nz (g := { g with pc := g.pc + 1, y := ((g.y + 1) % 256) }) rfl rfl (by (try dsimp only); lia) (by (try dsimp only); lia)))))⟩) (by (try dsimp only); lia) (by (try dsimp only); lia)
theorem st_BCS (hc : f g.pc = 176) (h1 : f (g.pc + 1) = 1) (p2 : g.pc < 990) : Stp f g f { g with pc := g.pc + 1 + 1 + b2 g.fl.c } :=
  have p := G.pc
  have a := G.a
  have x := G.x
  have y := G.y
  have s := G.sp
  have cb := b2r g.fl.c
  c_step (code := 176) hc (by lia) (by lia) (by decide) rfl rfl rfl (fun r e => by
    obtain ⟨e', h⟩ := c_BST (f := f) (e := e) (g := { g with pc := g.pc + 1 }) (r := r) (d := 3) h1 (by (try dsimp only); lia) (by (try dsimp only); lia)
    exact ⟨e', i_run rfl (s_one (s_expr (e_mcall1 (l := 1) (f := 232) (fs := mkF e { g with pc := g.pc + 1 }) rfl rfl rfl rfl (e_attrC (l := 1) (fs := mkF e { g with pc := g.pc + 1 }) (v := .int 1) rfl rfl rfl rfl) h)))⟩) (by (try dsimp only); lia) (by (try dsimp only); lia)
theorem st_JMP (hc : f g.pc = 76) : Stp f g f { g with pc := f (g.pc + 1) + f (g.pc + 1 + 1) * 256 } :=
  have p := G.pc
  have a := G.a
  have x := G.x
  have y := G.y
  have s := G.sp
  have w1 := B (g.pc + 1)
  have w2 := B (g.pc + 1 + 1)
  c_step (code := 76) hc (by lia) (by lia) (by decide) rfl rfl rfl (fun r e => ⟨e, i_run rfl (s_one (s_attr (v := .int (f (g.pc + 1) + f (g.pc + 1 + 1) * 256)) (o := .ref 1) (e_mcall1 (l := 1) (f := 78) (fs := mkF e { g with pc := g.pc + 1 }) rfl rfl rfl rfl (e_attr (l := 1) (fs := mkF e { g with pc := g.pc + 1 }) rfl rfl rfl rfl) (c_WordAt (d := 5) (by (try dsimp only); lia) (by (try dsimp only); lia) (B _).1 (B _).2)) rfl rfl rfl))⟩) (by (try dsimp only); lia) (by (try dsimp only); lia)
theorem st_JSR (hc : f g.pc = 32) : Stp f g (upd (upd f (g.sp + 256) ((g.pc + 1 + 1) / 256)) ((g.sp - 1) % 256 + 256) ((g.pc + 1 + 1) % 256)) { g with pc := (upd (upd f (g.sp + 256) ((g.pc + 1 + 1) / 256)) ((g.sp - 1) % 256 + 256) ((g.pc + 1 + 1) % 256)) (g.pc + 1) + (upd (upd f (g.sp + 256) ((g.pc + 1 + 1) / 256)) ((g.sp - 1) % 256 + 256) ((g.pc + 1 + 1) % 256)) (g.pc + 1 + 1) * 256, sp := ((g.sp - 1) % 256 - 1) % 256 } :=
  have p := G.pc
  have a := G.a
  have x := G.x
  have y := G.y
  have s := G.sp
  have BB : BOk (upd (upd f (g.sp + 256) ((g.pc + 1 + 1) / 256)) ((g.sp - 1) % 256 + 256) ((g.pc + 1 + 1) % 256)) := (B.upd _ (by lia) (by lia)).upd _ (by lia) (by lia)
  have w1 := BB (g.pc + 1)
  have w2 := BB (g.pc + 1 + 1)
  c_step (code := 32) hc (by lia) (by lia) (by decide) rfl rfl rfl (fun r e => ⟨e, by
    have h := c_pushW (f := f) (e := e) (g := { g with pc := g.pc + 1 }) (r := r) (d := 5) (z := g.pc + 1 + 1) s.1 s.2 (by lia) (by lia)
    exact i_run rfl (seq_then (s_expr (e_mcall1 (l := 1) (f := 183) (fs := mkF e { g with pc := g.pc + 1 }) rfl rfl rfl rfl (evalE_bin (x := .int (g.pc + 1 + 1)) (y := .int 65535) (H1 := Hm f e { g with pc := g.pc + 1 } r) rfl rfl (by rw [b_and, bitAnd_m16, show (g.pc + 1 + 1) % 65536 = g.pc + 1 + 1 by lia])) h)) (s_one (s_attr (v := .int ((upd (upd f (g.sp + 256) ((g.pc + 1 + 1) / 256)) ((g.sp - 1) % 256 + 256) ((g.pc + 1 + 1) % 256)) (g.pc + 1) + (upd (upd f (g.sp + 256) ((g.pc + 1 + 1) / 256)) ((g.sp - 1) % 256 + 256) ((g.pc + 1 + 1) % 256)) (g.pc + 1 + 1) * 256)) (o := .ref 1) (e_mcall1 (l := 1) (f := 78) (fs := mkF e { g with pc := g.pc + 1, sp := ((g.sp - 1) % 256 - 1) % 256 }) rfl rfl rfl rfl rfl (c_WordAt (f := (upd (upd f (g.sp + 256) ((g.pc + 1 + 1) / 256)) ((g.sp - 1) % 256 + 256) ((g.pc + 1 + 1) % 256))) (e := e) (g := { g with pc := g.pc + 1, sp := ((g.sp - 1) % 256 - 1) % 256 }) (r := r) (d := 5) (i := g.pc + 1) (by lia) (by lia) w2.1 w2.2)) rfl rfl rfl)))⟩) (by (try dsimp only); lia) (by (try dsimp only); lia)
theorem st_RTS (hc : f g.pc = 96) (hz : f (((g.sp + 1) % 256) + 256) + f (((((g.sp + 1) % 256) + 1) % 256) + 256) * 256 < 65535) : Stp f g f { g with pc := f (((g.sp + 1) % 256) + 256) + f (((((g.sp + 1) % 256) + 1) % 256) + 256) * 256 + 1, sp := ((((g.sp + 1) % 256) + 1) % 256) } :=
  have p := G.pc
  have a := G.a
  have x := G.x
  have y := G.y
  have s := G.sp
  have w1 := B (((g.sp + 1) % 256) + 256)
  have w2 := B (((((g.sp + 1) % 256) + 1) % 256) + 256)
  c_step (code := 96) hc (by lia) (by lia) (by decide) rfl rfl rfl (fun r e => ⟨e, i_run rfl (seq_then (H1 := Hm f e { g with pc := f (((g.sp + 1) % 256) + 256) + f (((((g.sp + 1) % 256) + 1) % 256) + 256) * 256, sp := ((((g.sp + 1) % 256) + 1) % 256) } r) (s_attr (v := .int (f (((g.sp + 1) % 256) + 256) + f (((((g.sp + 1) % 256) + 1) % 256) + 256) * 256)) (o := .ref 1) (e_mcall (l := 1) (f := 190) (fs := mkF e { g with pc := g.pc + 1 }) rfl rfl rfl rfl (c_popW (d := 4) B)) rfl rfl rfl) (s_one (pc1 (g := { g with pc := f (((g.sp + 1) % 256) + 256) + f (((((g.sp + 1) % 256) + 1) % 256) + 256) * 256, sp := ((((g.sp + 1) % 256) + 1) % 256) }) rfl)))⟩) (by (try dsimp only); lia) (by (try dsimp only); lia)
end
end Mine
end
section
open PySem PySem.W PySem.Calls PyProof.Rows
set_option autoImplicit false
set_option maxRecDepth 100000
namespace Mine
structure Ord where
  k : Nat
  v : Int
  c : Int
structure Al where
  a : Int
  x : Int
  y : Int
  fl : Flg
  stk : List Int
  ce : Int → Int
noncomputable def nzA (s : Al) (t : Int) : Al := { s with a := t, fl := nzF s.fl t }
noncomputable def nzX (s : Al) (t : Int) : Al := { s with x := t, fl := nzF s.fl t }
noncomputable def nzY (s : Al) (t : Int) : Al := { s with y := t, fl := nzF s.fl t }
noncomputable def adS (s : Al) (m : Int) : Al := { s with a := (s.a + m + b2 s.fl.c) % 256, fl := sumF s.fl (s.a + m + b2 s.fl.c) (ovf s.a m (s.a + m + b2 s.fl.c)) }
noncomputable def topS (s : Al) : Int := s.stk.getLast?.getD 0
noncomputable def AStep (b : Int) (o : Ord) (s : Al) : Al :=
  if o.k = 0 then nzA s o.v
  else if o.k = 1 then nzX s o.v
  else if o.k = 2 then nzY s o.v
  else if o.k = 3 then adS s o.v
  else if o.k = 4 then adS s (255 - o.v)
  else if o.k = 5 then { s with fl := ⟨decide (o.v ≤ s.a), s.a == o.v, s.fl.h, s.fl.v, bO ((s.a - o.v) % 256)⟩ }
  else if o.k = 6 then { s with ce := upd s.ce o.c s.a }
  else if o.k = 7 then adS s (s.ce o.c)
  else if o.k = 8 then { s with ce := upd s.ce o.c ((s.ce o.c + 1) % 256), fl := nzF s.fl ((s.ce o.c + 1) % 256) }
  else if o.k = 9 then { s with a := (2 * s.a + b2 s.fl.c) % 256, fl := nzF (setC s.fl (bO s.a)) ((2 * s.a + b2 s.fl.c) % 256) }
  else if o.k = 10 then { s with ce := upd s.ce o.c (s.ce o.c / 2 + 128 * b2 s.fl.c), fl := nzF (setC s.fl (s.ce o.c % 2 == 1)) (s.ce o.c / 2 + 128 * b2 s.fl.c) }
  else if o.k = 11 then nzA s (Builtin.bitXor s.a (s.ce o.c))
  else if o.k = 12 then nzX s s.a
  else if o.k = 13 then nzA s s.y
  else if o.k = 14 then { s with stk := s.stk ++ [s.a] }
  else if o.k = 15 then { nzA s (topS s) with stk := s.stk.dropLast }
  else if o.k = 16 then nzX s ((s.x - 1) % 256)
  else if o.k = 17 then nzY s ((s.y + 1) % 256)
  else if o.k = 18 then (if s.fl.c then s else nzY s ((s.y + 1) % 256))
  else nzX s (b - s.stk.length)
noncomputable def codesL : List Int := [169, 162, 160, 105, 233, 201, 133, 101, 230, 42, 102, 69, 170, 152, 72, 104, 202, 200, 176, 186]
noncomputable def opnd (o : Ord) : List Int := if o.k < 6 then [o.v] else if o.k = 6 ∨ o.k = 7 ∨ o.k = 8 ∨ o.k = 10 ∨ o.k = 11 then [o.c] else if o.k = 18 then [1, 200] else []
noncomputable def encB (o : Ord) : List Int := codesL.getD o.k 0 :: opnd o
noncomputable def Oct (f : Int → Int) : Int → List Int → Prop
  | _, [] => True
  | p, x :: r => f p = x ∧ Oct f (p + 1) r
noncomputable abbrev rg (p b : Int) (s : Al) : Rg := ⟨p, s.a, s.x, s.y, b - s.stk.length, s.fl⟩
inductive Run (K : Int → Prop) : Nat → (Int → Int) → Rg → (Int → Int) → Rg → Prop
  | nil {f : Int → Int} {g : Rg} : Run K 0 f g f g
  | cons {f f1 f' : Int → Int} {g g1 g' : Rg} {n : Nat} : Stp f g f1 g1 → K g.pc → Run K n f1 g1 f' g' → Run K (n + 1) f g f' g'
structure VOk (b : Int) (s : Al) : Prop where
  a : 0 ≤ s.a ∧ s.a ≤ 255
  x : 0 ≤ s.x ∧ s.x ≤ 255
  y : 0 ≤ s.y ∧ s.y ≤ 255
  stk : ∀ v ∈ s.stk, 0 ≤ v ∧ v ≤ 255
  ce : BOk s.ce
structure Act (f : Int → Int) (b lo : Int) (s : Al) : Prop where
  ce : ∀ j, lo ≤ j → j < lo + 16 → f j = s.ce j
  stk : ∀ (i : Nat) (v : Int), s.stk[i]? = some v → f (256 + b - i) = v
structure OkO (lo : Int) (o : Ord) (s : Al) : Prop where
  k : o.k < 20
  v : 0 ≤ o.v ∧ o.v ≤ 255
  c : lo ≤ o.c ∧ o.c < lo + 16
  pop : o.k = 15 → s.stk ≠ []
def OrdTo (K : Int → Prop) (f : Int → Int) (b lo p : Int) (s : Al) (p' : Int) (s' : Al) : Prop :=
  ∃ n f', n ≤ 2 ∧ Run K n f (rg p b s) f' (rg p' b s') ∧ BOk f' ∧ Act f' b lo s' ∧ VOk b s' ∧ ∀ j, j ≠ 256 + (b - s.stk.length) → (j < lo ∨ lo + 16 ≤ j) → f' j = f j
theorem all20 {P : Nat → Prop} (h0 : P 0) (h1 : P 1) (h2 : P 2) (h3 : P 3) (h4 : P 4) (h5 : P 5) (h6 : P 6) (h7 : P 7) (h8 : P 8) (h9 : P 9) (h10 : P 10) (h11 : P 11) (h12 : P 12) (h13 : P 13) (h14 : P 14) (h15 : P 15) (h16 : P 16) (h17 : P 17) (h18 : P 18) (h19 : P 19) : ∀ k, k < 20 → P k
  | 0, _ => h0 | 1, _ => h1 | 2, _ => h2 | 3, _ => h3 | 4, _ => h4 | 5, _ => h5 | 6, _ => h6 | 7, _ => h7 | 8, _ => h8 | 9, _ => h9 | 10, _ => h10 | 11, _ => h11 | 12, _ => h12 | 13, _ => h13 | 14, _ => h14 | 15, _ => h15 | 16, _ => h16 | 17, _ => h17 | 18, _ => h18 | 19, _ => h19
  | k + 20, h => absurd h (by lia)
section
variable {K : Int → Prop} {f f' : Int → Int} {b lo p p' : Int} {s s' : Al}
theorem Run.one {g g' : Rg} (h : Stp f g f' g') (k : K g.pc) : Run K 1 f g f' g' := .cons h k .nil
theorem ot_reg (B : BOk f) (A : Act f b lo s) (V' : VOk b s') (k : K p) (h : Stp f (rg p b s) f (rg p' b s')) (e1 : s'.stk = s.stk) (e2 : s'.ce = s.ce) : OrdTo K f b lo p s p' s' :=
  ⟨1, f, by decide, .one h k, B, ⟨by rw [e2]; exact A.ce, by rw [e1]; exact A.stk⟩, V', fun _ _ _ => rfl⟩
theorem ot_cell {c t : Int} (B : BOk f) (A : Act f b lo s) (V' : VOk b s') (k : K p) (h : Stp f (rg p b s) (upd f c t) (rg p' b s')) (t0 : 0 ≤ t) (t1 : t ≤ 255) (c0 : lo ≤ c) (c1 : c < lo + 16) (e1 : s'.stk = s.stk) (e2 : s'.ce = upd s.ce c t) (hl : lo < 200) (hs : ∀ (i : Nat) (v : Int), s.stk[i]? = some v → 250 ≤ 256 + b - (i : Int)) : OrdTo K f b lo p s p' s' := by
  refine ⟨1, _, by decide, .one h k, B.upd _ t0 t1, ⟨fun j h0 h1 => ?_, fun i v hv => ?_⟩, V', fun j _ h2 => ?_⟩
  · rw [e2]
    unfold upd
    split
    · rfl
    · exact A.ce j h0 h1
  · rw [e1] at hv
    have := hs i v hv
    show (if 256 + b - (i : Int) = c then t else f (256 + b - i)) = v
    rw [if_neg (by lia)]
    exact A.stk i v hv
  · show (if j = c then t else f j) = f j
    rw [if_neg (by lia)]
end
end Mine
end
section
open PySem PySem.W PySem.Calls PyProof.Rows
set_option autoImplicit false
set_option maxRecDepth 100000
namespace Mine
structure Ctx (K : Int → Prop) (f : Int → Int) (b lo p : Int) (o : Ord) (s : Al) : Prop where
  B : BOk f
  A : Act f b lo s
  V : VOk b s
  O : OkO lo o s
  k2 : o.k = 18 → K (p + 1 + 1)
  o : Oct f p (encB o)
  k0 : K p
  p0 : 512 ≤ p
  p1 : p < 900
  b0 : 63 ≤ b
  b1 : b ≤ 255
  l : s.stk.length ≤ 12
  l0 : 0 ≤ lo
  l1 : lo ≤ 48
section
variable {K : Int → Prop} {f f' : Int → Int} {b lo p p' : Int} {s s' : Al} {o : Ord}
theorem Ctx.G (X : Ctx K f b lo p o s) : GOk (rg p b s) := ⟨X.V.a, X.V.x, X.V.y, by have := X.b0; have := X.b1; have := X.l; dsimp only; lia, by have := X.p0; have := X.p1; dsimp only; lia⟩
theorem Ctx.hs (X : Ctx K f b lo p o s) : ∀ (i : Nat) (v : Int), s.stk[i]? = some v → 250 ≤ 256 + b - (i : Int) := fun i v h => by
  have := (List.getElem?_eq_some_iff.mp h).1
  have := X.b0; have := X.l; lia
theorem VOk.nzA (V : VOk b s) {t : Int} (h0 : 0 ≤ t) (h1 : t ≤ 255) : VOk b (nzA s t) := ⟨⟨h0, h1⟩, V.x, V.y, V.stk, V.ce⟩
theorem VOk.nzX (V : VOk b s) {t : Int} (h0 : 0 ≤ t) (h1 : t ≤ 255) : VOk b (nzX s t) := ⟨V.a, ⟨h0, h1⟩, V.y, V.stk, V.ce⟩
theorem VOk.nzY (V : VOk b s) {t : Int} (h0 : 0 ≤ t) (h1 : t ≤ 255) : VOk b (nzY s t) := ⟨V.a, V.x, ⟨h0, h1⟩, V.stk, V.ce⟩
theorem VOk.adS (V : VOk b s) {m : Int} : VOk b (adS s m) := ⟨by show 0 ≤ _ % 256 ∧ _ % 256 ≤ 255; lia, V.x, V.y, V.stk, V.ce⟩
end
theorem ord_0 {K : Int → Prop} {f : Int → Int} {b lo p : Int} {s : Al} {v c : Int} (X : Ctx K f b lo p ⟨0, v, c⟩ s) : OrdTo K f b lo p s (p + 1 + 1) (AStep b ⟨0, v, c⟩ s) := by
  have G := X.G
  have h := st_LDAi X.B G X.o.1
  dsimp only at h
  have h1 : f (p + 1) = v := X.o.2.1
  rw [h1] at h
  exact ot_reg X.B X.A (X.V.nzA X.O.v.1 X.O.v.2) X.k0 h rfl rfl
theorem ord_1 {K : Int → Prop} {f : Int → Int} {b lo p : Int} {s : Al} {v c : Int} (X : Ctx K f b lo p ⟨1, v, c⟩ s) : OrdTo K f b lo p s (p + 1 + 1) (AStep b ⟨1, v, c⟩ s) := by
  have G := X.G
  have h := st_LDXi X.B G X.o.1
  dsimp only at h
  have h1 : f (p + 1) = v := X.o.2.1
  rw [h1] at h
  exact ot_reg X.B X.A (X.V.nzX X.O.v.1 X.O.v.2) X.k0 h rfl rfl
theorem ord_2 {K : Int → Prop} {f : Int → Int} {b lo p : Int} {s : Al} {v c : Int} (X : Ctx K f b lo p ⟨2, v, c⟩ s) : OrdTo K f b lo p s (p + 1 + 1) (AStep b ⟨2, v, c⟩ s) := by
  have G := X.G
  have h := st_LDYi X.B G X.o.1
  dsimp only at h
  have h1 : f (p + 1) = v := X.o.2.1
  rw [h1] at h
  exact ot_reg X.B X.A (X.V.nzY X.O.v.1 X.O.v.2) X.k0 h rfl rfl
theorem ord_3 {K : Int → Prop} {f : Int → Int} {b lo p : Int} {s : Al} {v c : Int} (X : Ctx K f b lo p ⟨3, v, c⟩ s) : OrdTo K f b lo p s (p + 1 + 1) (AStep b ⟨3, v, c⟩ s) := by
  have G := X.G
  have h := st_ADCi X.B G X.o.1
  dsimp only at h
  have h1 : f (p + 1) = v := X.o.2.1
  rw [h1] at h
  exact ot_reg X.B X.A (X.V.adS) X.k0 h rfl rfl
theorem ord_4 {K : Int → Prop} {f : Int → Int} {b lo p : Int} {s : Al} {v c : Int} (X : Ctx K f b lo p ⟨4, v, c⟩ s) : OrdTo K f b lo p s (p + 1 + 1) (AStep b ⟨4, v, c⟩ s) := by
  have G := X.G
  have h := st_SBCi X.B G X.o.1
  dsimp only at h
  have h1 : f (p + 1) = v := X.o.2.1
  rw [h1] at h
  exact ot_reg X.B X.A (X.V.adS) X.k0 h rfl rfl
theorem ord_5 {K : Int → Prop} {f : Int → Int} {b lo p : Int} {s : Al} {v c : Int} (X : Ctx K f b lo p ⟨5, v, c⟩ s) : OrdTo K f b lo p s (p + 1 + 1) (AStep b ⟨5, v, c⟩ s) := by
  have G := X.G
  have h := st_CMPi X.B G X.o.1
  dsimp only at h
  have h1 : f (p + 1) = v := X.o.2.1
  rw [h1] at h
  exact ot_reg X.B X.A (⟨X.V.a, X.V.x, X.V.y, X.V.stk, X.V.ce⟩) X.k0 h rfl rfl
theorem ord_6 {K : Int → Prop} {f : Int → Int} {b lo p : Int} {s : Al} {v c : Int} (X : Ctx K f b lo p ⟨6, v, c⟩ s) : OrdTo K f b lo p s (p + 1 + 1) (AStep b ⟨6, v, c⟩ s) := by
  have G := X.G
  have h := st_STAz X.B G X.o.1
  dsimp only at h
  have h1 : f (p + 1) = c := X.o.2.1
  rw [h1] at h
  have tb : 0 ≤ s.a ∧ s.a ≤ 255 := X.V.a
  exact ot_cell X.B X.A ⟨X.V.a, X.V.x, X.V.y, X.V.stk, X.V.ce.upd _ tb.1 tb.2⟩ X.k0 h tb.1 tb.2 X.O.c.1 X.O.c.2 rfl rfl (by have := X.l1; lia) X.hs
theorem ord_7 {K : Int → Prop} {f : Int → Int} {b lo p : Int} {s : Al} {v c : Int} (X : Ctx K f b lo p ⟨7, v, c⟩ s) : OrdTo K f b lo p s (p + 1 + 1) (AStep b ⟨7, v, c⟩ s) := by
  have G := X.G
  have h := st_ADCz X.B G X.o.1
  dsimp only at h
  have h1 : f (p + 1) = c := X.o.2.1
  have h2 : f c = s.ce c := X.A.ce c X.O.c.1 X.O.c.2
  rw [h1, h2] at h
  exact ot_reg X.B X.A (X.V.adS) X.k0 h rfl rfl
theorem ord_8 {K : Int → Prop} {f : Int → Int} {b lo p : Int} {s : Al} {v c : Int} (X : Ctx K f b lo p ⟨8, v, c⟩ s) : OrdTo K f b lo p s (p + 1 + 1) (AStep b ⟨8, v, c⟩ s) := by
  have G := X.G
  have h := st_INCz X.B G X.o.1
  dsimp only at h
  have h1 : f (p + 1) = c := X.o.2.1
  have h2 : f c = s.ce c := X.A.ce c X.O.c.1 X.O.c.2
  rw [h1, h2] at h
  have tb : 0 ≤ (s.ce c + 1) % 256 ∧ (s.ce c + 1) % 256 ≤ 255 := by lia
  exact ot_cell X.B X.A ⟨X.V.a, X.V.x, X.V.y, X.V.stk, X.V.ce.upd _ tb.1 tb.2⟩ X.k0 h tb.1 tb.2 X.O.c.1 X.O.c.2 rfl rfl (by have := X.l1; lia) X.hs
theorem ord_9 {K : Int → Prop} {f : Int → Int} {b lo p : Int} {s : Al} {v c : Int} (X : Ctx K f b lo p ⟨9, v, c⟩ s) : OrdTo K f b lo p s (p + 1) (AStep b ⟨9, v, c⟩ s) := by
  have G := X.G
  have h := st_ROL X.B G X.o.1
  dsimp only at h
  exact ot_reg X.B X.A (⟨by show 0 ≤ _ % 256 ∧ _ % 256 ≤ 255; lia, X.V.x, X.V.y, X.V.stk, X.V.ce⟩) X.k0 h rfl rfl
theorem ord_10 {K : Int → Prop} {f : Int → Int} {b lo p : Int} {s : Al} {v c : Int} (X : Ctx K f b lo p ⟨10, v, c⟩ s) : OrdTo K f b lo p s (p + 1 + 1) (AStep b ⟨10, v, c⟩ s) := by
  have G := X.G
  have h := st_RORz X.B G X.o.1
  dsimp only at h
  have h1 : f (p + 1) = c := X.o.2.1
  have h2 : f c = s.ce c := X.A.ce c X.O.c.1 X.O.c.2
  rw [h1, h2] at h
  have tb : 0 ≤ s.ce c / 2 + 128 * b2 s.fl.c ∧ s.ce c / 2 + 128 * b2 s.fl.c ≤ 255 := by have := X.V.ce c; have := b2r s.fl.c; lia
  exact ot_cell X.B X.A ⟨X.V.a, X.V.x, X.V.y, X.V.stk, X.V.ce.upd _ tb.1 tb.2⟩ X.k0 h tb.1 tb.2 X.O.c.1 X.O.c.2 rfl rfl (by have := X.l1; lia) X.hs
theorem ord_11 {K : Int → Prop} {f : Int → Int} {b lo p : Int} {s : Al} {v c : Int} (X : Ctx K f b lo p ⟨11, v, c⟩ s) : OrdTo K f b lo p s (p + 1 + 1) (AStep b ⟨11, v, c⟩ s) := by
  have G := X.G
  have h := st_EORz X.B G X.o.1
  dsimp only at h
  have h1 : f (p + 1) = c := X.o.2.1
  have h2 : f c = s.ce c := X.A.ce c X.O.c.1 X.O.c.2
  rw [h1, h2] at h
  exact ot_reg X.B X.A (X.V.nzA (xor_oct X.V.a (X.V.ce c)).1 (xor_oct X.V.a (X.V.ce c)).2) X.k0 h rfl rfl
theorem ord_12 {K : Int → Prop} {f : Int → Int} {b lo p : Int} {s : Al} {v c : Int} (X : Ctx K f b lo p ⟨12, v, c⟩ s) : OrdTo K f b lo p s (p + 1) (AStep b ⟨12, v, c⟩ s) := by
  have G := X.G
  have h := st_TAX X.B G X.o.1
  dsimp only at h
  exact ot_reg X.B X.A (X.V.nzX X.V.a.1 X.V.a.2) X.k0 h rfl rfl
theorem ord_13 {K : Int → Prop} {f : Int → Int} {b lo p : Int} {s : Al} {v c : Int} (X : Ctx K f b lo p ⟨13, v, c⟩ s) : OrdTo K f b lo p s (p + 1) (AStep b ⟨13, v, c⟩ s) := by
  have G := X.G
  have h := st_TYA X.B G X.o.1
  dsimp only at h
  exact ot_reg X.B X.A (X.V.nzA X.V.y.1 X.V.y.2) X.k0 h rfl rfl
theorem ord_14 {K : Int → Prop} {f : Int → Int} {b lo p : Int} {s : Al} {v c : Int} (X : Ctx K f b lo p ⟨14, v, c⟩ s) : OrdTo K f b lo p s (p + 1) (AStep b ⟨14, v, c⟩ s) := by
  have G := X.G
  have b0 := X.b0
  have b1 := X.b1
  have l := X.l
  have h := st_PHA X.B G X.o.1
  dsimp only at h
  have e1 : (b - (s.stk.length : Int) - 1) % 256 = b - ((s.stk ++ [s.a]).length : Int) := by rw [List.length_append]; show _ = b - ((s.stk.length + 1 : Nat) : Int); lia
  rw [e1] at h
  refine ⟨1, _, by decide, .one (g' := rg (p + 1) b { s with stk := s.stk ++ [s.a] }) h X.k0, X.B.upd _ X.V.a.1 X.V.a.2, ⟨fun j h0 h1 => ?_, fun i w hw => ?_⟩, ⟨X.V.a, X.V.x, X.V.y, fun w hw => ?_, X.V.ce⟩, fun j h1 _ => if_neg (by lia)⟩
  · have := X.l1
    show (if j = b - (s.stk.length : Int) + 256 then s.a else f j) = s.ce j
    rw [if_neg (by lia)]
    exact X.A.ce j h0 h1
  · show (if 256 + b - (i : Int) = b - (s.stk.length : Int) + 256 then s.a else f (256 + b - i)) = w
    have hw : (s.stk ++ [s.a])[i]? = some w := hw
    rcases Nat.lt_trichotomy i s.stk.length with q | q | q
    · rw [if_neg (by lia)]
      rw [List.getElem?_append_left q] at hw
      exact X.A.stk i w hw
    · rw [if_pos (by lia)]
      rw [List.getElem?_append_right (by lia), q, Nat.sub_self] at hw
      exact Option.some.inj hw
    · rw [List.getElem?_eq_none (by rw [List.length_append]; show s.stk.length + 1 ≤ i; lia)] at hw
      cases hw
  · rcases List.mem_append.mp hw with q | q
    · exact X.V.stk w q
    · rw [List.mem_singleton.mp q]; exact X.V.a
theorem ord_15 {K : Int → Prop} {f : Int → Int} {b lo p : Int} {s : Al} {v c : Int} (X : Ctx K f b lo p ⟨15, v, c⟩ s) : OrdTo K f b lo p s (p + 1) (AStep b ⟨15, v, c⟩ s) := by
  have G := X.G
  have b0 := X.b0
  have b1 := X.b1
  have l := X.l
  have ne := X.O.pop rfl
  have lp : 0 < s.stk.length := List.length_pos_iff.mpr ne
  have h := st_PLA X.B G X.o.1
  dsimp only at h
  have e1 : (b - (s.stk.length : Int) + 1) % 256 = b - (s.stk.dropLast.length : Int) := by rw [List.length_dropLast]; lia
  have hg : s.stk[s.stk.length - 1]? = some (topS s) := by
    unfold topS
    rw [List.getLast?_eq_getElem?, List.getElem?_eq_getElem (by lia)]; rfl
  have ht : f (b - (s.stk.dropLast.length : Int) + 256) = topS s := by
    have := X.A.stk _ _ hg
    rw [List.length_dropLast]
    rwa [show 256 + b - ((s.stk.length - 1 : Nat) : Int) = b - ((s.stk.length - 1 : Nat) : Int) + 256 by lia] at this
  rw [e1, ht] at h
  have hb := X.V.stk _ (List.mem_of_getElem? hg)
  refine ⟨1, f, by decide, .one (g' := rg (p + 1) b { nzA s (topS s) with stk := s.stk.dropLast }) h X.k0, X.B, ⟨X.A.ce, fun i w hw => X.A.stk i w ?_⟩, ⟨hb, X.V.x, X.V.y, fun w hw => X.V.stk w (List.dropLast_subset _ hw), X.V.ce⟩, fun j _ _ => rfl⟩
  have hw : s.stk.dropLast[i]? = some w := hw
  rw [List.getElem?_dropLast] at hw
  split at hw
  · exact hw
  · cases hw
theorem ord_16 {K : Int → Prop} {f : Int → Int} {b lo p : Int} {s : Al} {v c : Int} (X : Ctx K f b lo p ⟨16, v, c⟩ s) : OrdTo K f b lo p s (p + 1) (AStep b ⟨16, v, c⟩ s) := by
  have G := X.G
  have h := st_DEX X.B G X.o.1
  dsimp only at h
  exact ot_reg X.B X.A (X.V.nzX (by lia) (by lia)) X.k0 h rfl rfl
theorem ord_17 {K : Int → Prop} {f : Int → Int} {b lo p : Int} {s : Al} {v c : Int} (X : Ctx K f b lo p ⟨17, v, c⟩ s) : OrdTo K f b lo p s (p + 1) (AStep b ⟨17, v, c⟩ s) := by
  have G := X.G
  have h := st_INY X.B G X.o.1
  dsimp only at h
  exact ot_reg X.B X.A (X.V.nzY (by lia) (by lia)) X.k0 h rfl rfl
theorem ord_18 {K : Int → Prop} {f : Int → Int} {b lo p : Int} {s : Al} {v c : Int} (X : Ctx K f b lo p ⟨18, v, c⟩ s) : OrdTo K f b lo p s (p + 1 + 1 + 1) (AStep b ⟨18, v, c⟩ s) := by
  have G := X.G
  have p0 := X.p0
  have p1 := X.p1
  have h := st_BCS X.B G X.o.1 X.o.2.1 (by dsimp only; lia)
  dsimp only at h
  cases hc : s.fl.c with
  | true =>
    rw [hc] at h
    have e : AStep b ⟨18, v, c⟩ s = s := by
      show (if s.fl.c = true then s else _) = s
      rw [if_pos hc]
    rw [e]
    exact ot_reg X.B X.A X.V X.k0 h rfl rfl
  | false =>
    rw [hc, show p + 1 + 1 + b2 false = p + 1 + 1 by show p + 1 + 1 + 0 = _; lia] at h
    have e : AStep b ⟨18, v, c⟩ s = nzY s ((s.y + 1) % 256) := by
      show (if s.fl.c = true then s else _) = _
      rw [if_neg (by rw [hc]; decide)]
    rw [e]
    have h2 := st_INY (f := f) (g := rg (p + 1 + 1) b s) X.B ⟨G.a, G.x, G.y, G.sp, by dsimp only; lia⟩ X.o.2.2.1
    exact ⟨2, f, by decide, .cons (g1 := rg (p + 1 + 1) b s) h X.k0 (.one (g' := rg (p + 1 + 1 + 1) b (nzY s ((s.y + 1) % 256))) h2 (X.k2 rfl)), X.B, ⟨X.A.ce, X.A.stk⟩, X.V.nzY (by lia) (by lia), fun j _ _ => rfl⟩
theorem ord_19 {K : Int → Prop} {f : Int → Int} {b lo p : Int} {s : Al} {v c : Int} (X : Ctx K f b lo p ⟨19, v, c⟩ s) : OrdTo K f b lo p s (p + 1) (AStep b ⟨19, v, c⟩ s) := by
  have G := X.G
  have h := st_TSX X.B G X.o.1
  dsimp only at h
  exact ot_reg X.B X.A (X.V.nzX G.sp.1 G.sp.2) X.k0 h rfl rfl
theorem ord_run {K : Int → Prop} {f : Int → Int} {b lo p : Int} {o : Ord} {s : Al} (X : Ctx K f b lo p o s) : OrdTo K f b lo p s (p + (encB o).length) (AStep b o s) := by
  obtain ⟨k, v, c⟩ := o
  have hk : k < 20 := X.O.k
  have e1 : ∀ q : Int, q + ((1 : Nat) : Int) = q + 1 := fun _ => rfl
  have e2 : ∀ q : Int, q + ((2 : Nat) : Int) = q + 1 + 1 := fun q => by lia
  have e3 : ∀ q : Int, q + ((3 : Nat) : Int) = q + 1 + 1 + 1 := fun q => by lia
  exact all20 (P := fun k => Ctx K f b lo p ⟨k, v, c⟩ s → OrdTo K f b lo p s (p + (encB ⟨k, v, c⟩).length) (AStep b ⟨k, v, c⟩ s))
    (fun X => by show OrdTo K f b lo p s (p + ((2 : Nat) : Int)) _; rw [e2]; exact ord_0 X) (fun X => by show OrdTo K f b lo p s (p + ((2 : Nat) : Int)) _; rw [e2]; exact ord_1 X) (fun X => by show OrdTo K f b lo p s (p + ((2 : Nat) : Int)) _; rw [e2]; exact ord_2 X) (fun X => by show OrdTo K f b lo p s (p + ((2 : Nat) : Int)) _; rw [e2]; exact ord_3 X) (fun X => by show OrdTo K f b lo p s (p + ((2 : Nat) : Int)) _; rw [e2]; exact ord_4 X) (fun X => by show OrdTo K f b lo p s (p + ((2 : Nat) : Int)) _; rw [e2]; exact ord_5 X) (fun X => by show OrdTo K f b lo p s (p + ((2 : Nat) : Int)) _; rw [e2]; exact ord_6 X) (fun X => by show OrdTo K f b lo p s (p + ((2 : Nat) : Int)) _; rw [e2]; exact ord_7 X) (fun X => by show OrdTo K f b lo p s (p + ((2 : Nat) : Int)) _; rw [e2]; exact ord_8 X) (fun X => by show OrdTo K f b lo p s (p + ((1 : Nat) : Int)) _; rw [e1]; exact ord_9 X) (fun X => by show OrdTo K f b lo p s (p + ((2 : Nat) : Int)) _; rw [e2]; exact ord_10 X) (fun X => by show OrdTo K f b lo p s (p + ((2 : Nat) : Int)) _; rw [e2]; exact ord_11 X) (fun X => by show OrdTo K f b lo p s (p + ((1 : Nat) : Int)) _; rw [e1]; exact ord_12 X) (fun X => by show OrdTo K f b lo p s (p + ((1 : Nat) : Int)) _; rw [e1]; exact ord_13 X) (fun X => by show OrdTo K f b lo p s (p + ((1 : Nat) : Int)) _; rw [e1]; exact ord_14 X) (fun X => by show OrdTo K f b lo p s (p + ((1 : Nat) : Int)) _; rw [e1]; exact ord_15 X) (fun X => by show OrdTo K f b lo p s (p + ((1 : Nat) : Int)) _; rw [e1]; exact ord_16 X) (fun X => by show OrdTo K f b lo p s (p + ((1 : Nat) : Int)) _; rw [e1]; exact ord_17 X) (fun X => by show OrdTo K f b lo p s (p + ((3 : Nat) : Int)) _; rw [e3]; exact ord_18 X) (fun X => by show OrdTo K f b lo p s (p + ((1 : Nat) : Int)) _; rw [e1]; exact ord_19 X) k hk X
end Mine
end
section
open PySem PySem.W PySem.Calls PyProof.Rows
set_option autoImplicit false
set_option maxRecDepth 100000
namespace Mine
theorem upd_at (f : Int → Int) (i v : Int) : upd f i v i = v := if_pos rfl
theorem upd_ne (f : Int → Int) {i v j : Int} (h : j ≠ i) : upd f i v j = f j := if_neg h
section
variable {f : Int → Int} {p a x y s : Int} {fl : Flg}
theorem t_PHA (B : BOk f) (G : GOk ⟨p, a, x, y, s, fl⟩) (hc : f p = 72) (h : 1 ≤ s) : Stp f ⟨p, a, x, y, s, fl⟩ (upd f (s + 256) a) ⟨p + 1, a, x, y, s - 1, fl⟩ := by
  have h1 := st_PHA B G hc
  have := G.sp.2
  dsimp only at h1 this
  rwa [show (s - 1) % 256 = s - 1 by lia] at h1
theorem t_PHP (B : BOk f) (G : GOk ⟨p, a, x, y, s, fl⟩) (hc : f p = 8) (h : 1 ≤ s) : Stp f ⟨p, a, x, y, s, fl⟩ (upd f (s + 256) (pOf fl)) ⟨p + 1, a, x, y, s - 1, fl⟩ := by
  have h1 := st_PHP B G hc
  have := G.sp.2
  dsimp only at h1 this
  rwa [show (s - 1) % 256 = s - 1 by lia] at h1
theorem t_PLA {v : Int} (B : BOk f) (G : GOk ⟨p, a, x, y, s, fl⟩) (hc : f p = 104) (h : s ≤ 254) (hv : f (s + 1 + 256) = v) : ∃ fl', Stp f ⟨p, a, x, y, s, fl⟩ f ⟨p + 1, v, x, y, s + 1, fl'⟩ := by
  have h1 := st_PLA B G hc
  have := G.sp.1
  dsimp only at h1 this
  rw [show (s + 1) % 256 = s + 1 by lia, hv] at h1
  exact ⟨_, h1⟩
theorem t_TXA (B : BOk f) (G : GOk ⟨p, a, x, y, s, fl⟩) (hc : f p = 138) : ∃ fl', Stp f ⟨p, a, x, y, s, fl⟩ f ⟨p + 1, x, x, y, s, fl'⟩ := ⟨_, st_TXA B G hc⟩
theorem t_TYA (B : BOk f) (G : GOk ⟨p, a, x, y, s, fl⟩) (hc : f p = 152) : ∃ fl', Stp f ⟨p, a, x, y, s, fl⟩ f ⟨p + 1, y, x, y, s, fl'⟩ := ⟨_, st_TYA B G hc⟩
theorem t_TAX (B : BOk f) (G : GOk ⟨p, a, x, y, s, fl⟩) (hc : f p = 170) : ∃ fl', Stp f ⟨p, a, x, y, s, fl⟩ f ⟨p + 1, a, a, y, s, fl'⟩ := ⟨_, st_TAX B G hc⟩
theorem t_TAY (B : BOk f) (G : GOk ⟨p, a, x, y, s, fl⟩) (hc : f p = 168) : ∃ fl', Stp f ⟨p, a, x, y, s, fl⟩ f ⟨p + 1, a, x, a, s, fl'⟩ := ⟨_, st_TAY B G hc⟩
theorem t_TSX (B : BOk f) (G : GOk ⟨p, a, x, y, s, fl⟩) (hc : f p = 186) : ∃ fl', Stp f ⟨p, a, x, y, s, fl⟩ f ⟨p + 1, a, s, y, s, fl'⟩ := ⟨_, st_TSX B G hc⟩
theorem t_LDYz {m v : Int} (B : BOk f) (G : GOk ⟨p, a, x, y, s, fl⟩) (hc : f p = 164) (h1 : f (p + 1) = m) (h2 : f m = v) : ∃ fl', Stp f ⟨p, a, x, y, s, fl⟩ f ⟨p + 1 + 1, a, x, v, s, fl'⟩ := by
  have h := st_LDYz B G hc
  dsimp only at h
  rw [h1, h2] at h
  exact ⟨_, h⟩
theorem t_STXy {m i : Int} (B : BOk f) (G : GOk ⟨p, a, x, y, s, fl⟩) (hc : f p = 150) (h1 : f (p + 1) = m) (h2 : (y + m) % 256 = i) : Stp f ⟨p, a, x, y, s, fl⟩ (upd f i x) ⟨p + 1 + 1, a, x, y, s, fl⟩ := by
  have h := st_STXy B G hc
  dsimp only at h
  rwa [h1, h2] at h
theorem t_LDXy {m i v : Int} (B : BOk f) (G : GOk ⟨p, a, x, y, s, fl⟩) (hc : f p = 182) (h1 : f (p + 1) = m) (h2 : (y + m) % 256 = i) (h3 : f i = v) : ∃ fl', Stp f ⟨p, a, x, y, s, fl⟩ f ⟨p + 1 + 1, a, v, y, s, fl'⟩ := by
  have h := st_LDXy B G hc
  dsimp only at h
  rw [h1, h2, h3] at h
  exact ⟨_, h⟩
theorem t_STXz {m : Int} (B : BOk f) (G : GOk ⟨p, a, x, y, s, fl⟩) (hc : f p = 134) (h1 : f (p + 1) = m) : Stp f ⟨p, a, x, y, s, fl⟩ (upd f m x) ⟨p + 1 + 1, a, x, y, s, fl⟩ := by
  have h := st_STXz B G hc
  dsimp only at h
  rwa [h1] at h
theorem t_LDAx {m i v : Int} (B : BOk f) (G : GOk ⟨p, a, x, y, s, fl⟩) (hc : f p = 181) (h1 : f (p + 1) = m) (h2 : (x + m) % 256 = i) (h3 : f i = v) : ∃ fl', Stp f ⟨p, a, x, y, s, fl⟩ f ⟨p + 1 + 1, v, x, y, s, fl'⟩ := by
  have h := st_LDAx B G hc
  dsimp only at h
  rw [h1, h2, h3] at h
  exact ⟨_, h⟩
theorem t_JSR {q : Int} (B : BOk f) (G : GOk ⟨p, a, x, y, s, fl⟩) (hc : f p = 32) (h1 : f (p + 1) = 0) (h2 : f (p + 1 + 1) = q) (h : 2 ≤ s) (hp : 512 ≤ p) : Stp f ⟨p, a, x, y, s, fl⟩ (upd (upd f (s + 256) ((p + 1 + 1) / 256)) (s - 1 + 256) ((p + 1 + 1) % 256)) ⟨q * 256, a, x, y, s - 1 - 1, fl⟩ := by
  have h3 := st_JSR B G hc
  have := G.sp.2
  dsimp only at h3 this
  rw [show (s - 1) % 256 = s - 1 by lia, show (s - 1 - 1) % 256 = s - 1 - 1 by lia, upd_ne _ (by lia), upd_ne _ (by lia), upd_ne _ (by lia), upd_ne _ (by lia), h1, h2, Int.zero_add] at h3
  exact h3
theorem t_RTS {lo hi : Int} (B : BOk f) (G : GOk ⟨p, a, x, y, s, fl⟩) (hc : f p = 96) (h : s ≤ 253) (h1 : f (s + 1 + 256) = lo) (h2 : f (s + 1 + 1 + 256) = hi) (h3 : lo + hi * 256 < 65535) : Stp f ⟨p, a, x, y, s, fl⟩ f ⟨lo + hi * 256 + 1, a, x, y, s + 1 + 1, fl⟩ := by
  have := G.sp.1
  dsimp only at this
  have e1 : (s + 1) % 256 = s + 1 := by lia
  have e2 : (s + 1 + 1) % 256 = s + 1 + 1 := by lia
  have h4 := st_RTS B G hc (by dsimp only; rw [e1, e2, h1, h2]; exact h3)
  dsimp only at h4
  rwa [e1, e2, h1, h2] at h4
theorem t_PLP {fl' : Flg} (B : BOk f) (G : GOk ⟨p, a, x, y, s, fl⟩) (hc : f p = 40) (h : s ≤ 254) (h1 : f (s + 1 + 256) = pOf fl') : Stp f ⟨p, a, x, y, s, fl⟩ f ⟨p + 1, a, x, y, s + 1, fl'⟩ := by
  have := G.sp.1
  dsimp only at this
  have e1 : (s + 1) % 256 = s + 1 := by lia
  have h4 := st_PLP B G hc (by dsimp only; rw [e1]; exact h1)
  dsimp only at h4
  rwa [e1] at h4
end
structure Parked (f : Int → Int) (u b q : Int) (s : Al) : Prop where
  sp : f (240 + u) = b - s.stk.length - 6
  hi : f (256 + (b - s.stk.length)) = (q - 1) / 256
  lo : f (256 + (b - s.stk.length) - 1) = (q - 1) % 256
  p : f (256 + (b - s.stk.length) - 2) = pOf s.fl
  a : f (256 + (b - s.stk.length) - 3) = s.a
  x : f (256 + (b - s.stk.length) - 4) = s.x
  y : f (256 + (b - s.stk.length) - 5) = s.y
end Mine
end
section
open PySem PySem.W PySem.Calls PyProof.Rows
set_option autoImplicit false
set_option maxRecDepth 100000
namespace Mine
theorem mkG {p a x y s : Int} {fl : Flg} (ha : 0 ≤ a ∧ a ≤ 255) (hx : 0 ≤ x ∧ x ≤ 255) (hy : 0 ≤ y ∧ y ≤ 255) (s0 : 0 ≤ s) (s1 : s ≤ 255) (p0 : 0 ≤ p) (p1 : p < 1000) : GOk ⟨p, a, x, y, s, fl⟩ := ⟨ha, hx, hy, ⟨s0, s1⟩, ⟨p0, p1⟩⟩
def Same (t S : Int) (f f' : Int → Int) : Prop := ∀ i, i ≠ 248 → i ≠ 240 + t → (i < 251 + S ∨ 256 + S < i) → f' i = f i
theorem Same.upd {t S i v : Int} {f f' : Int → Int} (h : Same t S f f') (hi : i = 248 ∨ i = 240 + t ∨ (251 + S ≤ i ∧ i ≤ 256 + S)) : Same t S f (upd f' i v) := fun j h1 h2 h3 => by
  rw [upd_ne _ (by lia)]; exact h j h1 h2 h3
theorem Run.trans {K : Int → Prop} {n m : Nat} {f f1 f' : Int → Int} {g g1 g' : Rg} (h : Run K n f g f1 g1) (h2 : Run K m f1 g1 f' g') : Run K (n + m) f g f' g' := by
  induction h with
  | nil => rw [Nat.zero_add]; exact h2
  | cons a b c ih => rw [Nat.add_right_comm]; exact .cons a b (ih h2)
section
variable {K : Int → Prop} {f : Int → Int} {t S j : Int}
theorem sw_push {u R a x y : Int} {fl : Flg} (B : BOk f) (ha : 0 ≤ a ∧ a ≤ 255) (hx : 0 ≤ x ∧ x ≤ 255) (hy : 0 ≤ y ∧ y ≤ 255) (t0 : 0 ≤ t) (t1 : t ≤ 3) (u0 : 0 ≤ u) (u1 : u ≤ 3) (ne : t ≠ u) (S0 : 10 ≤ S) (S1 : S ≤ 255) (R0 : 10 ≤ R) (R1 : R ≤ 255)
    (j0 : 538 ≤ j) (j1 : j < 900) (hO : Oct f j [32, 0, 2]) (hC : Oct f 512 changeL) (h248 : f 248 = t) (hn : f (244 + t) = u) (hs : f (240 + u) = R - 6) (kj : K j) (kc : ∀ i, 512 ≤ i → i < 538 → K i) :
    ∃ F fl', Run K 15 f ⟨j, a, x, y, S, fl⟩ F ⟨531, R - 6, R - 6, t, R - 6, fl'⟩ ∧ BOk F ∧ Same t S f F ∧ F 248 = u ∧ F (240 + t) = S - 6 ∧ F (256 + S) = (j + 2) / 256 ∧ F (256 + S - 1) = (j + 2) % 256 ∧ F (256 + S - 2) = pOf fl ∧ F (256 + S - 3) = a ∧ F (256 + S - 4) = x ∧ F (256 + S - 5) = y := by
  obtain ⟨o0, o1, o2, _⟩ := hO
  have j2 : j + 1 + 1 = j + 2 := by lia
  have po := pOf_oct fl
  have r1 := t_JSR (p := j) (s := S) (fl := fl) B (mkG ha hx hy (by lia) (by lia) (by lia) (by lia)) o0 o1 o2 (by lia) (by lia)
  rw [j2] at r1
  have q0 : Same t S f f := fun _ _ _ _ => rfl
  have q1 := (q0.upd (i := S + 256) (v := (j + 2) / 256) (by lia)).upd (i := S - 1 + 256) (v := (j + 2) % 256) (by lia)
  have B1 := (B.upd (S + 256) (v := (j + 2) / 256) (by lia) (by lia)).upd (S - 1 + 256) (v := (j + 2) % 256) (by lia) (by lia)
  obtain ⟨f1, e1⟩ : ∃ f1, f1 = upd (upd f (S + 256) ((j + 2) / 256)) (S - 1 + 256) ((j + 2) % 256) := ⟨_, rfl⟩
  rw [← e1] at r1 q1 B1
  have cd : ∀ {g : Int → Int} {i v : Int}, Same t S f g → 512 ≤ i → f i = v → g i = v := fun q h e => (q _ (by lia) (by lia) (by lia)).trans e
  have r2 := t_PHP (p := 512) (s := S - 1 - 1) (fl := fl) B1 (mkG ha hx hy (by lia) (by lia) (by decide) (by decide)) (cd q1 (by decide) hC.1) (by lia)
  have q2 := q1.upd (i := S - 1 - 1 + 256) (v := pOf fl) (by lia)
  have B2 := B1.upd (S - 1 - 1 + 256) po.1 po.2
  obtain ⟨f2, e2⟩ : ∃ f2, f2 = upd f1 (S - 1 - 1 + 256) (pOf fl) := ⟨_, rfl⟩
  rw [← e2] at r2 q2 B2
  have r3 := t_PHA (p := 513) (s := S - 1 - 1 - 1) (fl := fl) B2 (mkG ha hx hy (by lia) (by lia) (by decide) (by decide)) (cd q2 (by decide) hC.2.1) (by lia)
  have q3 := q2.upd (i := S - 1 - 1 - 1 + 256) (v := a) (by lia)
  have B3 := B2.upd (S - 1 - 1 - 1 + 256) ha.1 ha.2
  obtain ⟨f3, e3⟩ : ∃ f3, f3 = upd f2 (S - 1 - 1 - 1 + 256) a := ⟨_, rfl⟩
  rw [← e3] at r3 q3 B3
  obtain ⟨fl4, r4⟩ := t_TXA (p := 514) (s := S - 1 - 1 - 1 - 1) (fl := fl) B3 (mkG ha hx hy (by lia) (by lia) (by decide) (by decide)) (cd q3 (by decide) hC.2.2.1)
  have r5 := t_PHA (p := 515) (s := S - 1 - 1 - 1 - 1) (fl := fl4) B3 (mkG hx hx hy (by lia) (by lia) (by decide) (by decide)) (cd q3 (by decide) hC.2.2.2.1) (by lia)
  have q5 := q3.upd (i := S - 1 - 1 - 1 - 1 + 256) (v := x) (by lia)
  have B5 := B3.upd (S - 1 - 1 - 1 - 1 + 256) hx.1 hx.2
  obtain ⟨f5, e5⟩ : ∃ f5, f5 = upd f3 (S - 1 - 1 - 1 - 1 + 256) x := ⟨_, rfl⟩
  rw [← e5] at r5 q5 B5
  obtain ⟨fl6, r6⟩ := t_TYA (p := 516) (s := S - 1 - 1 - 1 - 1 - 1) (fl := fl4) B5 (mkG hx hx hy (by lia) (by lia) (by decide) (by decide)) (cd q5 (by decide) hC.2.2.2.2.1)
  have r7 := t_PHA (p := 517) (s := S - 1 - 1 - 1 - 1 - 1) (fl := fl6) B5 (mkG hy hx hy (by lia) (by lia) (by decide) (by decide)) (cd q5 (by decide) hC.2.2.2.2.2.1) (by lia)
  have q7 := q5.upd (i := S - 1 - 1 - 1 - 1 - 1 + 256) (v := y) (by lia)
  have B7 := B5.upd (S - 1 - 1 - 1 - 1 - 1 + 256) hy.1 hy.2
  obtain ⟨f7, e7⟩ : ∃ f7, f7 = upd f5 (S - 1 - 1 - 1 - 1 - 1 + 256) y := ⟨_, rfl⟩
  rw [← e7] at r7 q7 B7
  have s6 : S - 1 - 1 - 1 - 1 - 1 - 1 = S - 6 := by lia
  rw [s6] at r7
  have w0 : 0 ≤ S - 6 ∧ S - 6 ≤ 255 := by lia
  have wt : 0 ≤ t ∧ t ≤ 255 := by lia
  have wu : 0 ≤ u ∧ u ≤ 255 := by lia
  have wr : 0 ≤ R - 6 ∧ R - 6 ≤ 255 := by lia
  obtain ⟨fl8, r8⟩ := t_TSX (p := 518) (s := S - 6) (fl := fl6) B7 (mkG hy hx hy w0.1 w0.2 (by decide) (by decide)) (cd q7 (by decide) hC.2.2.2.2.2.2.1)
  have f248 : f7 248 = t := by rw [e7, upd_ne _ (by lia), e5, upd_ne _ (by lia), e3, upd_ne _ (by lia), e2, upd_ne _ (by lia), e1, upd_ne _ (by lia), upd_ne _ (by lia), h248]
  obtain ⟨fl9, r9⟩ := t_LDYz (p := 519) (s := S - 6) (fl := fl8) (m := 248) (v := t) B7 (mkG hy w0 hy w0.1 w0.2 (by decide) (by decide)) (cd q7 (by decide) hC.2.2.2.2.2.2.2.1) (cd q7 (by decide) hC.2.2.2.2.2.2.2.2.1) f248
  have r10 := t_STXy (p := 521) (s := S - 6) (fl := fl9) (m := 240) (i := 240 + t) B7 (mkG hy w0 wt w0.1 w0.2 (by decide) (by decide)) (cd q7 (by decide) hC.2.2.2.2.2.2.2.2.2.1) (cd q7 (by decide) hC.2.2.2.2.2.2.2.2.2.2.1) (by lia)
  have q10 := q7.upd (i := 240 + t) (v := S - 6) (by lia)
  have B10 := B7.upd (240 + t) w0.1 w0.2
  obtain ⟨f10, e10⟩ : ∃ f10, f10 = upd f7 (240 + t) (S - 6) := ⟨_, rfl⟩
  rw [← e10] at r10 q10 B10
  obtain ⟨fl11, r11⟩ := t_LDXy (p := 523) (s := S - 6) (fl := fl9) (m := 244) (i := 244 + t) (v := u) B10 (mkG hy w0 wt w0.1 w0.2 (by decide) (by decide)) (cd q10 (by decide) hC.2.2.2.2.2.2.2.2.2.2.2.1) (cd q10 (by decide) hC.2.2.2.2.2.2.2.2.2.2.2.2.1) (by lia) ((q10 _ (by lia) (by lia) (by lia)).trans hn)
  have r12 := t_STXz (p := 525) (s := S - 6) (fl := fl11) (m := 248) B10 (mkG hy wu wt w0.1 w0.2 (by decide) (by decide)) (cd q10 (by decide) hC.2.2.2.2.2.2.2.2.2.2.2.2.2.1) (cd q10 (by decide) hC.2.2.2.2.2.2.2.2.2.2.2.2.2.2.1)
  have q12 := q10.upd (i := 248) (v := u) (by lia)
  have B12 := B10.upd 248 wu.1 wu.2
  obtain ⟨F, eF⟩ : ∃ F, F = upd f10 248 u := ⟨_, rfl⟩
  rw [← eF] at r12 q12 B12
  obtain ⟨fl13, r13⟩ := t_LDAx (p := 527) (s := S - 6) (fl := fl11) (m := 240) (i := 240 + u) (v := R - 6) B12 (mkG hy wu wt w0.1 w0.2 (by decide) (by decide)) (cd q12 (by decide) hC.2.2.2.2.2.2.2.2.2.2.2.2.2.2.2.1) (cd q12 (by decide) hC.2.2.2.2.2.2.2.2.2.2.2.2.2.2.2.2.1) (by lia) ((q12 _ (by lia) (by lia) (by lia)).trans hs)
  obtain ⟨fl14, r14⟩ := t_TAX (p := 529) (s := S - 6) (fl := fl13) B12 (mkG wr wu wt w0.1 w0.2 (by decide) (by decide)) (cd q12 (by decide) hC.2.2.2.2.2.2.2.2.2.2.2.2.2.2.2.2.2.1)
  have r15 := st_TXS (g := ⟨530, R - 6, R - 6, t, S - 6, fl14⟩) B12 (mkG wr wr wt w0.1 w0.2 (by decide) (by decide)) (cd (i := 530) q12 (by decide) hC.2.2.2.2.2.2.2.2.2.2.2.2.2.2.2.2.2.2.1)
  have k : ∀ i, 512 ≤ i → i < 538 → K i := kc
  refine ⟨F, fl14, .cons r1 kj (.cons r2 (k 512 (by decide) (by decide)) (.cons r3 (k 513 (by decide) (by decide)) (.cons r4 (k 514 (by decide) (by decide)) (.cons r5 (k 515 (by decide) (by decide)) (.cons r6 (k 516 (by decide) (by decide)) (.cons r7 (k 517 (by decide) (by decide)) (.cons r8 (k 518 (by decide) (by decide)) (.cons r9 (k 519 (by decide) (by decide)) (.cons r10 (k 521 (by decide) (by decide)) (.cons r11 (k 523 (by decide) (by decide)) (.cons r12 (k 525 (by decide) (by decide)) (.cons r13 (k 527 (by decide) (by decide)) (.cons r14 (k 529 (by decide) (by decide)) (.one r15 (k 530 (by decide) (by decide)))))))))))))))), B12, q12, ?_, ?_, ?_, ?_, ?_, ?_, ?_, ?_⟩
  · rw [eF, upd_at]
  · rw [eF, upd_ne _ (by lia), e10, upd_at]
  all_goals have z : ∀ {i v : Int}, i ≠ 248 → i ≠ 240 + t → f7 i = v → F i = v := fun h1 h2 h => by rw [eF, upd_ne _ h1, e10, upd_ne _ h2, h]
  all_goals refine z (by lia) (by lia) ?_
  · rw [e7, upd_ne _ (by lia), e5, upd_ne _ (by lia), e3, upd_ne _ (by lia), e2, upd_ne _ (by lia), e1, upd_ne _ (by lia), show 256 + S = S + 256 by lia, upd_at]
  · rw [e7, upd_ne _ (by lia), e5, upd_ne _ (by lia), e3, upd_ne _ (by lia), e2, upd_ne _ (by lia), e1, show 256 + S - 1 = S - 1 + 256 by lia, upd_at]
  · rw [e7, upd_ne _ (by lia), e5, upd_ne _ (by lia), e3, upd_ne _ (by lia), e2, show 256 + S - 2 = S - 1 - 1 + 256 by lia, upd_at]
  · rw [e7, upd_ne _ (by lia), e5, upd_ne _ (by lia), e3, show 256 + S - 3 = S - 1 - 1 - 1 + 256 by lia, upd_at]
  · rw [e7, upd_ne _ (by lia), e5, show 256 + S - 4 = S - 1 - 1 - 1 - 1 + 256 by lia, upd_at]
  · rw [e7, show 256 + S - 5 = S - 1 - 1 - 1 - 1 - 1 + 256 by lia, upd_at]
theorem sw_pull {R a x y a0 x0 y0 hi lo : Int} {fl fl0 : Flg} (B : BOk f) (ha : 0 ≤ a ∧ a ≤ 255) (hx : 0 ≤ x ∧ x ≤ 255) (hy : 0 ≤ y ∧ y ≤ 255) (ha0 : 0 ≤ a0 ∧ a0 ≤ 255) (hx0 : 0 ≤ x0 ∧ x0 ≤ 255) (hy0 : 0 ≤ y0 ∧ y0 ≤ 255) (R0 : 10 ≤ R) (R1 : R ≤ 255)
    (hC2 : Oct f 512 changeL) (p0 : f (256 + R) = hi) (p1 : f (256 + R - 1) = lo) (p2 : f (256 + R - 2) = pOf fl0) (p3 : f (256 + R - 3) = a0) (p4 : f (256 + R - 4) = x0) (p5 : f (256 + R - 5) = y0) (hz : lo + hi * 256 < 65535) (kc : ∀ i, 512 ≤ i → i < 538 → K i) :
    Run K 7 f ⟨531, a, x, y, R - 6, fl⟩ f ⟨lo + hi * 256 + 1, a0, x0, y0, R, fl0⟩ := by
  have k : ∀ i, 512 ≤ i → i < 538 → K i := kc
  obtain ⟨_, _, _, _, _, _, _, _, _, _, _, _, _, _, _, _, _, _, _, c19, c20, c21, c22, c23, c24, c25, _⟩ := hC2
  obtain ⟨fl1, r1⟩ := t_PLA (p := 531) (s := R - 6) (fl := fl) (v := y0) B (mkG ha hx hy (by lia) (by lia) (by decide) (by decide)) c19 (by lia) (by rw [show R - 6 + 1 + 256 = 256 + R - 5 by lia, p5])
  obtain ⟨fl2, r2⟩ := t_TAY (p := 532) (s := R - 6 + 1) (fl := fl1) B (mkG hy0 hx hy (by lia) (by lia) (by decide) (by decide)) c20
  obtain ⟨fl3, r3⟩ := t_PLA (p := 533) (s := R - 6 + 1) (fl := fl2) (v := x0) B (mkG hy0 hx hy0 (by lia) (by lia) (by decide) (by decide)) c21 (by lia) (by rw [show R - 6 + 1 + 1 + 256 = 256 + R - 4 by lia, p4])
  obtain ⟨fl4, r4⟩ := t_TAX (p := 534) (s := R - 6 + 1 + 1) (fl := fl3) B (mkG hx0 hx hy0 (by lia) (by lia) (by decide) (by decide)) c22
  obtain ⟨fl5, r5⟩ := t_PLA (p := 535) (s := R - 6 + 1 + 1) (fl := fl4) (v := a0) B (mkG hx0 hx0 hy0 (by lia) (by lia) (by decide) (by decide)) c23 (by lia) (by rw [show R - 6 + 1 + 1 + 1 + 256 = 256 + R - 3 by lia, p3])
  have r6 := t_PLP (p := 536) (s := R - 6 + 1 + 1 + 1) (fl := fl5) (fl' := fl0) B (mkG ha0 hx0 hy0 (by lia) (by lia) (by decide) (by decide)) c24 (by lia) (by rw [show R - 6 + 1 + 1 + 1 + 1 + 256 = 256 + R - 2 by lia, p2])
  have r7 := t_RTS (p := 537) (s := R - 6 + 1 + 1 + 1 + 1) (fl := fl0) (lo := lo) (hi := hi) B (mkG ha0 hx0 hy0 (by lia) (by lia) (by decide) (by decide)) c25 (by lia) (by rw [show R - 6 + 1 + 1 + 1 + 1 + 1 + 256 = 256 + R - 1 by lia, p1]) (by rw [show R - 6 + 1 + 1 + 1 + 1 + 1 + 1 + 256 = 256 + R by lia, p0]) hz
  rw [show R - 6 + 1 + 1 + 1 + 1 + 1 + 1 = R by lia] at r7
  exact .cons r1 (k 531 (by decide) (by decide)) (.cons r2 (k 532 (by decide) (by decide)) (.cons r3 (k 533 (by decide) (by decide)) (.cons r4 (k 534 (by decide) (by decide)) (.cons r5 (k 535 (by decide) (by decide)) (.cons r6 (k 536 (by decide) (by decide)) (.one r7 (k 537 (by decide) (by decide))))))))
end
end Mine
end
section
open PySem PySem.W PySem.Calls PyProof.Rows
set_option autoImplicit false
set_option maxRecDepth 100000
namespace Mine
noncomputable def swL (b : Bool) : List Int := if b then [32, 0, 2] else []
noncomputable def CodeAt (f : Int → Int) (e : Int) : Int → List (Ord × Bool) → Prop
  | p, [] => p = e ∧ Oct f p [32, 0, 2, 76, p % 256, p / 256]
  | p, o :: os => Oct f p (encB o.1 ++ swL o.2) ∧ CodeAt f e (p + (encB o.1).length + (swL o.2).length) os
noncomputable def AllOk (b lo : Int) : List (Ord × Bool) → Al → Prop
  | [], _ => True
  | o :: os, s => OkO lo o.1 s ∧ AllOk b lo os (AStep b o.1 s)
noncomputable def runA (b : Int) (os : List (Ord × Bool)) (s : Al) : Al := os.foldl (fun s o => AStep b o.1 s) s
structure Pr where
  os : List (Ord × Bool)
  p : Int
  s : Al
  dn : Bool
abbrev bs (t : Nat) : Int := 255 - 64 * (t : Int)
abbrev qP (r : Pr) : Int := if r.dn then r.p + 3 else r.p
structure Fix where
  m : Nat
  f0 : Int → Int
  e : Nat → Int
  fin : Nat → Al
structure FixOk (X : Fix) : Prop where
  m : X.m = 2 ∨ X.m = 3 ∨ X.m = 4
  ch : Oct X.f0 512 changeL
  nx : ∀ t : Nat, t < X.m → X.f0 (244 + t) = (((t + 1) % X.m : Nat) : Int)
  e0 : ∀ t : Nat, t < X.m → 544 + 64 * (t : Int) ≤ X.e t
  e1 : ∀ t : Nat, t < X.m → X.e t < 600 + 64 * (t : Int)
def Keep (m : Nat) (f0 f : Int → Int) : Prop := ∀ j : Int, (16 * (m : Int) ≤ j ∧ j < 240) ∨ (244 ≤ j ∧ j < 248) ∨ (249 ≤ j ∧ j < 256) ∨ 512 ≤ j → f j = f0 j
structure PI (X : Fix) (f : Int → Int) (t : Nat) (r : Pr) : Prop where
  code : CodeAt X.f0 (X.e t) r.p r.os
  p0 : 544 + 64 * (t : Int) ≤ r.p
  act : Act f (bs t) (16 * (t : Int)) r.s
  v : VOk (bs t) r.s
  ok : AllOk (bs t) (16 * (t : Int)) r.os r.s
  len : r.s.stk.length + r.os.length ≤ 12
  fin : runA (bs t) r.os r.s = X.fin t
  dn : r.dn = true → r.os = []
structure Inv (X : Fix) (f : Int → Int) (cur : Nat) (P : Nat → Pr) : Prop where
  B : BOk f
  kp : Keep X.m X.f0 f
  cl : cur < X.m
  c248 : f 248 = cur
  pi : ∀ t, t < X.m → PI X f t (P t)
  pk : ∀ t, t < X.m → t ≠ cur → Parked f t (bs t) (qP (P t)) (P t).s
  some : ∃ t, t < X.m ∧ (P t).dn = false
structure Loop (X : Fix) (Lp : Nat → (Int → Int) → Rg → (Nat → Bool) → Prop) : Prop where
  quiet : ∀ n f g f' g' dn, Stp f g f' g' → (∀ t, t < X.m → dn t = false → g.pc ≠ X.e t) → Lp n f' g' dn → Lp (n + 1) f g dn
  hit : ∀ n f f' g' dn t, t < X.m → dn t = false → (∃ u, u < X.m ∧ u ≠ t ∧ dn u = false) → Stp f (rg (X.e t) (bs t) (X.fin t)) f' g' → Lp n f' g' (fun u => if u = t then true else dn u) → Lp (n + 1) f (rg (X.e t) (bs t) (X.fin t)) dn
  last : ∀ n f dn t, t < X.m → dn t = false → (∀ u, u < X.m → u ≠ t → dn u = true) → Keep X.m X.f0 f → (∀ u, u < X.m → Act f (bs u) (16 * (u : Int)) (X.fin u)) → Lp (n + 1) f (rg (X.e t) (bs t) (X.fin t)) dn
def KD (X : Fix) (dn : Nat → Bool) (pc : Int) : Prop := ∀ t, t < X.m → dn t = false → pc ≠ X.e t
section
variable {X : Fix} {Lp : Nat → (Int → Int) → Rg → (Nat → Bool) → Prop} {f f' : Int → Int} {g g' : Rg} {dn : Nat → Bool} {n k : Nat}
theorem Loop.run (L : Loop X Lp) (h : Run (KD X dn) k f g f' g') (h2 : Lp n f' g' dn) : Lp (n + k) f g dn := by
  induction h with
  | nil => exact h2
  | cons a b c ih => exact L.quiet _ _ _ _ _ _ a b (ih h2)
theorem Oct.app : ∀ {l1 l2 : List Int} {p : Int}, Oct f p (l1 ++ l2) → Oct f p l1 ∧ Oct f (p + l1.length) l2
  | [], l2, p, h => ⟨trivial, by rw [show p + (([] : List Int).length : Int) = p from Int.add_zero p]; exact h⟩
  | x :: l1, l2, p, h => by
    obtain ⟨a, b⟩ := Oct.app h.2
    refine ⟨⟨h.1, a⟩, ?_⟩
    rw [show p + ((x :: l1).length : Int) = p + 1 + (l1.length : Int) by rw [List.length_cons]; lia]
    exact b
theorem Oct.keep : ∀ {l : List Int} {p : Int}, Oct f p l → (∀ j, p ≤ j → f' j = f j) → Oct f' p l
  | [], _, _, _ => trivial
  | x :: l, p, h, k => ⟨(k p (Int.le_refl p)).trans h.1, Oct.keep h.2 fun j hj => k j (by lia)⟩
theorem CodeAt.le : ∀ {os : List (Ord × Bool)} {p e : Int}, CodeAt f e p os → p ≤ e ∧ (os ≠ [] → p < e)
  | [], p, e, h => ⟨Int.le_of_eq h.1, fun q => absurd rfl q⟩
  | o :: os, p, e, h => by
    have h1 := (CodeAt.le h.2).1
    have : 0 < (encB o.1).length := Nat.succ_pos _
    exact ⟨by lia, fun _ => by lia⟩
theorem CodeAt.sw {os : List (Ord × Bool)} {o : Ord × Bool} {p e : Int} (h : CodeAt f e p (o :: os)) : p + (encB o.1).length + (swL o.2).length ≤ e := (CodeAt.le h.2).1
theorem Act.keep {b lo : Int} {s : Al} (h : Act f b lo s) (k : ∀ j, (lo ≤ j ∧ j < lo + 16) ∨ (256 + (b - s.stk.length) < j ∧ j ≤ 256 + b) → f' j = f j) : Act f' b lo s :=
  ⟨fun j h0 h1 => (k j (.inl ⟨h0, h1⟩)).trans (h.ce j h0 h1), fun i v hv => (k _ (.inr (by have := (List.getElem?_eq_some_iff.mp hv).1; lia))).trans (h.stk i v hv)⟩
theorem Parked.keep {u b q : Int} {s : Al} (h : Parked f u b q s) (k : ∀ j, j = 240 + u ∨ (251 + (b - s.stk.length) ≤ j ∧ j ≤ 256 + (b - s.stk.length)) → f' j = f j) : Parked f' u b q s :=
  ⟨(k _ (.inl rfl)).trans h.sp, (k _ (.inr (by lia))).trans h.hi, (k _ (.inr (by lia))).trans h.lo, (k _ (.inr (by lia))).trans h.p, (k _ (.inr (by lia))).trans h.a, (k _ (.inr (by lia))).trans h.x, (k _ (.inr (by lia))).trans h.y⟩
end
end Mine
end
section
open PySem PySem.W PySem.Calls PyProof.Rows
set_option autoImplicit false
set_option maxRecDepth 100000
namespace Mine
noncomputable def updP (P : Nat → Pr) (t : Nat) (r : Pr) : Nat → Pr := fun u => if u = t then r else P u
theorem updP_at (P : Nat → Pr) (t : Nat) (r : Pr) : updP P t r t = r := if_pos rfl
theorem updP_ne (P : Nat → Pr) {t u : Nat} (r : Pr) (h : u ≠ t) : updP P t r u = P u := if_neg h
theorem AStep_len (b : Int) (o : Ord) (s : Al) : (AStep b o s).stk.length ≤ s.stk.length + 1 := by
  obtain ⟨k, v, c⟩ := o
  by_cases h : k < 20
  · refine all20 (P := fun k => (AStep b ⟨k, v, c⟩ s).stk.length ≤ s.stk.length + 1) ?_ ?_ ?_ ?_ ?_ ?_ ?_ ?_ ?_ ?_ ?_ ?_ ?_ ?_ ?_ ?_ ?_ ?_ ?_ ?_ k h
    case refine_15 => show (s.stk ++ [s.a]).length ≤ _; rw [List.length_append]; exact Nat.le_refl _
    case refine_16 => show s.stk.dropLast.length ≤ _; rw [List.length_dropLast]; lia
    case refine_19 => show (if s.fl.c = true then s else nzY s ((s.y + 1) % 256)).stk.length ≤ _; split <;> exact Nat.le_succ _
    all_goals exact Nat.le_succ s.stk.length
  · have n : ∀ j, j < 20 → ¬ k = j := fun j hj => by lia
    have : AStep b ⟨k, v, c⟩ s = nzX s (b - s.stk.length) := by
      unfold AStep
      dsimp only
      rw [if_neg (n 0 (by decide)), if_neg (n 1 (by decide)), if_neg (n 2 (by decide)), if_neg (n 3 (by decide)), if_neg (n 4 (by decide)), if_neg (n 5 (by decide)), if_neg (n 6 (by decide)), if_neg (n 7 (by decide)), if_neg (n 8 (by decide)), if_neg (n 9 (by decide)), if_neg (n 10 (by decide)), if_neg (n 11 (by decide)), if_neg (n 12 (by decide)), if_neg (n 13 (by decide)), if_neg (n 14 (by decide)), if_neg (n 15 (by decide)), if_neg (n 16 (by decide)), if_neg (n 17 (by decide)), if_neg (n 18 (by decide))]
    rw [this]; exact Nat.le_succ _
section
variable {X : Fix} {f f' : Int → Int} {t u : Nat} {P : Nat → Pr} {r : Pr}
theorem FixOk.m4 (XO : FixOk X) : X.m ≤ 4 ∧ 2 ≤ X.m := by rcases XO.m with h | h | h <;> lia
theorem KD.code (XO : FixOk X) (ht : t < X.m) {dn : Nat → Bool} {pc : Int} (h0 : 544 + 64 * (t : Int) ≤ pc) (h1 : pc < 608 + 64 * (t : Int)) (h2 : dn t = false → pc ≠ X.e t) : KD X dn pc := fun u hu hd => by
  by_cases q : u = t
  · subst q; exact h2 hd
  · have := XO.e0 u hu
    have := XO.e1 u hu
    lia
theorem KD.low (XO : FixOk X) {dn : Nat → Bool} {pc : Int} (h : pc < 544) : KD X dn pc := fun u hu _ => by have := XO.e0 u hu; lia
theorem PI.keep (h : PI X f t r) (k : ∀ j : Int, (16 * (t : Int) ≤ j ∧ j < 16 * (t : Int) + 16) ∨ (256 + (bs t - r.s.stk.length) < j ∧ j ≤ 256 + bs t) → f' j = f j) : PI X f' t r :=
  ⟨h.code, h.p0, h.act.keep k, h.v, h.ok, h.len, h.fin, h.dn⟩
theorem Inv.order (XO : FixOk X) (I : Inv X f t P) {o : Ord × Bool} {rest : List (Ord × Bool)} (hd : (P t).dn = false) (ho : (P t).os = o :: rest) : ∃ n f', n ≤ 2 ∧ Run (KD X fun u => (P u).dn) n f (rg (P t).p (bs t) (P t).s) f' (rg ((P t).p + (encB o.1).length) (bs t) (AStep (bs t) o.1 (P t).s)) ∧
    Inv X f' t (updP P t ⟨rest, (P t).p + (encB o.1).length + (swL o.2).length, AStep (bs t) o.1 (P t).s, false⟩) := by
  have bt : bs t = 255 - 64 * (t : Int) := rfl
  have T := I.pi t I.cl
  have tm := I.cl
  have m4 := XO.m4
  have hc := T.code
  have hok := T.ok
  have hl := T.len
  have hf := T.fin
  rw [ho] at hc hok hl hf
  have e0 := XO.e0 t tm
  have e1 := XO.e1 t tm
  have hsw := hc.sw
  have p0 := T.p0
  have l1 : 0 < (encB o.1).length := Nat.succ_pos _
  have hl' : (P t).s.stk.length + rest.length + 1 ≤ 12 := hl
  obtain ⟨n, f', hn, hr, B', A', V', k'⟩ := ord_run (K := KD X fun u => (P u).dn) (b := bs t) (lo := 16 * (t : Int)) (p := (P t).p) (o := o.1) (s := (P t).s) ⟨I.B, T.act, T.v, hok.1, fun q => KD.code XO tm (by lia) (by lia) (fun _ => by
      have : (encB o.1).length = 3 := by obtain ⟨⟨k, v, c⟩, sw⟩ := o; cases q; rfl
      lia), hc.1.app.1.keep fun j hj => I.kp j (.inr (.inr (.inr (by lia)))), KD.code XO tm p0 (by lia) (fun _ => by lia), by lia, by lia, by lia, by lia, by lia, by lia, by lia⟩
  refine ⟨n, f', hn, hr, B', fun j hj => ?_, tm, ?_, fun u hu => ?_, fun u hu hne => ?_, ⟨t, tm, by rw [updP_at]⟩⟩
  · rw [k' j (by lia) (by lia)]; exact I.kp j hj
  · rw [k' 248 (by lia) (by lia)]; exact I.c248
  · by_cases q : u = t
    · subst q
      rw [updP_at]
      have := AStep_len (bs u) o.1 (P u).s
      exact ⟨hc.2, by dsimp only; lia, A', V', hok.2, by dsimp only; lia, hf, fun h => by cases h⟩
    · rw [updP_ne _ _ q]
      have U := I.pi u hu
      have ul := U.len
      have bu : bs u = 255 - 64 * (u : Int) := rfl
      exact U.keep fun j hj => k' j (by lia) (by lia)
  · rw [updP_ne _ _ hne]
    have bu : bs u = 255 - 64 * (u : Int) := rfl
    have ul := (I.pi u hu).len
    exact (I.pk u hu hne).keep fun j hj => k' j (by lia) (by lia)
theorem Inv.switch (XO : FixOk X) (I : Inv X f t P) {j : Int} {K : Int → Prop} (hq : qP (P t) = j + 3) (hO : Oct X.f0 j [32, 0, 2]) (j0 : 544 ≤ j) (j1 : j < 900) (kj : K j) (kc : ∀ i, 512 ≤ i → i < 538 → K i) (hu : u = (t + 1) % X.m) :
    ∃ f', Run K 22 f (rg j (bs t) (P t).s) f' (rg (qP (P u)) (bs u) (P u).s) ∧ Inv X f' u P := by
  have m4 := XO.m4
  have tm := I.cl
  have um : u < X.m := by rw [hu]; exact Nat.mod_lt _ (by lia)
  have ne : t ≠ u := by
    intro q
    rcases XO.m with h | h | h <;> rw [h] at hu tm <;> lia
  have bt : bs t = 255 - 64 * (t : Int) := rfl
  have bu : bs u = 255 - 64 * (u : Int) := rfl
  have T := I.pi t tm
  have U := I.pi u um
  have k := I.pk u um (fun q => ne q.symm)
  have tl := T.len
  have ul := U.len
  have hi : ∀ j, 512 ≤ j → f j = X.f0 j := fun j h => I.kp j (.inr (.inr (.inr h)))
  obtain ⟨F, fl', r1, B1, sm, F248, Fs, F0, F1, F2, F3, F4, F5⟩ := sw_push (K := K) (f := f) (t := (t : Int)) (S := bs t - (P t).s.stk.length) (j := j) (u := (u : Int)) (R := bs u - (P u).s.stk.length) (fl := (P t).s.fl) I.B T.v.a T.v.x T.v.y (by lia) (by lia) (by lia) (by lia) (by lia) (by lia) (by lia) (by lia) (by lia) (by lia) j1
    (hO.keep fun j h => hi j (by lia)) (XO.ch.keep fun j h => hi j h) I.c248 (by rw [I.kp _ (.inr (.inl (by lia))), XO.nx t tm, hu]) k.sp kj kc
  have kF := k.keep (f' := F) fun i hi => sm i (by lia) (by lia) (by lia)
  have q0 : 544 ≤ qP (P u) ∧ qP (P u) < 900 := by
    have h1 := XO.e1 u um
    have h2 := U.code.le.1
    have h3 := U.p0
    show 544 ≤ (if (P u).dn = true then (P u).p + 3 else (P u).p) ∧ (if (P u).dn = true then (P u).p + 3 else (P u).p) < 900
    split <;> lia
  have r2 := sw_pull (K := K) (f := F) (R := bs u - (P u).s.stk.length) (fl := fl') (a := bs u - (P u).s.stk.length - 6) (x := bs u - (P u).s.stk.length - 6) (y := (t : Int)) B1 (by lia) (by lia) (by lia) U.v.a U.v.x U.v.y (by lia) (by lia) (XO.ch.keep fun j h => (sm j (by lia) (by lia) (by lia)).trans (hi j h)) kF.hi kF.lo kF.p kF.a kF.x kF.y (by lia) kc
  rw [show (qP (P u) - 1) % 256 + (qP (P u) - 1) / 256 * 256 + 1 = qP (P u) by lia] at r2
  refine ⟨F, r1.trans r2, B1, fun j hj => ?_, um, F248, fun v hv => ?_, fun v hv hne => ?_, I.some⟩
  · rw [sm j (by lia) (by lia) (by lia)]; exact I.kp j hj
  · have W := I.pi v hv
    have wl := W.len
    have bv : bs v = 255 - 64 * (v : Int) := rfl
    by_cases q : v = t
    · subst q; exact W.keep fun j hj => sm j (by lia) (by lia) (by lia)
    · exact W.keep fun j hj => sm j (by lia) (by lia) (by lia)
  · by_cases q : v = t
    · subst q
      rw [hq]
      exact ⟨Fs, by rw [F0]; congr 1; lia, by rw [F1]; congr 1; lia, F2, F3, F4, F5⟩
    · have wl := (I.pi v hv).len
      have bv : bs v = 255 - 64 * (v : Int) := rfl
      exact (I.pk v hv q).keep fun j hj => sm j (by lia) (by lia) (by lia)
end
end Mine
end
section
open PySem PySem.W PySem.Calls PyProof.Rows
set_option autoImplicit false
set_option maxRecDepth 100000
namespace Mine
noncomputable def cntS : List (Ord × Bool) → Nat
  | [] => 0
  | o :: r => (if o.2 then 1 else 0) + cntS r
noncomputable def sumL (P : Nat → Pr) : Nat := (P 0).os.length + (P 1).os.length + (P 2).os.length + (P 3).os.length
theorem sum_upd (P : Nat → Pr) (r : Pr) {t : Nat} (h : t < 4) : sumL (updP P t r) + (P t).os.length = sumL P + r.os.length := by
  unfold sumL updP
  match t, h with
  | 0, _ => simp; lia
  | 1, _ => simp; lia
  | 2, _ => simp; lia
  | 3, _ => simp; lia
def Left (m cur S : Nat) (P : Nat → Pr) : Prop := ∀ t, t < m → (P t).dn = false → cntS (P t).os * m + (t + m - cur) % m ≤ S
theorem rot_fin : ∀ m c t : Fin 5, 2 ≤ m.1 → c.1 < m.1 → t.1 < m.1 → (t.1 ≠ c.1 → (t.1 + m.1 - c.1) % m.1 = (t.1 + m.1 - (c.1 + 1) % m.1) % m.1 + 1) ∧ (t.1 = c.1 → (t.1 + m.1 - (c.1 + 1) % m.1) % m.1 + 1 = m.1) := by decide +kernel
theorem rot {m c t : Nat} (hm : m = 2 ∨ m = 3 ∨ m = 4) (hc : c < m) (ht : t < m) : (t ≠ c → (t + m - c) % m = (t + m - (c + 1) % m) % m + 1) ∧ (t = c → (t + m - (c + 1) % m) % m + 1 = m) :=
  have h5 : m < 5 := by rcases hm with h | h | h <;> rw [h] <;> decide
  rot_fin ⟨m, h5⟩ ⟨c, Nat.lt_trans hc h5⟩ ⟨t, Nat.lt_trans ht h5⟩ (by rcases hm with h | h | h <;> (show 2 ≤ m; rw [h]; decide)) hc ht
theorem left_next {m cur S : Nat} {P : Nat → Pr} (hm : m = 2 ∨ m = 3 ∨ m = 4) (hc : cur < m) (h : ∀ t, t < m → t ≠ cur → (P t).dn = false → cntS (P t).os * m + (t + m - cur) % m ≤ S + 1) (hcur : (P cur).dn = false → cntS (P cur).os * m + m ≤ S + 1) : Left m ((cur + 1) % m) S P := by
  intro t ht hd
  have r := rot hm hc ht
  by_cases q : t = cur
  · have a := hcur (q ▸ hd)
    have b := r.2 q
    rw [q] at b ⊢
    exact Nat.le_of_succ_le_succ (Nat.le_trans (Nat.le_of_eq (congrArg (cntS (P cur).os * m + ·) b)) a)
  · have a := h t ht q hd
    rw [r.1 q] at a
    exact Nat.le_of_succ_le_succ a
section
variable {X : Fix} {Lp : Nat → (Int → Int) → Rg → (Nat → Bool) → Prop} {f f' : Int → Int} {t u : Nat} {P : Nat → Pr}
theorem Inv.dn (I : Inv X f t P) (s : Bool) (ho : (P t).os = []) (h : ∃ u, u < X.m ∧ u ≠ t ∧ (P u).dn = false) : Inv X f t (updP P t { P t with dn := s }) := by
  refine ⟨I.B, I.kp, I.cl, I.c248, fun u hu => ?_, fun u hu hne => ?_, ?_⟩
  · by_cases q : u = t
    · subst q
      rw [updP_at]
      have T := I.pi u hu
      exact ⟨T.code, T.p0, T.act, T.v, T.ok, T.len, T.fin, fun _ => ho⟩
    · rw [updP_ne _ _ q]; exact I.pi u hu
  · rw [updP_ne _ _ hne]; exact I.pk u hu hne
  · obtain ⟨u, h1, h2, h3⟩ := h
    exact ⟨u, h1, by rw [updP_ne _ _ h2]; exact h3⟩
theorem Inv.jmp (XO : FixOk X) (I : Inv X f t P) (ho : (P t).os = []) : Stp f (rg (X.e t + 3) (bs t) (P t).s) f (rg (X.e t) (bs t) (P t).s) := by
  have T := I.pi t I.cl
  have hc := T.code
  rw [ho] at hc
  obtain ⟨hp, hO⟩ := hc
  have e0 := XO.e0 t I.cl
  have e1 := XO.e1 t I.cl
  have m4 := XO.m4
  have tm := I.cl
  have tl := T.len
  have bt : bs t = 255 - 64 * (t : Int) := rfl
  rw [hp] at hO
  have hO := hO.keep (f' := f) fun j hj => I.kp j (.inr (.inr (.inr (by lia))))
  obtain ⟨_, _, _, o3, o4, o5, _⟩ := hO
  have e3 : X.e t + 1 + 1 + 1 = X.e t + 3 := by lia
  rw [e3] at o3 o4 o5
  have h := st_JMP (g := rg (X.e t + 3) (bs t) (P t).s) I.B (mkG T.v.a T.v.x T.v.y (by lia) (by lia) (by lia) (by lia)) o3
  dsimp only at h
  rw [o4, o5, show X.e t % 256 + X.e t / 256 * 256 = X.e t by lia] at h
  exact h
theorem Loop.dnEq {n : Nat} {g : Rg} {d d' : Nat → Bool} (h : Lp n f g d) (e : ∀ u, d u = d' u) : Lp n f g d' := by
  rw [← funext e]; exact h
theorem main (XO : FixOk X) (L : Loop X Lp) : ∀ (N R S n : Nat) (f : Int → Int) (t : Nat) (P : Nat → Pr), R + S < N → Inv X f t P → sumL P ≤ R → Left X.m t S P → 2 * R + 23 * (S + 1) ≤ n → Lp n f (rg (qP (P t)) (bs t) (P t).s) (fun u => (P u).dn) := by
  intro N
  induction N with
  | zero => intro R S n f t P h; exact absurd h (Nat.not_lt_zero _)
  | succ N ih =>
    intro R S n f t P hN I hR hL hn
    have tm := I.cl
    have m4 := XO.m4
    have T := I.pi t tm
    have e0 := XO.e0 t tm
    have e1 := XO.e1 t tm
    have low : ∀ {d : Nat → Bool} (i : Int), 512 ≤ i → i < 538 → KD X d i := fun i h0 h1 => KD.low XO (by lia)
    cases hd : (P t).dn with
    | true =>
      -- the end's loop goes on
      have ho := T.dn hd
      have hc := T.code
      rw [ho] at hc
      obtain ⟨hp, hO⟩ := hc
      rw [hp] at hO
      have hq : qP (P t) = X.e t + 3 := by show (if (P t).dn = true then (P t).p + 3 else (P t).p) = _; rw [if_pos hd, hp]
      have hj := I.jmp XO ho
      obtain ⟨f', hr, I'⟩ := I.switch XO (u := (t + 1) % X.m) (j := X.e t) (K := KD X fun u => (P u).dn) hq (Oct.app (l1 := [32, 0, 2]) (l2 := [76, X.e t % 256, X.e t / 256]) hO).1 (by lia) (by lia) (KD.code XO tm e0 (by lia) (fun q => by rw [hd] at q; cases q)) low rfl
      obtain ⟨v, hv, hvd⟩ := I.some
      have hvt : v ≠ t := fun q => by rw [q, hd] at hvd; cases hvd
      have hS : 1 ≤ S := by
        have := hL v hv hvd
        rcases XO.m with h | h | h <;> rw [h] at this hv tm <;> lia
      obtain ⟨S, rfl⟩ : ∃ S', S = S' + 1 := ⟨S - 1, by lia⟩
      have hL' : Left X.m ((t + 1) % X.m) S P := left_next XO.m tm (fun u hu _ hud => hL u hu hud) (fun q => by rw [hd] at q; cases q)
      have := ih R S (n - 23) f' _ P (by lia) I' hR hL' (by lia)
      rw [hq]
      have := L.quiet _ _ _ _ _ _ hj (KD.code (pc := X.e t + 3) XO tm (by lia) (by lia) (fun q => by rw [hd] at q; cases q)) (L.run hr this)
      rwa [show n - 23 + 22 + 1 = n by lia] at this
    | false =>
      have hq : qP (P t) = (P t).p := by show (if (P t).dn = true then (P t).p + 3 else (P t).p) = _; rw [hd]; rfl
      rw [hq]
      cases ho : (P t).os with
      | nil =>
        have hc := T.code
        have hf := T.fin
        rw [ho] at hc hf
        obtain ⟨hp, hO⟩ := hc
        have hf : (P t).s = X.fin t := hf
        rw [hp] at hO
        by_cases hx : ∃ u, u < X.m ∧ u ≠ t ∧ (P u).dn = false
        · have I1 := I.dn true ho hx
          obtain ⟨f', hr, I'⟩ := I1.switch XO (u := (t + 1) % X.m) (j := X.e t) (K := KD X fun u => if u = t then true else (P u).dn) (by rw [updP_at]; show (if true = true then (P t).p + 3 else (P t).p) = _; rw [if_pos rfl, hp]) (Oct.app (l1 := [32, 0, 2]) (l2 := [76, X.e t % 256, X.e t / 256]) hO).1 (by lia) (by lia) (KD.code XO tm e0 (by lia) (fun q => by rw [if_pos rfl] at q; cases q)) low rfl
          have hS : 1 ≤ S := by
            obtain ⟨v, hv, hvt, hvd⟩ := hx
            have := hL v hv hvd
            rcases XO.m with h | h | h <;> rw [h] at this hv tm <;> lia
          obtain ⟨S, rfl⟩ : ∃ S', S = S' + 1 := ⟨S - 1, by lia⟩
          have hR' : sumL (updP P t { P t with dn := true }) ≤ R := by
            have : sumL (updP P t { P t with dn := true }) + (P t).os.length = sumL P + (P t).os.length := sum_upd P { P t with dn := true } (t := t) (by lia)
            lia
          have hL' : Left X.m ((t + 1) % X.m) S (updP P t { P t with dn := true }) := left_next XO.m tm (fun u hu hut hud => by rw [updP_ne _ _ hut] at hud ⊢; exact hL u hu hud) (fun q => by rw [updP_at] at q; cases q)
          have h1 := Loop.dnEq (ih R S (n - 22) f' _ _ (by lia) I' hR' hL' (by lia)) (d' := fun u => if u = t then true else (P u).dn) fun u => by
            by_cases q : u = t
            · subst q; rw [updP_at, if_pos rfl]
            · rw [updP_ne _ _ q, if_neg q]
          rw [updP_at] at hr
          cases hr with
          | cons s1 _ hr =>
            have h2 := L.run hr h1
            rw [hp]
            have s1 : Stp f (rg (X.e t) (bs t) (P t).s) _ _ := s1
            rw [hf] at s1 ⊢
            have h3 := L.hit _ f _ _ (fun u => (P u).dn) t tm hd hx s1 h2
            rwa [show n - 22 + 21 + 1 = n by lia] at h3
        · have all : ∀ u, u < X.m → u ≠ t → (P u).dn = true := fun u hu hut => by
            cases q : (P u).dn with
            | true => rfl
            | false => exact absurd ⟨u, hu, hut, q⟩ hx
          rw [hp, hf]
          have h3 := L.last (n - 1) f (fun u => (P u).dn) t tm hd all I.kp fun u hu => by
            by_cases q : u = t
            · subst q; rw [← hf]; exact T.act
            · have U := I.pi u hu
              have hf2 := U.fin
              rw [U.dn (all u hu q)] at hf2
              rw [← hf2]; exact U.act
          rwa [show n - 1 + 1 = n by lia] at h3
      | cons o rest =>
        obtain ⟨k, f1, hk, hr, I1⟩ := I.order XO hd ho
        have hs := sum_upd P ⟨rest, (P t).p + (encB o.1).length + (swL o.2).length, AStep (bs t) o.1 (P t).s, false⟩ (t := t) (by lia)
        rw [ho] at hs
        have hs : sumL (updP P t ⟨rest, (P t).p + (encB o.1).length + (swL o.2).length, AStep (bs t) o.1 (P t).s, false⟩) + (rest.length + 1) = sumL P + rest.length := hs
        obtain ⟨R, rfl⟩ : ∃ R', R = R' + 1 := ⟨R - 1, by lia⟩
        have hd1 : ∀ u, (updP P t ⟨rest, (P t).p + (encB o.1).length + (swL o.2).length, AStep (bs t) o.1 (P t).s, false⟩ u).dn = (P u).dn := fun u => by
          by_cases q : u = t
          · subst q; rw [updP_at, hd]
          · rw [updP_ne _ _ q]
        have hc := T.code
        rw [ho] at hc
        have hc : Oct X.f0 (P t).p (encB o.1 ++ swL o.2) ∧ CodeAt X.f0 (X.e t) ((P t).p + (encB o.1).length + (swL o.2).length) rest := hc
        have hlt := hL t tm hd
        rw [ho] at hlt
        cases hw : o.2 with
        | false =>
          rw [hw] at I1 hs hd1
          have hL' : Left X.m t S (updP P t ⟨rest, (P t).p + (encB o.1).length + (swL false).length, AStep (bs t) o.1 (P t).s, false⟩) := fun u hu hud => by
            by_cases q : u = t
            · subst q
              rw [updP_at]
              have : cntS (o :: rest) = 0 + cntS rest := by show (if o.2 = true then 1 else 0) + cntS rest = _; rw [hw]; rfl
              rw [this, Nat.zero_add] at hlt
              exact hlt
            · rw [updP_ne _ _ q] at hud ⊢; exact hL u hu hud
          have h1 := Loop.dnEq (ih R S (n - k) f1 t _ (by lia) I1 (by lia) hL' (by lia)) hd1
          rw [updP_at] at h1
          have h2 := L.run hr (by
            have e : (P t).p + (encB o.1).length + (swL false).length = (P t).p + (encB o.1).length := Int.add_zero _
            have e2 : qP ⟨rest, (P t).p + (encB o.1).length + (swL false).length, AStep (bs t) o.1 (P t).s, false⟩ = (P t).p + (encB o.1).length := e
            rw [e2] at h1
            exact h1)
          rwa [show n - k + k = n by lia] at h2
        | true =>
          rw [hw] at I1 hs hd1 hc
          have hO := (Oct.app hc.1).2
          have hsw := (CodeAt.le hc.2).1
          have p0 := T.p0
          have e3 : ((swL true).length : Int) = 3 := rfl
          obtain ⟨f', hr2, I'⟩ := I1.switch XO (u := (t + 1) % X.m) (j := (P t).p + (encB o.1).length) (K := KD X fun u => (P u).dn) (by rw [updP_at]; rfl) hO (by lia) (by lia) (KD.code XO tm (by lia) (by lia) (fun _ => by lia)) low rfl
          have hS : 1 ≤ S := by
            have : cntS (o :: rest) = 1 + cntS rest := by show (if o.2 = true then 1 else 0) + cntS rest = _; rw [hw]; rfl
            rw [this, Nat.add_mul] at hlt
            lia
          obtain ⟨S, rfl⟩ : ∃ S', S = S' + 1 := ⟨S - 1, by lia⟩
          have hL' : Left X.m ((t + 1) % X.m) S (updP P t ⟨rest, (P t).p + (encB o.1).length + (swL true).length, AStep (bs t) o.1 (P t).s, false⟩) := left_next XO.m tm (fun u hu hut hud => by rw [updP_ne _ _ hut] at hud ⊢; exact hL u hu hud) (fun _ => by
            rw [updP_at]
            have : cntS (o :: rest) = 1 + cntS rest := by show (if o.2 = true then 1 else 0) + cntS rest = _; rw [hw]; rfl
            rw [this, Nat.add_mul] at hlt
            dsimp only
            lia)
          have h1 := Loop.dnEq (ih R S (n - 22 - k) f' _ _ (by lia) I' (by lia) hL' (by lia)) hd1
          rw [updP_at] at hr2
          have h2 := L.run hr (L.run hr2 h1)
          rwa [show n - 22 - k + 22 + k = n by lia] at h2
end
end Mine
end
section
open PySem PySem.W PySem.Calls PyProof.Rows
set_option autoImplicit false
set_option maxRecDepth 100000
namespace Mine
noncomputable def cellL (f : Int → Int) : List V := (List.range 64).map fun (i : Nat) => .int (f i)
theorem cellL_len (f : Int → Int) : (cellL f).length = 64 := by unfold cellL; simp
theorem cellL_at (f : Int → Int) {j : Nat} (h : j < 64) : (cellL f)[j]? = some (.int (f (j : Int))) := by
  unfold cellL
  rw [List.getElem?_map, List.getElem?_range h]; rfl
theorem cellL_get (f : Int → Int) {i : Int} (h0 : 0 ≤ i) (h1 : i < 64) : (cellL f)[i.toNat]? = some (.int (f i)) := by
  rw [cellL_at f (by lia), Int.toNat_of_nonneg h0]
theorem cellL_set (f : Int → Int) {i v : Int} (h0 : 0 ≤ i) : (cellL f).set i.toNat (.int v) = cellL (upd f i v) := by
  refine List.ext_getElem? fun j => ?_
  rw [List.getElem?_set, cellL_len]
  by_cases hj : j < 64
  · rw [cellL_at _ hj, cellL_at _ hj]
    unfold upd
    by_cases e : i.toNat = j
    · rw [if_pos e, if_pos (by lia), if_pos (by lia)]
    · rw [if_neg e, if_neg (by lia)]
  · have n : ∀ f, (cellL f)[j]? = none := fun f => List.getElem?_eq_none (by rw [cellL_len]; lia)
    rw [n, n]
    by_cases e : i.toNat = j
    · rw [if_pos e, if_neg (by lia)]
    · rw [if_neg e]
theorem at_mid {α : Type} : ∀ (G : List α) (x : α) (R : List α), (G ++ x :: R)[G.length]? = some x
  | [], _, _ => rfl
  | _ :: G, x, R => at_mid G x R
theorem set_mid {α : Type} : ∀ (G : List α) (x y : α) (R : List α), (G ++ x :: R).set G.length y = G ++ y :: R
  | [], _, _, _ => rfl
  | a :: G, x, y, R => congrArg (a :: ·) (set_mid G x y R)
noncomputable def thru (k : Nat) (r : Option (Fl × Loc × Hp)) : Option (Fl × Loc × Hp) := match k with
  | 0 => r
  | k + 1 => (thru k r).bind fun x => match x.1 with
    | .next => some (.next, x.2.1, x.2.2)
    | fl => some (fl, x.2.1, x.2.2)
theorem thru_next : ∀ (k : Nat) (L : Loc) (H : Hp), thru k (some (.next, L, H)) = some (.next, L, H)
  | 0, _, _ => rfl
  | k + 1, L, H => by
    show (thru k (some (.next, L, H))).bind _ = _
    rw [thru_next k]; rfl
noncomputable def br : Nat → S → S
  | 0, .ite _ a _ => a
  | k + 1, .ite _ _ (.seq b .skip) => br k b
  | _, s => s
noncomputable abbrev aL7 (o r fl : V) (b : Int) (si : Nat) (p : Option V) (a x y c z v n h : Int) (k u w t m g q : Option V) : Loc :=
  [some o, some r, some fl, some (.int b), some (.ref 1), some (.ref si), p, some (.int a), some (.int x), some (.int y), some (.int c), some (.int z), some (.int v), some (.int n), some (.int h), k, u, w, t, m, g, q]
noncomputable abbrev aL (o r fl : V) (b : Int) (si : Nat) (p : Option V) (s : Al) (k u w t m g q : Option V) : Loc := aL7 o r fl b si p s.a s.x s.y (b2 s.fl.c) (b2 s.fl.z) (b2 s.fl.v) (b2 s.fl.n) (b2 s.fl.h) k u w t m g q
noncomputable abbrev hA (mm : List V) (es st : HO) (G : Hp) (s : Al) : Hp := .list mm :: .list (cellL s.ce) :: es :: st :: (G ++ [.list (s.stk.map .int)])
section
variable {o r fl : V} {b : Int} {si : Nat} {p : Option V} {a x y c z v n h : Int} {k u w t m g q : Option V} {H H1 : Hp} {cf : CallF}
theorem tell_some {d : Int} : evalS cxL cf sAB2 (aL7 o r fl b si p a x y c z v n h k u w (some (.int d)) m g q) H = some (.next, aL7 o r fl b si p a x y c (b2 (d == 0)) v (d / 128) h k u w (some (.int d)) m g q, H) := by
  unfold sAB2
  rw [s_ite (x := .bool true) (t := true) (H1 := H) (e_cmp (x := .int d) (y := .none) rfl rfl rfl) rfl]
  refine seq_then (L1 := aL7 o r fl b si p a x y c (b2 (d == 0)) v n h k u w (some (.int d)) m g q) (H1 := H) (s_set (v := .int (b2 (d == 0))) ?_ (Nat.le_of_ble_eq_true rfl)) (by kernel_rfl)
  rw [e_ite (x := .bool (d == 0)) (t := d == 0) (H1 := H) (e_cmp (x := .int d) (y := .int 0) rfl rfl rfl) rfl]
  cases (d == 0) <;> rfl
theorem tell_none : evalS cxL cf sAB2 (aL7 o r fl b si p a x y c z v n h k u w (some .none) m g q) H = some (.next, aL7 o r fl b si p a x y c z v n h k u w (some .none) m g q, H) := by kernel_rfl
theorem al_of {L1 L2 : Loc} {H2 : Hp} (i : Nat) (h0 : evalS cxL cf sAB1 (aL7 o r fl b si p a x y c z v n h k u w (some .none) m g q) H = thru i (evalS cxL cf (br i sAB1) (aL7 o r fl b si p a x y c z v n h k u w (some .none) m g q) H))
    (hb : evalS cxL cf (br i sAB1) (aL7 o r fl b si p a x y c z v n h k u w (some .none) m g q) H = some (.next, L1, H1)) (h2 : evalS cxL cf sAB2 L1 H1 = some (.next, L2, H2)) : evalS cxL cf sAloop (aL7 o r fl b si p a x y c z v n h k u w t m g q) H = some (.next, L2, H2) := by
  rw [hb, thru_next] at h0
  exact seq_then (L1 := aL7 o r fl b si p a x y c z v n h k u w (some .none) m g q) (H1 := H) rfl (seq_then h0 (s_one h2))
theorem b_mul (x y : Int) (h0 : x.natAbs < 2 ^ 32) (h1 : y.natAbs < 2 ^ 32) : binV .Mult (.int x) (.int y) = some (.int (x * y)) := by
  show (if x.natAbs < 2 ^ 32 ∧ y.natAbs < 2 ^ 32 then some (x * y) else none).map V.int = _
  rw [if_pos ⟨h0, h1⟩]; rfl
end
theorem div128 {d : Int} (h0 : 0 ≤ d) (h1 : d ≤ 255) : d / 128 = b2 (decide (128 ≤ d)) := by
  unfold b2
  by_cases h : 128 ≤ d
  · rw [decide_eq_true h, if_pos rfl]; lia
  · rw [decide_eq_false h, if_neg (by decide)]; lia
theorem div256 {w : Int} (h0 : 0 ≤ w) (h1 : w ≤ 511) : w / 256 = b2 (decide (255 < w)) := by
  unfold b2
  by_cases h : 255 < w
  · rw [decide_eq_true h, if_pos rfl]; lia
  · rw [decide_eq_false h, if_neg (by decide)]; lia
theorem xor128 {a : Int} (h0 : 0 ≤ a) (h1 : a ≤ 255) : Builtin.bitXor a 128 = a + 128 - 256 * b2 (bO a) := by
  rw [bitXor_and, and128, bt7 h0 h1]
  show _ = a + 128 - 256 * b2 (decide (128 ≤ a))
  lia
theorem ov_law {a m c : Int} (a0 : 0 ≤ a) (a1 : a ≤ 255) (m0 : 0 ≤ m) (m1 : m ≤ 255) (c0 : 0 ≤ c) (c1 : c ≤ 1) : (decide (-128 ≤ Builtin.bitXor a 128 + Builtin.bitXor m 128 + c - 256) && decide (Builtin.bitXor a 128 + Builtin.bitXor m 128 + c - 256 ≤ 127)) = !ovf a m (a + m + c) := by
  rw [xor128 a0 a1, xor128 m0 m1]
  unfold ovf bO b2
  by_cases ha : 128 ≤ a <;> by_cases hm : 128 ≤ m <;> by_cases hw : 128 ≤ (a + m + c) % 256 <;> simp only [ha, hm, hw, decide_true, decide_false, if_true, Bool.false_eq_true, if_false] <;> simp <;> lia
end Mine
end
section
open PySem PySem.W PySem.Calls PyProof.Rows
set_option autoImplicit false
set_option maxRecDepth 100000
namespace Mine
section
variable {C : Cx} {cf : CallF} {L L' : Loc} {H H1 H2 : Hp}
theorem s_two {i j : Nat} {e : E} {v : V} (h : evalE C cf L e H = some (v, H1)) (hs : setFwd [i, j] [v, v] L = some L') : evalS C cf (.two i j e) L H = some (.next, L', H1) := by
  show (evalE C cf L e H).bind _ = _
  rw [h]
  show (setFwd [i, j] [v, v] L).bind _ = _
  rw [hs]; rfl
theorem s_append {i : Nat} {e : E} {o v : V} (ho : locV L i = some o) (h0 : moreL H o [] = some H2) (h : evalE C cf L e H = some (v, H)) (hs : moreL H o [v] = some H1) : evalS C cf (.append i e) L H = some (.next, L, H1) := by
  show (locV L i).bind _ = _
  rw [ho]
  show (moreL H o []).bind _ = _
  rw [h0]
  show (evalE C cf L e H).bind _ = _
  rw [h]
  show (moreL H o [v]).bind _ = _
  rw [hs]; rfl
end
theorem moreL_at {H : Hp} {l : Nat} {vs us : List V} (h : H[l]? = some (.list vs)) (hs : vs.length + us.length ≤ 65536) : moreL H (.ref l) us = some (H.set l (.list (vs ++ us))) := by
  show (match H[l]? with | some (.list vs) => if vs.length + us.length ≤ 65536 then some (H.set l (.list (vs ++ us))) else none | _ => none) = _
  rw [h]
  exact if_pos hs
def AlTo (mm : List V) (es st : HO) (G : Hp) (cf : CallF) (o r fl : V) (b : Int) (p : Option V) (k : Nat) (u w : Int) (s s' : Al) : Prop := ∀ t m g q, ∃ t' m' g' q', evalS cxL cf sAloop (aL o r fl b (G.length + 4) p s (some (.int (k : Int))) (some (.int u)) (some (.int w)) t m g q) (hA mm es st G s) = some (.next, aL o r fl b (G.length + 4) p s' (some (.int (k : Int))) (some (.int u)) (some (.int w)) t' m' g' q', hA mm es st G s')
structure AlX (b lo : Int) (k : Nat) (u w : Int) (s : Al) : Prop where
  V : VOk b s
  O : OkO lo ⟨k, u, w⟩ s
  l : s.stk.length ≤ 12
  l0 : 0 ≤ lo
  l1 : lo ≤ 48
  b0 : 63 ≤ b
  b1 : b ≤ 255
section
variable {mm : List V} {es st : HO} {G : Hp} {cf : CallF} {o r fl : V} {b lo u w : Int} {p : Option V} {s : Al}
theorem hA_stk : (hA mm es st G s)[G.length + 4]? = some (.list (s.stk.map .int)) := at_mid G _ []
theorem get_cell {L : Loc} {H : Hp} {ce : Int → Int} {c : Int} (h4 : locV L 4 = some (.ref 1)) (h17 : locV L 17 = some (.int c)) (hH : itemsOf cxL H (.ref 1) = some (cellL ce)) (c0 : 0 ≤ c) (c1 : c < 64) : evalE cxL cf L (.sub (.loc 4) (.loc 17)) H = some (.int (ce c), H) :=
  e_subV (x := .ref 1) (vs := cellL ce) (e_loc h4) (e_loc h17) c0 (by lia) hH (cellL_get ce c0 c1)
theorem put_cell {L : Loc} {m : HO} {R : Hp} {ce : Int → Int} {c v : Int} {e : E} (h4 : locV L 4 = some (.ref 1)) (h17 : locV L 17 = some (.int c)) (he : evalE cxL cf L e (m :: .list (cellL ce) :: R) = some (.int v, m :: .list (cellL ce) :: R)) (c0 : 0 ≤ c) (c1 : c < 64) : evalS cxL cf (.assign (.sub (.loc 4) (.loc 17)) e) L (m :: .list (cellL ce) :: R) = some (.next, L, m :: .list (cellL (upd ce c v)) :: R) := by
  rw [s_sub (k := c) (l := 1) (vs := cellL ce) he (e_loc h4) (e_loc h17) rfl c0 (by rw [cellL_len]; lia)]
  show some (Fl.next, _, m :: HO.list ((cellL ce).set c.toNat (.int v)) :: R) = _
  rw [cellL_set ce c0]
theorem al_nz {s1 s' : Al} {k : Nat} {d : Int} (i : Nat) (h0 : ∀ t m g q, evalS cxL cf sAB1 (aL o r fl b (G.length + 4) p s (some (.int (k : Int))) (some (.int u)) (some (.int w)) t m g q) (hA mm es st G s) = thru i (evalS cxL cf (br i sAB1) (aL o r fl b (G.length + 4) p s (some (.int (k : Int))) (some (.int u)) (some (.int w)) t m g q) (hA mm es st G s)))
    (hb : ∀ m g q, ∃ m' g' q', evalS cxL cf (br i sAB1) (aL o r fl b (G.length + 4) p s (some (.int (k : Int))) (some (.int u)) (some (.int w)) (some .none) m g q) (hA mm es st G s) = some (.next, aL o r fl b (G.length + 4) p s1 (some (.int (k : Int))) (some (.int u)) (some (.int w)) (some (.int d)) m' g' q', hA mm es st G s1)) (d0 : 0 ≤ d) (d1 : d ≤ 255)
    (hs : s' = { s1 with fl := nzF s1.fl d }) : AlTo mm es st G cf o r fl b p k u w s s' := by
  intro t m g q
  obtain ⟨m', g', q', hb⟩ := hb m g q
  have := al_of i (h0 _ _ _ _) hb tell_some (t := t)
  rw [div128 d0 d1] at this
  rw [hs]
  exact ⟨_, _, _, _, this⟩
theorem al_no {s' : Al} {k : Nat} (i : Nat) (h0 : ∀ t m g q, evalS cxL cf sAB1 (aL o r fl b (G.length + 4) p s (some (.int (k : Int))) (some (.int u)) (some (.int w)) t m g q) (hA mm es st G s) = thru i (evalS cxL cf (br i sAB1) (aL o r fl b (G.length + 4) p s (some (.int (k : Int))) (some (.int u)) (some (.int w)) t m g q) (hA mm es st G s)))
    (hb : ∀ m g q, evalS cxL cf (br i sAB1) (aL o r fl b (G.length + 4) p s (some (.int (k : Int))) (some (.int u)) (some (.int w)) (some .none) m g q) (hA mm es st G s) = some (.next, aL o r fl b (G.length + 4) p s' (some (.int (k : Int))) (some (.int u)) (some (.int w)) (some .none) m g q, hA mm es st G s')) : AlTo mm es st G cf o r fl b p k u w s s' := by
  intro t m g q
  have := al_of i (h0 _ _ _ _) (hb m g q) tell_none (t := t)
  exact ⟨_, _, _, _, this⟩
theorem al_0 (X : AlX b lo 0 u w s) : AlTo mm es st G cf o r fl b p 0 u w s (AStep b ⟨0, u, w⟩ s) :=
  al_nz (s1 := { s with a := u }) (d := u) 0 (fun _ _ _ _ => by kernel_rfl) (fun m g q => ⟨m, g, q, by kernel_rfl⟩) X.O.v.1 X.O.v.2 rfl
theorem al_1 (X : AlX b lo 1 u w s) : AlTo mm es st G cf o r fl b p 1 u w s (AStep b ⟨1, u, w⟩ s) :=
  al_nz (s1 := { s with x := u }) (d := u) 1 (fun _ _ _ _ => by kernel_rfl) (fun m g q => ⟨m, g, q, by kernel_rfl⟩) X.O.v.1 X.O.v.2 rfl
theorem al_2 (X : AlX b lo 2 u w s) : AlTo mm es st G cf o r fl b p 2 u w s (AStep b ⟨2, u, w⟩ s) :=
  al_nz (s1 := { s with y := u }) (d := u) 2 (fun _ _ _ _ => by kernel_rfl) (fun m g q => ⟨m, g, q, by kernel_rfl⟩) X.O.v.1 X.O.v.2 rfl
theorem al_ad {k : Nat} {mo : Int} (X : AlX b lo k u w s) (m0 : 0 ≤ mo) (m1 : mo ≤ 255) (h0 : ∀ t m g q, evalS cxL cf sAB1 (aL o r fl b (G.length + 4) p s (some (.int (k : Int))) (some (.int u)) (some (.int w)) t m g q) (hA mm es st G s) = thru 3 (evalS cxL cf (br 3 sAB1) (aL o r fl b (G.length + 4) p s (some (.int (k : Int))) (some (.int u)) (some (.int w)) t m g q) (hA mm es st G s)))
    (h4 : ∀ (z : S) (g q : Option V) {L2 : Loc}, evalS cxL cf z (aL o r fl b (G.length + 4) p s (some (.int (k : Int))) (some (.int u)) (some (.int w)) (some .none) (some (.int mo)) g q) (hA mm es st G s) = some (.next, L2, hA mm es st G s) → evalS cxL cf (.seq (.ite (.cmp .Eq (.loc 15) (.cst (.int 3))) (.seq (.assign (.loc 19) (.loc 16)) .skip) .skip) (.seq (.ite (.cmp .Eq (.loc 15) (.cst (.int 4))) (.seq (.assign (.loc 19) (.bin .Sub (.cst (.int 255)) (.loc 16))) .skip) .skip) z)) (aL o r fl b (G.length + 4) p s (some (.int (k : Int))) (some (.int u)) (some (.int w)) (some .none) (some (.int (s.ce w))) g q) (hA mm es st G s) = some (.next, L2, hA mm es st G s)) :
    AlTo mm es st G cf o r fl b p k u w s (adS s mo) := by
  have cb := b2r s.fl.c
  have a := X.V.a
  have hov := ov_law a.1 a.2 m0 m1 cb.1 cb.2
  have w0 : 0 ≤ s.a + mo + b2 s.fl.c := by lia
  have w1 : s.a + mo + b2 s.fl.c ≤ 511 := by lia
  have hd := div256 w0 w1
  refine al_nz (s1 := { adS s mo with fl := ⟨decide (255 < s.a + mo + b2 s.fl.c), s.fl.z, s.fl.h, ovf s.a mo (s.a + mo + b2 s.fl.c), s.fl.n⟩ }) (d := (s.a + mo + b2 s.fl.c) % 256) 3 h0 (fun m g q => ⟨some (.int mo), some (.int (s.a + mo + b2 s.fl.c)), some (.int (Builtin.bitXor s.a 128 + Builtin.bitXor mo 128 + b2 s.fl.c - 256)), ?_⟩) (by lia) (by lia) rfl
  refine seq_then (L1 := aL o r fl b (G.length + 4) p s (some (.int (k : Int))) (some (.int u)) (some (.int w)) (some .none) (some (.int (s.ce w))) g q) (H1 := hA mm es st G s) (s_set (get_cell rfl rfl rfl (Int.le_trans X.l0 X.O.c.1) (by have := X.O.c.2; have := X.l1; dsimp only at *; lia)) (Nat.le_of_ble_eq_true rfl)) (h4 _ g q ?_)
  refine seq_then (L1 := aL o r fl b (G.length + 4) p s (some (.int (k : Int))) (some (.int u)) (some (.int w)) (some .none) (some (.int mo)) (some (.int (s.a + mo + b2 s.fl.c))) q) (H1 := hA mm es st G s) rfl ?_
  refine seq_then (L1 := aL o r fl b (G.length + 4) p s (some (.int (k : Int))) (some (.int u)) (some (.int w)) (some .none) (some (.int mo)) (some (.int (s.a + mo + b2 s.fl.c))) (some (.int (Builtin.bitXor s.a 128 + Builtin.bitXor mo 128 + b2 s.fl.c - 256)))) (H1 := hA mm es st G s) rfl ?_
  generalize hx : Builtin.bitXor s.a 128 + Builtin.bitXor mo 128 + b2 s.fl.c - 256 = sg at hov
  refine seq_then (L1 := aL o r fl b (G.length + 4) p { s with fl := ⟨s.fl.c, s.fl.z, s.fl.h, ovf s.a mo (s.a + mo + b2 s.fl.c), s.fl.n⟩ } (some (.int (k : Int))) (some (.int u)) (some (.int w)) (some .none) (some (.int mo)) (some (.int (s.a + mo + b2 s.fl.c))) (some (.int sg))) (H1 := hA mm es st G s) (s_set (v := .int (b2 (ovf s.a mo (s.a + mo + b2 s.fl.c)))) ?_ (Nat.le_of_ble_eq_true rfl)) ?_
  · have hc : evalE cxL cf (aL o r fl b (G.length + 4) p s (some (.int (k : Int))) (some (.int u)) (some (.int w)) (some .none) (some (.int mo)) (some (.int (s.a + mo + b2 s.fl.c))) (some (.int sg))) (.chain .LtE .LtE (.neg (.cst (.int 128))) 21 (.cst (.int 127))) (hA mm es st G s) = some (.bool (decide (-128 ≤ sg) && decide (sg ≤ 127)), hA mm es st G s) := by
      show (if decide (-128 ≤ sg) = true then _ else _) = _
      cases decide (-128 ≤ sg) <;> rfl
    rw [hov] at hc
    rw [e_ite hc (show truthH (hA mm es st G s) (.bool (!ovf s.a mo (s.a + mo + b2 s.fl.c))) = some (!ovf s.a mo (s.a + mo + b2 s.fl.c)) from rfl)]
    cases ovf s.a mo (s.a + mo + b2 s.fl.c) <;> rfl
  refine seq_then (L1 := aL o r fl b (G.length + 4) p { s with fl := ⟨decide (255 < s.a + mo + b2 s.fl.c), s.fl.z, s.fl.h, ovf s.a mo (s.a + mo + b2 s.fl.c), s.fl.n⟩ } (some (.int (k : Int))) (some (.int u)) (some (.int w)) (some .none) (some (.int mo)) (some (.int (s.a + mo + b2 s.fl.c))) (some (.int sg))) (H1 := hA mm es st G s) (s_set (v := .int (b2 (decide (255 < s.a + mo + b2 s.fl.c)))) (by rw [← hd]; rfl) (Nat.le_of_ble_eq_true rfl)) ?_
  exact s_one (s_two (v := .int ((s.a + mo + b2 s.fl.c) % 256)) rfl rfl)
theorem al_3 (X : AlX b lo 3 u w s) : AlTo mm es st G cf o r fl b p 3 u w s (AStep b ⟨3, u, w⟩ s) :=
  al_ad X X.O.v.1 X.O.v.2 (fun _ _ _ _ => by kernel_rfl) (fun z g q _ h => by rw [← h]; kernel_rfl)
theorem al_4 (X : AlX b lo 4 u w s) : AlTo mm es st G cf o r fl b p 4 u w s (AStep b ⟨4, u, w⟩ s) :=
  al_ad (mo := 255 - u) X (by have := X.O.v.2; dsimp only at this; lia) (by have := X.O.v.1; dsimp only at this; lia) (fun _ _ _ _ => by kernel_rfl) (fun z g q _ h => by rw [← h]; kernel_rfl)
theorem al_7 (X : AlX b lo 7 u w s) : AlTo mm es st G cf o r fl b p 7 u w s (AStep b ⟨7, u, w⟩ s) :=
  al_ad X (X.V.ce w).1 (X.V.ce w).2 (fun _ _ _ _ => by kernel_rfl) (fun z g q _ h => by rw [← h]; kernel_rfl)
theorem al_5 (X : AlX b lo 5 u w s) : AlTo mm es st G cf o r fl b p 5 u w s (AStep b ⟨5, u, w⟩ s) :=
  by
  have a := X.V.a
  have u0 := X.O.v
  dsimp only at u0
  have hz : ((s.a - u) % 256 == 0) = (s.a == u) := by
    by_cases q : s.a = u
    · rw [q, Int.sub_self]; simp
    · rw [beq_eq_false_iff_ne.mpr q, beq_eq_false_iff_ne]; lia
  refine al_nz (s1 := { s with fl := setC s.fl (decide (u ≤ s.a)) }) (d := (s.a - u) % 256) 4 (fun _ _ _ _ => by kernel_rfl) (fun m g q => ⟨m, g, q, ?_⟩) (by lia) (by lia) ?_
  · refine seq_then (L1 := aL o r fl b (G.length + 4) p { s with fl := setC s.fl (decide (u ≤ s.a)) } (some (.int ((5 : Nat) : Int))) (some (.int u)) (some (.int w)) (some .none) m g q) (H1 := hA mm es st G s) (s_set (v := .int (b2 (decide (u ≤ s.a)))) ?_ (Nat.le_of_ble_eq_true rfl)) rfl
    rw [e_ite (x := .bool (decide (u ≤ s.a))) (t := decide (u ≤ s.a)) (H1 := hA mm es st G s) (e_cmp (x := .int s.a) (y := .int u) rfl rfl rfl) rfl]
    cases decide (u ≤ s.a) <;> rfl
  · show ({ s with fl := ⟨decide (u ≤ s.a), s.a == u, s.fl.h, s.fl.v, bO ((s.a - u) % 256)⟩ } : Al) = { s with fl := ⟨decide (u ≤ s.a), (s.a - u) % 256 == 0, s.fl.h, s.fl.v, decide (128 ≤ (s.a - u) % 256)⟩ }
    rw [hz]; rfl
theorem al_6 (X : AlX b lo 6 u w s) : AlTo mm es st G cf o r fl b p 6 u w s (AStep b ⟨6, u, w⟩ s) :=
  al_no 5 (fun _ _ _ _ => by kernel_rfl) (fun m g q => s_one (put_cell rfl rfl rfl (Int.le_trans X.l0 X.O.c.1) (by have := X.O.c.2; have := X.l1; dsimp only at *; lia)))
theorem al_8 (X : AlX b lo 8 u w s) : AlTo mm es st G cf o r fl b p 8 u w s (AStep b ⟨8, u, w⟩ s) :=
  al_nz (s1 := { s with ce := upd s.ce w ((s.ce w + 1) % 256) }) (d := (s.ce w + 1) % 256) 6 (fun _ _ _ _ => by kernel_rfl) (fun m g q => ⟨m, g, q, seq_then (L1 := aL o r fl b (G.length + 4) p s (some (.int ((8 : Nat) : Int))) (some (.int u)) (some (.int w)) (some (.int ((s.ce w + 1) % 256))) m g q) (H1 := hA mm es st G s) (s_set (evalE_bin (x := .int (s.ce w + 1)) (y := .int 256) (evalE_bin (x := .int (s.ce w)) (y := .int 1) (get_cell rfl rfl rfl (Int.le_trans X.l0 X.O.c.1) (by have := X.O.c.2; have := X.l1; dsimp only at *; lia)) rfl rfl) rfl rfl) (Nat.le_of_ble_eq_true rfl)) (s_one (put_cell rfl rfl rfl (Int.le_trans X.l0 X.O.c.1) (by have := X.O.c.2; have := X.l1; dsimp only at *; lia)))⟩) (by lia) (by lia) rfl
theorem al_9 (X : AlX b lo 9 u w s) : AlTo mm es st G cf o r fl b p 9 u w s (AStep b ⟨9, u, w⟩ s) :=
  by
  have cb := b2r s.fl.c
  have a := X.V.a
  have hd := div256 (w := 2 * s.a + b2 s.fl.c) (by lia) (by lia)
  have hc : decide (255 < 2 * s.a + b2 s.fl.c) = bO s.a := by show _ = decide (128 ≤ s.a); rw [decide_eq_decide]; lia
  rw [hc] at hd
  refine al_nz (s1 := { s with a := (2 * s.a + b2 s.fl.c) % 256, fl := setC s.fl (bO s.a) }) (d := (2 * s.a + b2 s.fl.c) % 256) 7 (fun _ _ _ _ => by kernel_rfl) (fun m g q => ⟨m, some (.int (2 * s.a + b2 s.fl.c)), q, ?_⟩) (by lia) (by lia) rfl
  refine seq_then (L1 := aL o r fl b (G.length + 4) p s (some (.int ((9 : Nat) : Int))) (some (.int u)) (some (.int w)) (some .none) m (some (.int (2 * s.a + b2 s.fl.c))) q) (H1 := hA mm es st G s) (s_set (evalE_bin (x := .int (2 * s.a)) (y := .int (b2 s.fl.c)) (evalE_bin (x := .int 2) (y := .int s.a) rfl rfl (b_mul _ _ (by decide) (by lia))) rfl rfl) (Nat.le_of_ble_eq_true rfl)) ?_
  exact seq_then (L1 := aL o r fl b (G.length + 4) p { s with fl := setC s.fl (bO s.a) } (some (.int ((9 : Nat) : Int))) (some (.int u)) (some (.int w)) (some .none) m (some (.int (2 * s.a + b2 s.fl.c))) q) (H1 := hA mm es st G s) (s_set (v := .int (b2 (bO s.a))) (by rw [← hd]; rfl) (Nat.le_of_ble_eq_true rfl)) (s_one (s_two (v := .int ((2 * s.a + b2 s.fl.c) % 256)) rfl rfl))
theorem al_10 (X : AlX b lo 10 u w s) : AlTo mm es st G cf o r fl b p 10 u w s (AStep b ⟨10, u, w⟩ s) :=
  by
  have cb := b2r s.fl.c
  have v := X.V.ce w
  have e1 : (256 * b2 s.fl.c + s.ce w) / 2 = s.ce w / 2 + 128 * b2 s.fl.c := by lia
  have e2 : (256 * b2 s.fl.c + s.ce w) % 2 = b2 (s.ce w % 2 == 1) := by
    have e3 : (256 * b2 s.fl.c + s.ce w) % 2 = s.ce w % 2 := by lia
    rw [e3]
    generalize s.ce w = y
    unfold b2
    by_cases q : y % 2 = 1
    · rw [q]; rfl
    · rw [if_neg (by simpa using q)]; lia
  refine al_nz (s1 := { s with ce := upd s.ce w (s.ce w / 2 + 128 * b2 s.fl.c), fl := setC s.fl (s.ce w % 2 == 1) }) (d := s.ce w / 2 + 128 * b2 s.fl.c) 8 (fun _ _ _ _ => by kernel_rfl) (fun m g q => ⟨m, some (.int (256 * b2 s.fl.c + s.ce w)), q, ?_⟩) (by lia) (by lia) rfl
  refine seq_then (L1 := aL o r fl b (G.length + 4) p s (some (.int ((10 : Nat) : Int))) (some (.int u)) (some (.int w)) (some .none) m (some (.int (256 * b2 s.fl.c + s.ce w))) q) (H1 := hA mm es st G s) (s_set (evalE_bin (x := .int (256 * b2 s.fl.c)) (y := .int (s.ce w)) (H1 := hA mm es st G s) (evalE_bin (x := .int 256) (y := .int (b2 s.fl.c)) rfl rfl (b_mul _ _ (by decide) (by lia))) (get_cell rfl rfl rfl (Int.le_trans X.l0 X.O.c.1) (by have := X.O.c.2; have := X.l1; dsimp only at *; lia)) rfl) (Nat.le_of_ble_eq_true rfl)) ?_
  refine seq_then (L1 := aL o r fl b (G.length + 4) p { s with fl := setC s.fl (s.ce w % 2 == 1) } (some (.int ((10 : Nat) : Int))) (some (.int u)) (some (.int w)) (some .none) m (some (.int (256 * b2 s.fl.c + s.ce w))) q) (H1 := hA mm es st G s) (s_set (v := .int (b2 (s.ce w % 2 == 1))) (by rw [← e2]; rfl) (Nat.le_of_ble_eq_true rfl)) ?_
  refine seq_then (L1 := aL o r fl b (G.length + 4) p { s with fl := setC s.fl (s.ce w % 2 == 1) } (some (.int ((10 : Nat) : Int))) (some (.int u)) (some (.int w)) (some (.int (s.ce w / 2 + 128 * b2 s.fl.c))) m (some (.int (256 * b2 s.fl.c + s.ce w))) q) (H1 := hA mm es st G s) (s_set (v := .int (s.ce w / 2 + 128 * b2 s.fl.c)) (by rw [← e1]; rfl) (Nat.le_of_ble_eq_true rfl)) ?_
  exact s_one (put_cell rfl rfl rfl (Int.le_trans X.l0 X.O.c.1) (by have := X.O.c.2; have := X.l1; dsimp only at *; lia))
theorem al_11 (X : AlX b lo 11 u w s) : AlTo mm es st G cf o r fl b p 11 u w s (AStep b ⟨11, u, w⟩ s) :=
  al_nz (s1 := { s with a := Builtin.bitXor s.a (s.ce w) }) (d := Builtin.bitXor s.a (s.ce w)) 9 (fun _ _ _ _ => by kernel_rfl) (fun m g q => ⟨m, g, q, s_one (s_two (evalE_bin (x := .int s.a) (y := .int (s.ce w)) rfl (get_cell rfl rfl rfl (Int.le_trans X.l0 X.O.c.1) (by have := X.O.c.2; have := X.l1; dsimp only at *; lia)) rfl) rfl)⟩) (xor_oct X.V.a (X.V.ce w)).1 (xor_oct X.V.a (X.V.ce w)).2 rfl
theorem al_12 (X : AlX b lo 12 u w s) : AlTo mm es st G cf o r fl b p 12 u w s (AStep b ⟨12, u, w⟩ s) :=
  al_nz (s1 := { s with x := s.a }) (d := s.a) 10 (fun _ _ _ _ => by kernel_rfl) (fun m g q => ⟨m, g, q, by kernel_rfl⟩) X.V.a.1 X.V.a.2 rfl
theorem al_13 (X : AlX b lo 13 u w s) : AlTo mm es st G cf o r fl b p 13 u w s (AStep b ⟨13, u, w⟩ s) :=
  al_nz (s1 := { s with a := s.y }) (d := s.y) 11 (fun _ _ _ _ => by kernel_rfl) (fun m g q => ⟨m, g, q, by kernel_rfl⟩) X.V.y.1 X.V.y.2 rfl
theorem al_14 (X : AlX b lo 14 u w s) : AlTo mm es st G cf o r fl b p 14 u w s (AStep b ⟨14, u, w⟩ s) :=
  by
  have l := X.l
  refine al_no 12 (fun _ _ _ _ => by kernel_rfl) (fun m g q => s_one (s_append (v := .int s.a) (o := .ref (G.length + 4)) rfl (moreL_at hA_stk (by rw [List.length_map]; show s.stk.length + 0 ≤ _; lia)) rfl ?_))
  rw [moreL_at hA_stk (by rw [List.length_map]; show s.stk.length + 1 ≤ _; lia)]
  show some (HO.list mm :: HO.list (cellL s.ce) :: es :: st :: ((G ++ [HO.list (s.stk.map V.int)]).set G.length (HO.list (s.stk.map V.int ++ [V.int s.a])))) = some (HO.list mm :: HO.list (cellL s.ce) :: es :: st :: (G ++ [HO.list ((s.stk ++ [s.a]).map V.int)]))
  rw [set_mid, List.map_append]; rfl
theorem al_15 (X : AlX b lo 15 u w s) : AlTo mm es st G cf o r fl b p 15 u w s (AStep b ⟨15, u, w⟩ s) :=
  by
  have ne := X.O.pop rfl
  have lp : 0 < s.stk.length := List.length_pos_iff.mpr ne
  have hg : s.stk.getLast? = some (topS s) := by
    unfold topS
    rw [List.getLast?_eq_getElem?, List.getElem?_eq_getElem (by lia)]; rfl
  have hb := X.V.stk _ (List.mem_of_getLast? hg)
  have hp : popV (hA mm es st G s) (.ref (G.length + 4)) = some (.int (topS s), hA mm es st G { s with stk := s.stk.dropLast }) := by
    show (match (hA mm es st G s)[G.length + 4]? with | some (.list vs) => vs.getLast?.map fun v => (v, (hA mm es st G s).set (G.length + 4) (.list vs.dropLast)) | _ => none) = _
    rw [hA_stk]
    show ((s.stk.map V.int).getLast?.map fun v => (v, (hA mm es st G s).set (G.length + 4) (.list (s.stk.map V.int).dropLast))) = _
    rw [List.getLast?_map, hg, ← List.map_dropLast]
    show some (V.int (topS s), HO.list mm :: HO.list (cellL s.ce) :: es :: st :: ((G ++ [HO.list (s.stk.map V.int)]).set G.length (HO.list (s.stk.dropLast.map V.int)))) = _
    rw [set_mid]
  exact al_nz (s1 := { s with a := topS s, stk := s.stk.dropLast }) (d := topS s) 13 (fun _ _ _ _ => by kernel_rfl) (fun m g q => ⟨m, g, q, s_one (s_two (v := .int (topS s)) hp rfl)⟩) hb.1 hb.2 rfl
theorem al_16 (X : AlX b lo 16 u w s) : AlTo mm es st G cf o r fl b p 16 u w s (AStep b ⟨16, u, w⟩ s) :=
  al_nz (s1 := { s with x := (s.x - 1) % 256 }) (d := (s.x - 1) % 256) 14 (fun _ _ _ _ => by kernel_rfl) (fun m g q => ⟨m, g, q, by kernel_rfl⟩) (by lia) (by lia) rfl
theorem al_17 (X : AlX b lo 17 u w s) : AlTo mm es st G cf o r fl b p 17 u w s (AStep b ⟨17, u, w⟩ s) :=
  al_nz (s1 := { s with y := (s.y + 1) % 256 }) (d := (s.y + 1) % 256) 15 (fun _ _ _ _ => by kernel_rfl) (fun m g q => ⟨m, g, q, by kernel_rfl⟩) (by lia) (by lia) rfl
theorem al_18 (X : AlX b lo 18 u w s) : AlTo mm es st G cf o r fl b p 18 u w s (AStep b ⟨18, u, w⟩ s) := by
  clear X
  obtain ⟨sa, sx, sy, ⟨sc, sz, sh, sv, sn⟩, sk, se⟩ := s
  cases sc with
  | false => exact al_nz (s := ⟨sa, sx, sy, ⟨false, sz, sh, sv, sn⟩, sk, se⟩) (s1 := ⟨sa, sx, (sy + 1) % 256, ⟨false, sz, sh, sv, sn⟩, sk, se⟩) (d := (sy + 1) % 256) 15 (fun _ _ _ _ => by kernel_rfl) (fun m g q => ⟨m, g, q, by kernel_rfl⟩) (by lia) (by lia) rfl
  | true =>
    intro t m g q
    exact ⟨_, _, _, _, seq_then (L1 := aL o r fl b (G.length + 4) p ⟨sa, sx, sy, ⟨true, sz, sh, sv, sn⟩, sk, se⟩ (some (.int ((18 : Nat) : Int))) (some (.int u)) (some (.int w)) (some .none) m g q) (H1 := hA mm es st G ⟨sa, sx, sy, ⟨true, sz, sh, sv, sn⟩, sk, se⟩) rfl (seq_then (L1 := aL o r fl b (G.length + 4) p ⟨sa, sx, sy, ⟨true, sz, sh, sv, sn⟩, sk, se⟩ (some (.int ((18 : Nat) : Int))) (some (.int u)) (some (.int w)) (some .none) m g q) (H1 := hA mm es st G ⟨sa, sx, sy, ⟨true, sz, sh, sv, sn⟩, sk, se⟩) (by kernel_rfl) (s_one tell_none))⟩
theorem al_19 (X : AlX b lo 19 u w s) : AlTo mm es st G cf o r fl b p 19 u w s (AStep b ⟨19, u, w⟩ s) :=
  by
  have l := X.l
  have b0 := X.b0
  have b1 := X.b1
  have hl : lenV cxL (hA mm es st G s) (.ref (G.length + 4)) = some (.int (s.stk.length : Int)) := by
    have hi : itemsOf cxL (hA mm es st G s) (.ref (G.length + 4)) = some (s.stk.map .int) := by
      show (match (hA mm es st G s)[G.length + 4]? with | some (.list vs) => some vs | _ => none) = _
      rw [hA_stk]
    unfold lenV
    rw [hi]
    show (if (s.stk.map V.int).length < 2 ^ 20 then some (V.int ((s.stk.map V.int).length : Int)) else none) = _
    rw [List.length_map, if_pos (by lia)]
  refine al_nz (s1 := { s with x := b - s.stk.length }) (d := b - s.stk.length) 16 (fun _ _ _ _ => by kernel_rfl) (fun m g q => ⟨m, g, q, s_one (s_two (v := .int (b - s.stk.length)) (evalE_bin (x := .int b) (y := .int (s.stk.length : Int)) (H1 := hA mm es st G s) rfl ?_ rfl) rfl)⟩) (by lia) (by lia) rfl
  show (lenV cxL (hA mm es st G s) (.ref (G.length + 4))).bind _ = _
  rw [hl]; rfl
theorem al_all {k : Nat} (X : AlX b lo k u w s) : AlTo mm es st G cf o r fl b p k u w s (AStep b ⟨k, u, w⟩ s) :=
  all20 (P := fun k => AlX b lo k u w s → AlTo mm es st G cf o r fl b p k u w s (AStep b ⟨k, u, w⟩ s)) al_0 al_1 al_2 al_3 al_4 al_5 al_6 al_7 al_8 al_9 al_10 al_11 al_12 al_13 al_14 al_15 al_16 al_17 al_18 al_19 k X.O.k X
end
end Mine
end
section
open PySem PySem.W PySem.Calls PyProof.Rows
set_option autoImplicit false
set_option maxRecDepth 100000
namespace Mine
theorem AStep_V {b lo : Int} {k : Nat} {u w : Int} {s : Al} (X : AlX b lo k u w s) : VOk b (AStep b ⟨k, u, w⟩ s) := by
  have V := X.V
  have m : ∀ z : Int, 0 ≤ z % 256 ∧ z % 256 ≤ 255 := fun z => by lia
  refine all20 (P := fun k => AlX b lo k u w s → VOk b (AStep b ⟨k, u, w⟩ s)) (fun X => V.nzA X.O.v.1 X.O.v.2) (fun X => V.nzX X.O.v.1 X.O.v.2) (fun X => V.nzY X.O.v.1 X.O.v.2) (fun _ => V.adS) (fun _ => V.adS) (fun _ => ⟨V.a, V.x, V.y, V.stk, V.ce⟩)
    (fun _ => ⟨V.a, V.x, V.y, V.stk, V.ce.upd _ V.a.1 V.a.2⟩) (fun _ => V.adS) (fun _ => ⟨V.a, V.x, V.y, V.stk, V.ce.upd _ (m _).1 (m _).2⟩) (fun _ => ⟨m _, V.x, V.y, V.stk, V.ce⟩)
    (fun _ => have c := V.ce w; have d := b2r s.fl.c; ⟨V.a, V.x, V.y, V.stk, V.ce.upd w (v := s.ce w / 2 + 128 * b2 s.fl.c) (by lia) (by lia)⟩) (fun _ => V.nzA (xor_oct V.a (V.ce w)).1 (xor_oct V.a (V.ce w)).2) (fun _ => V.nzX V.a.1 V.a.2) (fun _ => V.nzA V.y.1 V.y.2)
    (fun _ => ⟨V.a, V.x, V.y, fun v hv => (List.mem_append.mp hv).elim (V.stk v) fun q => by rw [List.mem_singleton.mp q]; exact V.a, V.ce⟩) (fun X => ⟨?_, V.x, V.y, fun v hv => V.stk v (List.dropLast_subset _ hv), V.ce⟩) (fun _ => V.nzX (m _).1 (m _).2) (fun _ => V.nzY (m _).1 (m _).2) (fun _ => ?_) (fun X => V.nzX ?_ ?_) k X.O.k X
  · have ne := X.O.pop rfl
    have lp : 0 < s.stk.length := List.length_pos_iff.mpr ne
    refine V.stk _ (List.mem_of_getElem? (i := s.stk.length - 1) ?_)
    show _ = some (topS s)
    unfold topS
    rw [List.getLast?_eq_getElem?, List.getElem?_eq_getElem (by lia)]; rfl
  · show VOk b (if s.fl.c = true then s else nzY s ((s.y + 1) % 256))
    split
    · exact V
    · exact V.nzY (m _).1 (m _).2
  · have := X.l; have := X.b0; lia
  · have := X.b1; lia
noncomputable def ordV (o : Ord) : V := .tup [.int (o.k : Int), .int o.v, .int o.c]
noncomputable abbrev alT (cf : CallF) : Nat → V → Loc → Hp → Option (Fl × Loc × Hp) := fun _ v loc H => (setTgt cxL H [15, 16, 17] v loc).bind fun loc => evalS cxL cf sAloop loc H
theorem forK_next {C : Cx} {o : V} {vs : List V} {turn : Nat → V → Loc → Hp → Option (Fl × Loc × Hp)} {k : Nat} {u : V} {us : List V} {L L1 : Loc} {H H1 : Hp} {x : Option (Fl × Loc × Hp)} (h : turn k u L H = some (.next, L1, H1)) (hi : itemsOf C H1 o = some vs) (h2 : forK C o vs turn (k + 1) us L1 H1 = x) : forK C o vs turn k (u :: us) L H = x := by
  show (turn k u L H).bind _ = _
  rw [h]
  show (open Classical in if itemsOf C H1 o = some vs then forK C o vs turn (k + 1) us L1 H1 else none) = _
  rw [if_pos hi]; exact h2
theorem s_forIn {C : Cx} {cf : CallF} {L : Loc} {H H1 : Hp} {ts : List Nat} {e : E} {body : S} {o : V} {vs : List V} {x : Option (Fl × Loc × Hp)} (h : evalE C cf L e H = some (o, H1)) (hi : itemsOf C H1 o = some vs) (h2 : forK C o vs (fun _ v loc H => (setTgt C H ts v loc).bind fun loc => evalS C cf body loc H) 0 vs L H1 = x) : evalS C cf (.forIn ts e body) L H = x := by
  show (evalE C cf L e H).bind _ = _
  rw [h]
  show (itemsOf C H1 o).bind _ = _
  rw [hi]; exact h2
section
variable {mm : List V} {es st : HO} {G : Hp} {cf : CallF} {o r fl : V} {b lo : Int} {p : Option V} {vs : List V}
theorem al_loop (hO : ∀ s, itemsOf cxL (hA mm es st G s) o = some vs) (l0 : 0 ≤ lo) (l1 : lo ≤ 48) (b0 : 63 ≤ b) (b1 : b ≤ 255) : ∀ (os : List (Ord × Bool)) (j : Nat) (s : Al) (k u w t m g q : Option V), VOk b s → AllOk b lo os s → s.stk.length + os.length ≤ 12 →
    ∀ {Z : Prop}, (∀ k' u' w' t' m' g' q', forK cxL o vs (alT cf) j (os.map fun x => ordV x.1) (aL o r fl b (G.length + 4) p s k u w t m g q) (hA mm es st G s) = some (.next, aL o r fl b (G.length + 4) p (runA b os s) k' u' w' t' m' g' q', hA mm es st G (runA b os s)) → VOk b (runA b os s) → (runA b os s).stk.length ≤ 12 → Z) → Z
  | [], j, s, k, u, w, t, m, g, q, V, _, hl, _, kk => kk k u w t m g q rfl V hl
  | x :: os, j, s, k, u, w, t, m, g, q, V, hok, hl, _, kk => by
    have hl : s.stk.length + os.length + 1 ≤ 12 := hl
    have X : AlX b lo x.1.k x.1.v x.1.c s := ⟨V, hok.1, by lia, l0, l1, b0, b1⟩
    obtain ⟨t1, m1, g1, q1, h1⟩ := al_all (mm := mm) (es := es) (st := st) (G := G) (cf := cf) (o := o) (r := r) (fl := fl) (p := p) X t m g q
    have hs := AStep_len b x.1 s
    exact al_loop hO l0 l1 b0 b1 os (j + 1) (AStep b x.1 s) (some (.int (x.1.k : Int))) (some (.int x.1.v)) (some (.int x.1.c)) t1 m1 g1 q1 (AStep_V X) hok.2 (by lia) fun k' u' w' t' m' g' q' h2 h3 h4 =>
      kk k' u' w' t' m' g' q' (forK_next (L1 := aL o r fl b (G.length + 4) p (AStep b x.1 s) (some (.int (x.1.k : Int))) (some (.int x.1.v)) (some (.int x.1.c)) t1 m1 g1 q1) (H1 := hA mm es st G (AStep b x.1 s)) h1 (hO _) h2) h3 h4
theorem c_alone {d oi : Nat} {os : List (Ord × Bool)} {s : Al} (hO : ∀ s, itemsOf cxL (hA mm es st G s) (.ref oi) = some (os.map fun x => ordV x.1)) (l0 : 0 ≤ lo) (l1 : lo ≤ 48) (b0 : 63 ≤ b) (b1 : b ≤ 255) (hV : VOk b s) (hs : s.stk = []) (hok : AllOk b lo os s) (hl : os.length ≤ 12) :
    callD cxL (d + 1) 1447 [.ref oi, .fl [.int s.a, .int s.x, .int s.y], .fl [.int (b2 s.fl.c), .int (b2 s.fl.z), .int (b2 s.fl.v), .int (b2 s.fl.n), .int (b2 s.fl.h)], .int b, .ref 1] (.list mm :: .list (cellL s.ce) :: es :: st :: G) =
      some (.tup [.tup [.int (runA b os s).a, .int (runA b os s).x, .int (runA b os s).y, .int (b - (runA b os s).stk.length), .int (pOf (runA b os s).fl)], .ref (G.length + 4)], hA mm es st G (runA b os s)) := by
  refine al_loop (mm := mm) (es := es) (st := st) (G := G) (cf := callD cxL d) (r := .fl [.int s.a, .int s.x, .int s.y]) (fl := .fl [.int (b2 s.fl.c), .int (b2 s.fl.z), .int (b2 s.fl.v), .int (b2 s.fl.n), .int (b2 s.fl.h)]) (p := none) hO l0 l1 b0 b1 os 0 s none none none none none none none hV hok (by rw [hs]; show 0 + os.length ≤ 12; lia) fun k' u' w' t' m' g' q' h1 h2 h3 => ?_
  generalize runA b os s = s' at h1 h2 h3
  have eH : (HO.list mm :: HO.list (cellL s.ce) :: es :: st :: G) ++ [HO.list []] = hA mm es st G s := by
    show _ = HO.list mm :: HO.list (cellL s.ce) :: es :: st :: (G ++ [HO.list (s.stk.map V.int)])
    rw [hs]; rfl
  have cb := b2r s'.fl.c
  have zb := b2r s'.fl.z
  have vb := b2r s'.fl.v
  have nb := b2r s'.fl.n
  have hb := b2r s'.fl.h
  refine run_ret (fn := f_law_alone) (L' := aL (.ref oi) (.fl [.int s.a, .int s.x, .int s.y]) (.fl [.int (b2 s.fl.c), .int (b2 s.fl.z), .int (b2 s.fl.v), .int (b2 s.fl.n), .int (b2 s.fl.h)]) b (G.length + 4) (some (.int (pOf s'.fl))) s' k' u' w' t' m' g' q') (L0 := [some (.ref oi), some (.fl [.int s.a, .int s.x, .int s.y]), some (.fl [.int (b2 s.fl.c), .int (b2 s.fl.z), .int (b2 s.fl.v), .int (b2 s.fl.n), .int (b2 s.fl.h)]), some (.int b), some (.ref 1), none, none, none, none, none, none, none, none, none, none, none, none, none, none, none, none, none]) rfl rfl rfl ?_
  refine seq_then (L1 := [some (.ref oi), some (.fl [.int s.a, .int s.x, .int s.y]), some (.fl [.int (b2 s.fl.c), .int (b2 s.fl.z), .int (b2 s.fl.v), .int (b2 s.fl.n), .int (b2 s.fl.h)]), some (.int b), some (.ref 1), none, none, some (.int s.a), some (.int s.x), some (.int s.y), none, none, none, none, none, none, none, none, none, none, none, none]) (H1 := .list mm :: .list (cellL s.ce) :: es :: st :: G) (by kernel_rfl) ?_
  refine seq_then (L1 := [some (.ref oi), some (.fl [.int s.a, .int s.x, .int s.y]), some (.fl [.int (b2 s.fl.c), .int (b2 s.fl.z), .int (b2 s.fl.v), .int (b2 s.fl.n), .int (b2 s.fl.h)]), some (.int b), some (.ref 1), none, none, some (.int s.a), some (.int s.x), some (.int s.y), some (.int (b2 s.fl.c)), some (.int (b2 s.fl.z)), some (.int (b2 s.fl.v)), some (.int (b2 s.fl.n)), some (.int (b2 s.fl.h)), none, none, none, none, none, none, none]) (H1 := .list mm :: .list (cellL s.ce) :: es :: st :: G) (by kernel_rfl) ?_
  refine seq_then (L1 := aL (.ref oi) (.fl [.int s.a, .int s.x, .int s.y]) (.fl [.int (b2 s.fl.c), .int (b2 s.fl.z), .int (b2 s.fl.v), .int (b2 s.fl.n), .int (b2 s.fl.h)]) b (G.length + 4) none s none none none none none none none) (H1 := hA mm es st G s) (by rw [← eH]; kernel_rfl) ?_
  refine seq_then (s_forIn (o := .ref oi) rfl (hO s) h1) ?_
  refine seq_then (L1 := aL (.ref oi) (.fl [.int s.a, .int s.x, .int s.y]) (.fl [.int (b2 s.fl.c), .int (b2 s.fl.z), .int (b2 s.fl.v), .int (b2 s.fl.n), .int (b2 s.fl.h)]) b (G.length + 4) (some (.int (pOf s'.fl))) s' k' u' w' t' m' g' q') (H1 := hA mm es st G s') (s_set (v := .int (pOf s'.fl)) ?_ (Nat.le_of_ble_eq_true rfl)) ?_
  · exact evalE_bin (evalE_bin (evalE_bin (evalE_bin (evalE_bin (x := .int 48) (y := .int (b2 s'.fl.c)) rfl rfl (b_add _ _)) (evalE_bin (x := .int 2) (y := .int (b2 s'.fl.z)) rfl rfl (b_mul _ _ (by decide) (by lia))) (b_add _ _)) (evalE_bin (x := .int 4) (y := .int (b2 s'.fl.h)) rfl rfl (b_mul _ _ (by decide) (by lia))) (b_add _ _)) (evalE_bin (x := .int 64) (y := .int (b2 s'.fl.v)) rfl rfl (b_mul _ _ (by decide) (by lia))) (b_add _ _)) (evalE_bin (x := .int 128) (y := .int (b2 s'.fl.n)) rfl rfl (b_mul _ _ (by decide) (by lia))) (b_add _ _)
  · have hl2 : lenV cxL (hA mm es st G s') (.ref (G.length + 4)) = some (.int (s'.stk.length : Int)) := by
      have hi : itemsOf cxL (hA mm es st G s') (.ref (G.length + 4)) = some (s'.stk.map .int) := by
        show (match (hA mm es st G s')[G.length + 4]? with | some (.list vs) => some vs | _ => none) = _
        rw [hA_stk]
      unfold lenV
      rw [hi]
      show (if (s'.stk.map V.int).length < 2 ^ 20 then some (V.int ((s'.stk.map V.int).length : Int)) else none) = _
      rw [List.length_map, if_pos (by lia)]
    refine seq_ret (s_ret ?_)
    have he : evalE cxL (callD cxL d) (aL (.ref oi) (.fl [.int s.a, .int s.x, .int s.y]) (.fl [.int (b2 s.fl.c), .int (b2 s.fl.z), .int (b2 s.fl.v), .int (b2 s.fl.n), .int (b2 s.fl.h)]) b (G.length + 4) (some (.int (pOf s'.fl))) s' k' u' w' t' m' g' q') (.bin .Sub (.loc 3) (.len (.loc 5))) (hA mm es st G s') = some (.int (b - s'.stk.length), hA mm es st G s') := by
      refine evalE_bin (x := .int b) (y := .int (s'.stk.length : Int)) (H1 := hA mm es st G s') rfl ?_ rfl
      show (lenV cxL (hA mm es st G s') (.ref (G.length + 4))).bind _ = _
      rw [hl2]; rfl
    exact e_tup2 (e_tup5 rfl rfl rfl he rfl) rfl
end
end Mine
end
section
open PySem PySem.W PySem.Calls PyProof.Rows
set_option autoImplicit false
set_option maxRecDepth 100000
namespace Mine
noncomputable def putL (f : Int → Int) : Int → List Int → (Int → Int)
  | _, [] => f
  | p, x :: r => putL (upd f p x) (p + 1) r
noncomputable def encF (o : Ord × Bool) : List Int := encB o.1 ++ swL o.2
noncomputable def putOs (f : Int → Int) : Int → List (Ord × Bool) → (Int → Int)
  | _, [] => f
  | p, o :: os => putOs (putL f p (encF o)) (p + (encF o).length) os
noncomputable def lenOs : List (Ord × Bool) → Nat
  | [] => 0
  | o :: os => (encF o).length + lenOs os
noncomputable def kindN (d : Nat) (n : Int) : Nat := if n % 20 = 15 ∧ d = 0 then 14 else (n % 20).toNat
noncomputable def depN (d k : Nat) : Nat := if k = 14 then d + 1 else if k = 15 then d - 1 else d
noncomputable def oneO (t d : Nat) (n : Int) : Ord × Bool := (⟨kindN d n, n / 20 % 256, 16 * (t : Int) + n / 20 % 256 % 16⟩, n / 5120 % 4 != 3)
noncomputable def genO (t : Nat) : Nat → List Int → List (Ord × Bool)
  | _, [] => []
  | d, n :: ns => oneO t d n :: genO t (depN d (kindN d n)) ns
theorem kindN_lt (d : Nat) (n : Int) : kindN d n < 20 := by unfold kindN; split <;> lia
theorem encB_len (o : Ord) : (encB o).length ≤ 3 := by
  show (opnd o).length + 1 ≤ 3
  unfold opnd
  split
  · exact Nat.le_succ _
  · split
    · exact Nat.le_succ _
    · split
      · exact Nat.le_refl _
      · exact Nat.le_add_left 1 2
theorem encF_len (o : Ord × Bool) : (encF o).length ≤ 6 := by
  unfold encF
  rw [List.length_append]
  have h1 := encB_len o.1
  have h2 : (swL o.2).length ≤ 3 := by unfold swL; split <;> decide
  lia
theorem lenOs_le : ∀ os : List (Ord × Bool), lenOs os ≤ 6 * os.length
  | [] => Nat.le_refl _
  | o :: os => by have h1 := encF_len o; have h2 := lenOs_le os; show (encF o).length + lenOs os ≤ 6 * (os.length + 1); lia
theorem genO_len (t : Nat) : ∀ (d : Nat) (ns : List Int), (genO t d ns).length = ns.length
  | _, [] => rfl
  | d, n :: ns => congrArg (· + 1) (genO_len t _ ns)
section
variable {C : Cx} {cf : CallF} {L L' : Loc} {H H1 H2 : Hp}
theorem s_augL {i : Nat} {e : E} {o v : V} {us : List V} (ho : locV L i = some o) (h : evalE C cf L e H = some (v, H)) (hi : itemsOf C H v = some us) (hs : moreL H o us = some H1) : evalS C cf (.augL i e) L H = some (.next, L, H1) := by
  show (locV L i).bind _ = _
  rw [ho]
  show (evalE C cf L e H).bind _ = _
  rw [h]
  show (itemsOf C H v).bind _ = _
  rw [hi]
  show (moreL H o us).bind _ = _
  rw [hs]; rfl
theorem s_forEnum {i j : Nat} {e : E} {body : S} {o : V} {vs : List V} {x : Option (Fl × Loc × Hp)} (h : evalE C cf L e H = some (o, H1)) (hi : itemsOf C H1 o = some vs) (h2 : forK C o vs (fun k v loc H => (setFwd [i, j] [.int k, v] loc).bind fun loc => evalS C cf body loc H) 0 vs L H1 = x) : evalS C cf (.forEnum i j e body) L H = x := by
  show (evalE C cf L e H).bind _ = _
  rw [h]
  show (itemsOf C H1 o).bind _ = _
  rw [hi]; exact h2
theorem e_nlist {es : E} {vs : List V} (h : evalE C cf L es H = some (.tup vs, H)) : evalE C cf L (.nlist es) H = some (.ref H.length, H ++ [.list vs]) := by
  show (evalE C cf L es H).bind _ = _
  rw [h]; rfl
end
structure Lc where
  script : V
  first : V
  drawn : V
  m : Nat
  seed : Int
  t : Nat
noncomputable abbrev lwL (c : Lc) (pl ba op : Option V) (at' : Int) (ord : Option V) (d : Nat) (nu re fl p st k u w oc o fu be dn : Option V) : Loc :=
  [some c.script, some c.first, some c.drawn, some (.int (c.m : Int)), some (.int c.seed), some (.ref 0), pl, some (.ref 1), some (.ref 2), some (.ref 3), some (.int (c.t : Int)), none, none, ba, op, some (.int at'), ord, some (.int (d : Int)), nu, re, fl, p, st, k, u, w, oc, o, fu, be, dn]
noncomputable abbrev hW (f ce : Int → Int) (es st : HO) (G : Hp) : Hp := .list (memL f) :: .list (cellL ce) :: es :: st :: G
section
variable {c : Lc} {pl ba op ord nu re fl p st k u w oc o fu be dn : Option V} {f ce : Int → Int} {es sk : HO} {G R : Hp} {cf : CallF} {d : Nat} {at' : Int}
theorem put_mem {L : Loc} {i e : E} {k v : Int} (h5 : locV L 5 = some (.ref 0)) (hi : evalE cxL cf L i (hW f ce es sk R) = some (.int k, hW f ce es sk R)) (he : evalE cxL cf L e (hW f ce es sk R) = some (.int v, hW f ce es sk R)) (h0 : 0 ≤ k) (h1 : k < 1024) : evalS cxL cf (.assign (.sub (.loc 5) i) e) L (hW f ce es sk R) = some (.next, L, hW (upd f k v) ce es sk R) := by
  rw [s_sub (k := k) (l := 0) (vs := memL f) he (e_loc h5) hi rfl h0 (by rw [memL_len]; lia)]
  show some (Fl.next, _, HO.list ((memL f).set k.toNat (.int v)) :: _) = _
  rw [memL_set f h0]
theorem put_loop {vs : List V} {q : V} (hq : ∀ f, itemsOf cxL (hW f ce es sk R) q = some vs) : ∀ (l : List Int) (j : Nat) (f : Int → Int) (at' : Int) (o : Option V), 0 ≤ at' → at' + l.length ≤ 1024 →
    ∃ o', forK cxL q vs (fun _ v loc H => (setTgt cxL H [27] v loc).bind fun loc => evalS cxL cf (.seq (.assign (.sub (.loc 5) (.loc 15)) (.loc 27)) (.seq (.aug (.loc 15) .Add (.cst (.int 1))) .skip)) loc H) j (l.map .int) (lwL c pl ba op at' ord d nu re fl p st k u w oc o fu be dn) (hW f ce es sk R) =
      some (.next, lwL c pl ba op (at' + l.length) ord d nu re fl p st k u w oc o' fu be dn, hW (putL f at' l) ce es sk R)
  | [], j, f, at', o, _, _ => ⟨o, by rw [show at' + (([] : List Int).length : Int) = at' from Int.add_zero _]; rfl⟩
  | x :: l, j, f, at', o, h0, h1 => by
    have hl : (((x :: l).length : Nat) : Int) = l.length + 1 := rfl
    obtain ⟨o', h2⟩ := put_loop hq l (j + 1) (upd f at' x) (at' + 1) (some (.int x)) (by lia) (by lia)
    refine ⟨o', forK_next (L1 := lwL c pl ba op (at' + 1) ord d nu re fl p st k u w oc (some (.int x)) fu be dn) (H1 := hW (upd f at' x) ce es sk R) ?_ (hq _) ?_⟩
    · show evalS cxL cf _ (lwL c pl ba op at' ord d nu re fl p st k u w oc (some (.int x)) fu be dn) _ = _
      exact seq_then (put_mem rfl rfl rfl h0 (by lia)) (s_one (s_aug (x := .int at') rfl rfl rfl (Nat.le_of_ble_eq_true rfl)))
    · rw [h2, hl, show at' + 1 + (l.length : Int) = at' + ((l.length : Int) + 1) by lia]; rfl
end
noncomputable def codesV : List V := codesL.map .int
theorem code_at {k : Nat} (h : k < 20) : codesV[k]? = some (.int (codesL.getD k 0)) :=
  all20 (P := fun k => codesV[k]? = some (.int (codesL.getD k 0))) rfl rfl rfl rfl rfl rfl rfl rfl rfl rfl rfl rfl rfl rfl rfl rfl rfl rfl rfl rfl k h
end Mine
end
section
open PySem PySem.W PySem.Calls PyProof.Rows
set_option autoImplicit false
set_option maxRecDepth 100000
namespace Mine
theorem e_andB {C : Cx} {cf : CallF} {L : Loc} {H : Hp} {a b : E} {p q : Bool} (h1 : evalE C cf L a H = some (.bool p, H)) (h2 : evalE C cf L b H = some (.bool q, H)) : evalE C cf L (.and a b) H = some (.bool (p && q), H) := by
  show (evalE C cf L a H).bind _ = _
  rw [h1]
  cases p with
  | true => exact h2
  | false => rfl
section
variable {c : Lc} {pl ba op ord nu re fl p st u w oc o fu be dn : Option V} {f ce : Int → Int} {es sk : HO} {G R : Hp} {cf : CallF} {d : Nat} {at' : Int}
theorem more_last {vs us : List V} (h : vs.length + us.length ≤ 65536) : moreL (hW f ce es sk (R ++ [.list vs])) (.ref (R.length + 4)) us = some (hW f ce es sk (R ++ [.list (vs ++ us)])) := by
  have hs : (hW f ce es sk (R ++ [.list vs]))[R.length + 4]? = some (.list vs) := at_mid R (HO.list vs) []
  rw [moreL_at hs h]
  show some (HO.list (memL f) :: HO.list (cellL ce) :: es :: sk :: ((R ++ [HO.list vs]).set R.length (HO.list (vs ++ us)))) = _
  rw [set_mid]
theorem more_mid {vs us : List V} {G2 : Hp} (h : vs.length + us.length ≤ 65536) : moreL (hW f ce es sk (G ++ .list vs :: G2)) (.ref (G.length + 4)) us = some (hW f ce es sk (G ++ .list (vs ++ us) :: G2)) := by
  have hs : (hW f ce es sk (G ++ .list vs :: G2))[G.length + 4]? = some (.list vs) := at_mid G (HO.list vs) G2
  rw [moreL_at hs h]
  show some (HO.list (memL f) :: HO.list (cellL ce) :: es :: sk :: ((G ++ HO.list vs :: G2).set G.length (HO.list (vs ++ us)))) = _
  rw [set_mid]
theorem n8_ok {k : Nat} {v cc x : Int} (hk : k < 20) : evalS cxL cf sN8 (lwL c pl ba op at' ord d nu re fl p st (some (.int (k : Int))) (some (.int v)) (some (.int cc)) (some (.ref (R.length + 4))) o fu be dn) (hW f ce es sk (R ++ [.list [.int x]])) =
    some (.next, lwL c pl ba op at' ord d nu re fl p st (some (.int (k : Int))) (some (.int v)) (some (.int cc)) (some (.ref (R.length + 4))) o fu be dn, hW f ce es sk (R ++ [.list ((x :: opnd ⟨k, v, cc⟩).map .int)])) := by
  unfold sN8
  rw [s_ite (x := .bool (decide ((k : Int) < 6))) (t := decide ((k : Int) < 6)) (H1 := hW f ce es sk (R ++ [.list [.int x]])) (e_cmp (x := .int (k : Int)) (y := .int 6) rfl rfl rfl) rfl]
  by_cases h1 : k < 6
  · have ho : opnd ⟨k, v, cc⟩ = [v] := if_pos h1
    rw [ho, if_pos (decide_eq_true (by lia))]
    exact s_one (s_append (v := .int v) rfl (more_last (Nat.le_of_ble_eq_true rfl)) rfl (more_last (Nat.le_of_ble_eq_true rfl)))
  · rw [if_neg (by rw [decide_eq_false (by lia)]; decide)]
    refine s_one ?_
    have hc : ([6, 7, 8, 10, 11] : List Int).contains (k : Int) = decide (k = 6 ∨ k = 7 ∨ k = 8 ∨ k = 10 ∨ k = 11) :=
      all20 (P := fun k => ([6, 7, 8, 10, 11] : List Int).contains (k : Int) = decide (k = 6 ∨ k = 7 ∨ k = 8 ∨ k = 10 ∨ k = 11)) rfl rfl rfl rfl rfl rfl rfl rfl rfl rfl rfl rfl rfl rfl rfl rfl rfl rfl rfl rfl k hk
    rw [s_ite (x := .bool (([6, 7, 8, 10, 11] : List Int).contains (k : Int))) (t := ([6, 7, 8, 10, 11] : List Int).contains (k : Int)) (H1 := hW f ce es sk (R ++ [.list [.int x]])) (e_cmp (x := .int (k : Int)) (y := .fl [.int 6, .int 7, .int 8, .int 10, .int 11]) rfl rfl rfl) rfl, hc]
    by_cases h2 : k = 6 ∨ k = 7 ∨ k = 8 ∨ k = 10 ∨ k = 11
    · have ho : opnd ⟨k, v, cc⟩ = [cc] := (if_neg h1).trans (if_pos h2)
      rw [ho, if_pos (decide_eq_true h2)]
      exact s_one (s_append (v := .int cc) rfl (more_last (Nat.le_of_ble_eq_true rfl)) rfl (more_last (Nat.le_of_ble_eq_true rfl)))
    · rw [if_neg (by rw [decide_eq_false h2]; decide)]
      refine s_one ?_
      have h3 : ((k : Int) == 18) = decide (k = 18) := by
        by_cases q : k = 18
        · rw [q]; rfl
        · rw [decide_eq_false q, beq_eq_false_iff_ne]; lia
      refine s_when (x := .bool ((k : Int) == 18)) (b := decide (k = 18)) (e_cmp (x := .int (k : Int)) (y := .int 18) rfl rfl rfl) (congrArg some h3) (fun q => ?_) (fun q => ⟨rfl, ?_⟩)
      · have ho : opnd ⟨k, v, cc⟩ = [1, 200] := (if_neg h1).trans ((if_neg h2).trans (if_pos (of_decide_eq_true q)))
        rw [ho]
        exact s_one (s_augL (v := .fl [.int 1, .int 200]) rfl rfl rfl (more_last (Nat.le_of_ble_eq_true rfl)))
      · have ho : opnd ⟨k, v, cc⟩ = [] := (if_neg h1).trans ((if_neg h2).trans (if_neg (of_decide_eq_false q)))
        rw [ho]; rfl
theorem dep_ok {k : Nat} (hd : k = 15 → 1 ≤ d) {H : Hp} {v cc : Option V} : evalS cxL cf (.seq sN4 (.seq sN5 .skip)) (lwL c pl ba op at' ord d nu re fl p st (some (.int (k : Int))) v cc oc o fu be dn) H = some (.next, lwL c pl ba op at' ord (depN d k) nu re fl p st (some (.int (k : Int))) v cc oc o fu be dn, H) := by
  have e1 : ∀ j : Nat, ((k : Int) == (j : Int)) = decide (k = j) := fun j => by
    by_cases q : k = j
    · rw [q, decide_eq_true rfl]; exact beq_self_eq_true _
    · rw [decide_eq_false q, beq_eq_false_iff_ne]; lia
  by_cases h4 : k = 14
  · subst h4; rfl
  · by_cases h5 : k = 15
    · subst h5
      obtain ⟨d, rfl⟩ : ∃ d', d = d' + 1 := ⟨d - 1, by have := hd rfl; lia⟩
      have : ((d + 1 : Nat) : Int) - 1 = (d : Int) := by lia
      refine seq_then (L1 := lwL c pl ba op at' ord (d + 1) nu re fl p st (some (.int ((15 : Nat) : Int))) v cc oc o fu be dn) (H1 := H) rfl (s_one ?_)
      refine (show evalS cxL cf sN5 (lwL c pl ba op at' ord (d + 1) nu re fl p st (some (.int ((15 : Nat) : Int))) v cc oc o fu be dn) H = some (.next, (lwL c pl ba op at' ord (d + 1) nu re fl p st (some (.int ((15 : Nat) : Int))) v cc oc o fu be dn).set 17 (some (.int (((d + 1 : Nat) : Int) - 1))), H) from rfl).trans ?_
      rw [this]; rfl
    · have hn : depN d k = d := (if_neg h4).trans (if_neg h5)
      rw [hn]
      refine seq_then (L1 := lwL c pl ba op at' ord d nu re fl p st (some (.int (k : Int))) v cc oc o fu be dn) (H1 := H) (s_when (x := .bool ((k : Int) == 14)) (b := false) (e_cmp (x := .int (k : Int)) (y := .int 14) rfl rfl rfl) (congrArg some ((e1 14).trans (decide_eq_false h4))) (fun q => by cases q) fun _ => ⟨rfl, rfl⟩) (s_one ?_)
      exact s_when (x := .bool ((k : Int) == 15)) (b := false) (e_cmp (x := .int (k : Int)) (y := .int 15) rfl rfl rfl) (congrArg some ((e1 15).trans (decide_eq_false h5))) (fun q => by cases q) fun _ => ⟨rfl, rfl⟩
theorem seq_split {C : Cx} {cf : CallF} {L L1 L2 : Loc} {H H1 H2 : Hp} {a b r : S} {x : Fl} (h : evalS C cf (.seq a (.seq b .skip)) L H = some (.next, L1, H1)) (h2 : evalS C cf r L1 H1 = some (x, L2, H2)) : evalS C cf (.seq a (.seq b r)) L H = some (x, L2, H2) := by
  have h : (evalS C cf a L H).bind (fun q => match q.1 with | .next => evalS C cf (.seq b .skip) q.2.1 q.2.2 | f => some (f, q.2.1, q.2.2)) = _ := h
  obtain ⟨⟨f, L3, H3⟩, e1, e2⟩ := Option.bind_eq_some_iff.mp h
  cases f with
  | next =>
    refine seq_then e1 ?_
    have e2 : (evalS C cf b L3 H3).bind (fun q => match q.1 with | .next => some (.next, q.2.1, q.2.2) | f => some (f, q.2.1, q.2.2)) = some (.next, L1, H1) := e2
    obtain ⟨⟨f, L4, H4⟩, e3, e4⟩ := Option.bind_eq_some_iff.mp e2
    cases f <;> cases e4
    exact seq_then e3 h2
  | brk => cases e2
  | ret v => cases e2
theorem num_tail {D : Nat} {n v cc : Int} {ords : List Ord} {G2 : Hp} {k : Nat} (hk : k < 20) (hd : k = 15 → 1 ≤ d) (a0 : 0 ≤ at') (a1 : at' ≤ 1000) (ho : ords.length ≤ 100) : ∃ o' oc', evalS cxL (callD cxL (D + 1)) (.seq sN4 (.seq sN5 (.seq sN6 (.seq sN7 (.seq sN8 (.seq sN9 (.seq sN10 .skip))))))) (lwL c pl ba op at' (some (.ref (G.length + 4))) d (some (.int n)) re fl p st (some (.int (k : Int))) (some (.int v)) (some (.int cc)) oc o fu be dn) (hW f ce es sk (G ++ .list (ords.map ordV) :: G2)) =
    some (.next, lwL c pl ba op (at' + (((codesL.getD k 0 :: opnd ⟨k, v, cc⟩) ++ swL (n / 5120 % 4 != 3)).length : Nat)) (some (.ref (G.length + 4))) (depN d k) (some (.int n)) re fl p st (some (.int (k : Int))) (some (.int v)) (some (.int cc)) oc' o' fu be dn,
      hW (putL f at' ((codesL.getD k 0 :: opnd ⟨k, v, cc⟩) ++ swL (n / 5120 % 4 != 3))) ce es sk (G ++ .list ((ords ++ [(⟨k, v, cc⟩ : Ord)]).map ordV) :: (G2 ++ [.list (((codesL.getD k 0 :: opnd ⟨k, v, cc⟩) ++ swL (n / 5120 % 4 != 3)).map .int)]))) := by
  have hol : (codesL.getD k 0 :: opnd ⟨k, v, cc⟩).length ≤ 3 := encB_len ⟨k, v, cc⟩
  have hsw : (swL (n / 5120 % 4 != 3)).length ≤ 3 := by unfold swL; split <;> decide
  have hll : ((codesL.getD k 0 :: opnd ⟨k, v, cc⟩) ++ swL (n / 5120 % 4 != 3)).length ≤ 6 := by rw [List.length_append]; lia
  have hm : ords.map ordV ++ [ordV ⟨k, v, cc⟩] = (ords ++ [(⟨k, v, cc⟩ : Ord)]).map ordV := by rw [List.map_append]; rfl
  have m6 := more_mid (f := f) (ce := ce) (es := es) (sk := sk) (G := G) (G2 := G2) (vs := ords.map ordV) (us := [ordV ⟨k, v, cc⟩]) (by rw [List.length_map]; show ords.length + 1 ≤ _; lia)
  rw [hm] at m6
  have m60 := more_mid (f := f) (ce := ce) (es := es) (sk := sk) (G := G) (G2 := G2) (vs := ords.map ordV) (us := []) (by rw [List.length_map]; show ords.length + 0 ≤ _; lia)
  have hR : (G ++ HO.list ((ords ++ [(⟨k, v, cc⟩ : Ord)]).map ordV) :: (G2 ++ [HO.list (((codesL.getD k 0 :: opnd ⟨k, v, cc⟩) ++ swL (n / 5120 % 4 != 3)).map V.int)])) = (G ++ HO.list ((ords ++ [(⟨k, v, cc⟩ : Ord)]).map ordV) :: G2) ++ [HO.list (((codesL.getD k 0 :: opnd ⟨k, v, cc⟩) ++ swL (n / 5120 % 4 != 3)).map V.int)] := by rw [List.append_assoc]; rfl
  rw [hR]
  generalize G ++ HO.list ((ords ++ [(⟨k, v, cc⟩ : Ord)]).map ordV) :: G2 = R at m6
  obtain ⟨x, hx⟩ : ∃ x, x = codesL.getD k 0 := ⟨_, rfl⟩
  have hcd := code_at hk
  rw [← hx] at hcd hll hol ⊢
  obtain ⟨b, hb⟩ : ∃ b, b = (n / 5120 % 4 != 3) := ⟨_, rfl⟩
  rw [← hb] at hll ⊢
  obtain ⟨o', hp⟩ := put_loop (cf := callD cxL (D + 1)) (c := c) (pl := pl) (ba := ba) (op := op) (ord := some (.ref (G.length + 4))) (d := depN d k) (nu := some (.int n)) (re := re) (fl := fl) (p := p) (st := st) (k := some (.int (k : Int))) (u := some (.int v)) (w := some (.int cc)) (oc := some (.ref (R.length + 4))) (fu := fu) (be := be) (dn := dn) (ce := ce) (es := es) (sk := sk) (R := R ++ [.list (((x :: opnd ⟨k, v, cc⟩) ++ swL b).map .int)]) (vs := ((x :: opnd ⟨k, v, cc⟩) ++ swL b).map .int) (q := .ref (R.length + 4))
    (fun f => by show (match (R ++ [HO.list (((x :: opnd ⟨k, v, cc⟩) ++ swL b).map V.int)])[R.length]? with | some (.list vs) => some vs | _ => none) = _; rw [at_mid R _ []]) ((x :: opnd ⟨k, v, cc⟩) ++ swL b) 0 f at' o a0 (by lia)
  refine ⟨o', some (.ref (R.length + 4)), seq_split (dep_ok hd) ?_⟩
  refine seq_then (L1 := lwL c pl ba op at' (some (.ref (G.length + 4))) (depN d k) (some (.int n)) re fl p st (some (.int (k : Int))) (some (.int v)) (some (.int cc)) oc o fu be dn) (H1 := hW f ce es sk R) (s_append (v := ordV ⟨k, v, cc⟩) (o := .ref (G.length + 4)) rfl m60 rfl m6) ?_
  refine seq_then (L1 := lwL c pl ba op at' (some (.ref (G.length + 4))) (depN d k) (some (.int n)) re fl p st (some (.int (k : Int))) (some (.int v)) (some (.int cc)) (some (.ref (R.length + 4))) o fu be dn) (H1 := hW f ce es sk (R ++ [.list [.int x]])) (s_set (e_nlist (e_cons (x := .int x) (e_subV (x := .fl codesV) (vs := codesV) (k := (k : Int)) (H1 := hW f ce es sk R) rfl rfl (by lia) (by lia) rfl hcd) rfl)) (Nat.le_of_ble_eq_true rfl)) ?_
  refine seq_then (n8_ok hk) ?_
  refine seq_then (L1 := lwL c pl ba op at' (some (.ref (G.length + 4))) (depN d k) (some (.int n)) re fl p st (some (.int (k : Int))) (some (.int v)) (some (.int cc)) (some (.ref (R.length + 4))) o fu be dn) (H1 := hW f ce es sk (R ++ [.list (((x :: opnd ⟨k, v, cc⟩) ++ swL b).map .int)])) (s_when (x := .bool b) (b := b) (by rw [hb]; exact e_cmp (x := .int (n / 5120 % 4)) (y := .int 3) rfl rfl rfl) rfl (fun q => ?_) (fun q => ⟨rfl, ?_⟩)) ?_
  · rw [q]
    refine s_one (s_augL (v := .fl [.int 32, .int 0, .int 2]) rfl rfl rfl ?_)
    rw [more_last (by rw [List.length_map]; show _ + 3 ≤ _; lia), List.map_append]; rfl
  · rw [q, show swL false = [] from rfl, List.append_nil]
  · exact s_one (s_forIn (o := .ref (R.length + 4)) rfl (by show (match (R ++ [HO.list (((x :: opnd ⟨k, v, cc⟩) ++ swL b).map V.int)])[R.length]? with | some (.list vs) => some vs | _ => none) = _; rw [at_mid R _ []]) hp)
theorem num_one {D : Nat} {n : Int} {ords : List Ord} {G2 : Hp} {k : Option V} (ht : c.t ≤ 3) (a0 : 0 ≤ at') (a1 : at' ≤ 1000) (ho : ords.length ≤ 100) : ∃ k' u' w' o' oc', evalS cxL (callD cxL (D + 1)) sNum (lwL c pl ba op at' (some (.ref (G.length + 4))) d (some (.int n)) re fl p st k u w oc o fu be dn) (hW f ce es sk (G ++ .list (ords.map ordV) :: G2)) =
    some (.next, lwL c pl ba op (at' + (encF (oneO c.t d n)).length) (some (.ref (G.length + 4))) (depN d (kindN d n)) (some (.int n)) re fl p st k' u' w' oc' o' fu be dn,
      hW (putL f at' (encF (oneO c.t d n))) ce es sk (G ++ .list ((ords ++ [(oneO c.t d n).1]).map ordV) :: (G2 ++ [.list ((encF (oneO c.t d n)).map .int)]))) := by
  have hd : kindN d n = 15 → 1 ≤ d := fun q => by
    unfold kindN at q
    split at q
    · cases q
    · rename_i z
      by_cases y : d = 0
      · exact absurd ⟨by lia, y⟩ z
      · lia
  obtain ⟨o', oc', h⟩ := num_tail (c := c) (pl := pl) (ba := ba) (op := op) (re := re) (fl := fl) (p := p) (st := st) (oc := oc) (o := o) (fu := fu) (be := be) (dn := dn) (f := f) (ce := ce) (es := es) (sk := sk) (G := G) (d := d) (at' := at') (D := D) (n := n) (v := n / 20 % 256) (cc := 16 * (c.t : Int) + n / 20 % 256 % 16) (ords := ords) (G2 := G2) (kindN_lt d n) hd a0 a1 ho
  refine ⟨_, _, _, _, _, seq_then (L1 := lwL c pl ba op at' (some (.ref (G.length + 4))) d (some (.int n)) re fl p st (some (.int (n % 20))) u w oc o fu be dn) (H1 := hW f ce es sk (G ++ .list (ords.map ordV) :: G2)) rfl (seq_then (L1 := lwL c pl ba op at' (some (.ref (G.length + 4))) d (some (.int n)) re fl p st (some (.int (n % 20))) (some (.int (n / 20 % 256))) w oc o fu be dn) (H1 := hW f ce es sk (G ++ .list (ords.map ordV) :: G2)) rfl
    (seq_then (L1 := lwL c pl ba op at' (some (.ref (G.length + 4))) d (some (.int n)) re fl p st (some (.int (n % 20))) (some (.int (n / 20 % 256))) (some (.int (16 * (c.t : Int) + n / 20 % 256 % 16))) oc o fu be dn) (H1 := hW f ce es sk (G ++ .list (ords.map ordV) :: G2)) (s_set (evalE_bin (x := .int (16 * (c.t : Int))) (y := .int (n / 20 % 256 % 16)) (H1 := hW f ce es sk (G ++ .list (ords.map ordV) :: G2)) (evalE_bin (x := .int 16) (y := .int (c.t : Int)) rfl rfl (b_mul _ _ (by decide) (by lia))) rfl rfl) (Nat.le_of_ble_eq_true rfl)) (seq_then ?_ h)))⟩
  have hb : (n % 20 == 15 && ((d : Int) == 0)) = decide (n % 20 = 15 ∧ d = 0) := by
    by_cases q1 : n % 20 = 15 <;> by_cases q2 : d = 0
    · rw [q1, q2]; rfl
    · rw [decide_eq_false (fun h => q2 h.2), beq_eq_false_iff_ne.mpr (by lia : (d : Int) ≠ 0), Bool.and_false]
    · rw [decide_eq_false (fun h => q1 h.1), beq_eq_false_iff_ne.mpr q1, Bool.false_and]
    · rw [decide_eq_false (fun h => q1 h.1), beq_eq_false_iff_ne.mpr q1, Bool.false_and]
  refine s_when (x := .bool (n % 20 == 15 && ((d : Int) == 0))) (b := decide (n % 20 = 15 ∧ d = 0)) (e_andB (e_cmp (x := .int (n % 20)) (y := .int 15) rfl rfl rfl) (e_cmp (x := .int (d : Int)) (y := .int 0) rfl rfl rfl)) (congrArg some hb) (fun q => ?_) (fun q => ?_)
  · have : kindN d n = 14 := if_pos (of_decide_eq_true q)
    rw [this]; rfl
  · have e : kindN d n = (n % 20).toNat := if_neg (of_decide_eq_false q)
    have : (kindN d n : Int) = n % 20 := by rw [e]; lia
    rw [this]; exact ⟨rfl, rfl⟩
end
end Mine
end
section
open PySem PySem.W PySem.Calls PyProof.Rows
set_option autoImplicit false
set_option maxRecDepth 100000
namespace Mine
noncomputable abbrev lwG (c : Lc) (pl ba op at' ord d nu re fl p st k u w oc o fu be dn : Option V) : Loc :=
  [some c.script, some c.first, some c.drawn, some (.int (c.m : Int)), some (.int c.seed), some (.ref 0), pl, some (.ref 1), some (.ref 2), some (.ref 3), some (.int (c.t : Int)), none, none, ba, op, at', ord, d, nu, re, fl, p, st, k, u, w, oc, o, fu, be, dn]
noncomputable def putD (f : Int → Int) : Int → List Int → (Int → Int)
  | _, [] => f
  | p, x :: r => putD (upd f p x) (p - 1) r
section
variable {c : Lc} {pl ba op ord nu re fl p st k u w oc o fu be dn : Option V} {f ce : Int → Int} {es sk : HO} {G R : Hp} {cf : CallF} {d : Nat} {at' : Int}
theorem num_loop {D : Nat} {vs : List V} (ht : c.t ≤ 3) : ∀ (ns : List Int) (j d : Nat) (f : Int → Int) (at' : Int) (ords : List Ord) (G2 : Hp) (nu k u w oc o : Option V), 0 ≤ at' → at' + 6 * (ns.length : Int) ≤ 1000 → ords.length + ns.length ≤ 100 →
    ∀ {Z : Prop}, (∀ d' nu' k' u' w' oc' o' G2', forK cxL (.fl vs) vs (fun _ v loc H => (setTgt cxL H [18] v loc).bind fun loc => evalS cxL (callD cxL (D + 1)) sNum loc H) j (ns.map .int) (lwL c pl ba op at' (some (.ref (G.length + 4))) d nu re fl p st k u w oc o fu be dn) (hW f ce es sk (G ++ .list (ords.map ordV) :: G2)) =
      some (.next, lwL c pl ba op (at' + lenOs (genO c.t d ns)) (some (.ref (G.length + 4))) d' nu' re fl p st k' u' w' oc' o' fu be dn, hW (putOs f at' (genO c.t d ns)) ce es sk (G ++ .list ((ords ++ (genO c.t d ns).map (·.1)).map ordV) :: G2')) → Z) → Z
  | [], j, d, f, at', ords, G2, nu, k, u, w, oc, o, _, _, _, _, kk => kk d nu k u w oc o G2 (by rw [show at' + (lenOs (genO c.t d []) : Int) = at' from Int.add_zero _, show (genO c.t d []).map (·.1) = [] from rfl, List.append_nil]; rfl)
  | n :: ns, j, d, f, at', ords, G2, nu, k, u, w, oc, o, a0, a1, ho, _, kk => by
    have hn : (((n :: ns).length : Nat) : Int) = ns.length + 1 := rfl
    have hn2 : (n :: ns).length = ns.length + 1 := rfl
    have hl := encF_len (oneO c.t d n)
    obtain ⟨k1, u1, w1, o1, oc1, h1⟩ := num_one (c := c) (pl := pl) (ba := ba) (op := op) (re := re) (fl := fl) (p := p) (st := st) (u := u) (w := w) (oc := oc) (o := o) (fu := fu) (be := be) (dn := dn) (f := f) (ce := ce) (es := es) (sk := sk) (G := G) (d := d) (at' := at') (D := D) (n := n) (ords := ords) (G2 := G2) (k := k) ht a0 (by lia) (by lia)
    refine num_loop (D := D) (vs := vs) ht ns (j + 1) (depN d (kindN d n)) (putL f at' (encF (oneO c.t d n))) (at' + (encF (oneO c.t d n)).length) (ords ++ [(oneO c.t d n).1]) (G2 ++ [.list ((encF (oneO c.t d n)).map .int)]) (some (.int n)) k1 u1 w1 oc1 o1 (by lia) (by lia) (by rw [List.length_append]; show ords.length + 1 + ns.length ≤ 100; lia) fun d' nu' k' u' w' oc' o' G2' h2 => ?_
    refine kk d' nu' k' u' w' oc' o' G2' (forK_next (vs := vs) (L1 := lwL c pl ba op (at' + (encF (oneO c.t d n)).length) (some (.ref (G.length + 4))) (depN d (kindN d n)) (some (.int n)) re fl p st k1 u1 w1 oc1 o1 fu be dn) (H1 := hW (putL f at' (encF (oneO c.t d n))) ce es sk (G ++ HO.list ((ords ++ [(oneO c.t d n).1]).map ordV) :: (G2 ++ [HO.list ((encF (oneO c.t d n)).map V.int)]))) h1 rfl (h2.trans ?_))
    have e1 : at' + ((encF (oneO c.t d n)).length : Int) + (lenOs (genO c.t (depN d (kindN d n)) ns) : Int) = at' + (lenOs (genO c.t d (n :: ns)) : Int) := by
      show _ = at' + (((encF (oneO c.t d n)).length + lenOs (genO c.t (depN d (kindN d n)) ns) : Nat) : Int)
      lia
    have e2 : (ords ++ [(oneO c.t d n).1] ++ (genO c.t (depN d (kindN d n)) ns).map (·.1)) = ords ++ (genO c.t d (n :: ns)).map (·.1) := by rw [List.append_assoc]; rfl
    rw [e1, e2]; rfl
theorem put_up {q : V} {vs : List V} (hq : ∀ H, itemsOf cxL H q = some vs) : ∀ (l : List Int) (j : Nat) (f : Int → Int) (o fu : Option V), 0 ≤ at' → at' + j + l.length ≤ 1024 →
    ∃ o' fu', forK cxL q vs (fun k v loc H => (setFwd [28, 27] [.int k, v] loc).bind fun loc => evalS cxL cf (.seq (.assign (.sub (.loc 5) (.bin .Add (.loc 15) (.loc 28))) (.loc 27)) .skip) loc H) j (l.map .int) (lwL c pl ba op at' ord d nu re fl p st k u w oc o fu be dn) (hW f ce es sk R) =
      some (.next, lwL c pl ba op at' ord d nu re fl p st k u w oc o' fu' be dn, hW (putL f (at' + j) l) ce es sk R)
  | [], j, f, o, fu, _, _ => ⟨o, fu, rfl⟩
  | x :: l, j, f, o, fu, h0, h1 => by
    have hl : (((x :: l).length : Nat) : Int) = l.length + 1 := rfl
    obtain ⟨o', fu', h2⟩ := put_up hq l (j + 1) (upd f (at' + j) x) (some (.int x)) (some (.int (j : Int))) h0 (by lia)
    refine ⟨o', fu', forK_next (L1 := lwL c pl ba op at' ord d nu re fl p st k u w oc (some (.int x)) (some (.int (j : Int))) be dn) (H1 := hW (upd f (at' + j) x) ce es sk R) ?_ (hq _) ?_⟩
    · show evalS cxL cf _ (lwL c pl ba op at' ord d nu re fl p st k u w oc (some (.int x)) (some (.int (j : Int))) be dn) _ = _
      exact s_one (put_mem rfl (evalE_bin (x := .int at') (y := .int (j : Int)) rfl rfl rfl) rfl (by lia) (by lia))
    · rw [h2, show at' + ((j + 1 : Nat) : Int) = at' + j + 1 by lia]; rfl
theorem put_down {q : V} {vs : List V} {b : Int} (hq : ∀ H, itemsOf cxL H q = some vs) (b1 : b ≤ 255) : ∀ (l : List Int) (j : Nat) (f : Int → Int) (o dn : Option V), 0 ≤ 256 + b - j - l.length →
    ∃ o' dn', forK cxL q vs (fun k v loc H => (setFwd [30, 27] [.int k, v] loc).bind fun loc => evalS cxL cf (.seq (.assign (.sub (.loc 5) (.bin .Sub (.bin .Add (.cst (.int 256)) (.loc 13)) (.loc 30))) (.loc 27)) .skip) loc H) j (l.map .int) (lwL c pl (some (.int b)) op at' ord d nu re fl p st k u w oc o fu be dn) (hW f ce es sk R) =
      some (.next, lwL c pl (some (.int b)) op at' ord d nu re fl p st k u w oc o' fu be dn', hW (putD f (256 + b - j) l) ce es sk R)
  | [], j, f, o, dn, _ => ⟨o, dn, rfl⟩
  | x :: l, j, f, o, dn, h0 => by
    have hl : (((x :: l).length : Nat) : Int) = l.length + 1 := rfl
    obtain ⟨o', dn', h2⟩ := put_down hq b1 l (j + 1) (upd f (256 + b - j) x) (some (.int x)) (some (.int (j : Int))) (by lia)
    refine ⟨o', dn', forK_next (L1 := lwL c pl (some (.int b)) op at' ord d nu re fl p st k u w oc (some (.int x)) fu be (some (.int (j : Int)))) (H1 := hW (upd f (256 + b - j) x) ce es sk R) ?_ (hq _) ?_⟩
    · show evalS cxL cf _ (lwL c pl (some (.int b)) op at' ord d nu re fl p st k u w oc (some (.int x)) fu be (some (.int (j : Int)))) _ = _
      exact s_one (put_mem rfl (evalE_bin (x := .int (256 + b)) (y := .int (j : Int)) rfl rfl rfl) rfl (by lia) (by lia))
    · rw [h2, show 256 + b - ((j + 1 : Nat) : Int) = 256 + b - j - 1 by lia]; rfl
end
end Mine
end
section
open PySem PySem.W PySem.Calls PyProof.Rows
set_option autoImplicit false
set_option maxRecDepth 100000
namespace Mine
noncomputable def bB (x : Int) : Bool := x % 2 == 1
theorem bB_eq (x : Int) : b2 (bB x) = x % 2 := by
  unfold b2 bB
  by_cases q : x % 2 = 1
  · rw [q]; rfl
  · rw [if_neg (by simpa using q)]; lia
noncomputable def s0 (seed : Int) (t : Nat) (ce : Int → Int) : Al := ⟨(seed + 50 * (t : Int)) % 256, (seed / 3 + 90 * (t : Int)) % 256, (seed / 5 + 130 * (t : Int)) % 256, ⟨bB (seed + t), bB (seed / 2 + t), bB t, bB (seed / 4 + t), bB (seed / 8 + t)⟩, [], ce⟩
abbrev opn (t : Nat) : Int := 544 + 64 * (t : Int)
noncomputable def endA (t : Nat) (ns : List Int) : Int := opn t + lenOs (genO t 0 ns)
noncomputable def endL (e : Int) : List Int := [32, 0, 2, 76, e % 256, e / 256]
noncomputable def frmL (t : Nat) (s : Al) : List Int := [(opn t - 1) / 256, (opn t - 1) % 256, pOf s.fl, s.a, s.x, s.y]
noncomputable def turnM (m : Nat) (seed : Int) (t : Nat) (ns : List Int) (f : Int → Int) : Int → Int :=
  let f2 := putL (putOs f (opn t) (genO t 0 ns)) (endA t ns) (endL (endA t ns))
  let f3 := if t = 0 then f2 else upd (putD f2 (256 + bs t) (frmL t (s0 seed t f))) (240 + t) (bs t - 6)
  upd f3 (244 + t) (((t + 1) % m : Nat) : Int)
noncomputable def finA (seed : Int) (t : Nat) (ns : List Int) (ce : Int → Int) : Al := runA (bs t) (genO t 0 ns) (s0 seed t ce)
noncomputable def tupR (b : Int) (s : Al) : V := .tup [.int s.a, .int s.x, .int s.y, .int (b - s.stk.length), .int (pOf s.fl)]
theorem s0_V {seed : Int} {t : Nat} {ce : Int → Int} (b : Int) (h : BOk ce) : VOk b (s0 seed t ce) := by
  have m : ∀ z : Int, 0 ≤ z % 256 ∧ z % 256 ≤ 255 := fun z => by lia
  exact ⟨m _, m _, m _, (fun v hv => by cases hv), h⟩
theorem AStep_dep (b : Int) {k : Nat} (u w : Int) (s : Al) (hk : k < 20) : (AStep b ⟨k, u, w⟩ s).stk.length = depN s.stk.length k :=
  all20 (P := fun k => (AStep b ⟨k, u, w⟩ s).stk.length = depN s.stk.length k) rfl rfl rfl rfl rfl rfl rfl rfl rfl rfl rfl rfl rfl rfl (by show (s.stk ++ [s.a]).length = _; rw [List.length_append]; rfl) (by show s.stk.dropLast.length = _; rw [List.length_dropLast]; rfl) rfl rfl
    (by show (if s.fl.c = true then s else nzY s ((s.y + 1) % 256)).stk.length = _; split <;> rfl) rfl k hk
theorem genO_ok {t : Nat} (b : Int) : ∀ (ns : List Int) (d : Nat) (s : Al), s.stk.length = d → AllOk b (16 * (t : Int)) (genO t d ns) s
  | [], _, _, _ => trivial
  | n :: ns, d, s, h => by
    refine ⟨⟨kindN_lt d n, by show 0 ≤ n / 20 % 256 ∧ n / 20 % 256 ≤ 255; lia, by show 16 * (t : Int) ≤ 16 * (t : Int) + n / 20 % 256 % 16 ∧ 16 * (t : Int) + n / 20 % 256 % 16 < 16 * (t : Int) + 16; lia, fun q => ?_⟩, genO_ok b ns _ _ ?_⟩
    · have q : kindN d n = 15 := q
      intro z
      rw [z] at h
      unfold kindN at q
      split at q
      · cases q
      · rename_i y
        exact y ⟨by lia, h.symm⟩
    · rw [← h]; exact AStep_dep b _ _ s (kindN_lt _ _)
section
variable {C : Cx} {cf : CallF} {L L' : Loc} {H H1 H2 : Hp}
theorem e_stepS {o lo st : E} {x y z : V} {vs : List V} (h1 : evalE C cf L o H = some (x, H)) (h2 : evalE C cf L lo H = some (y, H)) (h3 : evalE C cf L st H = some (z, H)) (hs : stepV C H x y z = some vs) : evalE C cf L (.stepS o lo st) H = some (.fl vs, H) := by
  show (evalE C cf L o H).bind _ = _
  rw [h1]
  show (evalE C cf L lo H).bind _ = _
  rw [h2]
  show (evalE C cf L st H).bind _ = _
  rw [h3]
  show (stepV C H x y z).bind _ = _
  rw [hs]; rfl
theorem e_flist {es : E} {vs : List V} (h : evalE C cf L es H = some (.tup vs, H)) : evalE C cf L (.flist es) H = some (.fl vs, H) := by
  show (evalE C cf L es H).bind _ = _
  rw [h]; rfl
theorem e_cat {a b : E} {x y : V} {vs us : List V} (h1 : evalE C cf L a H = some (x, H)) (h2 : evalE C cf L b H = some (y, H)) (i1 : itemsOf C H x = some vs) (i2 : itemsOf C H y = some us) (hl : vs.length + us.length ≤ 1000) : evalE C cf L (.cat a b) H = some (.fl (vs ++ us), H) := by
  show (evalE C cf L a H).bind _ = _
  rw [h1]
  show (evalE C cf L b H).bind _ = _
  rw [h2]
  show (itemsOf C H x).bind _ = _
  rw [i1]
  show (itemsOf C H y).bind _ = _
  rw [i2]
  exact if_pos hl
theorem s_assignD {d k j : Nat} {e : E} {u z : V} {o y : V} (h : evalE C cf L e H = some (.tup [u, z], H1)) (ho : locV L d = some o) (hk : locV L k = some y) (hs : storeD H1 o y u = some H2) (hj : setFwd [j] [z] L = some L') : evalS C cf (.assignD d k j e) L H = some (.next, L', H2) := by
  show (evalE C cf L e H).bind _ = _
  rw [h]
  show (locV L d).bind _ = _
  rw [ho]
  show (locV L k).bind _ = _
  rw [hk]
  show (storeD H1 o y u).bind _ = _
  rw [hs]
  show (setFwd [j] [z] L).bind _ = _
  rw [hj]; rfl
end
theorem b_mod (x y : Int) (h : 0 < y) : binV .Mod (.int x) (.int y) = some (.int (x % y)) := by
  show (if 0 < y then some (x % y) else none).map V.int = _
  rw [if_pos h]; rfl
end Mine
end
section
open PySem PySem.W PySem.Calls PyProof.Rows
set_option autoImplicit false
set_option maxRecDepth 100000
namespace Mine
section
variable {c : Lc} {pl ba op at' ord d nu re fl p st k u w oc o fu be dn : Option V} {f ce : Int → Int} {es sk : HO} {G R : Hp} {cf : CallF}
theorem turn1 {D : Nat} {ns : List Int} (ht : c.t ≤ 3) (hn : ns.length ≤ 6) (hs : ∀ H, stepV cxL H c.drawn (.int (c.t : Int)) (.int (c.m : Int)) = some (ns.map .int)) :
    ∀ {Z : Prop}, (∀ d' nu' k' u' w' oc' o' fu' G2, (∀ (X : S) (Y : Option (Fl × Loc × Hp)), evalS cxL (callD cxL (D + 1)) X (lwL c pl (some (.int (bs c.t))) (some (.int (opn c.t))) (endA c.t ns) (some (.ref (G.length + 4))) d' nu' re fl p st k' u' w' oc' o' fu' be dn) (hW (putL (putOs f (opn c.t) (genO c.t 0 ns)) (endA c.t ns) (endL (endA c.t ns))) ce es sk (G ++ .list ((genO c.t 0 ns).map fun x => ordV x.1) :: G2)) = Y →
      evalS cxL (callD cxL (D + 1)) (.seq sT0 (.seq sT1 (.seq sT2 (.seq sT3 (.seq sT4 (.seq sT5 (.seq sT6 X))))))) (lwG c pl ba op at' ord d nu re fl p st k u w oc o fu be dn) (hW f ce es sk G) = Y) → Z) → Z := by
  intro Z kk
  have hlo := lenOs_le (genO c.t 0 ns)
  rw [genO_len] at hlo
  have eo : opn c.t = 544 + 64 * (c.t : Int) := rfl
  refine num_loop (c := c) (pl := pl) (ba := some (.int (bs c.t))) (op := some (.int (opn c.t))) (re := re) (fl := fl) (p := p) (st := st) (fu := fu) (be := be) (dn := dn) (ce := ce) (es := es) (sk := sk) (G := G) (D := D) (vs := ns.map .int) ht ns 0 0 f (opn c.t) [] [] nu k u w oc o (by lia) (by lia) (by show 0 + ns.length ≤ 100; lia) fun d' nu' k' u' w' oc' o' G2 h1 => ?_
  obtain ⟨o2, fu2, h2⟩ := put_up (c := c) (pl := pl) (ba := some (.int (bs c.t))) (op := some (.int (opn c.t))) (ord := some (.ref (G.length + 4))) (d := d') (nu := nu') (re := re) (fl := fl) (p := p) (st := st) (k := k') (u := u') (w := w') (oc := oc') (be := be) (dn := dn) (ce := ce) (es := es) (sk := sk) (R := G ++ .list ((genO c.t 0 ns).map fun x => ordV x.1) :: G2) (cf := callD cxL (D + 1)) (at' := endA c.t ns) (q := .fl ((endL (endA c.t ns)).map .int)) (vs := (endL (endA c.t ns)).map .int) (fun _ => rfl) (endL (endA c.t ns)) 0 (putOs f (opn c.t) (genO c.t 0 ns)) o' fu (by show 0 ≤ opn c.t + lenOs (genO c.t 0 ns); lia) (by show opn c.t + lenOs (genO c.t 0 ns) + ((0 : Nat) : Int) + ((6 : Nat) : Int) ≤ 1024; lia)
  rw [show endA c.t ns + ((0 : Nat) : Int) = endA c.t ns from Int.add_zero _] at h2
  rw [show (([] : List Ord) ++ (genO c.t 0 ns).map (·.1)).map ordV = (genO c.t 0 ns).map fun x => ordV x.1 by rw [List.nil_append, List.map_map]; rfl] at h1
  refine kk d' nu' k' u' w' oc' o2 fu2 G2 fun X Y hY => ?_
  refine (seq_next (L' := lwG c pl (some (.int (bs c.t))) op at' ord d nu re fl p st k u w oc o fu be dn) (H' := hW f ce es sk G) (s_set (evalE_bin (x := .int 255) (y := .int (64 * (c.t : Int))) (H1 := hW f ce es sk G) rfl (evalE_bin (x := .int 64) (y := .int (c.t : Int)) rfl rfl (b_mul _ _ (by decide) (by lia))) rfl) (Nat.le_of_ble_eq_true rfl))).trans ?_
  refine (seq_next (L' := lwG c pl (some (.int (bs c.t))) (some (.int (opn c.t))) at' ord d nu re fl p st k u w oc o fu be dn) (H' := hW f ce es sk G) (s_set (evalE_bin (x := .int 544) (y := .int (64 * (c.t : Int))) (H1 := hW f ce es sk G) rfl (evalE_bin (x := .int 64) (y := .int (c.t : Int)) rfl rfl (b_mul _ _ (by decide) (by lia))) rfl) (Nat.le_of_ble_eq_true rfl))).trans ?_
  refine (seq_next (L' := lwG c pl (some (.int (bs c.t))) (some (.int (opn c.t))) (some (.int (opn c.t))) ord d nu re fl p st k u w oc o fu be dn) (H' := hW f ce es sk G) rfl).trans ?_
  refine (seq_next (L' := lwG c pl (some (.int (bs c.t))) (some (.int (opn c.t))) (some (.int (opn c.t))) (some (.ref (G.length + 4))) d nu re fl p st k u w oc o fu be dn) (H' := hW f ce es sk (G ++ [.list []])) rfl).trans ?_
  refine (seq_next (L' := lwL c pl (some (.int (bs c.t))) (some (.int (opn c.t))) (opn c.t) (some (.ref (G.length + 4))) 0 nu re fl p st k u w oc o fu be dn) (H' := hW f ce es sk (G ++ [.list []])) rfl).trans ?_
  have h0 : evalE cxL (callD cxL (D + 1)) (lwL c pl (some (.int (bs c.t))) (some (.int (opn c.t))) (opn c.t) (some (.ref (G.length + 4))) 0 nu re fl p st k u w oc o fu be dn) (.stepS (.loc 2) (.loc 10) (.loc 3)) (hW f ce es sk (G ++ [.list []])) = some (.fl (ns.map .int), hW f ce es sk (G ++ [.list []])) := by
    have hs1 := hs (hW f ce es sk (G ++ [HO.list []]))
    generalize hW f ce es sk (G ++ [HO.list []]) = HH at hs1 ⊢
    exact e_stepS (x := c.drawn) (y := .int (c.t : Int)) (z := .int (c.m : Int)) rfl rfl rfl hs1
  refine (seq_next (s_forIn h0 rfl h1)).trans ?_
  refine (seq_next (s_forEnum (o := .fl ((endL (endA c.t ns)).map .int)) (vs := (endL (endA c.t ns)).map .int) (H1 := hW (putOs f (opn c.t) (genO c.t 0 ns)) ce es sk (G ++ .list ((genO c.t 0 ns).map fun x => ordV x.1) :: G2)) rfl rfl h2)).trans hY
theorem turn2 {a e : Int} {dd : Nat} {ord : Option V} {cel : Int → Int} (ht : c.t ≤ 3) (X : S) (Y : Option (Fl × Loc × Hp)) (hY : evalS cxL cf X (lwL c pl ba op a ord dd nu (some (.fl [.int (s0 c.seed c.t cel).a, .int (s0 c.seed c.t cel).x, .int (s0 c.seed c.t cel).y])) (some (.fl [.int (b2 (s0 c.seed c.t cel).fl.c), .int (b2 (s0 c.seed c.t cel).fl.z), .int (b2 (s0 c.seed c.t cel).fl.v), .int (b2 (s0 c.seed c.t cel).fl.n), .int (b2 (s0 c.seed c.t cel).fl.h)])) (some (.int (pOf (s0 c.seed c.t cel).fl))) st k u w oc o fu be dn) (hW f ce es sk R) = Y) :
    evalS cxL cf (.seq sT7 (.seq sT8 (.seq sT9 X))) (lwL c pl ba op a ord dd nu re fl p st k u w oc o fu be dn) (hW f ce es sk R) = Y := by
  have bm : ∀ z : Int, z.natAbs < 2 ^ 32 → binV .Mult (.int z) (.int (c.t : Int)) = some (.int (z * (c.t : Int))) := fun z hz => b_mul _ _ hz (by lia)
  refine (seq_next (L' := lwL c pl ba op a ord dd nu (some (.fl [.int (s0 c.seed c.t cel).a, .int (s0 c.seed c.t cel).x, .int (s0 c.seed c.t cel).y])) fl p st k u w oc o fu be dn) (H' := hW f ce es sk R) (s_set (e_flist (e_cons (x := .int (s0 c.seed c.t cel).a) (evalE_bin (x := .int (c.seed + 50 * (c.t : Int))) (y := .int 256) (H1 := hW f ce es sk R) (evalE_bin (x := .int c.seed) (y := .int (50 * (c.t : Int))) (H1 := hW f ce es sk R) rfl (evalE_bin (x := .int 50) (y := .int (c.t : Int)) rfl rfl (bm _ (by decide))) rfl) rfl rfl)
    (e_cons (x := .int (s0 c.seed c.t cel).x) (evalE_bin (x := .int (c.seed / 3 + 90 * (c.t : Int))) (y := .int 256) (H1 := hW f ce es sk R) (evalE_bin (x := .int (c.seed / 3)) (y := .int (90 * (c.t : Int))) (H1 := hW f ce es sk R) rfl (evalE_bin (x := .int 90) (y := .int (c.t : Int)) rfl rfl (bm _ (by decide))) rfl) rfl rfl)
    (e_cons (x := .int (s0 c.seed c.t cel).y) (evalE_bin (x := .int (c.seed / 5 + 130 * (c.t : Int))) (y := .int 256) (H1 := hW f ce es sk R) (evalE_bin (x := .int (c.seed / 5)) (y := .int (130 * (c.t : Int))) (H1 := hW f ce es sk R) rfl (evalE_bin (x := .int 130) (y := .int (c.t : Int)) rfl rfl (bm _ (by decide))) rfl) rfl rfl) rfl)))) (Nat.le_of_ble_eq_true rfl))).trans ?_
  refine (seq_next (L' := lwL c pl ba op a ord dd nu (some (.fl [.int (s0 c.seed c.t cel).a, .int (s0 c.seed c.t cel).x, .int (s0 c.seed c.t cel).y])) (some (.fl [.int (b2 (s0 c.seed c.t cel).fl.c), .int (b2 (s0 c.seed c.t cel).fl.z), .int (b2 (s0 c.seed c.t cel).fl.v), .int (b2 (s0 c.seed c.t cel).fl.n), .int (b2 (s0 c.seed c.t cel).fl.h)])) p st k u w oc o fu be dn) (H' := hW f ce es sk R) ?_).trans ?_
  · show evalS cxL cf sT8 _ _ = some (.next, lwL c pl ba op a ord dd nu _ (some (.fl [.int (b2 (bB (c.seed + c.t))), .int (b2 (bB (c.seed / 2 + c.t))), .int (b2 (bB (c.seed / 4 + c.t))), .int (b2 (bB (c.seed / 8 + c.t))), .int (b2 (bB c.t))])) p st k u w oc o fu be dn, hW f ce es sk R)
    rw [bB_eq, bB_eq, bB_eq, bB_eq, bB_eq]
    rfl
  · have cb := b2r (s0 c.seed c.t cel).fl.c
    have zb := b2r (s0 c.seed c.t cel).fl.z
    have vb := b2r (s0 c.seed c.t cel).fl.v
    have nb := b2r (s0 c.seed c.t cel).fl.n
    have hb := b2r (s0 c.seed c.t cel).fl.h
    generalize s0 c.seed c.t cel = s at *
    exact (seq_next (L' := lwL c pl ba op a ord dd nu (some (.fl [.int s.a, .int s.x, .int s.y])) (some (.fl [.int (b2 s.fl.c), .int (b2 s.fl.z), .int (b2 s.fl.v), .int (b2 s.fl.n), .int (b2 s.fl.h)])) (some (.int (pOf s.fl))) st k u w oc o fu be dn) (H' := hW f ce es sk R) (s_set (v := .int (pOf s.fl)) (evalE_bin (evalE_bin (evalE_bin (evalE_bin (evalE_bin (x := .int 48) (y := .int (b2 s.fl.c)) (H1 := hW f ce es sk R) rfl rfl (b_add _ _)) (evalE_bin (x := .int 2) (y := .int (b2 s.fl.z)) (H1 := hW f ce es sk R) rfl rfl (b_mul _ _ (by decide) (by lia))) (b_add _ _)) (evalE_bin (x := .int 4) (y := .int (b2 s.fl.h)) (H1 := hW f ce es sk R) rfl rfl (b_mul _ _ (by decide) (by lia))) (b_add _ _)) (evalE_bin (x := .int 64) (y := .int (b2 s.fl.v)) (H1 := hW f ce es sk R) rfl rfl (b_mul _ _ (by decide) (by lia))) (b_add _ _)) (evalE_bin (x := .int 128) (y := .int (b2 s.fl.n)) (H1 := hW f ce es sk R) rfl rfl (b_mul _ _ (by decide) (by lia))) (b_add _ _)) (Nat.le_of_ble_eq_true rfl))).trans hY
theorem turn3 {a : Int} {dd : Nat} {ord : Option V} {cel : Int → Int} {fl : Option V} {s : Al} (ht : c.t ≤ 3) (hm : 2 ≤ c.m) : ∃ o' dn', ∀ (X : S) (Y : Option (Fl × Loc × Hp)), evalS cxL cf X (lwL c pl (some (.int (bs c.t))) (some (.int (opn c.t))) a ord dd nu (some (.fl [.int s.a, .int s.x, .int s.y])) fl (some (.int (pOf s.fl))) st k u w oc o' fu (if c.t = 0 then some (.fl [.int s.a, .int s.x, .int s.y, .int (pOf s.fl)]) else be) dn') (hW (upd (if c.t = 0 then f else upd (putD f (256 + bs c.t) (frmL c.t s)) (240 + c.t) (bs c.t - 6)) (244 + c.t) (((c.t + 1) % c.m : Nat) : Int)) ce es sk R) = Y →
    evalS cxL cf (.seq sT10 (.seq sT11 X)) (lwL c pl (some (.int (bs c.t))) (some (.int (opn c.t))) a ord dd nu (some (.fl [.int s.a, .int s.x, .int s.y])) fl (some (.int (pOf s.fl))) st k u w oc o fu be dn) (hW f ce es sk R) = Y := by
  have hmod : ((c.t : Int) + 1) % (c.m : Int) = (((c.t + 1) % c.m : Nat) : Int) := by rw [Int.natCast_emod]; rfl
  have h11 : ∀ (f : Int → Int) (o be dn : Option V), evalS cxL cf sT11 (lwL c pl (some (.int (bs c.t))) (some (.int (opn c.t))) a ord dd nu (some (.fl [.int s.a, .int s.x, .int s.y])) fl (some (.int (pOf s.fl))) st k u w oc o fu be dn) (hW f ce es sk R) = some (.next, lwL c pl (some (.int (bs c.t))) (some (.int (opn c.t))) a ord dd nu (some (.fl [.int s.a, .int s.x, .int s.y])) fl (some (.int (pOf s.fl))) st k u w oc o fu be dn, hW (upd f (244 + c.t) (((c.t + 1) % c.m : Nat) : Int)) ce es sk R) := fun f o be dn =>
    put_mem rfl (evalE_bin (x := .int 244) (y := .int (c.t : Int)) rfl rfl rfl) (evalE_bin (x := .int ((c.t : Int) + 1)) (y := .int (c.m : Int)) rfl rfl (by rw [b_mod _ _ (by lia), hmod])) (by lia) (by lia)
  have hc : ∀ (f : Int → Int) (o be dn : Option V), evalE cxL cf (lwL c pl (some (.int (bs c.t))) (some (.int (opn c.t))) a ord dd nu (some (.fl [.int s.a, .int s.x, .int s.y])) fl (some (.int (pOf s.fl))) st k u w oc o fu be dn) (.cmp .Eq (.loc 10) (.cst (.int 0))) (hW f ce es sk R) = some (.bool ((c.t : Int) == 0), hW f ce es sk R) := fun f o be dn => e_cmp (x := .int (c.t : Int)) (y := .int 0) rfl rfl rfl
  by_cases h : c.t = 0
  · refine ⟨o, dn, fun X Y hY => (seq_next ?_).trans ((seq_next (h11 _ _ _ _)).trans hY)⟩
    rw [if_pos h, if_pos h]
    refine (s_ite (t := true) (hc f o be dn) (by rw [h]; rfl)).trans ?_
    exact s_one (s_set (e_cat (x := .fl [.int s.a, .int s.x, .int s.y]) (y := .fl [.int (pOf s.fl)]) rfl rfl rfl rfl (Nat.le_of_ble_eq_true rfl)) (Nat.le_of_ble_eq_true rfl))
  · obtain ⟨o', dn', h1⟩ := put_down (c := c) (pl := pl) (op := some (.int (opn c.t))) (at' := a) (ord := ord) (d := dd) (nu := nu) (re := some (.fl [.int s.a, .int s.x, .int s.y])) (fl := fl) (p := some (.int (pOf s.fl))) (st := st) (k := k) (u := u) (w := w) (oc := oc) (fu := fu) (be := be) (ce := ce) (es := es) (sk := sk) (R := R) (cf := cf) (b := bs c.t) (q := .fl ((frmL c.t s).map .int)) (vs := (frmL c.t s).map .int) (fun _ => rfl) (by show 255 - 64 * (c.t : Int) ≤ 255; lia) (frmL c.t s) 0 f o dn (by show 0 ≤ 256 + (255 - 64 * (c.t : Int)) - ((0 : Nat) : Int) - ((6 : Nat) : Int); lia)
    rw [show 256 + bs c.t - ((0 : Nat) : Int) = 256 + bs c.t from Int.sub_zero _] at h1
    refine ⟨o', dn', fun X Y hY => (seq_next ?_).trans ((seq_next (h11 _ _ _ _)).trans hY)⟩
    rw [if_neg h, if_neg h]
    refine (s_ite (t := false) (hc f o be dn) (congrArg some (beq_eq_false_iff_ne.mpr (by lia)))).trans ?_
    refine seq_then (s_forEnum (o := .fl ((frmL c.t s).map .int)) (vs := (frmL c.t s).map .int) (H1 := hW f ce es sk R) (e_cat (x := .fl [.int ((opn c.t - 1) / 256), .int ((opn c.t - 1) % 256), .int (pOf s.fl)]) (y := .fl [.int s.a, .int s.x, .int s.y]) rfl rfl rfl rfl (Nat.le_of_ble_eq_true rfl)) rfl h1) ?_
    exact s_one (put_mem rfl (evalE_bin (x := .int 240) (y := .int (c.t : Int)) rfl rfl rfl) (evalE_bin (x := .int (bs c.t)) (y := .int 6) rfl rfl rfl) (by lia) (by lia))
end
end Mine
end
section
open PySem PySem.W PySem.Calls PyProof.Rows
set_option autoImplicit false
set_option maxRecDepth 100000
namespace Mine
theorem e_call5 {C : Cx} {cf : CallF} {L : Loc} {H H' : Hp} {f : Addr} {a b c d e : E} {x y z u v r : V} (h1 : evalE C cf L a H = some (x, H)) (h2 : evalE C cf L b H = some (y, H)) (h3 : evalE C cf L c H = some (z, H)) (h4 : evalE C cf L d H = some (u, H)) (h5 : evalE C cf L e H = some (v, H)) (h : cf f [x, y, z, u, v] H = some (r, H')) : evalE C cf L (.call (.cst (.kref f)) (.cons a (.cons b (.cons c (.cons d (.cons e .nil)))))) H = some (r, H') := by
  have ha : evalE C cf L (.cons a (.cons b (.cons c (.cons d (.cons e .nil))))) H = some (.tup [x, y, z, u, v], H) := e_cons h1 (e_cons h2 (e_cons h3 (e_cons h4 (e_cons h5 rfl))))
  show (evalE C cf L (.cons a (.cons b (.cons c (.cons d (.cons e .nil))))) H).bind _ = _
  rw [ha]
  exact h
def NoKey (E : List (Int × V)) (k : Int) : Prop := E.any (fun e => e.1 == k) = false
section
variable {c : Lc} {pl op nu st k u w oc o fu be dn : Option V} {f ce : Int → Int} {G G2 : Hp}
theorem turn4 {D : Nat} {os : List (Ord × Bool)} {a : Int} {dd : Nat} {E : List (Int × V)} {S : List V} {s : Al} (ht : c.t ≤ 3) (hE : E.length < 1000) (hk : NoKey E a) (hS : S.length ≤ 100) (hV : VOk (bs c.t) s) (hs : s.stk = []) (hce : s.ce = ce) (hok : AllOk (bs c.t) (16 * (c.t : Int)) os s) (hl : os.length ≤ 12) :
    evalS cxL (callD cxL (D + 1)) (.seq sT12 (.seq sT13 .skip)) (lwL c pl (some (.int (bs c.t))) op a (some (.ref (G.length + 4))) dd nu (some (.fl [.int s.a, .int s.x, .int s.y])) (some (.fl [.int (b2 s.fl.c), .int (b2 s.fl.z), .int (b2 s.fl.v), .int (b2 s.fl.n), .int (b2 s.fl.h)])) (some (.int (pOf s.fl))) st k u w oc o fu be dn) (hW f ce (.dict E) (.list S) (G ++ .list (os.map fun x => ordV x.1) :: G2)) =
      some (.next, lwL c pl (some (.int (bs c.t))) op a (some (.ref (G.length + 4))) dd nu (some (.fl [.int s.a, .int s.x, .int s.y])) (some (.fl [.int (b2 s.fl.c), .int (b2 s.fl.z), .int (b2 s.fl.v), .int (b2 s.fl.n), .int (b2 s.fl.h)])) (some (.int (pOf s.fl))) (some (.ref ((G ++ HO.list (os.map fun x => ordV x.1) :: G2).length + 4))) k u w oc o fu be dn,
        hW f (runA (bs c.t) os s).ce (.dict (E ++ [(a, tupR (bs c.t) (runA (bs c.t) os s))])) (.list (S ++ [.tup [.int (bs c.t), .ref ((G ++ HO.list (os.map fun x => ordV x.1) :: G2).length + 4)]])) ((G ++ .list (os.map fun x => ordV x.1) :: G2) ++ [.list ((runA (bs c.t) os s).stk.map .int)])) := by
  have hO : ∀ s' : Al, itemsOf cxL (hA (memL f) (.dict E) (.list S) (G ++ HO.list (os.map fun x => ordV x.1) :: G2) s') (.ref (G.length + 4)) = some (os.map fun x => ordV x.1) := fun s' => by
    show (match ((G ++ HO.list (os.map fun x => ordV x.1) :: G2) ++ [HO.list (s'.stk.map V.int)])[G.length]? with | some (.list vs) => some vs | _ => none) = _
    rw [List.append_assoc, List.cons_append, at_mid]
  have eb : bs c.t = 255 - 64 * (c.t : Int) := rfl
  have h1 := c_alone (mm := memL f) (es := .dict E) (st := .list S) (G := G ++ HO.list (os.map fun x => ordV x.1) :: G2) (b := bs c.t) (lo := 16 * (c.t : Int)) (d := D) hO (by lia) (by lia) (by lia) (by lia) hV hs hok hl
  generalize runA (bs c.t) os s = s' at h1 ⊢
  generalize hR : G ++ HO.list (os.map fun x => ordV x.1) :: G2 = R at h1 ⊢
  rw [hce] at h1
  have hst : storeD (hA (memL f) (.dict E) (.list S) R s') (.ref 2) (.int a) (tupR (bs c.t) s') = some (hA (memL f) (.dict (E ++ [(a, tupR (bs c.t) s')])) (.list S) R s') := by
    show (if E.length < 1000 ∧ E.any (fun e => e.1 == a) = false then some ((hA (memL f) (.dict E) (.list S) R s').set 2 (.dict (E ++ [(a, tupR (bs c.t) s')]))) else none) = _
    rw [if_pos ⟨hE, hk⟩]; rfl
  refine seq_then (L1 := lwL c pl (some (.int (bs c.t))) op a (some (.ref (G.length + 4))) dd nu (some (.fl [.int s.a, .int s.x, .int s.y])) (some (.fl [.int (b2 s.fl.c), .int (b2 s.fl.z), .int (b2 s.fl.v), .int (b2 s.fl.n), .int (b2 s.fl.h)])) (some (.int (pOf s.fl))) (some (.ref (R.length + 4))) k u w oc o fu be dn) (H1 := hA (memL f) (.dict (E ++ [(a, tupR (bs c.t) s')])) (.list S) R s') (s_assignD (e_call5 rfl rfl rfl rfl rfl h1) rfl rfl hst rfl) (s_one ?_)
  refine s_append (o := .ref 3) (v := .tup [.int (bs c.t), .ref (R.length + 4)]) (H2 := hA (memL f) (.dict (E ++ [(a, tupR (bs c.t) s')])) (.list S) R s') rfl ?_ rfl ?_
  · rw [moreL_at (vs := S) (us := []) rfl (by show S.length + 0 ≤ _; lia), List.append_nil]; rfl
  · rw [moreL_at (vs := S) (us := [.tup [.int (bs c.t), .ref (R.length + 4)]]) rfl (by show S.length + 1 ≤ _; lia)]; rfl
theorem turn_ok {D : Nat} {ba at' ord d re fl p : Option V} {ns : List Int} {E : List (Int × V)} {S : List V} (ht : c.t ≤ 3) (hm : 2 ≤ c.m) (hn : ns.length ≤ 6) (hs : ∀ H, stepV cxL H c.drawn (.int (c.t : Int)) (.int (c.m : Int)) = some (ns.map .int)) (hE : E.length < 1000) (hk : NoKey E (endA c.t ns)) (hS : S.length ≤ 100) (hce : BOk ce) :
    ∀ {Z : Prop}, (∀ ba2 op2 at2 ord2 d2 nu2 re2 fl2 p2 st2 k2 u2 w2 oc2 o2 fu2 dn2 G2, evalS cxL (callD cxL (D + 1)) sTurn (lwG c pl ba op at' ord d nu re fl p st k u w oc o fu be dn) (hW f ce (.dict E) (.list S) G) =
      some (.next, lwG c pl ba2 op2 at2 ord2 d2 nu2 re2 fl2 p2 st2 k2 u2 w2 oc2 o2 fu2 (if c.t = 0 then some (.fl [.int (s0 c.seed c.t ce).a, .int (s0 c.seed c.t ce).x, .int (s0 c.seed c.t ce).y, .int (pOf (s0 c.seed c.t ce).fl)]) else be) dn2,
        hW (turnM c.m c.seed c.t ns f) (finA c.seed c.t ns ce).ce (.dict (E ++ [(endA c.t ns, tupR (bs c.t) (finA c.seed c.t ns ce))])) (.list (S ++ [.tup [.int (bs c.t), .ref ((G ++ G2).length + 4)]])) ((G ++ G2) ++ [.list ((finA c.seed c.t ns ce).stk.map .int)])) → Z) → Z := by
  intro Z kk
  refine turn1 (c := c) (pl := pl) (ba := ba) (op := op) (at' := at') (ord := ord) (d := d) (nu := nu) (re := re) (fl := fl) (p := p) (st := st) (k := k) (u := u) (w := w) (oc := oc) (o := o) (fu := fu) (be := be) (dn := dn) (f := f) (ce := ce) (es := .dict E) (sk := .list S) (G := G) (D := D) (ns := ns) ht hn hs fun d1 nu1 k1 u1 w1 oc1 o1 fu1 G2 h1 => ?_
  obtain ⟨o2, dn2, h3⟩ := turn3 (c := c) (pl := pl) (nu := nu1) (st := st) (k := k1) (u := u1) (w := w1) (oc := oc1) (o := o1) (fu := fu1) (be := be) (dn := dn) (f := putL (putOs f (opn c.t) (genO c.t 0 ns)) (endA c.t ns) (endL (endA c.t ns))) (ce := ce) (es := .dict E) (sk := .list S) (R := G ++ .list ((genO c.t 0 ns).map fun x => ordV x.1) :: G2) (cf := callD cxL (D + 1)) (a := endA c.t ns) (dd := d1) (ord := some (.ref (G.length + 4))) (fl := some (.fl [.int (b2 (s0 c.seed c.t ce).fl.c), .int (b2 (s0 c.seed c.t ce).fl.z), .int (b2 (s0 c.seed c.t ce).fl.v), .int (b2 (s0 c.seed c.t ce).fl.n), .int (b2 (s0 c.seed c.t ce).fl.h)])) (s := s0 c.seed c.t ce) (cel := ce) ht hm
  have h4 := turn4 (c := c) (pl := pl) (op := some (.int (opn c.t))) (nu := nu1) (st := st) (k := k1) (u := u1) (w := w1) (oc := oc1) (o := o2) (fu := fu1) (be := if c.t = 0 then some (.fl [.int (s0 c.seed c.t ce).a, .int (s0 c.seed c.t ce).x, .int (s0 c.seed c.t ce).y, .int (pOf (s0 c.seed c.t ce).fl)]) else be) (dn := dn2) (f := turnM c.m c.seed c.t ns f) (ce := ce) (G := G) (G2 := G2) (D := D) (os := genO c.t 0 ns) (a := endA c.t ns) (dd := d1) (E := E) (S := S) (s := s0 c.seed c.t ce) ht hE hk hS (s0_V _ hce) rfl rfl (genO_ok _ _ _ _ rfl) (by rw [genO_len]; lia)
  have h5 := turn2 (cel := ce) (e := 0) (re := re) (fl := fl) (p := p) ht _ _ (h3 _ _ h4)
  have h6 := h1 _ _ h5
  exact kk (some (.int (bs c.t))) (some (.int (opn c.t))) (some (.int (endA c.t ns))) (some (.ref (G.length + 4))) (some (.int (d1 : Int))) nu1 _ _ _ _ k1 u1 w1 oc1 o2 fu1 dn2 (HO.list ((genO c.t 0 ns).map fun (x : Ord × Bool) => ordV x.1) :: G2) h6
end
end Mine
end
section
open PySem PySem.W PySem.Calls PyProof.Rows
set_option autoImplicit false
set_option maxRecDepth 100000
namespace Mine
theorem runA_ok {b lo : Int} (l0 : 0 ≤ lo) (l1 : lo ≤ 48) (b0 : 63 ≤ b) (b1 : b ≤ 255) : ∀ (os : List (Ord × Bool)) (s : Al), VOk b s → AllOk b lo os s → s.stk.length + os.length ≤ 12 →
    VOk b (runA b os s) ∧ (runA b os s).stk.length ≤ 12 ∧ ∀ j, (j < lo ∨ lo + 16 ≤ j) → (runA b os s).ce j = s.ce j
  | [], s, V, _, hl => ⟨V, hl, fun _ _ => rfl⟩
  | x :: os, s, V, hok, hl => by
    have hl : s.stk.length + os.length + 1 ≤ 12 := hl
    have X : AlX b lo x.1.k x.1.v x.1.c s := ⟨V, hok.1, by lia, l0, l1, b0, b1⟩
    have hs := AStep_len b x.1 s
    obtain ⟨h1, h2, h3⟩ := runA_ok l0 l1 b0 b1 os (AStep b x.1 s) (AStep_V X) hok.2 (by lia)
    refine ⟨h1, h2, fun j hj => (h3 j hj).trans ?_⟩
    have hc := X.O.c
    dsimp only at hc
    have ne : j ≠ x.1.c := fun q => by lia
    obtain ⟨⟨k, u, w⟩, sw⟩ := x
    dsimp only at *
    refine all20 (P := fun k => (AStep b ⟨k, u, w⟩ s).ce j = s.ce j) rfl rfl rfl rfl rfl rfl (upd_ne _ ne) rfl (upd_ne _ ne) rfl (upd_ne _ ne) rfl rfl rfl rfl rfl rfl rfl ?_ rfl k X.O.k
    show (if s.fl.c = true then s else nzY s ((s.y + 1) % 256)).ce j = s.ce j
    split <;> rfl
structure Su where
  m : Nat
  seed : Int
  ns : Nat → List Int
  f : Int → Int
  ce : Int → Int
noncomputable def memS (U : Su) : Nat → (Int → Int)
  | 0 => U.f
  | t + 1 => turnM U.m U.seed t (U.ns t) (memS U t)
noncomputable def ceS (U : Su) : Nat → (Int → Int)
  | 0 => U.ce
  | t + 1 => (finA U.seed t (U.ns t) (ceS U t)).ce
noncomputable def finS (U : Su) (t : Nat) : Al := finA U.seed t (U.ns t) (ceS U t)
noncomputable def endS (U : Su) (t : Nat) : Int := endA t (U.ns t)
noncomputable def keysE (U : Su) : Nat → List (Int × V)
  | 0 => []
  | t + 1 => keysE U t ++ [(endS U t, tupR (bs t) (finS U t))]
structure SuOk (U : Su) : Prop where
  m : U.m = 2 ∨ U.m = 3 ∨ U.m = 4
  ns : ∀ t, (U.ns t).length ≤ 6
  ce : BOk U.ce
theorem endS_rng {U : Su} (O : SuOk U) (t : Nat) : opn t ≤ endS U t ∧ endS U t ≤ opn t + 36 := by
  have h := lenOs_le (genO t 0 (U.ns t))
  rw [genO_len] at h
  have := O.ns t
  show opn t ≤ opn t + (lenOs (genO t 0 (U.ns t)) : Int) ∧ opn t + (lenOs (genO t 0 (U.ns t)) : Int) ≤ opn t + 36
  lia
theorem keys_mem {U : Su} : ∀ {t : Nat} {x : Int × V}, x ∈ keysE U t → ∃ i, i < t ∧ x = (endS U i, tupR (bs i) (finS U i))
  | 0, _, h => by cases h
  | t + 1, x, h => by
    rcases List.mem_append.mp h with h | h
    · obtain ⟨i, h1, h2⟩ := keys_mem h
      exact ⟨i, Nat.lt_succ_of_lt h1, h2⟩
    · exact ⟨t, Nat.lt_succ_self t, List.mem_singleton.mp h⟩
theorem keys_len {U : Su} : ∀ t : Nat, (keysE U t).length = t
  | 0 => rfl
  | t + 1 => by show (keysE U t ++ [_]).length = _; rw [List.length_append, keys_len t]; rfl
theorem keys_no {U : Su} (O : SuOk U) (t : Nat) : NoKey (keysE U t) (endS U t) := by
  refine List.any_eq_false.mpr fun x hx => ?_
  obtain ⟨i, h1, rfl⟩ := keys_mem hx
  have a := endS_rng O i
  have b := endS_rng O t
  have c : opn i = 544 + 64 * (i : Int) := rfl
  have d : opn t = 544 + 64 * (t : Int) := rfl
  rw [beq_iff_eq]
  show ¬ endS U i = endS U t
  lia
theorem ceS_ok {U : Su} (O : SuOk U) : ∀ t, t ≤ 4 → BOk (ceS U t) ∧ ∀ j, (16 * (t : Int) ≤ j ∨ j < 0) → ceS U t j = U.ce j
  | 0, _ => ⟨O.ce, fun _ _ => rfl⟩
  | t + 1, ht => by
    obtain ⟨h1, h2⟩ := ceS_ok O t (by lia)
    have hn := O.ns t
    obtain ⟨a, _, b⟩ := runA_ok (b := bs t) (lo := 16 * (t : Int)) (by lia) (by lia) (by show 63 ≤ 255 - 64 * (t : Int); lia) (by show 255 - 64 * (t : Int) ≤ 255; lia) (genO t 0 (U.ns t)) (s0 U.seed t (ceS U t)) (s0_V _ h1) (genO_ok _ _ _ _ rfl) (by rw [genO_len]; show 0 + _ ≤ 12; lia)
    exact ⟨a.ce, fun j hj => (b j (by lia)).trans (h2 j (by lia))⟩
def StkOk (U : Su) (t : Nat) (S : List V) (G : Hp) : Prop := S.length = t ∧ ∀ i, i < t → ∃ l, S[i]? = some (.tup [.int (bs i), .ref (l + 4)]) ∧ G[l]? = some (.list ((finS U i).stk.map .int))
noncomputable abbrev lwX (c : Lc) (t pl ba op at' ord d nu re fl p st k u w oc o fu be dn : Option V) : Loc :=
  [some c.script, some c.first, some c.drawn, some (.int (c.m : Int)), some (.int c.seed), some (.ref 0), pl, some (.ref 1), some (.ref 2), some (.ref 3), t, none, none, ba, op, at', ord, d, nu, re, fl, p, st, k, u, w, oc, o, fu, be, dn]
noncomputable def begF (U : Su) (be : Option V) (t : Nat) : Option V := if t = 0 then be else some (.fl [.int (s0 U.seed 0 U.ce).a, .int (s0 U.seed 0 U.ce).x, .int (s0 U.seed 0 U.ce).y, .int (pOf (s0 U.seed 0 U.ce).fl)])
theorem forL_next {turn : V → Loc → Hp → Option (Fl × Loc × Hp)} {v : V} {vs : List V} {L L1 : Loc} {H H1 : Hp} {x : Option (Fl × Loc × Hp)} (h : turn v L H = some (.next, L1, H1)) (h2 : forL turn vs L1 H1 = x) : forL turn (v :: vs) L H = x := by
  show (turn v L H).bind _ = _
  rw [h]; exact h2
abbrev Su.c (U : Su) (sc fi dr : V) (t : Nat) : Lc := ⟨sc, fi, dr, U.m, U.seed, t⟩
theorem stk_next {U : Su} {t : Nat} {S : List V} {G G1 : Hp} (hS : StkOk U t S G) : StkOk U (t + 1) (S ++ [.tup [.int (bs t), .ref ((G ++ G1).length + 4)]]) ((G ++ G1) ++ [.list ((finS U t).stk.map .int)]) := by
  refine ⟨by rw [List.length_append, hS.1]; rfl, fun i hi => ?_⟩
  rcases Nat.lt_or_ge i t with h | h
  · obtain ⟨l, a, b⟩ := hS.2 i h
    refine ⟨l, by rw [List.getElem?_append_left (by rw [hS.1]; exact h)]; exact a, ?_⟩
    have hl := (List.getElem?_eq_some_iff.mp b).1
    rw [List.append_assoc, List.getElem?_append_left hl]; exact b
  · obtain rfl : i = t := Nat.le_antisymm (Nat.le_of_lt_succ hi) h
    refine ⟨(G ++ G1).length, ?_, at_mid _ _ _⟩
    have := at_mid S (V.tup [.int (bs i), .ref ((G ++ G1).length + 4)]) []
    rw [hS.1] at this
    exact this
theorem beg_next {U : Su} {be : Option V} (t : Nat) : (if t = 0 then some (V.fl [.int (s0 U.seed t (ceS U t)).a, .int (s0 U.seed t (ceS U t)).x, .int (s0 U.seed t (ceS U t)).y, .int (pOf (s0 U.seed t (ceS U t)).fl)]) else begF U be t) = begF U be (t + 1) := by
  by_cases h : t = 0
  · subst h
    rw [if_pos rfl]; rfl
  · rw [if_neg h]
    show (if t = 0 then be else _) = _
    rw [if_neg h]; rfl
theorem m_le {U : Su} (O : SuOk U) : U.m ≤ 4 ∧ 2 ≤ U.m := by rcases O.m with h | h | h <;> lia
theorem turns {U : Su} (O : SuOk U) {D : Nat} {sc fi dr : V} {pl be : Option V} (hs : ∀ t, t < U.m → ∀ H, stepV cxL H dr (.int (t : Int)) (.int (U.m : Int)) = some ((U.ns t).map .int)) :
    ∀ (n t : Nat) (S : List V) (G : Hp) (x ba op at' ord d nu re fl p st k u w oc o fu dn : Option V), t + n = U.m → StkOk U t S G →
    ∀ {Z : Prop}, (∀ x2 ba2 op2 at2 ord2 d2 nu2 re2 fl2 p2 st2 k2 u2 w2 oc2 o2 fu2 dn2 S2 G2, forL (fun v loc H => (assignE cxL (callD cxL (D + 1)) (.loc 10) v loc H).bind fun q => evalS cxL (callD cxL (D + 1)) sTurn q.1 q.2) (rangeL n (t : Int)) (lwX (U.c sc fi dr 0) x pl ba op at' ord d nu re fl p st k u w oc o fu (begF U be t) dn) (hW (memS U t) (ceS U t) (.dict (keysE U t)) (.list S) G) =
      some (.next, lwX (U.c sc fi dr 0) x2 pl ba2 op2 at2 ord2 d2 nu2 re2 fl2 p2 st2 k2 u2 w2 oc2 o2 fu2 (begF U be U.m) dn2, hW (memS U U.m) (ceS U U.m) (.dict (keysE U U.m)) (.list S2) G2) → StkOk U U.m S2 G2 → Z) → Z
  | 0, t, S, G, x, ba, op, at', ord, d, nu, re, fl, p, st, k, u, w, oc, o, fu, dn, e, hS, _, kk => by
    have e : t = U.m := e
    subst e
    exact kk x ba op at' ord d nu re fl p st k u w oc o fu dn S G rfl hS
  | n + 1, t, S, G, x, ba, op, at', ord, d, nu, re, fl, p, st, k, u, w, oc, o, fu, dn, e, hS, _, kk => by
    have m4 := m_le O
    have hc := (ceS_ok O t (by lia)).1
    exact turn_ok (c := U.c sc fi dr t) (pl := pl) (op := op) (nu := nu) (st := st) (k := k) (u := u) (w := w) (oc := oc) (o := o) (fu := fu) (be := begF U be t) (dn := dn) (f := memS U t) (ce := ceS U t) (G := G) (D := D) (ba := ba) (at' := at') (ord := ord) (d := d) (re := re) (fl := fl) (p := p) (ns := U.ns t) (E := keysE U t) (S := S) (by show t ≤ 3; lia) m4.2 (O.ns t) (hs t (by lia)) (by rw [keys_len]; lia) (keys_no O t) (by rw [hS.1]; lia) hc fun ba1 op1 at1 ord1 d1 nu1 re1 fl1 p1 st1 k1 u1 w1 oc1 o1 fu1 dn1 G1 h1 =>
      turns O hs n (t + 1) _ _ (some (.int (t : Int))) ba1 op1 at1 ord1 d1 nu1 re1 fl1 p1 st1 k1 u1 w1 oc1 o1 fu1 dn1 (by lia) (stk_next (G1 := G1) hS) fun x2 ba2 op2 at2 ord2 d2 nu2 re2 fl2 p2 st2 k2 u2 w2 oc2 o2 fu2 dn2 S2 G2 h2 h3 =>
        kk x2 ba2 op2 at2 ord2 d2 nu2 re2 fl2 p2 st2 k2 u2 w2 oc2 o2 fu2 dn2 S2 G2 (forL_next h1 ((beg_next (be := be) t).symm ▸ h2)) h3
end Mine
end
section
open PySem PySem.W PySem.Calls PyProof.Rows
set_option autoImplicit false
set_option maxRecDepth 100000
namespace Mine
theorem putL_out : ∀ {l : List Int} {f : Int → Int} {p j : Int}, (j < p ∨ p + l.length ≤ j) → putL f p l j = f j
  | [], _, _, _, _ => rfl
  | x :: l, f, p, j, h => by
    have hl : (((x :: l).length : Nat) : Int) = l.length + 1 := rfl
    show putL (upd f p x) (p + 1) l j = _
    rw [putL_out (by lia), upd_ne _ (by lia)]
theorem Oct.of {F f : Int → Int} : ∀ {l : List Int} {p : Int}, Oct f p l → (∀ j, p ≤ j → j < p + l.length → F j = f j) → Oct F p l
  | [], _, _, _ => trivial
  | x :: l, p, h, k => by
    have hl : (((x :: l).length : Nat) : Int) = l.length + 1 := rfl
    exact ⟨(k p (Int.le_refl p) (by lia)).trans h.1, Oct.of h.2 fun j h0 h1 => k j (by lia) (by lia)⟩
theorem putL_oct : ∀ {l : List Int} {f : Int → Int} {p : Int}, Oct (putL f p l) p l
  | [], _, _ => trivial
  | x :: l, f, p => ⟨by show putL (upd f p x) (p + 1) l p = x; rw [putL_out (by lia), upd_at], show Oct (putL (upd f p x) (p + 1) l) (p + 1) l from putL_oct⟩
theorem putL_ok : ∀ {l : List Int} {f : Int → Int} {p : Int}, BOk f → (∀ x ∈ l, 0 ≤ x ∧ x ≤ 255) → BOk (putL f p l)
  | [], _, _, B, _ => B
  | x :: l, f, p, B, h => show BOk (putL (upd f p x) (p + 1) l) from putL_ok (B.upd p (h x (.head _)).1 (h x (.head _)).2) fun y hy => h y (.tail _ hy)
theorem putOs_out : ∀ {os : List (Ord × Bool)} {f : Int → Int} {p j : Int}, (j < p ∨ p + lenOs os ≤ j) → putOs f p os j = f j
  | [], _, _, _, _ => rfl
  | o :: os, f, p, j, h => by
    have hl : ((lenOs (o :: os) : Nat) : Int) = (encF o).length + lenOs os := rfl
    show putOs (putL f p (encF o)) (p + (encF o).length) os j = _
    rw [putOs_out (by lia), putL_out (by lia)]
theorem putOs_code {F : Int → Int} {e : Int} : ∀ {os : List (Ord × Bool)} {f : Int → Int} {p : Int}, p + lenOs os = e → (∀ j, p ≤ j → j < e → F j = putOs f p os j) → Oct F e [32, 0, 2, 76, e % 256, e / 256] → CodeAt F e p os
  | [], _, p, he, _, hO => by
    have he : p = e := by rw [← he]; exact (Int.add_zero p).symm
    subst he
    exact ⟨rfl, hO⟩
  | o :: os, f, p, he, h, hO => by
    have hl : ((lenOs (o :: os) : Nat) : Int) = (encF o).length + lenOs os := rfl
    have hl2 : ((encF o).length : Int) = (encB o.1).length + (swL o.2).length := by unfold encF; rw [List.length_append]; rfl
    refine ⟨(putL_oct (l := encF o) (f := f) (p := p)).of fun j h0 h1 => ?_, ?_⟩
    · have h1 : j < p + (encF o).length := h1
      rw [h j h0 (by lia)]
      show putOs (putL f p (encF o)) (p + (encF o).length) os j = _
      rw [putOs_out (by lia)]
    · rw [show p + ((encB o.1).length : Int) + (swL o.2).length = p + (encF o).length by lia]
      exact putOs_code (f := putL f p (encF o)) (by lia) (fun j h0 h1 => h j (by lia) h1) hO
theorem putD_out : ∀ {l : List Int} {f : Int → Int} {p j : Int}, (p < j ∨ j ≤ p - l.length) → putD f p l j = f j
  | [], _, _, _, _ => rfl
  | x :: l, f, p, j, h => by
    have hl : (((x :: l).length : Nat) : Int) = l.length + 1 := rfl
    show putD (upd f p x) (p - 1) l j = _
    rw [putD_out (by lia), upd_ne _ (by lia)]
theorem putD_at {l : List Int} {f : Int → Int} {p x : Int} : putD f p (x :: l) p = x := by
  show putD (upd f p x) (p - 1) l p = x
  rw [putD_out (by lia), upd_at]
theorem putD_ok : ∀ {l : List Int} {f : Int → Int} {p : Int}, BOk f → (∀ x ∈ l, 0 ≤ x ∧ x ≤ 255) → BOk (putD f p l)
  | [], _, _, B, _ => B
  | x :: l, f, p, B, h => show BOk (putD (upd f p x) (p - 1) l) from putD_ok (B.upd p (h x (.head _)).1 (h x (.head _)).2) fun y hy => h y (.tail _ hy)
theorem enc_oct {o : Ord × Bool} {lo : Int} (k : o.1.k < 20) (v : 0 ≤ o.1.v ∧ o.1.v ≤ 255) (c : 0 ≤ o.1.c ∧ o.1.c ≤ 255) : ∀ x ∈ encF o, 0 ≤ x ∧ x ≤ 255 := by
  intro x hx
  have hc : ∀ j, j < 20 → 0 ≤ codesL.getD j 0 ∧ codesL.getD j 0 ≤ 255 := by decide
  rcases List.mem_append.mp hx with h | h
  · rcases List.mem_cons.mp h with rfl | h
    · exact hc _ k
    · unfold opnd at h
      split at h
      · rw [List.mem_singleton.mp h]; exact v
      · split at h
        · rw [List.mem_singleton.mp h]; exact c
        · split at h
          · simp only [List.mem_cons, List.not_mem_nil, or_false] at h
            rcases h with rfl | rfl <;> decide
          · cases h
  · unfold swL at h
    split at h
    · simp only [List.mem_cons, List.not_mem_nil, or_false] at h
      rcases h with rfl | rfl | rfl <;> decide
    · cases h
theorem putOs_ok {lo b : Int} (l0 : 0 ≤ lo) (l1 : lo ≤ 48) : ∀ {os : List (Ord × Bool)} {f : Int → Int} {p : Int} {s : Al}, BOk f → AllOk b lo os s → BOk (putOs f p os)
  | [], _, _, _, B, _ => B
  | o :: os, f, p, s, B, h => show BOk (putOs (putL f p (encF o)) (p + (encF o).length) os) from putOs_ok l0 l1 (putL_ok B (enc_oct (lo := lo) h.1.k h.1.v ⟨by have := h.1.c; lia, by have := h.1.c; lia⟩)) h.2
def RegP (t : Nat) (j : Int) : Prop := (opn t ≤ j ∧ j < opn t + 42) ∨ (250 + bs t < j ∧ j ≤ 256 + bs t) ∨ j = 240 + t ∨ j = 244 + t
section
variable {m t : Nat} {seed : Int} {ns : List Int} {f : Int → Int}
theorem endA_rng (hn : ns.length ≤ 6) : opn t ≤ endA t ns ∧ endA t ns ≤ opn t + 36 := by
  have h := lenOs_le (genO t 0 ns)
  rw [genO_len] at h
  show opn t ≤ opn t + (lenOs (genO t 0 ns) : Int) ∧ opn t + (lenOs (genO t 0 ns) : Int) ≤ opn t + 36
  lia
theorem turnM_out (hn : ns.length ≤ 6) {j : Int} (h : ¬ RegP t j) : turnM m seed t ns f j = f j := by
  have he := endA_rng (t := t) hn
  have a : ¬ (opn t ≤ j ∧ j < opn t + 42) := fun q => h (.inl q)
  have b : ¬ (250 + bs t < j ∧ j ≤ 256 + bs t) := fun q => h (.inr (.inl q))
  have c : j ≠ 240 + t := fun q => h (.inr (.inr (.inl q)))
  have d : j ≠ 244 + t := fun q => h (.inr (.inr (.inr q)))
  have hq : endA t ns = opn t + (lenOs (genO t 0 ns) : Int) := rfl
  have hf : putL (putOs f (opn t) (genO t 0 ns)) (endA t ns) (endL (endA t ns)) j = f j := by
    rw [putL_out (by show j < endA t ns ∨ endA t ns + ((6 : Nat) : Int) ≤ j; lia), putOs_out (by lia)]
  unfold turnM
  (try dsimp only)
  rw [upd_ne _ d]
  by_cases h0 : t = 0
  · rw [if_pos h0]; exact hf
  · rw [if_neg h0, upd_ne _ c, putD_out (by show 256 + bs t < j ∨ j ≤ 256 + bs t - ((6 : Nat) : Int); lia)]; exact hf
theorem turnM_code (hn : ns.length ≤ 6) (ht : t ≤ 3) {j : Int} (h0 : opn t ≤ j) : turnM m seed t ns f j = putL (putOs f (opn t) (genO t 0 ns)) (endA t ns) (endL (endA t ns)) j := by
  have eo : opn t = 544 + 64 * (t : Int) := rfl
  have eb : bs t = 255 - 64 * (t : Int) := rfl
  unfold turnM
  (try dsimp only)
  rw [upd_ne _ (by lia)]
  by_cases h : t = 0
  · rw [if_pos h]
  · rw [if_neg h, upd_ne _ (by lia), putD_out (by show 256 + bs t < j ∨ _; lia)]
theorem turnM_next : turnM m seed t ns f (244 + t) = (((t + 1) % m : Nat) : Int) := by
  unfold turnM
  exact upd_at _ _ _
theorem turnM_sp (h : t ≠ 0) : turnM m seed t ns f (240 + t) = bs t - 6 := by
  unfold turnM
  (try dsimp only)
  rw [upd_ne _ (by lia), if_neg h, upd_at]
theorem turnM_frm (h : t ≠ 0) (ht : t ≤ 3) {j : Int} (h1 : 250 + bs t < j) (h2 : j ≤ 256 + bs t) : turnM m seed t ns f j = putD (putL (putOs f (opn t) (genO t 0 ns)) (endA t ns) (endL (endA t ns))) (256 + bs t) (frmL t (s0 seed t f)) j := by
  have eb : bs t = 255 - 64 * (t : Int) := rfl
  unfold turnM
  (try dsimp only)
  rw [upd_ne _ (by lia), if_neg h, upd_ne _ (by lia)]
theorem turnM_ok (hn : ns.length ≤ 6) (ht : t ≤ 3) (hm : m ≤ 4) (hm0 : 0 < m) (B : BOk f) : BOk (turnM m seed t ns f) := by
  have he := endA_rng (t := t) hn
  have eo : opn t = 544 + 64 * (t : Int) := rfl
  have eb : bs t = 255 - 64 * (t : Int) := rfl
  have hmod : (t + 1) % m < m := Nat.mod_lt _ hm0
  have V := s0_V (seed := seed) (t := t) (bs t) B
  have po := pOf_oct (s0 seed t f).fl
  have B2 : BOk (putL (putOs f (opn t) (genO t 0 ns)) (endA t ns) (endL (endA t ns))) := by
    refine putL_ok (putOs_ok (lo := 16 * (t : Int)) (b := bs t) (by lia) (by lia) B (genO_ok (bs t) ns 0 (s0 seed t f) rfl)) fun x hx => ?_
    unfold endL at hx
    simp only [List.mem_cons, List.not_mem_nil, or_false] at hx
    rcases hx with rfl | rfl | rfl | rfl | rfl | rfl <;> lia
  unfold turnM
  (try dsimp only)
  refine BOk.upd ?_ _ (by lia) (by lia)
  by_cases h : t = 0
  · rw [if_pos h]; exact B2
  · rw [if_neg h]
    refine BOk.upd (putD_ok B2 fun x hx => ?_) _ (by lia) (by lia)
    unfold frmL at hx
    simp only [List.mem_cons, List.not_mem_nil, or_false] at hx
    rcases hx with rfl | rfl | rfl | rfl | rfl | rfl
    · lia
    · lia
    · exact po
    · exact V.a
    · exact V.x
    · exact V.y
end
end Mine
end
section
open PySem PySem.W PySem.Calls PyProof.Rows
set_option autoImplicit false
set_option maxRecDepth 100000
namespace Mine
structure SuF (U : Su) : Prop where
  B : BOk U.f
  ch : Oct U.f 512 changeL
  z : U.f 248 = 0
  ce : ∀ j, 0 ≤ j → j < 64 → U.f j = U.ce j
noncomputable def fixU (U : Su) : Fix := ⟨U.m, memS U U.m, endS U, finS U⟩
noncomputable def prU (U : Su) (t : Nat) : Pr := if t < U.m then ⟨genO t 0 (U.ns t), opn t, s0 U.seed t (ceS U t), false⟩ else ⟨[], 0, s0 U.seed t (ceS U t), true⟩
theorem reg_apart {i n : Nat} {j : Int} (hi : i ≤ 3) (hn : n ≤ 3) (ne : i ≠ n) (h : RegP i j) : ¬ RegP n j := by
  have a : opn i = 544 + 64 * (i : Int) := rfl
  have b : opn n = 544 + 64 * (n : Int) := rfl
  have c : bs i = 255 - 64 * (i : Int) := rfl
  have d : bs n = 255 - 64 * (n : Int) := rfl
  rintro (q | q | q | q) <;> rcases h with h | h | h | h <;> lia
section
variable {U : Su} (O : SuOk U)
include O
theorem m4 : 2 ≤ U.m ∧ U.m ≤ 4 := by rcases O.m with h | h | h <;> lia
theorem mem_later : ∀ (t i : Nat) (j : Int), i < t → t ≤ U.m → RegP i j → memS U t j = memS U (i + 1) j
  | 0, _, _, h, _, _ => absurd h (Nat.not_lt_zero _)
  | t + 1, i, j, h, ht, hr => by
    have := m4 O
    rcases Nat.lt_or_ge i t with q | q
    · show turnM U.m U.seed t (U.ns t) (memS U t) j = _
      rw [turnM_out (O.ns t) (reg_apart (by lia) (by lia) (by lia) hr)]
      exact mem_later t i j q (by lia) hr
    · have : i = t := by lia
      subst this; rfl
theorem mem_none : ∀ (t : Nat) (j : Int), (∀ i, i < t → ¬ RegP i j) → memS U t j = U.f j
  | 0, _, _ => rfl
  | t + 1, j, h => by
    show turnM U.m U.seed t (U.ns t) (memS U t) j = _
    rw [turnM_out (O.ns t) (h t (Nat.lt_succ_self t))]
    exact mem_none t j fun i hi => h i (Nat.lt_succ_of_lt hi)
theorem mem_ok (I : SuF U) : ∀ t : Nat, t ≤ U.m → BOk (memS U t)
  | 0, _ => I.B
  | t + 1, ht => by
    have := m4 O
    exact turnM_ok (O.ns t) (by lia) (by lia) (by lia) (mem_ok I t (by lia))
theorem mem_far {j : Int} (h : ∀ i, i < U.m → ¬ RegP i j) : memS U U.m j = U.f j := mem_none O U.m j h
theorem far_low {j : Int} (h : j < 240 ∨ (248 ≤ j ∧ j < 256) ∨ (512 ≤ j ∧ j < 544)) : memS U U.m j = U.f j := mem_far O fun i hi q => by
  have := m4 O
  have a : opn i = 544 + 64 * (i : Int) := rfl
  have c : bs i = 255 - 64 * (i : Int) := rfl
  rcases q with q | q | q | q <;> lia
theorem fixU_ok (I : SuF U) : FixOk (fixU U) where
  m := O.m
  ch := I.ch.of fun j h0 h1 => far_low O (.inr (.inr ⟨h0, by have h1 : j < 512 + ((26 : Nat) : Int) := h1; lia⟩))
  nx := fun t ht => by
    have ht : t < U.m := ht
    show memS U U.m (244 + t) = _
    rw [mem_later O U.m t _ ht (Nat.le_refl _) (.inr (.inr (.inr rfl)))]
    exact turnM_next
  e0 := fun t _ => (endS_rng O t).1
  e1 := fun t _ => by have := (endS_rng O t).2; have a : opn t = 544 + 64 * (t : Int) := rfl; show endS U t < _; lia
theorem pi_start (I : SuF U) {t : Nat} (ht : t < U.m) : PI (fixU U) (memS U U.m) t ⟨genO t 0 (U.ns t), opn t, s0 U.seed t (ceS U t), false⟩ := by
  have h4 := m4 O
  have eo : opn t = 544 + 64 * (t : Int) := rfl
  have he := endS_rng O t
  have hc := ceS_ok O t (by lia)
  have hn := O.ns t
  refine ⟨?_, Int.le_refl _, ⟨fun j h0 h1 => ?_, fun i v hv => nomatch hv⟩, s0_V _ hc.1, genO_ok _ _ _ _ rfl, by show 0 + (genO t 0 (U.ns t)).length ≤ 12; rw [genO_len]; lia, rfl, fun h => by cases h⟩
  · have hF : ∀ j, opn t ≤ j → j < endS U t + 6 → memS U U.m j = putL (putOs (memS U t) (opn t) (genO t 0 (U.ns t))) (endS U t) (endL (endS U t)) j := fun j h0 h1 => by
      rw [mem_later O U.m t j ht (Nat.le_refl _) (.inl ⟨h0, by lia⟩)]
      exact turnM_code (O.ns t) (by lia) h0
    refine putOs_code (f := memS U t) rfl (fun j h0 h1 => ?_) ?_
    · rw [show (fixU U).f0 j = memS U U.m j from rfl, hF j h0 (by show j < endS U t + 6; have h1 : j < endS U t := h1; lia)]
      exact putL_out (.inl h1)
    · exact (putL_oct (l := endL (endS U t)) (f := putOs (memS U t) (opn t) (genO t 0 (U.ns t))) (p := endS U t)).of fun j h0 h1 => hF j (by have := he.1; lia) h1
  · show memS U U.m j = ceS U t j
    rw [far_low O (.inl (by lia)), I.ce j (by lia) (by lia), hc.2 j (by lia)]
theorem pk_start {t : Nat} (ht : t < U.m) (h0 : t ≠ 0) : Parked (memS U U.m) t (bs t) (opn t) (s0 U.seed t (ceS U t)) := by
  have h4 := m4 O
  have eb : bs t = 255 - 64 * (t : Int) := rfl
  have hF : ∀ j, 250 + bs t < j → j ≤ 256 + bs t → memS U U.m j = putD (putL (putOs (memS U t) (opn t) (genO t 0 (U.ns t))) (endS U t) (endL (endS U t))) (256 + bs t) (frmL t (s0 U.seed t (memS U t))) j := fun j a b => by
    rw [mem_later O U.m t j ht (Nat.le_refl _) (.inr (.inl ⟨a, b⟩))]
    exact turnM_frm h0 (by lia) a b
  have z : (bs t - ((s0 U.seed t (ceS U t)).stk.length : Int)) = bs t := Int.sub_zero _
  refine ⟨?_, ?_, ?_, ?_, ?_, ?_, ?_⟩ <;> rw [z]
  · rw [mem_later O U.m t _ ht (Nat.le_refl _) (.inr (.inr (.inl rfl)))]
    exact turnM_sp h0
  · rw [hF _ (by lia) (by lia)]; exact putD_at
  all_goals
    rw [hF _ (by lia) (by lia)]
    unfold frmL
    simp only [putD]
    simp only [upd, Int.sub_sub]
    simp
  all_goals first | rfl | lia
end
end Mine
end
section
open PySem PySem.W PySem.Calls PyProof.Rows
set_option autoImplicit false
set_option maxRecDepth 100000
namespace Mine
section
variable {C : Cx} {cf : CallF} {L L' : Loc} {H H1 H2 H' : Hp}
theorem seq_brk {a b : S} (h : evalS C cf a L H = some (.brk, L', H')) : evalS C cf (.seq a b) L H = some (.brk, L', H') := by
  show (evalS C cf a L H).bind _ = _
  rw [h]; rfl
theorem e_not {a : E} {x : V} {t : Bool} (h : evalE C cf L a H = some (x, H1)) (ht : truthH H1 x = some t) : evalE C cf L (.not a) H = some (.bool (!t), H1) := by
  show (evalE C cf L a H).bind _ = _
  rw [h]
  show (truthH H1 x).bind _ = _
  rw [ht]; rfl
theorem e_popD {i l : Nat} {k : E} {key : Int} {es : List (Int × V)} {x : Int × V} (h0 : locV L i = some (.ref l)) (hl : H[l]? = some (.dict es)) (hk : evalE C cf L k H = some (.int key, H)) (hf : es.find? (fun e => e.1 = key) = some x) : evalE C cf L (.popD i k) H = some (x.2, H.set l (.dict (es.filter fun e => e.1 ≠ key))) := by
  show (locV L i).bind _ = _
  rw [h0]
  show (isD H (.ref l)).bind _ = _
  rw [show isD H (.ref l) = some () by show (match H[l]? with | some (.dict _) => some () | _ => none) = _; rw [hl]]
  show (evalE C cf L k H).bind _ = _
  rw [hk]
  show (match H[l]? with | some (.dict es) => (es.find? fun (e : Int × V) => e.1 = key).map fun (e : Int × V) => (e.2, H.set l (.dict (es.filter fun e => e.1 ≠ key))) | _ => none) = _
  rw [hl]
  show (es.find? fun e => e.1 = key).map _ = _
  rw [hf]; rfl
theorem forL_brk {turn : V → Loc → Hp → Option (Fl × Loc × Hp)} {v : V} {vs : List V} (h : turn v L H = some (.brk, L', H')) : forL turn (v :: vs) L H = some (.next, L', H') := by
  show (turn v L H).bind _ = _
  rw [h]; rfl
end
structure EsR (U : Su) (dn : Nat → Bool) (es : List (Int × V)) : Prop where
  sub : ∀ x ∈ es, ∃ t, t < U.m ∧ dn t = false ∧ x = (endS U t, tupR (bs t) (finS U t))
  all : ∀ t, t < U.m → dn t = false → (endS U t, tupR (bs t) (finS U t)) ∈ es
theorem end_inj {U : Su} (O : SuOk U) {t u : Nat} (h : endS U t = endS U u) : t = u := by
  have a := endS_rng O t
  have b := endS_rng O u
  have c : opn t = 544 + 64 * (t : Int) := rfl
  have d : opn u = 544 + 64 * (u : Int) := rfl
  lia
structure LokQ (L : Loc) : Prop where
  l12 : locV L 12 = some (.ref 1)
  l8 : locV L 8 = some (.ref 2)
  len : 10 < L.length
theorem locV_set {L : Loc} {i j : Nat} {x : Option V} (h : j ≠ i) : locV (L.set j x) i = locV L i := by
  unfold locV
  rw [List.getElem?_set_ne h]
theorem LokQ.set {L : Loc} (h : LokQ L) (x : Option V) : LokQ (L.set 10 x) := ⟨(locV_set (by decide)).trans h.l12, (locV_set (by decide)).trans h.l8, by rw [List.length_set]; exact h.len⟩
noncomputable def turnQ (v : V) (loc : Loc) (H : Hp) : Option (Fl × Loc × Hp) := (assignE cxL (callD cxL 9) (.loc 10) v loc H).bind fun q => evalS cxL (callD cxL 9) sRun q.1 q.2
theorem turnQ_eq {L : Loc} (h : LokQ L) (x : Option V) (v : V) (H : Hp) : turnQ v (L.set 10 x) H = evalS cxL (callD cxL 9) sRun (L.set 10 (some v)) H := by
  show (if 10 < (L.set 10 x).length then some ((L.set 10 x).set 10 (some v), H) else none).bind _ = _
  rw [if_pos (h.set x).len, List.set_set]; rfl
section
variable {f f' : Int → Int} {g g' : Rg} {L : Loc} {e : Ext} {es : List (Int × V)} {R : Hp}
theorem at12 {a : Nat} {v : V} (h : LokQ L) (hc : cxL.cattr a = none) (hf : fget (mkF e g) a = some v) {cf : CallF} : evalE cxL cf L (.attr 12 a) (Hm f e g R) = some (v, Hm f e g R) := e_attr (l := 1) (fs := mkF e g) h.l12 rfl hc hf
theorem in_key (h : LokQ L) {cf : CallF} : evalE cxL cf L (.cmp .In (.attr 12 10) (.loc 8)) (Hm f e g (.dict es :: R)) = some (.bool (es.any fun x => x.1 == g.pc), Hm f e g (.dict es :: R)) :=
  e_cmp (x := .int g.pc) (y := .ref 2) (at12 h rfl rfl) (e_loc h.l8) rfl
theorem stepQ (h : LokQ L) (st : Stp f g f' g') : ∃ e', evalS cxL (callD cxL 9) (.seq sR1 .skip) L (Hm f e g (.dict es :: R)) = some (.next, L, Hm f' e' g' (.dict es :: R)) := by
  obtain ⟨e', he⟩ := st (.dict es :: R) e
  exact ⟨e', s_one (s_expr (e_mcall (l := 1) (f := 43) (fs := mkF e g) h.l12 rfl rfl rfl he))⟩
theorem quietQ (h : LokQ L) (hk : (es.any fun x => x.1 == g.pc) = false) (st : Stp f g f' g') : ∃ e', evalS cxL (callD cxL 9) sRun L (Hm f e g (.dict es :: R)) = some (.next, L, Hm f' e' g' (.dict es :: R)) := by
  obtain ⟨e', he⟩ := stepQ (e := e) (es := es) (R := R) h st
  exact ⟨e', seq_then ((s_ite (in_key h) rfl).trans (by rw [hk]; rfl)) he⟩
theorem popQ {b : Int} {p : Int} {s : Al} {x : Int × V} {fl : Fl} (h : LokQ L) (hf : es.find? (fun e => e.1 = p) = some x) (hx : x.2 = tupR b s) (hY : evalS cxL (callD cxL 9) (.seq (.ite (.not (.loc 8)) (.seq .brk .skip) .skip) .skip) L (Hm f e (rg p b s) (.dict (es.filter fun e => e.1 ≠ p) :: R)) = some (fl, L, (Hm f e (rg p b s) (.dict (es.filter fun e => e.1 ≠ p) :: R)))) :
    evalS cxL (callD cxL 9) sR0 L (Hm f e (rg p b s) (.dict es :: R)) = some (fl, L, (Hm f e (rg p b s) (.dict (es.filter fun e => e.1 ≠ p) :: R))) := by
  have hany : (es.any fun x => x.1 == (rg p b s).pc) = true := by
    have h1 := List.mem_of_find?_eq_some hf
    have h2 := List.find?_some hf
    exact List.any_eq_true.mpr ⟨x, h1, beq_iff_eq.mpr (of_decide_eq_true h2)⟩
  have hp := e_popD (C := cxL) (cf := callD cxL 9) (L := L) (H := Hm f e (rg p b s) (.dict es :: R)) (i := 8) (l := 2) (k := .attr 12 10) (key := p) h.l8 rfl (at12 h rfl rfl) hf
  rw [hx] at hp
  have hc : evalE cxL (callD cxL 9) L (.cmp .NotEq (.tup (.cons (.attr 12 12) (.cons (.attr 12 13) (.cons (.attr 12 14) (.cons (.attr 12 11) (.cons (.attr 12 15) .nil)))))) (.popD 8 (.attr 12 10))) (Hm f e (rg p b s) (.dict es :: R)) = some (.bool false, Hm f e (rg p b s) (.dict (es.filter fun e => e.1 ≠ p) :: R)) :=
    e_cmp (x := tupR b s) (y := tupR b s) (e_tup5 (at12 h rfl rfl) (at12 h rfl rfl) (at12 h rfl rfl) (at12 h rfl rfl) (at12 h rfl rfl)) hp (by
      show (some ([s.a, s.x, s.y, b - s.stk.length, pOf s.fl] != [s.a, s.x, s.y, b - s.stk.length, pOf s.fl]) : Option Bool) = _
      rw [bne_self_eq_false])
  refine (s_ite (in_key h) rfl).trans ?_
  rw [hany]
  exact (seq_next (s_ite (t := false) hc rfl)).trans hY
end
theorem notD {cf : CallF} {L : Loc} {f : Int → Int} {e : Ext} {g : Rg} {es : List (Int × V)} {R : Hp} (h : LokQ L) : evalS cxL cf (.seq (.ite (.not (.loc 8)) (.seq .brk .skip) .skip) .skip) L (Hm f e g (.dict es :: R)) = some (if es = [] then .brk else .next, L, Hm f e g (.dict es :: R)) := by
  have hn := e_not (C := cxL) (cf := cf) (L := L) (H := Hm f e g (.dict es :: R)) (a := .loc 8) (e_loc h.l8) (t := !es.isEmpty) rfl
  cases es with
  | nil => exact seq_brk ((s_ite hn rfl).trans rfl)
  | cons x r => exact seq_then ((s_ite hn rfl).trans rfl) rfl
def LpQ (U : Su) (L : Loc) (R : Hp) (n : Nat) (f : Int → Int) (g : Rg) (dn : Nat → Bool) : Prop := ∀ (es : List (Int × V)) (e : Ext) (x : Option V) (a : Int), EsR U dn es →
  ∃ f' e' g' x', forL turnQ (rangeL n a) (L.set 10 x) (Hm f e g (.dict es :: R)) = some (.next, L.set 10 x', Hm f' e' g' (.dict [] :: R)) ∧ Keep U.m (memS U U.m) f' ∧ ∀ u, u < U.m → Act f' (bs u) (16 * (u : Int)) (finS U u)
section
variable {U : Su} {L : Loc} {R : Hp} (O : SuOk U) (h : LokQ L)
include O
theorem find_key {dn : Nat → Bool} {es : List (Int × V)} {t : Nat} (E : EsR U dn es) (ht : t < U.m) (hd : dn t = false) : ∃ x, es.find? (fun e => e.1 = endS U t) = some x ∧ x.2 = tupR (bs t) (finS U t) := by
  cases hf : es.find? (fun e => e.1 = endS U t) with
  | none => exact absurd (List.find?_eq_none.mp hf _ (E.all t ht hd)) (by simp)
  | some x =>
    obtain ⟨u, _, _, rfl⟩ := E.sub x (List.mem_of_find?_eq_some hf)
    have h2 := List.find?_some hf
    have := end_inj O (of_decide_eq_true h2)
    subst this
    exact ⟨_, rfl, rfl⟩
theorem es_pop {dn : Nat → Bool} {es : List (Int × V)} {t : Nat} (E : EsR U dn es) : EsR U (fun u => if u = t then true else dn u) (es.filter fun e => e.1 ≠ endS U t) where
  sub := fun x hx => by
    obtain ⟨h1, h2⟩ := List.mem_filter.mp hx
    obtain ⟨u, hu, hd, rfl⟩ := E.sub x h1
    have ne : u ≠ t := fun q => of_decide_eq_true h2 (by rw [q])
    exact ⟨u, hu, by rw [if_neg ne]; exact hd, rfl⟩
  all := fun u hu hd => by
    by_cases q : u = t
    · rw [if_pos q] at hd; cases hd
    · rw [if_neg q] at hd
      exact List.mem_filter.mpr ⟨E.all u hu hd, decide_eq_true fun k => q (end_inj O k)⟩
include h
theorem loopQ : Loop (fixU U) (LpQ U L R) where
  quiet := fun n f g f' g' dn st hk hn es e x a E => by
    have hany : (es.any fun x => x.1 == g.pc) = false := List.any_eq_false.mpr fun x hx => by
      obtain ⟨t, ht, hd, rfl⟩ := E.sub x hx
      rw [beq_iff_eq]
      exact fun q => hk t ht hd q.symm
    obtain ⟨e', he⟩ := quietQ (e := e) (R := R) (h.set (some (.int a))) hany st
    obtain ⟨f2, e2, g2, x2, h2, h3⟩ := hn es e' (some (.int a)) (a + 1) E
    exact ⟨f2, e2, g2, x2, forL_next ((turnQ_eq h _ _ _).trans he) h2, h3⟩
  hit := fun n f f' g' dn t ht hd ⟨u, hu, hut, hud⟩ st hn es e x a E => by
    obtain ⟨y, hf, hy⟩ := find_key O E ht hd
    have E' := es_pop O (t := t) E
    have hne : (es.filter fun e => e.1 ≠ endS U t) ≠ [] := List.ne_nil_of_mem (E'.all u hu (by rw [if_neg hut]; exact hud))
    have h1 := popQ (f := f) (e := e) (R := R) (h.set (some (.int a))) hf hy (notD (h.set (some (.int a))))
    rw [if_neg hne] at h1
    obtain ⟨e', he⟩ := stepQ (e := e) (es := es.filter fun e => e.1 ≠ endS U t) (R := R) (h.set (some (.int a))) st
    obtain ⟨f2, e2, g2, x2, h2, h3⟩ := hn _ e' (some (.int a)) (a + 1) E'
    exact ⟨f2, e2, g2, x2, forL_next ((turnQ_eq h _ _ _).trans (seq_then h1 he)) h2, h3⟩
  last := fun n f dn t ht hd hall kp act es e x a E => by
    obtain ⟨y, hf, hy⟩ := find_key O E ht hd
    have E' := es_pop O (t := t) E
    have hnil : (es.filter fun e => e.1 ≠ endS U t) = [] := List.eq_nil_iff_forall_not_mem.mpr fun z hz => by
      obtain ⟨u, hu, hud, _⟩ := E'.sub z hz
      by_cases q : u = t
      · rw [if_pos q] at hud; cases hud
      · rw [if_neg q, hall u hu q] at hud; cases hud
    have h1 := popQ (f := f) (e := e) (R := R) (h.set (some (.int a))) hf hy (notD (h.set (some (.int a))))
    rw [if_pos hnil, hnil] at h1
    exact ⟨f, e, _, some (.int a), forL_brk ((turnQ_eq h _ _ _).trans (seq_brk h1)), kp, act⟩
end
end Mine
end
section
open PySem PySem.W PySem.Calls PyProof.Rows
set_option autoImplicit false
set_option maxRecDepth 100000
namespace Mine
theorem cntS_le : ∀ os : List (Ord × Bool), cntS os ≤ os.length
  | [] => Nat.le_refl _
  | o :: r => by
    have := cntS_le r
    show (if o.2 then 1 else 0) + cntS r ≤ r.length + 1
    split <;> lia
theorem keys_at {U : Su} : ∀ {n t : Nat}, t < n → (endS U t, tupR (bs t) (finS U t)) ∈ keysE U n
  | n + 1, t, h => by
    rcases Nat.lt_or_ge t n with q | q
    · exact List.mem_append_left _ (keys_at q)
    · have : t = n := by lia
      subst this
      exact List.mem_append_right _ (List.mem_singleton.mpr rfl)
section
variable {U : Su} (O : SuOk U)
theorem prU_in {t : Nat} (h : t < U.m) : prU U t = ⟨genO t 0 (U.ns t), opn t, s0 U.seed t (ceS U t), false⟩ := if_pos h
theorem prU_out {t : Nat} (h : ¬ t < U.m) : prU U t = ⟨[], 0, s0 U.seed t (ceS U t), true⟩ := if_neg h
theorem prU_dn (t : Nat) : (prU U t).dn = !decide (t < U.m) := by
  by_cases h : t < U.m
  · rw [prU_in h, decide_eq_true h]; rfl
  · rw [prU_out h, decide_eq_false h]; rfl
include O
theorem prU_len (t : Nat) : (prU U t).os.length ≤ 6 := by
  by_cases h : t < U.m
  · rw [prU_in h]
    show (genO t 0 (U.ns t)).length ≤ 6
    rw [genO_len]; exact O.ns t
  · rw [prU_out h]; exact Nat.zero_le _
theorem inv_start (I : SuF U) : Inv (fixU U) (memS U U.m) 0 (prU U) where
  B := mem_ok O I U.m (Nat.le_refl _)
  kp := fun _ _ => rfl
  cl := by have := m4 O; show 0 < U.m; lia
  c248 := (far_low O (.inr (.inl ⟨by decide, by decide⟩))).trans I.z
  pi := fun t ht => by rw [prU_in ht]; exact pi_start O I ht
  pk := fun t ht h0 => by rw [prU_in ht]; exact pk_start O ht h0
  some := ⟨0, by have := m4 O; show 0 < U.m; lia, by rw [prU_in (by have := m4 O; lia)]⟩
theorem run_ok (I : SuF U) {L : Loc} {R : Hp} (h : LokQ L) (e : Ext) (x : Option V) : ∃ f' e' g' x', forL turnQ (rangeL 700 0) (L.set 10 x) (Hm (memS U U.m) e (rg 544 255 (s0 U.seed 0 U.ce)) (.dict (keysE U U.m) :: R)) = some (.next, L.set 10 x', Hm f' e' g' (.dict [] :: R)) ∧ Keep U.m (memS U U.m) f' ∧ ∀ u, u < U.m → Act f' (bs u) (16 * (u : Int)) (finS U u) := by
  have h4 := m4 O
  have hL : Left (fixU U).m 0 (7 * U.m - 1) (prU U) := fun t ht _ => by
    have ht : t < U.m := ht
    have h1 := cntS_le (prU U t).os
    have h2 := prU_len O t
    show cntS (prU U t).os * U.m + (t + U.m - 0) % U.m ≤ 7 * U.m - 1
    have h3 : (t + U.m - 0) % U.m = t := by rw [Nat.sub_zero, Nat.add_mod_right, Nat.mod_eq_of_lt ht]
    have h5 : cntS (prU U t).os * U.m ≤ 6 * U.m := Nat.mul_le_mul_right _ (by lia)
    lia
  have h1 := main (fixU_ok O I) (loopQ (R := R) O h) (24 + (7 * U.m - 1) + 1) 24 (7 * U.m - 1) 700 (memS U U.m) 0 (prU U) (by lia) (inv_start O I) (by
    have a := prU_len O 0
    have b := prU_len O 1
    have c := prU_len O 2
    have d := prU_len O 3
    unfold sumL; lia) hL (by lia) (keysE U U.m) e x 0 ⟨fun x hx => ?_, fun t ht _ => keys_at ht⟩
  · rw [prU_in (by lia)] at h1
    exact h1
  · obtain ⟨i, h1, h2⟩ := keys_mem hx
    exact ⟨i, h1, by rw [prU_dn, decide_eq_true h1]; rfl, h2⟩
end
end Mine
end
section
open PySem PySem.W PySem.Calls PyProof.Rows
set_option autoImplicit false
set_option maxRecDepth 100000
namespace Mine
noncomputable def mI (f : Int → Int) : List Int := (List.range 1024).map fun (i : Nat) => f i
theorem memL_mI (f : Int → Int) : memL f = (mI f).map .int := by unfold memL mI; rw [List.map_map]; rfl
noncomputable def slI (f : Int → Int) (a b : Nat) : List Int := ((mI f).take b).drop a
theorem slI_eq {f f0 : Int → Int} {a b : Nat} (h : ∀ i : Nat, a ≤ i → i < b → i < 1024 → f i = f0 i) : slI f a b = slI f0 a b := by
  unfold slI mI
  rw [← List.map_take, ← List.map_take, ← List.map_drop, ← List.map_drop]
  refine List.map_congr_left fun i hi => ?_
  obtain ⟨j, hj, e⟩ := List.mem_iff_getElem.mp hi
  rw [List.getElem_drop, List.getElem_take, List.getElem_range] at e
  rw [List.length_drop, List.length_take, List.length_range] at hj
  exact h i (by lia) (by lia) (by lia)
theorem ints_map : ∀ ns : List Int, ints? (ns.map .int) = some ns
  | [] => rfl
  | n :: ns => by show (ints? (ns.map .int)).map _ = _; rw [ints_map ns]; rfl
section
variable {C : Cx} {cf : CallF} {L L' : Loc} {H H1 H2 H' : Hp}
theorem e_sl {o lo up : E} {x y z : V} {f : Int → Int} {a b : Nat} (h1 : evalE C cf L o H = some (x, H)) (h2 : evalE C cf L lo H = some (y, H)) (h3 : evalE C cf L up H = some (z, H)) (hi : itemsOf C H x = some (memL f)) (ha : endV y 0 = some a) (hb : endV z 1024 = some b) : evalE C cf L (.slice false o lo up) H = some (.fl ((slI f a b).map .int), H) := by
  show (evalE C cf L o H).bind _ = _
  rw [h1]
  show (evalE C cf L lo H).bind _ = _
  rw [h2]
  show (evalE C cf L _ H).bind _ = _
  rw [h3]
  have : sliceV C H x y z = some ((slI f a b).map .int) := by
    show (itemsOf C H x).bind _ = _
    rw [hi]
    show (if (memL f).length ≤ 65536 then (endV y 0).bind fun a => (endV z (memL f).length).map fun b => ((memL f).take b).drop a else none) = _
    rw [memL_len, if_pos (by decide), ha, hb]
    show some (((memL f).take b).drop a) = _
    rw [memL_mI, ← List.map_take, ← List.map_drop]; rfl
  show (sliceV C H x y z).bind _ = _
  rw [this]; rfl
theorem cmp_sl {x y : V} {ns : List Int} (hx : seqI C H x = some (false, ns)) (hy : seqI C H y = some (false, ns)) (c : cmpV .NotEq x y = none) : cmpH C H .NotEq x y = some false := by
  show (cmpV .NotEq x y).orElse _ = _
  rw [c]
  show ((seqI C H x).bind fun x => (seqI C H y).bind fun y => cmpS .NotEq x y) = _
  rw [hx, hy]
  show (if false = false ∧ ns.length = ns.length then some (ns != ns) else none) = _
  rw [if_pos ⟨rfl, rfl⟩, bne_self_eq_false]
theorem cmp_slE {x y : V} {ns : List Int} (hx : seqI C H x = some (false, ns)) (hy : seqI C H y = some (false, ns)) (c : cmpV .Eq x y = none) : cmpH C H .Eq x y = some true := by
  show (cmpV .Eq x y).orElse _ = _
  rw [c]
  show ((seqI C H x).bind fun x => (seqI C H y).bind fun y => cmpS .Eq x y) = _
  rw [hx, hy]
  show (if false = false ∧ ns.length = ns.length then some (ns == ns) else none) = _
  rw [if_pos ⟨rfl, rfl⟩, beq_self_eq_true]
theorem seq_fl (ns : List Int) : seqI C H (.fl (ns.map .int)) = some (false, ns) := by
  show (ints? (ns.map .int)).map _ = _
  rw [ints_map]; rfl
theorem seq_ref {l : Nat} {ns : List Int} (h : H[l]? = some (.list (ns.map .int))) : seqI C H (.ref l) = some (false, ns) := by
  show ((match H[l]? with | some (.list vs) => some vs | _ => none).bind fun vs => (ints? vs).map fun ns => (false, ns)) = _
  rw [h]
  show (ints? (ns.map .int)).map _ = _
  rw [ints_map]; rfl
theorem ne_sl {o p lo hi : E} {x w y z : V} {f f0 : Int → Int} {a b : Nat} (h1 : evalE C cf L o H = some (x, H)) (h1' : evalE C cf L p H = some (w, H)) (h2 : evalE C cf L lo H = some (y, H)) (h3 : evalE C cf L hi H = some (z, H)) (i1 : itemsOf C H x = some (memL f)) (i2 : itemsOf C H w = some (memL f0)) (ha : endV y 0 = some a) (hb : endV z 1024 = some b) (h : ∀ i : Nat, a ≤ i → i < b → i < 1024 → f i = f0 i) :
    evalE C cf L (.cmp .NotEq (.slice false o lo hi) (.slice false p lo hi)) H = some (.bool false, H) ∧ evalE C cf L (.cmp .Eq (.slice false o lo hi) (.slice false p lo hi)) H = some (.bool true, H) := by
  have e1 := e_sl h1 h2 h3 i1 ha hb
  have e2 := e_sl h1' h2 h3 i2 ha hb
  rw [← slI_eq h] at e2
  exact ⟨e_cmp e1 e2 (cmp_sl (seq_fl _) (seq_fl _) rfl), e_cmp e1 e2 (cmp_slE (seq_fl _) (seq_fl _) rfl)⟩
end
noncomputable abbrev lwQ (c : Lc) (cl : Nat) (f0 : Int → Int) (pl t ba op at' ord d nu re fl p st k u w oc o fu be dn : Option V) : Loc :=
  [some c.script, some c.first, some c.drawn, some (.int (c.m : Int)), some (.int c.seed), some (.ref 0), pl, some (.ref cl), some (.ref 2), some (.ref 3), t, some (.fl (memL f0)), some (.ref 1), ba, op, at', ord, d, nu, re, fl, p, st, k, u, w, oc, o, fu, be, dn]
section
variable {c : Lc} {cl : Nat} {f0 f ce : Int → Int} {pl t ba op at' ord d nu re fl p st k u w oc o fu be dn : Option V} {e : Ext} {g : Rg} {es : HO} {S : List V} {R : Hp} {cf : CallF}
theorem post4 (hf : ∀ j : Int, (64 ≤ j ∧ j < 240) ∨ (244 ≤ j ∧ j < 248) ∨ (249 ≤ j ∧ j < 256) ∨ 512 ≤ j → f j = f0 j) (hce : ∀ j : Int, 0 ≤ j → j < 64 → f j = ce j) (hcl : (Hm f e g R)[cl]? = some (.list (cellL ce))) :
    evalS cxL cf (.seq sQ4 (.seq sQ5 (.seq sQ6 .skip))) (lwQ c cl f0 pl t ba op at' ord d nu re fl p st k u w oc o fu be dn) (Hm f e g R) = some (.ret (.bool true), lwQ c cl f0 pl t ba op at' ord d nu re fl p st k u w oc o fu be dn, Hm f e g R) := by
  have hcells : cellL ce = (slI f 0 64).map .int := by
    rw [slI_eq (f0 := ce) fun i _ h1 _ => hce i (by lia) (by lia)]
    unfold cellL slI mI
    rw [← List.map_take, List.take_range]
    show _ = ((List.range 64).map fun (i : Nat) => ce i).map V.int
    rw [List.map_map]; rfl
  rw [hcells] at hcl
  have i1 : itemsOf cxL (Hm f e g R) (.ref 0) = some (memL f) := rfl
  have i2 : itemsOf cxL (Hm f e g R) (.fl (memL f0)) = some (memL f0) := rfl
  refine (seq_next (s_ite (x := .bool false) (t := false) (e_orB (p := false) (q := false) (e_cmp (e_sl (x := .ref 0) (y := .none) (z := .int 64) (a := 0) (b := 64) rfl rfl rfl i1 rfl rfl) (e_loc rfl) (cmp_sl (seq_fl _) (seq_ref hcl) rfl)) (e_orB (p := false) (q := false) ?_ ?_)) rfl)).trans ?_
  · exact (ne_sl (x := .ref 0) (w := .fl (memL f0)) (y := .int 64) (z := .int 240) (a := 64) (b := 240) rfl rfl rfl rfl i1 i2 rfl rfl fun i h0 h1 _ => hf i (by lia)).1
  · exact (ne_sl (x := .ref 0) (w := .fl (memL f0)) (y := .int 244) (z := .int 248) (a := 244) (b := 248) rfl rfl rfl rfl i1 i2 rfl rfl fun i h0 h1 _ => hf i (by lia)).1
  refine (seq_next (s_ite (x := .bool false) (t := false) (ne_sl (x := .ref 0) (w := .fl (memL f0)) (y := .int 249) (z := .int 256) (a := 249) (b := 256) rfl rfl rfl rfl i1 i2 rfl rfl fun i h0 h1 _ => hf i (by lia)).1 rfl)).trans ?_
  exact seq_ret (s_ret (ne_sl (x := .ref 0) (w := .fl (memL f0)) (y := .int 512) (z := .none) (a := 512) (b := 1024) rfl rfl rfl rfl i1 i2 rfl rfl fun i h0 h1 _ => hf i (by lia)).2)
end
end Mine
end
section
open PySem PySem.W PySem.Calls PyProof.Rows
set_option autoImplicit false
set_option maxRecDepth 100000
namespace Mine
section
variable {c : Lc} {cl : Nat} {f0 f ce : Int → Int} {pl t ba op at' ord d nu re fl p st k u w oc o fu be dn : Option V} {e : Ext} {g : Rg} {S : List V} {R : Hp} {cf : CallF}
theorem stk_loop {b : Int} {q : V} {vs : List V} (hq : itemsOf cxL (Hm f e g R) q = some vs) (b1 : b ≤ 255) : ∀ (us : List Int) (j : Nat) (o dn : Option V), 0 ≤ 256 + b - (j : Int) - us.length → (∀ (i : Nat) (v : Int), us[i]? = some v → f (256 + b - (j : Int) - i) = v) →
    ∃ o' dn', forK cxL q vs (fun k v loc H => (setFwd [30, 27] [.int k, v] loc).bind fun loc => evalS cxL cf (.seq (.ite (.cmp .NotEq (.sub (.loc 5) (.bin .Sub (.bin .Add (.cst (.int 256)) (.loc 13)) (.loc 30))) (.loc 27)) (.seq (.ret (.cst (.bool false))) .skip) .skip) .skip) loc H) j (us.map .int) (lwQ c cl f0 pl t (some (.int b)) op at' ord d nu re fl p st k u w oc o fu be dn) (Hm f e g R) =
      some (.next, lwQ c cl f0 pl t (some (.int b)) op at' ord d nu re fl p st k u w oc o' fu be dn', Hm f e g R)
  | [], j, o, dn, _, _ => ⟨o, dn, rfl⟩
  | x :: us, j, o, dn, h0, h => by
    have hl : (((x :: us).length : Nat) : Int) = us.length + 1 := rfl
    have hx : f (256 + b - (j : Int)) = x := by
      have := h 0 x rfl
      rwa [show 256 + b - (j : Int) - ((0 : Nat) : Int) = 256 + b - (j : Int) from Int.sub_zero _] at this
    obtain ⟨o', dn', h2⟩ := stk_loop hq b1 us (j + 1) (some (.int x)) (some (.int (j : Int))) (by lia) fun i v hv => by
      have := h (i + 1) v hv
      rwa [show 256 + b - (j : Int) - ((i + 1 : Nat) : Int) = 256 + b - ((j + 1 : Nat) : Int) - (i : Int) by lia] at this
    refine ⟨o', dn', forK_next (L1 := lwQ c cl f0 pl t (some (.int b)) op at' ord d nu re fl p st k u w oc (some (.int x)) fu be (some (.int (j : Int)))) (H1 := Hm f e g R) ?_ hq h2⟩
    show evalS cxL cf _ (lwQ c cl f0 pl t (some (.int b)) op at' ord d nu re fl p st k u w oc (some (.int x)) fu be (some (.int (j : Int)))) _ = _
    refine s_one ((s_ite (x := .bool false) (t := false) (e_cmp (x := .int x) (y := .int x) (e_subV (x := .ref 0) (k := 256 + b - (j : Int)) (vs := memL f) (H1 := Hm f e g R) rfl (evalE_bin (x := .int (256 + b)) (y := .int (j : Int)) (H1 := Hm f e g R) (evalE_bin (x := .int 256) (y := .int b) (H1 := Hm f e g R) rfl rfl rfl) rfl rfl) (by lia) (by lia) rfl (by rw [memL_get f (by lia) (by lia), hx])) rfl ?_) rfl).trans rfl)
    show (some (x != x) : Option Bool) = _
    rw [bne_self_eq_false]
theorem post3 {m : Nat} {F : Nat → Al} (hm : m ≤ 4) (hl : ∀ i, i < m → (F i).stk.length ≤ 12) (hA : ∀ i, i < m → Act f (bs i) (16 * (i : Int)) (F i)) : ∀ (vs : List V) (n : Nat) (ba st o dn : Option V), (∀ v ∈ vs, ∃ i l, i < m ∧ v = .tup [.int (bs i), .ref (l + 4)] ∧ R[l]? = some (.list ((F i).stk.map .int))) →
    ∃ ba' st' o' dn', forK cxL (.ref 3) S (fun _ v loc H => (setTgt cxL H [13, 22] v loc).bind fun loc => evalS cxL cf (.seq (.forEnum 30 27 (.loc 22) (.seq (.ite (.cmp .NotEq (.sub (.loc 5) (.bin .Sub (.bin .Add (.cst (.int 256)) (.loc 13)) (.loc 30))) (.loc 27)) (.seq (.ret (.cst (.bool false))) .skip) .skip) .skip)) .skip) loc H) n vs (lwQ c cl f0 pl t ba op at' ord d nu re fl p st k u w oc o fu be dn) (Hm f e g (.dict [] :: .list S :: R)) =
      some (.next, lwQ c cl f0 pl t ba' op at' ord d nu re fl p st' k u w oc o' fu be dn', Hm f e g (.dict [] :: .list S :: R))
  | [], n, ba, st, o, dn, _ => ⟨ba, st, o, dn, rfl⟩
  | v :: vs, n, ba, st, o, dn, h => by
    obtain ⟨i, l, hi, rfl, hR⟩ := h v (.head _)
    have eb : bs i = 255 - 64 * (i : Int) := rfl
    have hlen := hl i hi
    have hq : itemsOf cxL (Hm f e g (.dict [] :: .list S :: R)) (.ref (l + 4)) = some ((F i).stk.map .int) := by
      show (match R[l]? with | some (.list vs) => some vs | _ => none) = _
      rw [hR]
    obtain ⟨o1, dn1, h1⟩ := stk_loop (c := c) (cl := cl) (f0 := f0) (pl := pl) (t := t) (op := op) (at' := at') (ord := ord) (d := d) (nu := nu) (re := re) (fl := fl) (p := p) (st := some (.ref (l + 4))) (k := k) (u := u) (w := w) (oc := oc) (fu := fu) (be := be) (cf := cf) (b := bs i) hq (by lia) (F i).stk 0 o dn (by lia) fun j v hv => by
      rw [show 256 + bs i - ((0 : Nat) : Int) - (j : Int) = 256 + bs i - (j : Int) by lia]
      exact (hA i hi).stk j v hv
    obtain ⟨ba2, st2, o2, dn2, h2⟩ := post3 hm hl hA vs (n + 1) (some (.int (bs i))) (some (.ref (l + 4))) o1 dn1 fun v hv => h v (.tail _ hv)
    refine ⟨ba2, st2, o2, dn2, forK_next (L1 := lwQ c cl f0 pl t (some (.int (bs i))) op at' ord d nu re fl p (some (.ref (l + 4))) k u w oc o1 fu be dn1) (H1 := Hm f e g (.dict [] :: .list S :: R)) ?_ rfl h2⟩
    show evalS cxL cf _ (lwQ c cl f0 pl t (some (.int (bs i))) op at' ord d nu re fl p (some (.ref (l + 4))) k u w oc o fu be dn) _ = _
    exact s_one (s_forEnum (o := .ref (l + 4)) (H1 := Hm f e g (.dict [] :: .list S :: R)) rfl hq h1)
theorem post_rest {m : Nat} {F : Nat → Al} (hm : m ≤ 4) (hl : ∀ i, i < m → (F i).stk.length ≤ 12) (hA : ∀ i, i < m → Act f (bs i) (16 * (i : Int)) (F i)) (hS : ∀ v ∈ S, ∃ i l, i < m ∧ v = .tup [.int (bs i), .ref (l + 4)] ∧ R[l]? = some (.list ((F i).stk.map .int)))
    (hf : ∀ j : Int, (64 ≤ j ∧ j < 240) ∨ (244 ≤ j ∧ j < 248) ∨ (249 ≤ j ∧ j < 256) ∨ 512 ≤ j → f j = f0 j) (hce : ∀ j : Int, 0 ≤ j → j < 64 → f j = ce j) (hcl : R[cl]? = some (.list (cellL ce))) :
    ∃ L', evalS cxL cf (.seq sQ2 (.seq sQ3 (.seq sQ4 (.seq sQ5 (.seq sQ6 .skip))))) (lwQ c (cl + 4) f0 pl t ba op at' ord d nu re fl p st k u w oc o fu be dn) (Hm f e g (.dict [] :: .list S :: R)) = some (.ret (.bool true), L', Hm f e g (.dict [] :: .list S :: R)) := by
  obtain ⟨ba2, st2, o2, dn2, h2⟩ := post3 (c := c) (cl := cl + 4) (f0 := f0) (pl := pl) (t := t) (op := op) (at' := at') (ord := ord) (d := d) (nu := nu) (re := re) (fl := fl) (p := p) (k := k) (u := u) (w := w) (oc := oc) (fu := fu) (be := be) (e := e) (g := g) (S := S) (cf := cf) hm hl hA S 0 ba st o dn hS
  have h4 := post4 (c := c) (cl := cl + 4) (pl := pl) (t := t) (ba := ba2) (op := op) (at' := at') (ord := ord) (d := d) (nu := nu) (re := re) (fl := fl) (p := p) (st := st2) (k := k) (u := u) (w := w) (oc := oc) (o := o2) (fu := fu) (be := be) (dn := dn2) (e := e) (g := g) (R := .dict [] :: .list S :: R) (cf := cf) hf hce hcl
  exact ⟨_, (seq_next (L' := lwQ c (cl + 4) f0 pl t ba op at' ord d nu re fl p st k u w oc o fu be dn) (H' := Hm f e g (.dict [] :: .list S :: R)) (s_ite (x := .ref 2) (t := false) rfl rfl)).trans ((seq_next (s_forIn (o := .ref 3) (H1 := Hm f e g (.dict [] :: .list S :: R)) rfl rfl h2)).trans h4)⟩
end
end Mine
end
section
open PySem PySem.W PySem.Calls PyProof.Rows
set_option autoImplicit false
set_option maxRecDepth 100000
namespace Mine
section
variable {U : Su} (O : SuOk U)
include O
theorem fin_ok {t : Nat} (ht : t < U.m) : (finS U t).stk.length ≤ 12 ∧ ∀ j, (j < 16 * (t : Int) ∨ 16 * (t : Int) + 16 ≤ j) → ceS U (t + 1) j = ceS U t j := by
  have h4 := m4 O
  have hn := O.ns t
  have e : bs t = 255 - 64 * (t : Int) := rfl
  obtain ⟨_, a, b⟩ := runA_ok (b := bs t) (lo := 16 * (t : Int)) (by lia) (by lia) (by lia) (by lia) (genO t 0 (U.ns t)) (s0 U.seed t (ceS U t)) (s0_V _ (ceS_ok O t (by lia)).1) (genO_ok _ _ _ _ rfl) (by rw [genO_len]; show 0 + _ ≤ 12; lia)
  exact ⟨a, b⟩
theorem ceS_later : ∀ (n t : Nat) (j : Int), t < n → n ≤ U.m → 16 * (t : Int) ≤ j → j < 16 * (t : Int) + 16 → ceS U n j = ceS U (t + 1) j
  | 0, _, _, h, _, _, _ => absurd h (Nat.not_lt_zero _)
  | n + 1, t, j, h, hn, h0, h1 => by
    rcases Nat.lt_or_ge t n with q | q
    · rw [(fin_ok O (t := n) hn).2 j (by lia)]
      exact ceS_later n t j q (by lia) h0 h1
    · have : t = n := by lia
      subst this; rfl
theorem cells_end (I : SuF U) {f : Int → Int} (kp : Keep U.m (memS U U.m) f) (hA : ∀ u, u < U.m → Act f (bs u) (16 * (u : Int)) (finS U u)) {j : Int} (h0 : 0 ≤ j) (h1 : j < 64) : f j = ceS U U.m j := by
  have h4 := m4 O
  by_cases h : j < 16 * (U.m : Int)
  · have hj : (j / 16).toNat < U.m := by lia
    rw [ceS_later O U.m (j / 16).toNat j hj (Nat.le_refl _) (by lia) (by lia)]
    exact (hA _ hj).ce j (by lia) (by lia)
  · rw [kp j (.inl ⟨by lia, by lia⟩), far_low O (.inl (by lia)), I.ce j h0 h1, (ceS_ok O U.m h4.2).2 j (by lia)]
end
section
variable {C : Cx} {cf : CallF} {L L' : Loc} {H H1 H2 H' : Hp}
theorem s_assignAs {i : Nat} {as : List Nat} {e : E} {v o : V} {vs : List V} (h : evalE C cf L e H = some (v, H)) (hp : partsOf C H v = some vs) (ho : locV L i = some o) (hs : setAs C o as vs H = some H1) : evalS C cf (.assignAs i as e) L H = some (.next, L, H1) := by
  show (evalE C cf L e H).bind _ = _
  rw [h]
  show (partsOf C H v).bind _ = _
  rw [hp]
  show (locV L i).bind _ = _
  rw [ho]
  show (setAs C o as vs H).bind _ = _
  rw [hs]; rfl
theorem s_forRangeV {t : Nat} {n : E} {body : S} {y : V} {vs : List V} {x : Option (Fl × Loc × Hp)} (h : evalE C cf L n H = some (y, H)) (hr : rangeV y = some vs) (h2 : forL (fun v loc H => (assignE C cf (.loc t) v loc H).bind fun p => evalS C cf body p.1 p.2) vs L H = x) : evalS C cf (.forRange t n body) L H = x := by
  show (evalE C cf L n H).bind _ = _
  rw [h]
  show (rangeV y).bind _ = _
  rw [hr]
  exact h2
theorem rangeV_nat {k : Nat} (hk : k < 1000) : rangeV (.int (k : Int)) = some (rangeL k 0) := by
  unfold rangeV
  dsimp only
  rw [if_pos ⟨by lia, by lia⟩, Int.toNat_natCast]
end
noncomputable def g00 : Rg := ⟨544, 0, 0, 0, 255, ⟨false, false, false, false, false⟩⟩
theorem post_all {U : Su} (O : SuOk U) (I : SuF U) {c : Lc} {cl : Nat} {e : Ext} {S : List V} {R : Hp} {pl t ba op at' ord d nu re fl p st k u w oc o fu dn : Option V} (hS : StkOk U U.m S R) (hcl : R[cl]? = some (.list (cellL (ceS U U.m)))) :
    ∃ L' H', evalS cxL (callD cxL 9) sPost (lwQ c (cl + 4) (memS U U.m) pl t ba op at' ord d nu re fl p st k u w oc o fu (begF U none 1) dn) (Hm (memS U U.m) e g00 (.dict (keysE U U.m) :: .list S :: R)) = some (.ret (.bool true), L', H') := by
  have h4 := m4 O
  have lok : LokQ (lwQ c (cl + 4) (memS U U.m) pl t ba op at' ord d nu re fl p st k u w oc o fu (begF U none 1) dn) := ⟨rfl, rfl, Nat.le_of_ble_eq_true rfl⟩
  obtain ⟨f', e', g', x', h1, kp, hA⟩ := run_ok O I (R := .list S :: R) lok e t
  have h2 := post_rest (c := c) (cl := cl) (f0 := memS U U.m) (f := f') (ce := ceS U U.m) (pl := pl) (t := x') (ba := ba) (op := op) (at' := at') (ord := ord) (d := d) (nu := nu) (re := re) (fl := fl) (p := p) (st := st) (k := k) (u := u) (w := w) (oc := oc) (o := o) (fu := fu) (be := begF U none 1) (dn := dn) (e := e') (g := g') (S := S) (R := R) (cf := callD cxL 9) (m := U.m) (F := finS U) h4.2 (fun i hi => (fin_ok O hi).1) hA (fun v hv => by
    obtain ⟨i, hi, e⟩ := List.mem_iff_getElem.mp hv
    have hi' : i < U.m := by rw [← hS.1]; exact hi
    obtain ⟨l, a, b⟩ := hS.2 i hi'
    rw [List.getElem?_eq_getElem hi, e] at a
    exact ⟨i, l, hi', Option.some.inj a, b⟩) (fun j hj => kp j (by lia)) (fun j h0 h1 => cells_end O I kp hA h0 h1) hcl
  obtain ⟨L', h2⟩ := h2
  refine ⟨L', _, (seq_next (s_assignAs (H1 := Hm (memS U U.m) e (rg 544 255 (s0 U.seed 0 U.ce)) (.dict (keysE U U.m) :: .list S :: R)) (v := .fl [.int (s0 U.seed 0 U.ce).a, .int (s0 U.seed 0 U.ce).x, .int (s0 U.seed 0 U.ce).y, .int (pOf (s0 U.seed 0 U.ce).fl)]) rfl rfl rfl ?_)).trans ((seq_next (s_forRangeV (y := .int ((700 : Nat) : Int)) rfl (rangeV_nat (by decide)) h1)).trans h2)⟩
  kernel_rfl
end Mine
end
section
open PySem PySem.W PySem.Calls PyProof.Rows
set_option autoImplicit false
set_option maxRecDepth 100000
namespace Mine
noncomputable def drI (ns : List Int) : List Int := (ns.take 13).drop 1
noncomputable def fstI (ns : List Int) : Int := ns.headD 0
noncomputable def mN (ns : List Int) : Nat := (2 + fstI ns % 3).toNat
noncomputable def seedI (ns : List Int) : Int := (fstI ns / 3 + (drI ns).sum) % 65536
noncomputable def fA (seed a : Int) : Int → Int := fun j => if 0 ≤ j ∧ j < a then (7 * j + seed) % 256 else 0
noncomputable def nsT (ns : List Int) (t : Nat) : List Int := (sliceRange (min (t : Int) (drI ns).length) (drI ns).length (mN ns)).filterMap ((drI ns)[·]?)
noncomputable def suD (ns : List Int) : Su := ⟨mN ns, seedI ns, nsT ns, putL (fA (seedI ns) 64) 512 changeL, fA (seedI ns) 64⟩
theorem mN_cases (ns : List Int) : (mN ns = 2 ∨ mN ns = 3 ∨ mN ns = 4) ∧ ((mN ns : Nat) : Int) = 2 + fstI ns % 3 := by
  unfold mN
  lia
theorem drI_len (ns : List Int) : (drI ns).length ≤ 12 := by
  unfold drI
  rw [List.length_drop, List.length_take]
  lia
theorem nsT_len (ns : List Int) (t : Nat) : (nsT ns t).length ≤ 6 := by
  refine Nat.le_trans (List.length_filterMap_le ..) ?_
  have hl := drI_len ns
  have hm := (mN_cases ns).1
  unfold sliceRange
  dsimp only
  rw [List.length_map, List.length_range, if_pos (by lia)]
  split
  · rcases hm with h | h | h <;> rw [h] <;> lia
  · exact Nat.zero_le _
theorem stepT (ns : List Int) (t : Nat) (ht : t < mN ns) (H : Hp) : stepV cxL H (.fl ((drI ns).map .int)) (.int (t : Int)) (.int (mN ns : Int)) = some ((nsT ns t).map .int) := by
  have hm := (mN_cases ns).1
  have hl := drI_len ns
  have hi : itemsOf cxL H (.fl ((drI ns).map .int)) = some ((drI ns).map .int) := rfl
  unfold stepV
  dsimp only
  rw [if_pos ⟨by lia, by lia, by lia, by lia⟩, hi, Option.bind_some, List.length_map, if_pos (by lia)]
  unfold nsT
  rw [List.map_filterMap]
  congr 1
  refine congrArg (List.filterMap · _) (funext fun i => ?_)
  rw [List.getElem?_map]
theorem fA_ok (seed a : Int) : BOk (fA seed a) := fun j => by
  unfold fA
  split <;> lia
theorem suD_ok (ns : List Int) : SuOk (suD ns) := ⟨(mN_cases ns).1, nsT_len ns, fA_ok _ _⟩
theorem suD_f (ns : List Int) : SuF (suD ns) where
  B := putL_ok (fA_ok _ _) (by decide)
  ch := putL_oct
  z := (putL_out (.inl (by decide))).trans (if_neg (by decide))
  ce := fun j h0 h1 => putL_out (.inl (by lia))
theorem memL_putL : ∀ (l : List Int) (p : Nat) (f : Int → Int), memL (putL f (p : Int) l) = if p + l.length ≤ 1024 then (memL f).take p ++ l.map .int ++ (memL f).drop (p + l.length) else memL (putL f (p : Int) l)
  | [], p, f => by
    show memL f = if p + 0 ≤ 1024 then (memL f).take p ++ [] ++ (memL f).drop (p + 0) else memL f
    rw [List.append_nil, Nat.add_zero, List.take_append_drop, ite_self]
  | x :: l, p, f => by
    by_cases h : p + (x :: l).length ≤ 1024
    · rw [if_pos h]
      have h' : p + 1 + l.length ≤ 1024 := by rw [List.length_cons] at h; lia
      have := memL_putL l (p + 1) (upd f p x)
      rw [if_pos h', ← memL_set f (by lia), Int.toNat_natCast] at this
      show memL (putL (upd f p x) ((p : Int) + 1) l) = _
      refine Eq.trans this ?_
      rw [List.drop_set_of_lt (by lia)]
      have ht : ((memL f).set p (.int x)).take (p + 1) = (memL f).take p ++ [.int x] := by
        rw [List.take_add_one, List.take_set_of_le (Nat.le_refl p), List.getElem?_set_self (by rw [memL_len]; lia)]; rfl
      rw [ht, List.append_assoc, List.append_assoc, List.append_assoc, List.length_cons, show p + (l.length + 1) = p + 1 + l.length by lia]
      rfl
    · rw [if_neg h]
theorem memL_rep : List.replicate 1024 (V.int 0) = memL (fA 0 0) := by
  unfold memL
  refine (List.eq_replicate_iff.mpr ⟨by rw [List.length_map, List.length_range], fun x hx => ?_⟩).symm
  obtain ⟨i, _, rfl⟩ := List.mem_map.mp hx
  show V.int (fA 0 0 i) = _
  unfold fA
  rw [if_neg (by lia)]
end Mine
end
section
open PySem PySem.W PySem.Calls PyProof.Rows
set_option autoImplicit false
set_option maxRecDepth 100000
namespace Mine
section
variable {C : Cx} {cf : CallF} {L L' : Loc} {H H1 H2 H' : Hp}
theorem e_slV {o lo up : E} {x y z : V} {vs : List V} {a b : Nat} {own : Bool} (h1 : evalE C cf L o H = some (x, H)) (h2 : evalE C cf L lo H = some (y, H)) (h3 : evalE C cf L up H = some (z, H)) (hi : itemsOf C H x = some vs) (hl : vs.length ≤ 65536) (ha : endV y 0 = some a) (hb : endV z vs.length = some b) : evalE C cf L (.slice own o lo up) H = if own then some (.ref H.length, H ++ [.list ((vs.take b).drop a)]) else some (.fl ((vs.take b).drop a), H) := by
  show (evalE C cf L o H).bind _ = _
  rw [h1]
  show (evalE C cf L lo H).bind _ = _
  rw [h2]
  show (evalE C cf L _ H).bind _ = _
  rw [h3]
  have : sliceV C H x y z = some ((vs.take b).drop a) := by
    show (itemsOf C H x).bind _ = _
    rw [hi]
    show (if vs.length ≤ 65536 then (endV y 0).bind fun a => (endV z vs.length).map fun b => (vs.take b).drop a else none) = _
    rw [if_pos hl, ha, hb]; rfl
  show (sliceV C H x y z).bind _ = _
  rw [this]; rfl
theorem e_sum {a : E} {x : V} {ns : List Int} (h1 : evalE C cf L a H = some (x, H)) (hi : itemsOf C H x = some (ns.map .int)) : evalE C cf L (.sum a) H = some (.int ns.sum, H) := by
  show (evalE C cf L a H).bind _ = _
  rw [h1]
  show (sumV C H x).bind _ = _
  have : sumV C H x = some (.int ns.sum) := by
    show (itemsOf C H x).bind _ = _
    rw [hi]
    show (ints? (ns.map .int)).map _ = _
    rw [ints_map]; rfl
  rw [this]; rfl
theorem e_rep {a n : E} {x y : V} {vs : List V} (h1 : evalE C cf L a H = some (x, H)) (h2 : evalE C cf L n H = some (y, H)) (h : repV x y = some vs) : evalE C cf L (.rep a n) H = some (.ref H.length, H ++ [.list vs]) := by
  show (evalE C cf L a H).bind _ = _
  rw [h1]
  show (evalE C cf L n H).bind _ = _
  rw [h2]
  show (repV x y).bind _ = _
  rw [h]; rfl
theorem s_setSlice {i l lo hi : Nat} {q : Addr} {us vs : List V} (hg : C.lists q = some us) (ho : locV L i = some (.ref l)) (hl : H[l]? = some (.list vs)) (h : lo ≤ hi ∧ hi ≤ vs.length ∧ us.length = hi - lo ∧ vs.length ≤ 65536) : evalS C cf (.setSlice i lo hi q) L H = some (.next, L, H.set l (.list (vs.take lo ++ us ++ vs.drop hi))) := by
  show (C.lists q).bind _ = _
  rw [hg]
  show (locV L i).bind _ = _
  rw [ho]
  show (match H[l]? with | some (.list vs) => if lo ≤ hi ∧ hi ≤ vs.length ∧ us.length = hi - lo ∧ vs.length ≤ 65536 then some (H.set l (.list (vs.take lo ++ us ++ vs.drop hi))) else none | _ => none).bind _ = _
  rw [hl]
  show (if lo ≤ hi ∧ hi ≤ vs.length ∧ us.length = hi - lo ∧ vs.length ≤ 65536 then some (H.set l (.list (vs.take lo ++ us ++ vs.drop hi))) else none).bind _ = _
  rw [if_pos h]; rfl
end
theorem b_div (x : Int) {y : Int} (h : 0 < y ∧ y < 2 ^ 24) : binV .FloorDiv (.int x) (.int y) = some (.int (x / y)) := by
  show (if 0 < y ∧ y < 2 ^ 24 then some (x / y) else none).map V.int = _
  rw [if_pos h]; rfl
noncomputable abbrev lw1 (sc : V) (fi dr m se me pl ce en sk : Option V) : Loc := [some sc, fi, dr, m, se, me, pl, ce, en, sk, none, none, none, none, none, none, none, none, none, none, none, none, none, none, none, none, none, none, none, none, none]
theorem fA_next {seed a : Int} (h : 0 ≤ a) : upd (fA seed a) a ((7 * a + seed) % 256) = fA seed (a + 1) := by
  funext j
  unfold upd fA
  by_cases q : j = a
  · rw [if_pos q, if_pos (by lia), q]
  · rw [if_neg q]
    by_cases r : 0 ≤ j ∧ j < a
    · rw [if_pos r, if_pos (by lia)]
    · rw [if_neg r, if_neg (by lia)]
theorem fill {cf : CallF} {sc : V} {fi dr m : Option V} {seed : Int} : ∀ (n a : Nat) (pl : Option V), a + n ≤ 64 →
    ∃ pl', forL (fun v loc H => (assignE cxL cf (.loc 6) v loc H).bind fun p => evalS cxL cf (.seq (.assign (.sub (.loc 5) (.loc 6)) (.bin .Mod (.bin .Add (.bin .Mult (.cst (.int 7)) (.loc 6)) (.loc 4)) (.cst (.int 256)))) .skip) p.1 p.2) (rangeL n (a : Int)) (lw1 sc fi dr m (some (.int seed)) (some (.ref 0)) pl none none none) [.list (memL (fA seed a))] = some (.next, lw1 sc fi dr m (some (.int seed)) (some (.ref 0)) pl' none none none, [.list (memL (fA seed ((a + n : Nat) : Int)))])
  | 0, a, pl, _ => ⟨pl, rfl⟩
  | n + 1, a, pl, h => by
    obtain ⟨pl', h2⟩ := fill (cf := cf) (sc := sc) (fi := fi) (dr := dr) (m := m) (seed := seed) n (a + 1) (some (.int (a : Int))) (by lia)
    refine ⟨pl', forL_next (L1 := lw1 sc fi dr m (some (.int seed)) (some (.ref 0)) (some (.int (a : Int))) none none none) (H1 := [.list (memL (fA seed ((a + 1 : Nat) : Int)))]) ?_ ?_⟩
    · show evalS cxL cf _ (lw1 sc fi dr m (some (.int seed)) (some (.ref 0)) (some (.int (a : Int))) none none none) _ = _
      refine s_one ?_
      rw [s_sub (k := (a : Int)) (l := 0) (vs := memL (fA seed a)) (v := .int ((7 * (a : Int) + seed) % 256)) (H1 := [.list (memL (fA seed a))]) (H2 := [.list (memL (fA seed a))]) (H3 := [.list (memL (fA seed a))]) (evalE_bin (x := .int (7 * (a : Int) + seed)) (y := .int 256) (H1 := [.list (memL (fA seed a))]) (evalE_bin (x := .int (7 * (a : Int))) (y := .int seed) (H1 := [.list (memL (fA seed a))]) (evalE_bin (x := .int 7) (y := .int (a : Int)) (H1 := [.list (memL (fA seed a))]) rfl rfl (b_mul _ _ (by decide) (by lia))) rfl rfl) rfl rfl) rfl rfl rfl (by lia) (by rw [memL_len]; lia)]
      show some (Fl.next, _, [HO.list ((memL (fA seed a)).set ((a : Int)).toNat (.int ((7 * (a : Int) + seed) % 256)))]) = _
      rw [memL_set _ (by lia), fA_next (by lia)]; rfl
    · rw [show a + (n + 1) = a + 1 + n by lia]; exact h2
end Mine
end
section
open PySem PySem.W PySem.Calls PyProof.Rows
set_option autoImplicit false
set_option maxRecDepth 100000
namespace Mine
noncomputable abbrev lcD (ns : List Int) : Lc := ⟨.fl (ns.map .int), .int (fstI ns), .fl ((drI ns).map .int), mN ns, seedI ns, 0⟩
theorem tr_fl {H : Hp} {vs : List V} (h : vs.length ≤ 1000) : truthH H (.fl vs) = some (!vs.isEmpty) := by
  show (if vs.length ≤ 1000 then some (!vs.isEmpty) else none) = _
  rw [if_pos h]
theorem pre_first {cf : CallF} {ns : List Int} (hn : ns.length ≤ 63) : evalS cxL cf sL0 (l0 ns) [] = some (.next, lw1 (.fl (ns.map .int)) (some (.int (fstI ns))) none none none none none none none none, []) := by
  refine (s_set (v := .int (fstI ns)) (H1 := []) ?_ (Nat.le_of_ble_eq_true rfl)).trans rfl
  refine (e_ite (x := .fl (ns.map .int)) (H1 := []) rfl (tr_fl (by rw [List.length_map]; lia))).trans ?_
  cases ns with
  | nil => rfl
  | cons n r => exact e_sub (vs := (n :: r).map .int) (k := 0) (H1 := []) rfl rfl (by decide) (by decide) rfl
theorem fA0 (s t : Int) : fA s 0 = fA t 0 := by
  funext j; unfold fA; rw [if_neg (by lia), if_neg (by lia)]
theorem rep_1k : repV (.int 0) (.int 1024) = some (List.replicate 1024 (.int 0)) := by
  unfold repV
  dsimp only
  rw [if_pos (by decide)]
  rfl
theorem cells_take (f : Int → Int) : ((memL f).take 64).drop 0 = cellL f := by
  unfold memL cellL
  rw [List.drop_zero, ← List.map_take, List.take_range]; rfl
theorem viaY {α : Type} {x r : α} (h : ∀ Y, r = Y → x = Y) : x = r := h r rfl
theorem pre_ok (ns : List Int) (hn : ns.length ≤ 63) {Z : Prop} (kk : ∀ pl t ba op at' ord d nu re fl p st k u w oc o fu dn S G,
    evalS cxL (callD cxL 9) sPre (l0 ns) [] = some (.next, [some (.fl (ns.map .int)), some (.int (fstI ns)), some (.fl ((drI ns).map .int)), some (.int (mN ns : Int)), some (.int (seedI ns)), some (.ref 0), pl, some (.ref 1), some (.ref 2), some (.ref 3), t, some (.fl (memL (memS (suD ns) (mN ns)))), none, ba, op, at', ord, d, nu, re, fl, p, st, k, u, w, oc, o, fu, begF (suD ns) none 1, dn], hW (memS (suD ns) (mN ns)) (ceS (suD ns) (mN ns)) (.dict (keysE (suD ns) (mN ns))) (.list S) G) → StkOk (suD ns) (mN ns) S G → Z) : Z := by
  have hm := mN_cases ns
  have hd := drI_len ns
  have hlt : (ns.map V.int).length ≤ 65536 := by rw [List.length_map]; lia
  obtain ⟨pl, h5⟩ := fill (cf := callD cxL 9) (sc := .fl (ns.map .int)) (fi := some (.int (fstI ns))) (dr := some (.fl ((drI ns).map .int))) (m := some (.int (mN ns : Int))) (seed := seedI ns) 64 0 none (by decide)
  refine turns (suD_ok ns) (D := 8) (sc := .fl (ns.map .int)) (fi := .int (fstI ns)) (dr := .fl ((drI ns).map .int)) (pl := pl) (be := none) (fun t ht H => stepT ns t ht H) (mN ns) 0 [] [] none none none none none none none none none none none none none none none none none none (Nat.zero_add _) ⟨rfl, fun i h => absurd h (Nat.not_lt_zero _)⟩ fun x2 ba2 op2 at2 ord2 d2 nu2 re2 fl2 p2 st2 k2 u2 w2 oc2 o2 fu2 dn2 S2 G2 h10 hS => ?_
  have hb : begF (suD ns) none (suD ns).m = begF (suD ns) none 1 := (if_neg (show ¬ mN ns = 0 by lia)).trans (if_neg (by decide)).symm
  have h10 := hb ▸ h10
  refine kk pl x2 ba2 op2 at2 ord2 d2 nu2 re2 fl2 p2 st2 k2 u2 w2 oc2 o2 fu2 dn2 S2 G2 (viaY fun Y hY => ?_) hS
  refine (seq_next (pre_first hn)).trans ?_
  -- drawn
  have e1 := e_slV (C := cxL) (cf := callD cxL 9) (L := lw1 (.fl (ns.map .int)) (some (.int (fstI ns))) none none none none none none none none) (H := []) (o := .loc 0) (lo := .cst (.int 1)) (up := .cst (.int 13)) (x := .fl (ns.map .int)) (y := .int 1) (z := .int 13) (vs := ns.map .int) (a := 1) (b := 13) (own := false) rfl rfl rfl rfl hlt rfl rfl
  rw [← List.map_take, ← List.map_drop] at e1
  refine (seq_next (s_set e1 (Nat.le_of_ble_eq_true rfl))).trans ?_
  -- many
  have h2 : evalS cxL (callD cxL 9) sL2 (lw1 (.fl (ns.map .int)) (some (.int (fstI ns))) (some (.fl ((drI ns).map .int))) none none none none none none none) [] = some (.next, lw1 (.fl (ns.map .int)) (some (.int (fstI ns))) (some (.fl ((drI ns).map .int))) (some (.int (mN ns : Int))) none none none none none none, []) := by
    rw [hm.2]
    exact s_set (evalE_bin (x := .int 2) (y := .int (fstI ns % 3)) (H1 := []) rfl (evalE_bin (x := .int (fstI ns)) (y := .int 3) (H1 := []) rfl rfl rfl) rfl) (Nat.le_of_ble_eq_true rfl)
  refine (seq_next h2).trans ?_
  -- seed
  have h3 : evalS cxL (callD cxL 9) sL3 (lw1 (.fl (ns.map .int)) (some (.int (fstI ns))) (some (.fl ((drI ns).map .int))) (some (.int (mN ns : Int))) none none none none none none) [] = some (.next, lw1 (.fl (ns.map .int)) (some (.int (fstI ns))) (some (.fl ((drI ns).map .int))) (some (.int (mN ns : Int))) (some (.int (seedI ns))) none none none none none, []) :=
    s_set (evalE_bin (x := .int (fstI ns / 3 + (drI ns).sum)) (y := .int 65536) (H1 := []) (evalE_bin (x := .int (fstI ns / 3)) (y := .int (drI ns).sum) (H1 := []) (evalE_bin (x := .int (fstI ns)) (y := .int 3) (H1 := []) rfl rfl (b_div _ (by decide))) (e_sum (x := .fl ((drI ns).map .int)) rfl rfl) rfl) rfl (b_mod _ _ (by decide))) (Nat.le_of_ble_eq_true rfl)
  refine (seq_next h3).trans ?_
  -- memory
  have h4 : evalS cxL (callD cxL 9) sL4 (lw1 (.fl (ns.map .int)) (some (.int (fstI ns))) (some (.fl ((drI ns).map .int))) (some (.int (mN ns : Int))) (some (.int (seedI ns))) none none none none none) [] = some (.next, lw1 (.fl (ns.map .int)) (some (.int (fstI ns))) (some (.fl ((drI ns).map .int))) (some (.int (mN ns : Int))) (some (.int (seedI ns))) (some (.ref 0)) none none none none, [.list (memL (fA (seedI ns) 0))]) := by
    have hr : repV (.int 0) (.int 1024) = some (memL (fA (seedI ns) 0)) := by
      rw [fA0 (seedI ns) 0, ← memL_rep]
      exact rep_1k
    exact s_set (e_rep (x := .int 0) (y := .int 1024) rfl rfl hr) (Nat.le_of_ble_eq_true rfl)
  refine (seq_next h4).trans ?_
  refine (seq_next (s_forRangeV (y := .int ((64 : Nat) : Int)) rfl (rangeV_nat (by decide)) h5)).trans ?_
  -- cells
  have e6 := e_slV (C := cxL) (cf := callD cxL 9) (L := lw1 (.fl (ns.map .int)) (some (.int (fstI ns))) (some (.fl ((drI ns).map .int))) (some (.int (mN ns : Int))) (some (.int (seedI ns))) (some (.ref 0)) pl none none none) (H := [.list (memL (fA (seedI ns) 64))]) (o := .loc 5) (lo := .cst .none) (up := .cst (.int 64)) (x := .ref 0) (y := .none) (z := .int 64) (vs := memL (fA (seedI ns) 64)) (a := 0) (b := 64) (own := true) rfl rfl rfl rfl (by rw [memL_len]; decide) rfl rfl
  rw [cells_take] at e6
  refine (seq_next (s_set e6 (Nat.le_of_ble_eq_true rfl))).trans ?_
  -- the switch's code
  have h7 := s_setSlice (C := cxL) (cf := callD cxL 9) (L := lw1 (.fl (ns.map .int)) (some (.int (fstI ns))) (some (.fl ((drI ns).map .int))) (some (.int (mN ns : Int))) (some (.int (seedI ns))) (some (.ref 0)) pl (some (.ref 1)) none none) (H := [.list (memL (fA (seedI ns) 64)), .list (cellL (fA (seedI ns) 64))]) (i := 5) (l := 0) (lo := 512) (hi := 538) (q := 1433) (us := changeL.map .int) (vs := memL (fA (seedI ns) 64)) rfl rfl rfl ⟨by decide, by rw [memL_len]; decide, rfl, by rw [memL_len]; decide⟩
  have hp := memL_putL changeL 512 (fA (seedI ns) 64)
  rw [if_pos (by decide)] at hp
  have h7 : evalS cxL (callD cxL 9) sL7 (lw1 (.fl (ns.map .int)) (some (.int (fstI ns))) (some (.fl ((drI ns).map .int))) (some (.int (mN ns : Int))) (some (.int (seedI ns))) (some (.ref 0)) pl (some (.ref 1)) none none) [.list (memL (fA (seedI ns) 64)), .list (cellL (fA (seedI ns) 64))] = some (.next, lw1 (.fl (ns.map .int)) (some (.int (fstI ns))) (some (.fl ((drI ns).map .int))) (some (.int (mN ns : Int))) (some (.int (seedI ns))) (some (.ref 0)) pl (some (.ref 1)) none none, [.list (memL (putL (fA (seedI ns) 64) 512 changeL)), .list (cellL (fA (seedI ns) 64))]) := by
    refine h7.trans ?_
    have hp : memL (putL (fA (seedI ns) 64) 512 changeL) = _ := hp
    rw [hp]; rfl
  refine (seq_next h7).trans ?_
  refine (seq_next (L' := lw1 (.fl (ns.map .int)) (some (.int (fstI ns))) (some (.fl ((drI ns).map .int))) (some (.int (mN ns : Int))) (some (.int (seedI ns))) (some (.ref 0)) pl (some (.ref 1)) (some (.ref 2)) none) (H' := [.list (memL (putL (fA (seedI ns) 64) 512 changeL)), .list (cellL (fA (seedI ns) 64)), .dict []]) rfl).trans ?_
  refine (seq_next (L' := lw1 (.fl (ns.map .int)) (some (.int (fstI ns))) (some (.fl ((drI ns).map .int))) (some (.int (mN ns : Int))) (some (.int (seedI ns))) (some (.ref 0)) pl (some (.ref 1)) (some (.ref 2)) (some (.ref 3))) (H' := [.list (memL (putL (fA (seedI ns) 64) 512 changeL)), .list (cellL (fA (seedI ns) 64)), .dict [], .list []]) rfl).trans ?_
  refine (seq_next (s_forRangeV (y := .int (mN ns : Int)) rfl (rangeV_nat (by lia)) h10)).trans ?_
  have e11 := e_slV (C := cxL) (cf := callD cxL 9) (L := lwX (lcD ns) x2 pl ba2 op2 at2 ord2 d2 nu2 re2 fl2 p2 st2 k2 u2 w2 oc2 o2 fu2 (begF (suD ns) none 1) dn2) (H := hW (memS (suD ns) (mN ns)) (ceS (suD ns) (mN ns)) (.dict (keysE (suD ns) (mN ns))) (.list S2) G2) (o := .loc 5) (lo := .cst .none) (up := .cst .none) (x := .ref 0) (y := .none) (z := .none) (vs := memL (memS (suD ns) (mN ns))) (a := 0) (b := (memL (memS (suD ns) (mN ns))).length) (own := false) rfl rfl rfl rfl (by rw [memL_len]; decide) rfl rfl
  rw [List.take_length, List.drop_zero] at e11
  exact (s_one (s_set e11 (Nat.le_of_ble_eq_true rfl))).trans hY
end Mine
end
section
open PySem PySem.W PySem.Calls PyProof.Rows
set_option autoImplicit false
set_option maxRecDepth 100000
namespace Mine
noncomputable abbrev Hj (T : Hp) (fs : List (Nat × V)) : Hp := T ++ [.inst fs]
theorem st_j (T : Hp) (fs : List (Nat × V)) (a : Nat) (v : V) (h : fs.length < 100) : storeAttr (Hj T fs) (.ref T.length) a v = some (Hj T (fset fs a v)) := by
  unfold storeAttr
  dsimp only
  rw [at_mid T _ []]
  dsimp only
  rw [set_mid T _ _ [], if_pos h]
section
variable {cf : CallF} {L : Loc} {T : Hp}
theorem j_set {a : Nat} {e : E} {v : V} {fs fs' : List (Nat × V)} {r : S} {o : Option (Fl × Loc × Hp)} (h0 : locV L 0 = some (.ref T.length)) (h : evalE cxL cf L e (Hj T fs) = some (v, Hj T fs)) (hc : cxL.cattr a = none) (hf : fset fs a v = fs') (hl : fs.length < 100) (h2 : evalS cxL cf r L (Hj T fs') = o) : evalS cxL cf (.seq (.assign (.attr 0 a) e) r) L (Hj T fs) = o :=
  (seq_next (s_attr h h0 hc (by rw [st_j _ _ _ _ hl, hf]))).trans h2
theorem j_attr {a : Nat} {v : V} {fs : List (Nat × V)} (h0 : locV L 0 = some (.ref T.length)) (hc : cxL.cattr a = none) (hf : fget fs a = some v) : evalE cxL cf L (.attr 0 a) (Hj T fs) = some (v, Hj T fs) := e_attr h0 (at_mid T _ []) hc hf
theorem j_attrC {a : Nat} {v : V} {fs : List (Nat × V)} (h0 : locV L 0 = some (.ref T.length)) (hc : cxL.cattr a = some (.val v)) (hf : fget fs a = none) : evalE cxL cf L (.attr 0 a) (Hj T fs) = some (v, Hj T fs) := e_attrC h0 (at_mid T _ []) hc hf
end
theorem reset_ok (cf : CallF) (T : Hp) : evalS cxL cf m_reset.body [some (.ref T.length)] (Hj T [(0, .str "6502"), (1, .int 255), (2, .int 65535), (3, .int 65280), (4, .int 256), (5, .int 0), (6, .bool false), (7, .int 0), (8, .ref 0), (9, .int 544)]) = some (.next, [some (.ref T.length)], Hj T [(0, .str "6502"), (1, .int 255), (2, .int 65535), (3, .int 65280), (4, .int 256), (5, .int 0), (6, .bool false), (7, .int 0), (8, .ref 0), (9, .int 544), (10, .int 544), (11, .int 255), (12, .int 0), (13, .int 0), (14, .int 0), (15, .int 48)]) := by
  refine j_set (v := .int 544) (fs' := [(0, .str "6502"), (1, .int 255), (2, .int 65535), (3, .int 65280), (4, .int 256), (5, .int 0), (6, .bool false), (7, .int 0), (8, .ref 0), (9, .int 544), (10, .int 544)]) rfl (j_attr rfl rfl rfl) rfl rfl (Nat.le_of_ble_eq_true rfl) ?_
  refine (seq_next ((s_ite (t := false) (e_cmp (x := .int 544) (y := .none) (j_attr rfl rfl rfl) rfl rfl) rfl).trans rfl)).trans ?_
  refine j_set (v := .int 255) (fs' := [(0, .str "6502"), (1, .int 255), (2, .int 65535), (3, .int 65280), (4, .int 256), (5, .int 0), (6, .bool false), (7, .int 0), (8, .ref 0), (9, .int 544), (10, .int 544), (11, .int 255)]) rfl (j_attr rfl rfl rfl) rfl rfl (Nat.le_of_ble_eq_true rfl) ?_
  refine j_set (v := .int 0) (fs' := [(0, .str "6502"), (1, .int 255), (2, .int 65535), (3, .int 65280), (4, .int 256), (5, .int 0), (6, .bool false), (7, .int 0), (8, .ref 0), (9, .int 544), (10, .int 544), (11, .int 255), (12, .int 0)]) rfl (rfl) rfl rfl (Nat.le_of_ble_eq_true rfl) ?_
  refine j_set (v := .int 0) (fs' := [(0, .str "6502"), (1, .int 255), (2, .int 65535), (3, .int 65280), (4, .int 256), (5, .int 0), (6, .bool false), (7, .int 0), (8, .ref 0), (9, .int 544), (10, .int 544), (11, .int 255), (12, .int 0), (13, .int 0)]) rfl (rfl) rfl rfl (Nat.le_of_ble_eq_true rfl) ?_
  refine j_set (v := .int 0) (fs' := [(0, .str "6502"), (1, .int 255), (2, .int 65535), (3, .int 65280), (4, .int 256), (5, .int 0), (6, .bool false), (7, .int 0), (8, .ref 0), (9, .int 544), (10, .int 544), (11, .int 255), (12, .int 0), (13, .int 0), (14, .int 0)]) rfl (rfl) rfl rfl (Nat.le_of_ble_eq_true rfl) ?_
  refine j_set (v := .int 48) (fs' := [(0, .str "6502"), (1, .int 255), (2, .int 65535), (3, .int 65280), (4, .int 256), (5, .int 0), (6, .bool false), (7, .int 0), (8, .ref 0), (9, .int 544), (10, .int 544), (11, .int 255), (12, .int 0), (13, .int 0), (14, .int 0), (15, .int 48)]) rfl (evalE_bin (x := .int 16) (y := .int 32) (j_attrC rfl rfl rfl) (j_attrC rfl rfl rfl) rfl) rfl rfl (Nat.le_of_ble_eq_true rfl) ?_
  refine j_set (v := .int 0) (fs' := [(0, .str "6502"), (1, .int 255), (2, .int 65535), (3, .int 65280), (4, .int 256), (5, .int 0), (6, .bool false), (7, .int 0), (8, .ref 0), (9, .int 544), (10, .int 544), (11, .int 255), (12, .int 0), (13, .int 0), (14, .int 0), (15, .int 48)]) rfl (rfl) rfl rfl (Nat.le_of_ble_eq_true rfl) ?_
  rfl
theorem mk_ok (T : Hp) : Hj T [(0, .str "6502"), (1, .int 255), (2, .int 65535), (3, .int 65280), (4, .int 256), (5, .int 0), (6, .bool false), (7, .int 0), (8, .ref 0), (9, .int 544), (10, .int 544), (11, .int 255), (12, .int 0), (13, .int 0), (14, .int 0), (15, .int 48)] = T ++ [.inst (mkF ⟨0, .bool false, 0⟩ ⟨544, 0, 0, 0, 255, ⟨false, false, false, false, false⟩⟩)] := rfl
theorem init_ok (D : Nat) (T : Hp) : evalS cxL (callD cxL (D + 1)) m_init.body [some (.ref T.length), some (.ref 0), some (.int 544)] (T ++ [.inst []]) = some (.next, [some (.ref T.length), some (.ref 0), some (.int 544)], T ++ [.inst (mkF ⟨0, .bool false, 0⟩ ⟨544, 0, 0, 0, 255, ⟨false, false, false, false, false⟩⟩)]) := by
  show evalS cxL (callD cxL (D + 1)) m_init.body _ (Hj T []) = _
  refine j_set (v := .str "6502") (fs' := [(0, .str "6502")]) rfl (rfl) rfl rfl (Nat.le_of_ble_eq_true rfl) ?_
  refine j_set (v := .int 255) (fs' := [(0, .str "6502"), (1, .int 255)]) rfl (evalE_bin (x := .int 256) (y := .int 1) (evalE_bin (x := .int 1) (y := .int 8) (rfl) (j_attrC rfl rfl rfl) rfl) (rfl) rfl) rfl rfl (Nat.le_of_ble_eq_true rfl) ?_
  refine j_set (v := .int 65535) (fs' := [(0, .str "6502"), (1, .int 255), (2, .int 65535)]) rfl (evalE_bin (x := .int 65536) (y := .int 1) (evalE_bin (x := .int 1) (y := .int 16) (rfl) (j_attrC rfl rfl rfl) rfl) (rfl) rfl) rfl rfl (Nat.le_of_ble_eq_true rfl) ?_
  refine j_set (v := .int 65280) (fs' := [(0, .str "6502"), (1, .int 255), (2, .int 65535), (3, .int 65280)]) rfl (evalE_bin (x := .int 255) (y := .int 8) (j_attr rfl rfl rfl) (j_attrC rfl rfl rfl) rfl) rfl rfl (Nat.le_of_ble_eq_true rfl) ?_
  refine j_set (v := .int 256) (fs' := [(0, .str "6502"), (1, .int 255), (2, .int 65535), (3, .int 65280), (4, .int 256)]) rfl (evalE_bin (x := .int 1) (y := .int 8) (rfl) (j_attrC rfl rfl rfl) rfl) rfl rfl (Nat.le_of_ble_eq_true rfl) ?_
  refine j_set (v := .int 0) (fs' := [(0, .str "6502"), (1, .int 255), (2, .int 65535), (3, .int 65280), (4, .int 256), (5, .int 0)]) rfl (rfl) rfl rfl (Nat.le_of_ble_eq_true rfl) ?_
  refine j_set (v := .bool false) (fs' := [(0, .str "6502"), (1, .int 255), (2, .int 65535), (3, .int 65280), (4, .int 256), (5, .int 0), (6, .bool false)]) rfl (rfl) rfl rfl (Nat.le_of_ble_eq_true rfl) ?_
  refine j_set (v := .int 0) (fs' := [(0, .str "6502"), (1, .int 255), (2, .int 65535), (3, .int 65280), (4, .int 256), (5, .int 0), (6, .bool false), (7, .int 0)]) rfl (rfl) rfl rfl (Nat.le_of_ble_eq_true rfl) ?_
  refine (seq_next ((s_ite (t := false) (e_cmp (x := .ref 0) (y := .none) rfl rfl rfl) rfl).trans rfl)).trans ?_
  refine j_set (v := .ref 0) (fs' := [(0, .str "6502"), (1, .int 255), (2, .int 65535), (3, .int 65280), (4, .int 256), (5, .int 0), (6, .bool false), (7, .int 0), (8, .ref 0)]) rfl (rfl) rfl rfl (Nat.le_of_ble_eq_true rfl) ?_
  refine j_set (v := .int 544) (fs' := [(0, .str "6502"), (1, .int 255), (2, .int 65535), (3, .int 65280), (4, .int 256), (5, .int 0), (6, .bool false), (7, .int 0), (8, .ref 0), (9, .int 544)]) rfl (rfl) rfl rfl (Nat.le_of_ble_eq_true rfl) ?_
  exact s_one (s_expr (e_mcall (f := 50) (v := .none) rfl (at_mid T _ []) rfl rfl ((run_next (fn := m_reset) (L0 := [some (.ref T.length)]) rfl rfl rfl (reset_ok _ T)).trans (by rw [mk_ok]))))
end Mine
end
section
open PySem PySem.W PySem.Calls PyProof.Rows
set_option autoImplicit false
set_option maxRecDepth 100000
namespace Mine
theorem xchL_mid {a b c d z : HO} {G : Hp} {n : Nat} (h : G.length = n) : xchL (a :: b :: c :: d :: (G ++ [z])) (n + 4) = a :: z :: c :: d :: (G ++ [b]) := by
  subst h
  unfold xchL
  have e1 : (a :: b :: c :: d :: (G ++ [z]))[1]? = some b := rfl
  have e2 : (a :: b :: c :: d :: (G ++ [z]))[G.length + 4]? = some z := at_mid G z []
  rw [e1, e2]
  show a :: z :: c :: d :: (G ++ [z]).set G.length b = _
  rw [set_mid G z b []]
theorem at_map {α β : Type} (f : α → β) (G : List α) (z : β) : (G.map f ++ [z])[G.length]? = some z := by
  have h := at_mid (G.map f) z []
  rwa [List.length_map] at h
theorem loc_heap {L L1 : Loc} {H H1 : Hp} {x : Option (Fl × Loc × Hp)} (h1 : L = L1) (h2 : H = H1) (h : evalS cxL (callD cxL 9) sPost L1 H1 = x) : evalS cxL (callD cxL 9) sPost L H = x := by rw [h1, h2]; exact h
theorem memL_ren (s : Nat → Nat) (f : Int → Int) : V.renL s (memL f) = memL f := by
  have : memL f = ((List.range 1024).map fun (i : Nat) => f i).map .int := by unfold memL; rw [List.map_map]; rfl
  rw [this, renL_ints]
theorem cellL_ren (s : Nat → Nat) (f : Int → Int) : V.renL s (cellL f) = cellL f := by
  have : cellL f = ((List.range 64).map fun (i : Nat) => f i).map .int := by unfold cellL; rw [List.map_map]; rfl
  rw [this, renL_ints]
theorem keysE_ren (s : Nat → Nat) (U : Su) : ∀ n, (keysE U n).map (fun p => (p.1, p.2.ren s)) = keysE U n
  | 0 => rfl
  | n + 1 => by
    show (keysE U n ++ [(endS U n, tupR (bs n) (finS U n))]).map _ = _
    rw [List.map_append, keysE_ren s U n]; rfl
theorem StkOk.ren {U : Su} {m : Nat} {S : List V} {G : Hp} {z : HO} (h : StkOk U m S G) : StkOk U m (V.renL (xch (G.length + 4)) S) (G.map (HO.ren (xch (G.length + 4))) ++ [z]) := by
  refine ⟨by rw [renL_map, List.length_map]; exact h.1, fun i hi => ?_⟩
  obtain ⟨l, h1, h2⟩ := h.2 i hi
  have hl : l < G.length := (List.getElem?_eq_some_iff.mp h2).1
  refine ⟨l, ?_, ?_⟩
  · rw [renL_map, List.getElem?_map, h1]
    show some (V.tup [.int (bs i), .ref (xch (G.length + 4) (l + 4))]) = _
    rw [xch_id (by lia) (by lia)]
  · rw [List.getElem?_append_left (by rw [List.length_map]; exact hl), List.getElem?_map, h2]
    show some (HO.list (V.renL _ ((finS U i).stk.map .int))) = _
    rw [renL_ints]
theorem plain (ns : List Int) (hn : ns.length ≤ 63) : LawRun2 ns := by
  refine pre_ok ns hn fun pl t ba op at' ord d nu re fl p st k u w oc o fu dn S G h1 hS => ?_
  have e0 : xch (G.length + 4) 0 = 0 := xch_id (by lia) (by lia)
  have e1 : xch (G.length + 4) 1 = G.length + 4 := if_pos rfl
  have e2 : xch (G.length + 4) 2 = 2 := xch_id (by lia) (by lia)
  have e3 : xch (G.length + 4) 3 = 3 := xch_id (by lia) (by lia)
  have ek : xch (G.length + 4) (G.length + 4) = 1 := (if_neg (by lia)).trans (if_pos rfl)
  obtain ⟨L', H', h3⟩ := post_all (suD_ok ns) (suD_f ns) (c := ⟨(V.fl (ns.map .int)).ren (xch (G.length + 4)), .int (fstI ns), (V.fl ((drI ns).map .int)).ren (xch (G.length + 4)), mN ns, seedI ns, 0⟩) (cl := G.length) (e := ⟨0, .bool false, 0⟩) (S := V.renL (xch (G.length + 4)) S) (R := G.map (HO.ren (xch (G.length + 4))) ++ [.list (cellL (ceS (suD ns) (mN ns)))])
    (pl := pl.map (V.ren (xch (G.length + 4)))) (t := t.map (V.ren (xch (G.length + 4)))) (ba := ba.map (V.ren (xch (G.length + 4)))) (op := op.map (V.ren (xch (G.length + 4)))) (at' := at'.map (V.ren (xch (G.length + 4)))) (ord := ord.map (V.ren (xch (G.length + 4)))) (d := d.map (V.ren (xch (G.length + 4)))) (nu := nu.map (V.ren (xch (G.length + 4)))) (re := re.map (V.ren (xch (G.length + 4)))) (fl := fl.map (V.ren (xch (G.length + 4)))) (p := p.map (V.ren (xch (G.length + 4)))) (st := st.map (V.ren (xch (G.length + 4)))) (k := k.map (V.ren (xch (G.length + 4)))) (u := u.map (V.ren (xch (G.length + 4)))) (w := w.map (V.ren (xch (G.length + 4)))) (oc := oc.map (V.ren (xch (G.length + 4)))) (o := o.map (V.ren (xch (G.length + 4)))) (fu := fu.map (V.ren (xch (G.length + 4)))) (dn := dn.map (V.ren (xch (G.length + 4))))
    hS.ren (at_map _ G _)
  refine ⟨_, _, 0, _, _, L', H', h1, rfl, init_ok 6 _, by show 1 < G.length + 4; lia, by rw [List.length_append]; exact Nat.lt_succ_self _, ?_⟩
  refine loc_heap ?_ ?_ h3
  · show [some ((V.fl (ns.map .int)).ren (xch (G.length + 4))), some (.int (fstI ns)), some ((V.fl ((drI ns).map .int)).ren (xch (G.length + 4))), some (.int (mN ns : Int)), some (.int (seedI ns)), some (V.ref (xch (G.length + 4) 0)), _, some (V.ref (xch (G.length + 4) 1)), some (V.ref (xch (G.length + 4) 2)), some (V.ref (xch (G.length + 4) 3)), _, some (V.fl (V.renL (xch (G.length + 4)) (memL (memS (suD ns) (mN ns))))), some (V.ref (xch (G.length + 4) (G.length + 4))), _, _, _, _, _, _, _, _, _, _, _, _, _, _, _, _, _, _] = _
    rw [e0, e1, e2, e3, ek, memL_ren]; rfl
  · show xchL (HO.list (V.renL (xch (G.length + 4)) (memL (memS (suD ns) (mN ns)))) :: HO.list (V.renL (xch (G.length + 4)) (cellL (ceS (suD ns) (mN ns)))) :: HO.dict ((keysE (suD ns) (mN ns)).map fun p => (p.1, p.2.ren (xch (G.length + 4)))) :: HO.list (V.renL (xch (G.length + 4)) S) :: (G ++ [HO.inst (mkF ⟨0, .bool false, 0⟩ g00)]).map (HO.ren (xch (G.length + 4)))) (G.length + 4) = _
    rw [memL_ren, cellL_ren, keysE_ren, List.map_append]
    refine (xchL_mid (List.length_map ..)).trans ?_
    have hi : HO.ren (xch (G.length + 4)) (.inst (mkF ⟨0, .bool false, 0⟩ g00)) = .inst (mkF ⟨0, .bool false, 0⟩ g00) := by
      show HO.inst [(0, .str "6502"), (1, .int 255), (2, .int 65535), (3, .int 65280), (4, .int 256), (5, .int 0), (6, .bool false), (7, .int 0), (8, .ref (xch (G.length + 4) 0)), (9, .int 544), (10, _), (11, _), (12, _), (13, _), (14, _), (15, _)] = _
      rw [e0]; rfl
    rw [hi]; rfl
end Mine
end
section

end
theorem PySem.Challenge.cw_im0101_04_holds : PySem.Challenge.rw_im0101_04.Holds := by
  exact Mine.hd04 (Mine.law_walk2 Mine.plain)
