import PyProof.Rows.All
import Wide.All
import OpenK.AllK
import Wide.FinOn
import PySem.Challenge.RW_pe0154_01
set_option Elab.async false
set_option compiler.extract_closed false
set_option linter.unusedVariables false
set_option linter.unusedSimpArgs false
set_option linter.unusedSectionVars false
section
open PySem PySem.W PyProof.Rows
set_option maxRecDepth 100000
set_option maxHeartbeats 8000000
namespace Mine
/-- the text, each of its statements a name of its own: the head over it is laid in few bytes -/
def nth (i : Nat) : Stmt := PySem.Challenge.pw_pe0154_01.main.body.getD i default
def st0 : Stmt := nth 0
def st1 : Stmt := nth 1
def st2 : Stmt := nth 2
def st3 : Stmt := nth 3
def st4 : Stmt := nth 4
def st5 : Stmt := nth 5
def st6 : Stmt := nth 6
def st7 : Stmt := nth 7
def st8 : Stmt := nth 8
def st9 : Stmt := nth 9
def st10 : Stmt := nth 10
def st11 : Stmt := nth 11
def st12 : Stmt := nth 12
def st13 : Stmt := nth 13
def st14 : Stmt := nth 14
def st15 : Stmt := nth 15
def st16 : Stmt := nth 16
def st17 : Stmt := nth 17
def st18 : Stmt := nth 18
def st19 : Stmt := nth 19
def st20 : Stmt := nth 20
def st21 : Stmt := nth 21
def st22 : Stmt := nth 22
def st23 : Stmt := nth 23
def pw : Program := { PySem.Challenge.pw_pe0154_01 with main := { PySem.Challenge.pw_pe0154_01.main with body := [st0, st1, st2, st3, st4, st5, st6, st7, st8, st9, st10, st11, st12, st13, st14, st15, st16, st17, st18, st19, st20, st21, st22, st23] } }
def rwm : OpenLaw := { PySem.Challenge.rw_pe0154_01 with prog := pw }
section
local macro_rules | `(tactic| o_head $_) => `(tactic| assumption)
theorem kz (h : OpenRow.Holds PySem.Challenge.rw_pe0154_01.row) : OpenRow.Holds PySem.Challenge.rw_pe0154_01.row := by k_head
end
noncomputable def fdOf (s : Stmt) : Arguments × FuncBody × Scope := match s with | .FunctionDef _ a b _ _ _ s _ _ _ => (a, .stmts b, s) | _ => default
noncomputable def ob0 : Params → Obj := by refine (?f : ∀ (c : Value) (d : Option Addr) (sl : Array (Option Value)) (es : Params → Array DictEntry) (n : Nat), (∀ P, ((kz.heap_1 P).getD 0 default).2 = ⟨c, d, .dict (es P) n, sl⟩) → Params → Obj) _ _ _ _ _ (fun _ => rfl); exact fun c d sl es n _ P => ⟨c, d, .dict (es P) n, sl⟩
noncomputable def ob1 : Params → Obj := by refine (?f : ∀ (c : Value) (d : Option Addr) (sl : Array (Option Value)) (es : Params → Array DictEntry) (n : Nat), (∀ P, ((kz.heap_1 P).getD 1 default).2 = ⟨c, d, .dict (es P) n, sl⟩) → Params → Obj) _ _ _ _ _ (fun _ => rfl); exact fun c d sl es n _ P => ⟨c, d, .dict (es P) n, sl⟩
noncomputable def ob2 : Params → Obj := by refine (?f : ∀ (c : Value) (d : Option Addr) (sl : Array (Option Value)) (es : Params → Array DictEntry) (n : Nat), (∀ P, ((kz.heap_1 P).getD 2 default).2 = ⟨c, d, .dict (es P) n, sl⟩) → Params → Obj) _ _ _ _ _ (fun _ => rfl); exact fun c d sl es n _ P => ⟨c, d, .dict (es P) n, sl⟩
noncomputable def ob3 : Params → Obj := by refine (?f : ∀ (c : Value) (d : Option Addr) (sl : Array (Option Value)) (xs : Array Value) (n : Nat), (∀ P, ((kz.heap_1 P).getD 3 default).2 = ⟨c, d, .seq xs n, sl⟩) → Params → Obj) _ _ _ _ _ (fun _ => rfl); exact fun c d sl xs n _ P => ⟨c, d, .seq xs n, sl⟩
noncomputable def ob4 : Params → Obj := by refine (?f : ∀ (c : Value) (d : Option Addr) (sl : Array (Option Value)) (xs : Array Value) (n : Nat), (∀ P, ((kz.heap_1 P).getD 4 default).2 = ⟨c, d, .seq xs n, sl⟩) → Params → Obj) _ _ _ _ _ (fun _ => rfl); exact fun c d sl xs n _ P => ⟨c, d, .seq xs n, sl⟩
noncomputable def ob5 : Params → Obj := by refine (?f : ∀ (c : Value) (d : Option Addr) (sl : Array (Option Value)) (xs : Array Value) (n : Nat), (∀ P, ((kz.heap_1 P).getD 5 default).2 = ⟨c, d, .seq xs n, sl⟩) → Params → Obj) _ _ _ _ _ (fun _ => rfl); exact fun c d sl xs n _ P => ⟨c, d, .seq xs n, sl⟩
noncomputable def ob6 : Params → Obj := by refine (?f : ∀ (c : Value) (d : Option Addr) (sl : Array (Option Value)) (vs : Array Value), (∀ P, ((kz.heap_1 P).getD 6 default).2 = ⟨c, d, .fields vs, sl⟩) → Params → Obj) _ _ _ _ (fun _ => rfl); exact fun c d sl vs _ P => ⟨c, d, .fields vs, sl⟩
noncomputable def ob7 : Params → Obj := by refine (?f : ∀ (c : Value) (d : Option Addr) (sl : Array (Option Value)) (nm qn : Str) (pa : Arguments) (bo : FuncBody) (sc : Scope) (gl : Addr) (cl : List (Str × Addr)) (df kd dc pm : Value) (an : Option Addr) (cd ct : Value) (bt : Addr), (∀ P, ((kz.heap_1 P).getD 7 default).2 = ⟨c, d, .func ⟨nm, qn, pa, bo, sc, gl, cl, df, kd, dc, pm, an, cd, ct, bt⟩, sl⟩) → Params → Obj) _ _ _ _ _ _ _ _ _ _ _ _ _ _ _ _ _ _ (fun _ => rfl); exact fun c d sl nm qn _ _ _ gl cl df kd dc pm an cd ct bt _ _ => ⟨c, d, .func ⟨nm, qn, (fdOf st2).1, (fdOf st2).2.1, (fdOf st2).2.2, gl, cl, df, kd, dc, pm, an, cd, ct, bt⟩, sl⟩
noncomputable def ob8 : Params → Obj := by refine (?f : ∀ (c : Value) (d : Option Addr) (sl : Array (Option Value)) (xs : Array Value) (n : Nat), (∀ P, ((kz.heap_1 P).getD 8 default).2 = ⟨c, d, .seq xs n, sl⟩) → Params → Obj) _ _ _ _ _ (fun _ => rfl); exact fun c d sl xs n _ P => ⟨c, d, .seq xs n, sl⟩
noncomputable def ob9 : Params → Obj := by refine (?f : ∀ (c : Value) (d : Option Addr) (sl : Array (Option Value)) (xs : Array Value) (n : Nat), (∀ P, ((kz.heap_1 P).getD 9 default).2 = ⟨c, d, .seq xs n, sl⟩) → Params → Obj) _ _ _ _ _ (fun _ => rfl); exact fun c d sl xs n _ P => ⟨c, d, .seq xs n, sl⟩
noncomputable def ob10 : Params → Obj := by refine (?f : ∀ (c : Value) (d : Option Addr) (sl : Array (Option Value)) (xs : Array Value) (n : Nat), (∀ P, ((kz.heap_1 P).getD 10 default).2 = ⟨c, d, .seq xs n, sl⟩) → Params → Obj) _ _ _ _ _ (fun _ => rfl); exact fun c d sl xs n _ P => ⟨c, d, .seq xs n, sl⟩
noncomputable def ob11 : Params → Obj := by refine (?f : ∀ (c : Value) (d : Option Addr) (sl : Array (Option Value)) (vs : Array Value), (∀ P, ((kz.heap_1 P).getD 11 default).2 = ⟨c, d, .fields vs, sl⟩) → Params → Obj) _ _ _ _ (fun _ => rfl); exact fun c d sl vs _ P => ⟨c, d, .fields vs, sl⟩
noncomputable def ob12 : Params → Obj := by refine (?f : ∀ (c : Value) (d : Option Addr) (sl : Array (Option Value)) (nm qn : Str) (pa : Arguments) (bo : FuncBody) (sc : Scope) (gl : Addr) (cl : List (Str × Addr)) (df kd dc pm : Value) (an : Option Addr) (cd ct : Value) (bt : Addr), (∀ P, ((kz.heap_1 P).getD 12 default).2 = ⟨c, d, .func ⟨nm, qn, pa, bo, sc, gl, cl, df, kd, dc, pm, an, cd, ct, bt⟩, sl⟩) → Params → Obj) _ _ _ _ _ _ _ _ _ _ _ _ _ _ _ _ _ _ (fun _ => rfl); exact fun c d sl nm qn _ _ _ gl cl df kd dc pm an cd ct bt _ _ => ⟨c, d, .func ⟨nm, qn, (fdOf st7).1, (fdOf st7).2.1, (fdOf st7).2.2, gl, cl, df, kd, dc, pm, an, cd, ct, bt⟩, sl⟩
noncomputable def ob13 : Params → Obj := by refine (?f : ∀ (c : Value) (d : Option Addr) (sl : Array (Option Value)) (xs : Array Value) (n : Nat), (∀ P, ((kz.heap_1 P).getD 13 default).2 = ⟨c, d, .seq xs n, sl⟩) → Params → Obj) _ _ _ _ _ (fun _ => rfl); exact fun c d sl xs n _ P => ⟨c, d, .seq xs n, sl⟩
noncomputable def ob14 : Params → Obj := by refine (?f : ∀ (c : Value) (d : Option Addr) (sl : Array (Option Value)) (xs : Array Value) (n : Nat), (∀ P, ((kz.heap_1 P).getD 14 default).2 = ⟨c, d, .seq xs n, sl⟩) → Params → Obj) _ _ _ _ _ (fun _ => rfl); exact fun c d sl xs n _ P => ⟨c, d, .seq xs n, sl⟩
noncomputable def ob15 : Params → Obj := by refine (?f : ∀ (c : Value) (d : Option Addr) (sl : Array (Option Value)) (xs : Array Value) (n : Nat), (∀ P, ((kz.heap_1 P).getD 15 default).2 = ⟨c, d, .seq xs n, sl⟩) → Params → Obj) _ _ _ _ _ (fun _ => rfl); exact fun c d sl xs n _ P => ⟨c, d, .seq xs n, sl⟩
noncomputable def ob16 : Params → Obj := by refine (?f : ∀ (c : Value) (d : Option Addr) (sl : Array (Option Value)) (vs : Array Value), (∀ P, ((kz.heap_1 P).getD 16 default).2 = ⟨c, d, .fields vs, sl⟩) → Params → Obj) _ _ _ _ (fun _ => rfl); exact fun c d sl vs _ P => ⟨c, d, .fields vs, sl⟩
noncomputable def ob17 : Params → Obj := by refine (?f : ∀ (c : Value) (d : Option Addr) (sl : Array (Option Value)) (nm qn : Str) (pa : Arguments) (bo : FuncBody) (sc : Scope) (gl : Addr) (cl : List (Str × Addr)) (df kd dc pm : Value) (an : Option Addr) (cd ct : Value) (bt : Addr), (∀ P, ((kz.heap_1 P).getD 17 default).2 = ⟨c, d, .func ⟨nm, qn, pa, bo, sc, gl, cl, df, kd, dc, pm, an, cd, ct, bt⟩, sl⟩) → Params → Obj) _ _ _ _ _ _ _ _ _ _ _ _ _ _ _ _ _ _ (fun _ => rfl); exact fun c d sl nm qn _ _ _ gl cl df kd dc pm an cd ct bt _ _ => ⟨c, d, .func ⟨nm, qn, (fdOf st8).1, (fdOf st8).2.1, (fdOf st8).2.2, gl, cl, df, kd, dc, pm, an, cd, ct, bt⟩, sl⟩
noncomputable def ob18 : Params → Obj := by refine (?f : ∀ (c : Value) (d : Option Addr) (sl : Array (Option Value)) (xs : Array Value) (n : Nat), (∀ P, ((kz.heap_1 P).getD 18 default).2 = ⟨c, d, .seq xs n, sl⟩) → Params → Obj) _ _ _ _ _ (fun _ => rfl); exact fun c d sl xs n _ P => ⟨c, d, .seq xs n, sl⟩
noncomputable def ob19 : Params → Obj := by refine (?f : ∀ (c : Value) (d : Option Addr) (sl : Array (Option Value)) (xs : Array Value) (n : Nat), (∀ P, ((kz.heap_1 P).getD 19 default).2 = ⟨c, d, .seq xs n, sl⟩) → Params → Obj) _ _ _ _ _ (fun _ => rfl); exact fun c d sl xs n _ P => ⟨c, d, .seq xs n, sl⟩
noncomputable def ob20 : Params → Obj := by refine (?f : ∀ (c : Value) (d : Option Addr) (sl : Array (Option Value)) (xs : Array Value) (n : Nat), (∀ P, ((kz.heap_1 P).getD 20 default).2 = ⟨c, d, .seq xs n, sl⟩) → Params → Obj) _ _ _ _ _ (fun _ => rfl); exact fun c d sl xs n _ P => ⟨c, d, .seq xs n, sl⟩
noncomputable def ob21 : Params → Obj := by refine (?f : ∀ (c : Value) (d : Option Addr) (sl : Array (Option Value)) (vs : Array Value), (∀ P, ((kz.heap_1 P).getD 21 default).2 = ⟨c, d, .fields vs, sl⟩) → Params → Obj) _ _ _ _ (fun _ => rfl); exact fun c d sl vs _ P => ⟨c, d, .fields vs, sl⟩
noncomputable def ob22 : Params → Obj := by refine (?f : ∀ (c : Value) (d : Option Addr) (sl : Array (Option Value)) (nm qn : Str) (pa : Arguments) (bo : FuncBody) (sc : Scope) (gl : Addr) (cl : List (Str × Addr)) (df kd dc pm : Value) (an : Option Addr) (cd ct : Value) (bt : Addr), (∀ P, ((kz.heap_1 P).getD 22 default).2 = ⟨c, d, .func ⟨nm, qn, pa, bo, sc, gl, cl, df, kd, dc, pm, an, cd, ct, bt⟩, sl⟩) → Params → Obj) _ _ _ _ _ _ _ _ _ _ _ _ _ _ _ _ _ _ (fun _ => rfl); exact fun c d sl nm qn _ _ _ gl cl df kd dc pm an cd ct bt _ _ => ⟨c, d, .func ⟨nm, qn, (fdOf st9).1, (fdOf st9).2.1, (fdOf st9).2.2, gl, cl, df, kd, dc, pm, an, cd, ct, bt⟩, sl⟩
noncomputable def ob23 : Params → Obj := by refine (?f : ∀ (c : Value) (d : Option Addr) (sl : Array (Option Value)) (xs : Array Value) (n : Nat), (∀ P, ((kz.heap_1 P).getD 23 default).2 = ⟨c, d, .seq xs n, sl⟩) → Params → Obj) _ _ _ _ _ (fun _ => rfl); exact fun c d sl xs n _ P => ⟨c, d, .seq xs n, sl⟩
noncomputable def ob24 : Params → Obj := by refine (?f : ∀ (c : Value) (d : Option Addr) (sl : Array (Option Value)) (xs : Array Value) (n : Nat), (∀ P, ((kz.heap_1 P).getD 24 default).2 = ⟨c, d, .seq xs n, sl⟩) → Params → Obj) _ _ _ _ _ (fun _ => rfl); exact fun c d sl xs n _ P => ⟨c, d, .seq xs n, sl⟩
noncomputable def ob25 : Params → Obj := by refine (?f : ∀ (c : Value) (d : Option Addr) (sl : Array (Option Value)) (xs : Array Value) (n : Nat), (∀ P, ((kz.heap_1 P).getD 25 default).2 = ⟨c, d, .seq xs n, sl⟩) → Params → Obj) _ _ _ _ _ (fun _ => rfl); exact fun c d sl xs n _ P => ⟨c, d, .seq xs n, sl⟩
noncomputable def ob26 : Params → Obj := by refine (?f : ∀ (c : Value) (d : Option Addr) (sl : Array (Option Value)) (vs : Array Value), (∀ P, ((kz.heap_1 P).getD 26 default).2 = ⟨c, d, .fields vs, sl⟩) → Params → Obj) _ _ _ _ (fun _ => rfl); exact fun c d sl vs _ P => ⟨c, d, .fields vs, sl⟩
noncomputable def ob27 : Params → Obj := by refine (?f : ∀ (c : Value) (d : Option Addr) (sl : Array (Option Value)) (nm qn : Str) (pa : Arguments) (bo : FuncBody) (sc : Scope) (gl : Addr) (cl : List (Str × Addr)) (df kd dc pm : Value) (an : Option Addr) (cd ct : Value) (bt : Addr), (∀ P, ((kz.heap_1 P).getD 27 default).2 = ⟨c, d, .func ⟨nm, qn, pa, bo, sc, gl, cl, df, kd, dc, pm, an, cd, ct, bt⟩, sl⟩) → Params → Obj) _ _ _ _ _ _ _ _ _ _ _ _ _ _ _ _ _ _ (fun _ => rfl); exact fun c d sl nm qn _ _ _ gl cl df kd dc pm an cd ct bt _ _ => ⟨c, d, .func ⟨nm, qn, (fdOf st14).1, (fdOf st14).2.1, (fdOf st14).2.2, gl, cl, df, kd, dc, pm, an, cd, ct, bt⟩, sl⟩
noncomputable def ob28 : Params → Obj := by refine (?f : ∀ (c : Value) (d : Option Addr) (sl : Array (Option Value)) (xs : Array Value) (n : Nat), (∀ P, ((kz.heap_1 P).getD 28 default).2 = ⟨c, d, .seq xs n, sl⟩) → Params → Obj) _ _ _ _ _ (fun _ => rfl); exact fun c d sl xs n _ P => ⟨c, d, .seq xs n, sl⟩
noncomputable def ob29 : Params → Obj := by refine (?f : ∀ (c : Value) (d : Option Addr) (sl : Array (Option Value)) (xs : Array Value) (n : Nat), (∀ P, ((kz.heap_1 P).getD 29 default).2 = ⟨c, d, .seq xs n, sl⟩) → Params → Obj) _ _ _ _ _ (fun _ => rfl); exact fun c d sl xs n _ P => ⟨c, d, .seq xs n, sl⟩
noncomputable def ob30 : Params → Obj := by refine (?f : ∀ (c : Value) (d : Option Addr) (sl : Array (Option Value)) (xs : Array Value) (n : Nat), (∀ P, ((kz.heap_1 P).getD 30 default).2 = ⟨c, d, .seq xs n, sl⟩) → Params → Obj) _ _ _ _ _ (fun _ => rfl); exact fun c d sl xs n _ P => ⟨c, d, .seq xs n, sl⟩
noncomputable def ob31 : Params → Obj := by refine (?f : ∀ (c : Value) (d : Option Addr) (sl : Array (Option Value)) (vs : Array Value), (∀ P, ((kz.heap_1 P).getD 31 default).2 = ⟨c, d, .fields vs, sl⟩) → Params → Obj) _ _ _ _ (fun _ => rfl); exact fun c d sl vs _ P => ⟨c, d, .fields vs, sl⟩
noncomputable def ob32 : Params → Obj := by refine (?f : ∀ (c : Value) (d : Option Addr) (sl : Array (Option Value)) (nm qn : Str) (pa : Arguments) (bo : FuncBody) (sc : Scope) (gl : Addr) (cl : List (Str × Addr)) (df kd dc pm : Value) (an : Option Addr) (cd ct : Value) (bt : Addr), (∀ P, ((kz.heap_1 P).getD 32 default).2 = ⟨c, d, .func ⟨nm, qn, pa, bo, sc, gl, cl, df, kd, dc, pm, an, cd, ct, bt⟩, sl⟩) → Params → Obj) _ _ _ _ _ _ _ _ _ _ _ _ _ _ _ _ _ _ (fun _ => rfl); exact fun c d sl nm qn _ _ _ gl cl df kd dc pm an cd ct bt _ _ => ⟨c, d, .func ⟨nm, qn, (fdOf st15).1, (fdOf st15).2.1, (fdOf st15).2.2, gl, cl, df, kd, dc, pm, an, cd, ct, bt⟩, sl⟩
noncomputable def ob33 : Params → Obj := by refine (?f : ∀ (c : Value) (d : Option Addr) (sl : Array (Option Value)) (xs : Array Value) (n : Nat), (∀ P, ((kz.heap_1 P).getD 33 default).2 = ⟨c, d, .seq xs n, sl⟩) → Params → Obj) _ _ _ _ _ (fun _ => rfl); exact fun c d sl xs n _ P => ⟨c, d, .seq xs n, sl⟩
noncomputable def ob34 : Params → Obj := by refine (?f : ∀ (c : Value) (d : Option Addr) (sl : Array (Option Value)) (xs : Array Value) (n : Nat), (∀ P, ((kz.heap_1 P).getD 34 default).2 = ⟨c, d, .seq xs n, sl⟩) → Params → Obj) _ _ _ _ _ (fun _ => rfl); exact fun c d sl xs n _ P => ⟨c, d, .seq xs n, sl⟩
noncomputable def ob35 : Params → Obj := by refine (?f : ∀ (c : Value) (d : Option Addr) (sl : Array (Option Value)) (xs : Array Value) (n : Nat), (∀ P, ((kz.heap_1 P).getD 35 default).2 = ⟨c, d, .seq xs n, sl⟩) → Params → Obj) _ _ _ _ _ (fun _ => rfl); exact fun c d sl xs n _ P => ⟨c, d, .seq xs n, sl⟩
noncomputable def ob36 : Params → Obj := by refine (?f : ∀ (c : Value) (d : Option Addr) (sl : Array (Option Value)) (vs : Array Value), (∀ P, ((kz.heap_1 P).getD 36 default).2 = ⟨c, d, .fields vs, sl⟩) → Params → Obj) _ _ _ _ (fun _ => rfl); exact fun c d sl vs _ P => ⟨c, d, .fields vs, sl⟩
noncomputable def ob37 : Params → Obj := by refine (?f : ∀ (c : Value) (d : Option Addr) (sl : Array (Option Value)) (nm qn : Str) (pa : Arguments) (bo : FuncBody) (sc : Scope) (gl : Addr) (cl : List (Str × Addr)) (df kd dc pm : Value) (an : Option Addr) (cd ct : Value) (bt : Addr), (∀ P, ((kz.heap_1 P).getD 37 default).2 = ⟨c, d, .func ⟨nm, qn, pa, bo, sc, gl, cl, df, kd, dc, pm, an, cd, ct, bt⟩, sl⟩) → Params → Obj) _ _ _ _ _ _ _ _ _ _ _ _ _ _ _ _ _ _ (fun _ => rfl); exact fun c d sl nm qn _ _ _ gl cl df kd dc pm an cd ct bt _ _ => ⟨c, d, .func ⟨nm, qn, (fdOf st17).1, (fdOf st17).2.1, (fdOf st17).2.2, gl, cl, df, kd, dc, pm, an, cd, ct, bt⟩, sl⟩
noncomputable def ob38 : Params → Obj := by refine (?f : ∀ (c : Value) (d : Option Addr) (sl : Array (Option Value)) (xs : Array Value) (n : Nat), (∀ P, ((kz.heap_1 P).getD 38 default).2 = ⟨c, d, .seq xs n, sl⟩) → Params → Obj) _ _ _ _ _ (fun _ => rfl); exact fun c d sl xs n _ P => ⟨c, d, .seq xs n, sl⟩
noncomputable def ob39 : Params → Obj := by refine (?f : ∀ (c : Value) (d : Option Addr) (sl : Array (Option Value)) (vs : Array Value), (∀ P, ((kz.heap_1 P).getD 39 default).2 = ⟨c, d, .fields vs, sl⟩) → Params → Obj) _ _ _ _ (fun _ => rfl); exact fun c d sl vs _ P => ⟨c, d, .fields vs, sl⟩
noncomputable def ob40 : Params → Obj := by refine (?f : ∀ (c : Value) (d : Option Addr) (sl : Array (Option Value)) (nm qn : Str) (pa : Arguments) (bo : FuncBody) (sc : Scope) (gl : Addr) (cl : List (Str × Addr)) (df kd dc pm : Value) (an : Option Addr) (cd ct : Value) (bt : Addr), (∀ P, ((kz.heap_1 P).getD 40 default).2 = ⟨c, d, .func ⟨nm, qn, pa, bo, sc, gl, cl, df, kd, dc, pm, an, cd, ct, bt⟩, sl⟩) → Params → Obj) _ _ _ _ _ _ _ _ _ _ _ _ _ _ _ _ _ _ (fun _ => rfl); exact fun c d sl nm qn _ _ _ gl cl df kd dc pm an cd ct bt _ _ => ⟨c, d, .func ⟨nm, qn, (fdOf st18).1, (fdOf st18).2.1, (fdOf st18).2.2, gl, cl, df, kd, dc, pm, an, cd, ct, bt⟩, sl⟩
noncomputable def ob41 : Params → Obj := by refine (?f : ∀ (c : Value) (d : Option Addr) (sl : Array (Option Value)) (xs : Array Value) (n : Nat), (∀ P, ((kz.heap_1 P).getD 41 default).2 = ⟨c, d, .seq xs n, sl⟩) → Params → Obj) _ _ _ _ _ (fun _ => rfl); exact fun c d sl xs n _ P => ⟨c, d, .seq xs n, sl⟩
noncomputable def ob42 : Params → Obj := by refine (?f : ∀ (c : Value) (d : Option Addr) (sl : Array (Option Value)) (xs : Array Value) (n : Nat), (∀ P, ((kz.heap_1 P).getD 42 default).2 = ⟨c, d, .seq xs n, sl⟩) → Params → Obj) _ _ _ _ _ (fun _ => rfl); exact fun c d sl xs n _ P => ⟨c, d, .seq xs n, sl⟩
noncomputable def ob43 : Params → Obj := by refine (?f : ∀ (c : Value) (d : Option Addr) (sl : Array (Option Value)) (xs : Array Value) (n : Nat), (∀ P, ((kz.heap_1 P).getD 43 default).2 = ⟨c, d, .seq xs n, sl⟩) → Params → Obj) _ _ _ _ _ (fun _ => rfl); exact fun c d sl xs n _ P => ⟨c, d, .seq xs n, sl⟩
noncomputable def ob44 : Params → Obj := by refine (?f : ∀ (c : Value) (d : Option Addr) (sl : Array (Option Value)) (vs : Array Value), (∀ P, ((kz.heap_1 P).getD 44 default).2 = ⟨c, d, .fields vs, sl⟩) → Params → Obj) _ _ _ _ (fun _ => rfl); exact fun c d sl vs _ P => ⟨c, d, .fields vs, sl⟩
noncomputable def ob45 : Params → Obj := by refine (?f : ∀ (c : Value) (d : Option Addr) (sl : Array (Option Value)) (nm qn : Str) (pa : Arguments) (bo : FuncBody) (sc : Scope) (gl : Addr) (cl : List (Str × Addr)) (df kd dc pm : Value) (an : Option Addr) (cd ct : Value) (bt : Addr), (∀ P, ((kz.heap_1 P).getD 45 default).2 = ⟨c, d, .func ⟨nm, qn, pa, bo, sc, gl, cl, df, kd, dc, pm, an, cd, ct, bt⟩, sl⟩) → Params → Obj) _ _ _ _ _ _ _ _ _ _ _ _ _ _ _ _ _ _ (fun _ => rfl); exact fun c d sl nm qn _ _ _ gl cl df kd dc pm an cd ct bt _ _ => ⟨c, d, .func ⟨nm, qn, (fdOf st19).1, (fdOf st19).2.1, (fdOf st19).2.2, gl, cl, df, kd, dc, pm, an, cd, ct, bt⟩, sl⟩
noncomputable def ob46 : Params → Obj := by refine (?f : ∀ (c : Value) (d : Option Addr) (sl : Array (Option Value)) (xs : Array Value) (n : Nat), (∀ P, ((kz.heap_1 P).getD 46 default).2 = ⟨c, d, .seq xs n, sl⟩) → Params → Obj) _ _ _ _ _ (fun _ => rfl); exact fun c d sl xs n _ P => ⟨c, d, .seq xs n, sl⟩
noncomputable def ob47 : Params → Obj := by refine (?f : ∀ (c : Value) (d : Option Addr) (sl : Array (Option Value)) (vs : Array Value), (∀ P, ((kz.heap_1 P).getD 47 default).2 = ⟨c, d, .fields vs, sl⟩) → Params → Obj) _ _ _ _ (fun _ => rfl); exact fun c d sl vs _ P => ⟨c, d, .fields vs, sl⟩
noncomputable def ob48 : Params → Obj := by refine (?f : ∀ (c : Value) (d : Option Addr) (sl : Array (Option Value)) (nm qn : Str) (pa : Arguments) (bo : FuncBody) (sc : Scope) (gl : Addr) (cl : List (Str × Addr)) (df kd dc pm : Value) (an : Option Addr) (cd ct : Value) (bt : Addr), (∀ P, ((kz.heap_1 P).getD 48 default).2 = ⟨c, d, .func ⟨nm, qn, pa, bo, sc, gl, cl, df, kd, dc, pm, an, cd, ct, bt⟩, sl⟩) → Params → Obj) _ _ _ _ _ _ _ _ _ _ _ _ _ _ _ _ _ _ (fun _ => rfl); exact fun c d sl nm qn _ _ _ gl cl df kd dc pm an cd ct bt _ _ => ⟨c, d, .func ⟨nm, qn, (fdOf st20).1, (fdOf st20).2.1, (fdOf st20).2.2, gl, cl, df, kd, dc, pm, an, cd, ct, bt⟩, sl⟩
noncomputable def ob49 : Params → Obj := by refine (?f : ∀ (c : Value) (d : Option Addr) (sl : Array (Option Value)) (xs : Array Value) (n : Nat), (∀ P, ((kz.heap_1 P).getD 49 default).2 = ⟨c, d, .seq xs n, sl⟩) → Params → Obj) _ _ _ _ _ (fun _ => rfl); exact fun c d sl xs n _ P => ⟨c, d, .seq xs n, sl⟩
noncomputable def ob50 : Params → Obj := by refine (?f : ∀ (c : Value) (d : Option Addr) (sl : Array (Option Value)) (xs : Array Value) (n : Nat), (∀ P, ((kz.heap_1 P).getD 50 default).2 = ⟨c, d, .seq xs n, sl⟩) → Params → Obj) _ _ _ _ _ (fun _ => rfl); exact fun c d sl xs n _ P => ⟨c, d, .seq xs n, sl⟩
noncomputable def ob51 : Params → Obj := by refine (?f : ∀ (c : Value) (d : Option Addr) (sl : Array (Option Value)) (xs : Array Value) (n : Nat), (∀ P, ((kz.heap_1 P).getD 51 default).2 = ⟨c, d, .seq xs n, sl⟩) → Params → Obj) _ _ _ _ _ (fun _ => rfl); exact fun c d sl xs n _ P => ⟨c, d, .seq xs n, sl⟩
noncomputable def ob52 : Params → Obj := by refine (?f : ∀ (c : Value) (d : Option Addr) (sl : Array (Option Value)) (vs : Array Value), (∀ P, ((kz.heap_1 P).getD 52 default).2 = ⟨c, d, .fields vs, sl⟩) → Params → Obj) _ _ _ _ (fun _ => rfl); exact fun c d sl vs _ P => ⟨c, d, .fields vs, sl⟩
noncomputable def ob53 : Params → Obj := by refine (?f : ∀ (c : Value) (d : Option Addr) (sl : Array (Option Value)) (nm qn : Str) (pa : Arguments) (bo : FuncBody) (sc : Scope) (gl : Addr) (cl : List (Str × Addr)) (df kd dc pm : Value) (an : Option Addr) (cd ct : Value) (bt : Addr), (∀ P, ((kz.heap_1 P).getD 53 default).2 = ⟨c, d, .func ⟨nm, qn, pa, bo, sc, gl, cl, df, kd, dc, pm, an, cd, ct, bt⟩, sl⟩) → Params → Obj) _ _ _ _ _ _ _ _ _ _ _ _ _ _ _ _ _ _ (fun _ => rfl); exact fun c d sl nm qn _ _ _ gl cl df kd dc pm an cd ct bt _ _ => ⟨c, d, .func ⟨nm, qn, (fdOf st21).1, (fdOf st21).2.1, (fdOf st21).2.2, gl, cl, df, kd, dc, pm, an, cd, ct, bt⟩, sl⟩
noncomputable def ob54 : Params → Obj := by refine (?f : ∀ (c : Value) (d : Option Addr) (sl : Array (Option Value)) (xs : Array Value) (n : Nat), (∀ P, ((kz.heap_1 P).getD 54 default).2 = ⟨c, d, .seq xs n, sl⟩) → Params → Obj) _ _ _ _ _ (fun _ => rfl); exact fun c d sl xs n _ P => ⟨c, d, .seq xs n, sl⟩
noncomputable def ob55 : Params → Obj := by refine (?f : ∀ (c : Value) (d : Option Addr) (sl : Array (Option Value)) (xs : Array Value) (n : Nat), (∀ P, ((kz.heap_1 P).getD 55 default).2 = ⟨c, d, .seq xs n, sl⟩) → Params → Obj) _ _ _ _ _ (fun _ => rfl); exact fun c d sl xs n _ P => ⟨c, d, .seq xs n, sl⟩
noncomputable def ob56 : Params → Obj := by refine (?f : ∀ (c : Value) (d : Option Addr) (sl : Array (Option Value)) (xs : Array Value) (n : Nat), (∀ P, ((kz.heap_1 P).getD 56 default).2 = ⟨c, d, .seq xs n, sl⟩) → Params → Obj) _ _ _ _ _ (fun _ => rfl); exact fun c d sl xs n _ P => ⟨c, d, .seq xs n, sl⟩
noncomputable def ob57 : Params → Obj := by refine (?f : ∀ (c : Value) (d : Option Addr) (sl : Array (Option Value)) (vs : Array Value), (∀ P, ((kz.heap_1 P).getD 57 default).2 = ⟨c, d, .fields vs, sl⟩) → Params → Obj) _ _ _ _ (fun _ => rfl); exact fun c d sl vs _ P => ⟨c, d, .fields vs, sl⟩
noncomputable def ob58 : Params → Obj := by refine (?f : ∀ (c : Value) (d : Option Addr) (sl : Array (Option Value)) (nm qn : Str) (pa : Arguments) (bo : FuncBody) (sc : Scope) (gl : Addr) (cl : List (Str × Addr)) (df kd dc pm : Value) (an : Option Addr) (cd ct : Value) (bt : Addr), (∀ P, ((kz.heap_1 P).getD 58 default).2 = ⟨c, d, .func ⟨nm, qn, pa, bo, sc, gl, cl, df, kd, dc, pm, an, cd, ct, bt⟩, sl⟩) → Params → Obj) _ _ _ _ _ _ _ _ _ _ _ _ _ _ _ _ _ _ (fun _ => rfl); exact fun c d sl nm qn _ _ _ gl cl df kd dc pm an cd ct bt _ _ => ⟨c, d, .func ⟨nm, qn, (fdOf st22).1, (fdOf st22).2.1, (fdOf st22).2.2, gl, cl, df, kd, dc, pm, an, cd, ct, bt⟩, sl⟩
noncomputable def ob59 : Params → Obj := by refine (?f : ∀ (c : Value) (d : Option Addr) (sl : Array (Option Value)) (xs : Array Value) (n : Nat), (∀ P, ((kz.heap_1 P).getD 59 default).2 = ⟨c, d, .seq xs n, sl⟩) → Params → Obj) _ _ _ _ _ (fun _ => rfl); exact fun c d sl xs n _ P => ⟨c, d, .seq xs n, sl⟩
noncomputable def ob60 : Params → Obj := by refine (?f : ∀ (c : Value) (d : Option Addr) (sl : Array (Option Value)) (vs : Array Value), (∀ P, ((kz.heap_1 P).getD 60 default).2 = ⟨c, d, .fields vs, sl⟩) → Params → Obj) _ _ _ _ (fun _ => rfl); exact fun c d sl vs _ P => ⟨c, d, .fields vs, sl⟩
noncomputable def ob61 : Params → Obj := by refine (?f : ∀ (c : Value) (d : Option Addr) (sl : Array (Option Value)) (nm qn : Str) (pa : Arguments) (bo : FuncBody) (sc : Scope) (gl : Addr) (cl : List (Str × Addr)) (df kd dc pm : Value) (an : Option Addr) (cd ct : Value) (bt : Addr), (∀ P, ((kz.heap_1 P).getD 61 default).2 = ⟨c, d, .func ⟨nm, qn, pa, bo, sc, gl, cl, df, kd, dc, pm, an, cd, ct, bt⟩, sl⟩) → Params → Obj) _ _ _ _ _ _ _ _ _ _ _ _ _ _ _ _ _ _ (fun _ => rfl); exact fun c d sl nm qn _ _ _ gl cl df kd dc pm an cd ct bt _ _ => ⟨c, d, .func ⟨nm, qn, (fdOf st23).1, (fdOf st23).2.1, (fdOf st23).2.2, gl, cl, df, kd, dc, pm, an, cd, ct, bt⟩, sl⟩
noncomputable def kc0 : Params → Frag := fun P => [(nat_lit 2, ob0 P), (nat_lit 3, ob1 P), (nat_lit 6, ob2 P), (nat_lit 15, ob3 P), (nat_lit 17, ob4 P), (nat_lit 18, ob5 P), (nat_lit 20, ob6 P), (nat_lit 21, ob7 P)]
noncomputable def kc1 : Params → Frag := fun P => [(nat_lit 22, ob8 P), (nat_lit 24, ob9 P), (nat_lit 25, ob10 P), (nat_lit 27, ob11 P), (nat_lit 28, ob12 P), (nat_lit 29, ob13 P), (nat_lit 31, ob14 P), (nat_lit 32, ob15 P)]
noncomputable def kc2 : Params → Frag := fun P => [(nat_lit 34, ob16 P), (nat_lit 35, ob17 P), (nat_lit 36, ob18 P), (nat_lit 38, ob19 P), (nat_lit 39, ob20 P), (nat_lit 41, ob21 P), (nat_lit 42, ob22 P), (nat_lit 43, ob23 P)]
noncomputable def kc3 : Params → Frag := fun P => [(nat_lit 45, ob24 P), (nat_lit 46, ob25 P), (nat_lit 48, ob26 P), (nat_lit 49, ob27 P), (nat_lit 50, ob28 P), (nat_lit 52, ob29 P), (nat_lit 53, ob30 P), (nat_lit 55, ob31 P)]
noncomputable def kc4 : Params → Frag := fun P => [(nat_lit 56, ob32 P), (nat_lit 57, ob33 P), (nat_lit 59, ob34 P), (nat_lit 60, ob35 P), (nat_lit 62, ob36 P), (nat_lit 63, ob37 P), (nat_lit 64, ob38 P), (nat_lit 67, ob39 P)]
noncomputable def kc5 : Params → Frag := fun P => [(nat_lit 68, ob40 P), (nat_lit 69, ob41 P), (nat_lit 71, ob42 P), (nat_lit 72, ob43 P), (nat_lit 74, ob44 P), (nat_lit 75, ob45 P), (nat_lit 76, ob46 P), (nat_lit 79, ob47 P)]
noncomputable def kc6 : Params → Frag := fun P => [(nat_lit 80, ob48 P), (nat_lit 81, ob49 P), (nat_lit 83, ob50 P), (nat_lit 84, ob51 P), (nat_lit 86, ob52 P), (nat_lit 87, ob53 P), (nat_lit 88, ob54 P), (nat_lit 90, ob55 P)]
noncomputable def kc7 : Params → Frag := fun P => [(nat_lit 91, ob56 P), (nat_lit 93, ob57 P), (nat_lit 94, ob58 P), (nat_lit 95, ob59 P), (nat_lit 98, ob60 P), (nat_lit 99, ob61 P)]
noncomputable def kh : Params → Frag := fun P => kc0 P ++ (kc1 P ++ (kc2 P ++ (kc3 P ++ (kc4 P ++ (kc5 P ++ (kc6 P ++ (kc7 P)))))))
theorem kh_eq : kh = kz.heap_1 := by kernel_rfl
theorem rw_eq : rwm = PySem.Challenge.rw_pe0154_01 := by kernel_rfl
section
local macro_rules | `(tactic| k_head) => `(tactic| o_head (kHook Mine.kh [2, 3, 6, 15, 17, 18, 20, 21, 22, 24, 25, 27, 28, 29, 31, 32, 34, 35, 36, 38, 39, 41, 42, 43, 45, 46, 48, 49, 50, 52, 53, 55, 56, 57, 59, 60, 62, 63, 64, 67, 68, 69, 71, 72, 74, 75, 76, 79, 80, 81, 83, 84, 86, 87, 88, 90, 91, 93, 94, 95, 98, 99] (fun _ => by kernel_rfl)))
open_top hd for rwm
end
end Mine
end
section
open PySem PySem.W PyProof.Rows
namespace Mine
/-! small arithmetic, each once: the walk's conditions are shown by these ahead of the general tactic, which writes long proofs -/
theorem ar1 (n : Nat) : (0 : Int) ≤ (n : Int) := Int.natCast_nonneg n
theorem ar2 (n : Nat) : (0 : Int) ≤ (n : Int) + 1 := by omega
theorem ar3 (n : Nat) : (-9223372036854775808 : Int) < (n : Int) := by omega
theorem ar3b (n : Nat) : -(2 : Int) ^ 63 ≤ (n : Int) := by omega
theorem ar3c (n : Nat) : -(2 : Int) ^ 62 ≤ (n : Int) := by omega
theorem ar4 (a b : Nat) : -(a : Int) ≤ (b : Int) := by omega
theorem ar5 {n m : Nat} (h : n < m) : (n : Int) < (m : Int) := Int.ofNat_lt.mpr h
theorem ar5b {n m k : Nat} (h : n < m) (e : k = m) : (n : Int) < (k : Int) := by omega
theorem ar6 {n m c : Nat} (h : n < m) (h2 : m ≤ @OfNat.ofNat Nat c (instOfNatNat c)) (h3 : Nat.ble c 1000000 = true) : (n : Int) < 9223372036854775808 := by
  have : c ≤ 1000000 := Nat.le_of_ble_eq_true h3
  have h2' : m ≤ c := h2
  omega
theorem ar6b {n m c : Nat} (h : n < m) (h2 : m ≤ @OfNat.ofNat Nat c (instOfNatNat c)) (h3 : Nat.ble c 1000000 = true) : (n : Int) < (2 : Int) ^ 63 := ar6 h h2 h3
theorem ar7 {n c : Nat} (h2 : n ≤ @OfNat.ofNat Nat c (instOfNatNat c)) (h3 : Nat.ble c 1000000 = true) : (n : Int) < 9223372036854775808 := by
  have : c ≤ 1000000 := Nat.le_of_ble_eq_true h3
  have h2' : n ≤ c := h2
  omega
theorem ar7b {n c : Nat} (h2 : n ≤ @OfNat.ofNat Nat c (instOfNatNat c)) (h3 : Nat.ble c 1000000 = true) : (n : Int) < (2 : Int) ^ 63 := ar7 h2 h3
theorem ar7c {n c : Nat} (h2 : n ≤ @OfNat.ofNat Nat c (instOfNatNat c)) (h3 : Nat.ble c 1000000 = true) : (n : Int) < (2 : Int) ^ 62 := by
  have : c ≤ 1000000 := Nat.le_of_ble_eq_true h3
  have h2' : n ≤ c := h2
  omega
theorem ar8 {n c d : Nat} (h : n ≤ @OfNat.ofNat Nat c (instOfNatNat c)) (h3 : Nat.ble c d = true) : n ≤ @OfNat.ofNat Nat d (instOfNatNat d) := Nat.le_trans h (Nat.le_of_ble_eq_true h3)
theorem ar8b {n m c d : Nat} (e : m = n) (h : n ≤ @OfNat.ofNat Nat c (instOfNatNat c)) (h3 : Nat.ble c d = true) : m ≤ @OfNat.ofNat Nat d (instOfNatNat d) := e ▸ ar8 h h3
theorem ar8c {n m c d : Nat} (e : n = m) (h : n ≤ @OfNat.ofNat Nat c (instOfNatNat c)) (h3 : Nat.ble c d = true) : m ≤ @OfNat.ofNat Nat d (instOfNatNat d) := e ▸ ar8 h h3
theorem ar9 (n : Nat) : ((n : Int)).toNat = n := rfl
theorem ar9b (n : Nat) : ((n : Int) + 1).toNat = n + 1 := rfl
theorem ar10 {n m : Nat} (h : n < m) : (n : Int) + 1 ≤ (m : Int) := by omega
theorem ar11 {n m : Nat} (h : n < m) : (n : Int) ≤ (m : Int) := Int.ofNat_le.mpr (Nat.le_of_lt h)
theorem ar11b {n m : Nat} (h : n ≤ m) : (n : Int) ≤ (m : Int) := Int.ofNat_le.mpr h
theorem arD {dp n m l : Nat} (h : dp + n < l) (h2 : Nat.ble m n = true) : dp + m < l := Nat.lt_of_le_of_lt (Nat.add_le_add_left (Nat.le_of_ble_eq_true h2) _) h
theorem arU {un n m l : Nat} (h : un + 10 * n < l) (h2 : Nat.ble m n = true) : un + 10 * m < l := Nat.lt_of_le_of_lt (Nat.add_le_add_left (Nat.mul_le_mul_left _ (Nat.le_of_ble_eq_true h2)) _) h
theorem arL {a b : Nat} (h : a < b) : a ≠ b := Nat.ne_of_lt h
theorem arG {a b : Nat} (h : b < a) : a ≠ b := Nat.ne_of_gt h
theorem ar_min (a b : Int) : (if b < a then b else a) = min a b := by split <;> omega
theorem and_el {a b c : Prop} (h : a ∧ b) (k : a → b → c) : c := k h.1 h.2
theorem pr3 {A B C : Type} {T : A × B × C → Prop} (h : ∀ a b c, T (a, b, c)) : ∀ x, T x := fun x => h x.1 x.2.1 x.2.2
theorem pr4 {A B C D : Type} {T : A × B × C × D → Prop} (h : ∀ a b c d, T (a, b, c, d)) : ∀ x, T x := fun x => h x.1 x.2.1 x.2.2.1 x.2.2.2
theorem pr8 {A B C D E F G H : Type} {T : A × B × (C × D) × (E × F) × (G × H) → Prop} (h : ∀ a b c d e f g i, T (a, b, (c, d), (e, f), (g, i))) : ∀ x, T x := fun x => h x.1 x.2.1 x.2.2.1.1 x.2.2.1.2 x.2.2.2.1.1 x.2.2.2.1.2 x.2.2.2.2.1 x.2.2.2.2.2
theorem sm_if {α : Type} {z a : Str} [i : Decidable (z = a)] {v r b : α} (h : z ≠ a) (k : r = b) : @ite α (z = a) i v r = b := by rw [if_neg h]; exact k
theorem sm_ifc {α : Type} {c : Bool} [i : Decidable (c = true)] {v r b : α} (h : c = false) (k : r = b) : @ite α (c = true) i v r = b := by rw [if_neg (by rw [h]; decide)]; exact k
theorem sm_ne {l : List Str} {z a : Str} (h : l.contains z = false) (h2 : l.contains a = true) : z ≠ a := by
  rintro rfl; rw [h] at h2; cases h2
theorem sm_to {z a b : Str} (h : z ≠ a) (e : a = b) : z ≠ b := e ▸ h
theorem sm_sub {l l' : List Str} {z : Str} (h3 : l'.contains z = false) (hs : l.all (fun a => l'.contains a) = true) : l.contains z = false := by
  cases h : l.contains z with
  | false => rfl
  | true =>
    have hm : z ∈ l := by simpa using h
    have := List.all_eq_true.mp hs z hm
    rw [h3] at this; cases this
end Mine
end
open PySem PySem.W PyProof.Rows in
local macro_rules | `(tactic| omega) => `(tactic| first | (with_reducible (first | assumption | decide | exact Mine.ar8 (by assumption) rfl | exact Mine.arD (by assumption) rfl | exact Mine.ar5b (by assumption) (by assumption) | exact Mine.ar7 (by assumption) rfl | exact Mine.ar4 _ _ | exact Mine.ar1 _ | exact Nat.le_trans (Nat.min_le_right _ _) (by lia) | exact Nat.le_trans (Nat.min_le_left _ _) (by lia))) | lia | omega +splitDisjunctions)
section
open PySem PySem.W PySem.Calls PyProof.Rows
set_option maxRecDepth 100000
set_option maxHeartbeats 8000000
namespace Mine

noncomputable def Keep (h h' : Heap) : Prop := ∀ b o, h.get? b = some o → h'.get? b = some o
theorem Keep.rfl' {h : Heap} : Keep h h := fun _ _ e => e
theorem Keep.trans {a b c : Heap} (x : Keep a b) (y : Keep b c) : Keep a c := fun _ _ e => y _ _ (x _ _ e)

noncomputable abbrev AA (dp un : Nat) (fr : Option (List Env)) (gd : Option (List Code)) : Around := { handled := none, depth := dp, frames := fr, guards := gd, units := un }

structure Ok (w : World) (mean : ExcName → Option Value) (mg mb : Str → Option Value) (h : Heap) : Prop where
  X : (kz.heap_1 w.params).In h
  T : Top hd.view_39 (looseW hd.view_39 [Str.ofString "ONE_THIRD", Str.ofString "ONE_SIXTH", Str.ofString "TWO_THIRD"]) mean mg mb h
theorem Ok.keep {w : World} {mean : ExcName → Option Value} {mg mb : Str → Option Value} {h h' : Heap} (o : Ok w mean mg mb h) (k : Keep h h') : Ok w mean mg mb h' := ⟨o.X.keeps k, o.T.keeps k⟩

/-- what a call of the text's def at f gives: it ends, keeps every object that stood, and hands back what Post says -/
noncomputable def Claim (w : World) (mean : ExcName → Option Value) (mg mb : Str → Option Value) (n : Nat) (f : Addr) (vs : List Value) (Pre : Heap → Prop) (Post : Heap → Heap → Value → Prop) : Prop :=
  ∀ (dp un : Nat) (fr : Option (List Env)) (gd : Option (List Code)) (s : Shared) (Q E : Value → Shared → Prop),
    Ok w mean mg mb s.heap → dp + n < recursionLimit → un + 10 * n < cLine → Pre s.heap →
    (∀ r h' tk', Keep s.heap h' → Post s.heap h' r → Q r { s with heap := h', toks := tk' }) →
    wpAny (model rwm.row.prog w) (AA dp un fr gd) (call (.ref f) vs) Q E s

/-- a way's end in a body -/
noncomputable def Done (s : Shared) (Post : Heap → Value → Prop) (fl : Flow) (s' : Shared) : Prop :=
  ∃ h' tk', s' = { s with heap := h', toks := tk' } ∧ Keep s.heap h' ∧ Post h' (match fl with | .ret v => v | _ => .none)

theorem enter {w : World} {mean : ExcName → Option Value} {mg mb : Str → Option Value} {n : Nat} {name qual : Str} {params : Arguments} {body : List Stmt} {scope : Scope} {dV kV doc pm cdv ct oc : Value} {an od : Option Addr} {osl : Array (Option Value)} {f : Addr}
    {vs : List Value} {Pre : Heap → Prop} {Post : Heap → Heap → Value → Prop}
    (ho : (kz.heap_1 w.params).lookup f = some ⟨oc, od, .func (fnOf name qual params body scope dV kV doc pm an cdv ct), osl⟩) (hcd : codeIn (kz.heap_1 w.params) cdv qual = true)
    (hbind : bindArgs (fnOf name qual params body scope dV kV doc pm an cdv ct) ⟨vs, []⟩ = pure ((params.args.map (·.arg)).zip vs)) (hloc : ∀ y ∈ (params.args.map (·.arg)).zip vs, scope.names.lookup y.1 = some .local)
    (h : ∀ (dp un : Nat) (fr : Option (List Env)) (gd : Option (List Code)) (s : Shared) L h₁ tk, Pre s.heap → Fr s.heap L h₁ (fun y => ((params.args.map (·.arg)).zip vs).reverse.lookup y) → News s.heap L h₁ [] → (kz.heap_1 w.params).In s.heap →
      Top hd.view_39 (looseW hd.view_39 [Str.ofString "ONE_THIRD", Str.ofString "ONE_SIXTH", Str.ofString "TWO_THIRD"]) mean mg mb s.heap → dp + n < recursionLimit → un + 10 * n < cLine →
      wpAny (model rwm.row.prog w) (AA dp un fr gd) (execs body (envOf qual scope L f cdv))
        (Done s (Post s.heap)) (fun _ _ => False) { s with heap := h₁, toks := tk })
    (hco : scope.isCoroutine = false) (hgen : scope.isGenerator = false) (hk : scope.kind = .function) (hcell : ∀ x ∈ scope.names, x.2 ≠ .cell) :
    Claim w mean mg mb (n + 1) f vs Pre Post := by
  intro dp un fr gd s Q E O hdp hun hpre hret
  refine wpAny_call ?_
  refine codeAny_call_def (fd := fnOf name qual params body scope dV kV doc pm an cdv ct) (body := body) (binds := (params.args.map (·.arg)).zip vs) (by show dp < _; omega) (O.X _ _ ho) rfl O.T.nolimit (codeRec_of O.X hcd) rfl (BindsTo.of_eq hbind) hcell hloc (fun h₁ hns hk₁ => ?_) hco hgen hk
  refine wpAny_mono (h (dp + 1) (un + 3) (fr.map (envOf qual scope s.heap.objs.size f cdv :: ·)) gd s s.heap.objs.size h₁ _ hpre ⟨hns, hk₁, Nat.le_refl _⟩ (fun _ hp => nomatch hp) O.X O.T (by omega) (by omega)) (fun fl s' hd => ?_) (fun _ _ x => x.elim)
  obtain ⟨h', tk', rfl, hk', hp⟩ := hd
  exact hret _ h' tk' hk' hp

theorem done_ret {s : Shared} {Post : Heap → Value → Prop} {v : Value} {h' : Heap} {tk' : Nat} {L : Addr} {m : Str → Option Value} (F : Fr s.heap L h' m) (hp : Post h' v) :
    Done s Post (.ret v) { s with heap := h', toks := tk' } := ⟨h', tk', rfl, F.keep, hp⟩
theorem done_next {s : Shared} {Post : Heap → Value → Prop} {h' : Heap} {tk' : Nat} {L : Addr} {m : Str → Option Value} (F : Fr s.heap L h' m) (hp : Post h' .none) :
    Done s Post .next { s with heap := h', toks := tk' } := ⟨h', tk', rfl, F.keep, hp⟩


/-- a def one of whose names is a cell -/
theorem enterC {w : World} {mean : ExcName → Option Value} {mg mb : Str → Option Value} {n : Nat} {name qual : Str} {params : Arguments} {body : List Stmt} {scope : Scope} {dV kV doc pm cdv ct oc : Value} {an od : Option Addr} {osl : Array (Option Value)} {f : Addr}
    {vs : List Value} {Pre : Heap → Prop} {Post : Heap → Heap → Value → Prop} (x : Str)
    (ho : (kz.heap_1 w.params).lookup f = some ⟨oc, od, .func (fnOf name qual params body scope dV kV doc pm an cdv ct), osl⟩) (hcd : codeIn (kz.heap_1 w.params) cdv qual = true)
    (hbind : bindArgs (fnOf name qual params body scope dV kV doc pm an cdv ct) ⟨vs, []⟩ = pure ((params.args.map (·.arg)).zip vs))
    (hkind : ∀ k, ∀ y ∈ (params.args.map (·.arg)).zip vs, scope.names.lookup y.1 = some .local ∨ (scope.names.lookup y.1 = some .cell ∧ ((cellsFrom (k + 1) scope.names []).lookup y.1).isSome = true))
    (hcell : ∀ k, cellsFrom (k + 1) scope.names [] = [(x, k + 1)])
    (h : ∀ (dp un : Nat) (fr : Option (List Env)) (gd : Option (List Code)) (s : Shared) L h₁ tk (oc : Obj), Pre s.heap → Fr s.heap L h₁ (bindL (envX qual scope L f cdv [(x, L + 1)]).kindOf ((params.args.map (·.arg)).zip vs) fun _ => none) → News s.heap L h₁ [(L + 1, oc)] →
      oc.data = .cell (bindC (envX qual scope L f cdv [(x, L + 1)]).kindOf ((params.args.map (·.arg)).zip vs) (fun _ => none) x) → (kz.heap_1 w.params).In s.heap →
      Top hd.view_39 (looseW hd.view_39 [Str.ofString "ONE_THIRD", Str.ofString "ONE_SIXTH", Str.ofString "TWO_THIRD"]) mean mg mb s.heap → dp + n < recursionLimit → un + 10 * n < cLine →
      wpAny (model rwm.row.prog w) (AA dp un fr gd) (execs body (envX qual scope L f cdv [(x, L + 1)]))
        (Done s (Post s.heap)) (fun _ _ => False) { s with heap := h₁, toks := tk })
    (hco : scope.isCoroutine = false) (hgen : scope.isGenerator = false) (hk : scope.kind = .function) :
    Claim w mean mg mb (n + 1) f vs Pre Post := by
  intro dp un fr gd s Q E O hdp hun hpre hret
  refine wpAny_call ?_
  refine codeAny_call_cells (fd := fnOf name qual params body scope dV kV doc pm an cdv ct) (body := body) (binds := (params.args.map (·.arg)).zip vs) (by show dp < _; omega) (O.X _ _ ho) rfl O.T.nolimit (codeRec_of O.X hcd) rfl hbind rfl (hkind _) (fun s₁ hI => ?_) hco hgen hk
  obtain ⟨⟨⟨h₁, tk, rfl⟩, hns, hk₁, hfr⟩, hce, hap, hab⟩ := hI
  have hc0 : (callEnvC (fnOf name qual params body scope dV kV doc pm an cdv ct) s.heap.objs.size f) = envX qual scope s.heap.objs.size f cdv [(x, s.heap.objs.size + 1)] := by
    show envX qual scope s.heap.objs.size f cdv (cellsFrom (s.heap.objs.size + 1) scope.names []) = _
    rw [hcell]
  rw [hc0] at hns hce ⊢
  obtain ⟨ob, hob, hobd⟩ := hce x (s.heap.objs.size + 1) (by simp)
  have hnone : ∀ b, s.heap.objs.size ≤ b → s.heap.get? b = none := by
    intro b hb
    cases hq : s.heap.get? b with
    | none => rfl
    | some o' => exact absurd (Heap.lt_size hq) (Nat.not_lt.mpr hb)
  refine wpAny_mono (h (dp + 1) (un + 3) (fr.map (envX qual scope s.heap.objs.size f cdv [(x, s.heap.objs.size + 1)] :: ·)) gd s s.heap.objs.size h₁ tk ob hpre ⟨hns, hk₁, Nat.le_refl _⟩ ?_ hobd O.X O.T (by omega) (by omega)) (fun fl s' hd => ?_) (fun _ _ x => x.elim)
  · intro p hp
    rw [List.mem_singleton.mp hp]
    exact ⟨hob, by simp, hnone _ (by simp)⟩
  obtain ⟨h', tk', rfl, hk', hp⟩ := hd
  exact hret _ h' tk' hk' hp
end Mine
end
section
open PySem PySem.W PySem.Calls PyProof.Rows PySem.Spec
set_option maxRecDepth 100000
set_option maxHeartbeats 8000000
namespace Mine

noncomputable def Hold (P : Prop) : Prop := P
theorem Hold.out {P : Prop} (h : Hold P) : P := h
theorem Hold.mk {P : Prop} (h : P) : Hold P := h

/-- a walk whose end stays unread: the terms stay small -/
theorem opq {M : Model} {A : Around} {c : Sem Flow} {Q : Flow → Shared → Prop} {E : Value → Shared → Prop} {s : Shared} (h : ∀ Qv : Flow → Shared → Prop, (∀ f s', Q f s' → Qv f s') → wpAny M A c Qv E s) : wpAny M A c Q E s := h Q fun _ _ x => x
/-- a body's walk: its end unread, its surroundings as lets -/
theorem foldE {prog : Program} {w : World} {A : Around} {body : List Stmt} {env : Env} {Q : Flow → Shared → Prop} {E : Value → Shared → Prop} {s : Shared}
    (k : let M' := model prog w; let A' := A; let env' := env; let E' := E; ∀ Qv : Flow → Shared → Prop, (∀ f s', Q f s' → Qv f s') → wpAny M' A' (execs body env') Qv E' s) : wpAny (model prog w) A (execs body env) Q E s := k Q fun _ _ h => h
/-- the end as a let: k_unfold reads it again -/
theorem foldQ {α : Type} {M : Model} {A : Around} {c : Sem α} {Q : α → Shared → Prop} {E : Value → Shared → Prop} {s : Shared} (k : let Q' := Q; wpAny M A c Q' E s) : wpAny M A c Q E s := k
/-- the count of tokens, forgotten now and then: the terms stay small -/
theorem tokm {α : Type} {M : Model} {A : Around} {c : Sem α} {Q : α → Shared → Prop} {E : Value → Shared → Prop} {h : Heap} {g : Array GenState} {d : Drawn} {t : Nat} {o : OsState} (k : ∀ t, wpAny M A c Q E ⟨h, g, d, t, o⟩) : wpAny M A c Q E ⟨h, g, d, t + 1 + 1 + 1, o⟩ := k _
/-- the frame's map as a let: the terms stay small -/
theorem foldM {h₀ h : Heap} {L : Addr} {m : Str → Option Value} {G : Prop} (F : Fr h₀ L h m) (k : let m' := m; Fr h₀ L h m' → G) : G := k F
section
variable {prog : Program} {w : World} {A : Around} {E : Value → Shared → Prop} {s : Shared} {env : Env} {h₀ : Heap} {x : Str} {body : List Stmt} {Q : Flow → Shared → Prop}

noncomputable def TurnP {σ ι : Type} (h₀ : Heap) (L I : Addr) (oI : Obj) (Led : σ → List (Addr × Obj)) (ps : σ → List (Str × Value)) (x : Str) (stored : List Str) (m₀ : Str → Option Value) (P : List ι → σ → Prop) (s : Shared) (Q : Flow → Shared → Prop) (pre' : List ι) (f : Flow) (s₂ : Shared) : Prop :=
  match f with
  | .ret v => Q (.ret v) s₂
  | .brk => Q .next s₂
  | _ => ∃ (c' : σ) (h' : Heap) (tk' : Nat) (m' : Str → Option Value) (news' : List (Addr × Obj)), s₂ = { s with heap := h', toks := tk' } ∧ Fr h₀ L h' m' ∧ News h₀ L h' news' ∧ (∀ p ∈ Led c', p ∈ news') ∧ (I, oI) ∈ news' ∧ (∀ p ∈ Led c', p.1 ≠ I) ∧
      (∀ p ∈ ps c', m' p.1 = some p.2) ∧ (∀ z, z ≠ x → (∀ p ∈ ps c', z ≠ p.1) → stored.contains z = false → m' z = m₀ z) ∧ P pre' c'

theorem for_gen {σ ι : Type} {I : Addr} {fp : List Addr} {Pi : Nat → Value → Prop} {St : Nat → Heap → Prop} {m₀ : Str → Option Value} (items : List ι) (IsItem : ι → Value → Prop)
    (Led : σ → List (Addr × Obj)) (ps : σ → List (Str × Value)) (stored : List Str) (P : List ι → σ → Prop) (c₀ : σ)
    (W : Walks prog w A I fp [I] items.length Pi St) (hP : ∀ i v, Pi i v → ∃ a, items[i]? = some a ∧ IsItem a v)
    (hLf : env.locals ∉ fp) (hI : h₀.get? I = none) (hIf : I ∈ fp) (hSt : ∀ i h, St i h → ∃ o, h.get? I = some o)
    (hfp : ∀ b ∈ fp, b ≠ I → h₀.get? b = none → ∃ o, ∀ c, (b, o) ∈ Led c)
    (hoff : ∀ p ∈ Led c₀, p.1 ≠ I) (hst : St 0 s.heap) (F : Fr h₀ env.locals s.heap m₀) (N : News h₀ env.locals s.heap (Led c₀)) (hk : ∀ p ∈ ps c₀, m₀ p.1 = some p.2) (hp : P [] c₀)
    (turn : ∀ (c : σ) (pre post : List ι) (a : ι) v (u : Str → Option Value) h tk oI, items = pre ++ a :: post → IsItem a v → P pre c → (∀ p ∈ Led c, p.1 ≠ I) →
      Fr h₀ env.locals h (fun y => if y = x then some v else kstB (fun z => if stored.contains z then u z else m₀ z) (ps c) y) → News h₀ env.locals h (Led c ++ [(I, oI)]) →
      wpAny (model prog w) A (execs body env) (TurnP h₀ env.locals I oI Led ps x stored m₀ P s Q (pre ++ [a])) E { s with heap := h, toks := tk })
    (done : ∀ (c : σ) (u : Str → Option Value) h tk, P items c → Fr h₀ env.locals h (fun y => if y = x then u y else kstB (fun z => if stored.contains z then u z else m₀ z) (ps c) y) → News h₀ env.locals h (Led c) → Q .next { s with heap := h, toks := tk }) :
    LoopAtV prog w A h₀ env x body Q E (.ref I) s := by
  let J : Nat → (Str → Option Value) → List (Addr × Obj) → Prop := fun i m nx => ∃ c : σ, nx = Led c ∧ (∀ p ∈ Led c, p.1 ≠ I) ∧ (∀ p ∈ ps c, m p.1 = some p.2) ∧ (∀ z, z ≠ x → (∀ p ∈ ps c, z ≠ p.1) → stored.contains z = false → m z = m₀ z) ∧ P (items.take i) c
  refine ⟨I, fp, [I], items.length, Pi, St, m₀, Led c₀, J, rfl, W, hLf, ?_, ?_, hst, F, N, ⟨c₀, rfl, hoff, hk, fun _ _ _ _ => rfl, by simpa using hp⟩, ?_, ?_⟩
  · intro b hb; rw [List.mem_singleton.mp hb]; exact hI
  · intro p hp' hI'; exact hoff p hp' (List.mem_singleton.mp hI')
  · rintro i v m₁ news₁ s₁ own ⟨hh', tk', rfl⟩ hin hPv ⟨c, rfl, hoffc, h1, h2, hp'⟩ hoff' hown hget hall hs F₁ N₁
    obtain ⟨a, ha, hIa⟩ := hP i v hPv
    have hs' : items.take (i + 1) = items.take i ++ [a] := by simp [List.take_add_one, ha]
    have e : items = items.take i ++ a :: items.drop (i + 1) := by
      have ht := List.take_append_drop (i + 1) items
      rw [hs', List.append_assoc] at ht
      exact ht.symm
    obtain ⟨oI, hoI⟩ := hSt _ _ hs
    have hmem : (I, oI) ∈ own := hall I hIf hI oI hoI
    have N₂ : News h₀ env.locals hh' (Led c ++ [(I, oI)]) := fun p hp => by
      rcases List.mem_append.mp hp with hp | hp
      · exact N₁ p (List.mem_append.mpr (.inr hp))
      · rw [List.mem_singleton.mp hp]; exact N₁ _ (List.mem_append.mpr (.inl hmem))
    refine wpAny_mono (turn c _ _ a v m₁ hh' tk' oI e hIa hp' hoffc (kst_fr h1 h2 F₁) N₂) (fun f s₂ p => ?_) fun _ _ e => e
    have fin : (∃ (c' : σ) (h' : Heap) (tk' : Nat) (m' : Str → Option Value) (news' : List (Addr × Obj)), s₂ = { s with heap := h', toks := tk' } ∧ Fr h₀ env.locals h' m' ∧ News h₀ env.locals h' news' ∧ (∀ p ∈ Led c', p ∈ news') ∧ (I, oI) ∈ news' ∧ (∀ p ∈ Led c', p.1 ≠ I) ∧
      (∀ p ∈ ps c', m' p.1 = some p.2) ∧ (∀ z, z ≠ x → (∀ p ∈ ps c', z ≠ p.1) → stored.contains z = false → m' z = m₀ z) ∧ P (items.take i ++ [a]) c') → LoopStepU h₀ env.locals [I] own (J (i + 1)) { s with heap := hh', toks := tk' } .next s₂ := by
      rintro ⟨c', h', tk'', m', news', rfl, F', N', hn, hI', ho', hk', hr', hP'⟩
      refine ⟨rfl, h', tk'', m', Led c', rfl, F', fun p hp => ?_, fun p hp hq => ho' p hp (List.mem_singleton.mp hq), c', rfl, ho', hk', hr', by rw [hs']; exact hP'⟩
      rcases List.mem_append.mp hp with hp | hp
      · have a1 := N₁ p (List.mem_append.mpr (.inl hp))
        by_cases hpI : p.1 = I
        · have : p = (I, oI) := by
            have := a1.1
            rw [hpI] at this
            exact Prod.ext hpI (Option.some.inj (this.symm.trans hoI))
          rw [this]; exact N' _ hI'
        · obtain ⟨o, ho⟩ := hfp p.1 (hown p hp) hpI a1.2.2
          have a2 := N₁ (p.1, o) (List.mem_append.mpr (.inr (ho c)))
          have : p = (p.1, o) := Prod.ext rfl (Option.some.inj (a1.1.symm.trans a2.1))
          rw [this]; exact N' _ (hn _ (ho c'))
      · exact N' p (hn p hp)
    cases f with
    | ret v => exact .ret p
    | brk => exact .brk p
    | next => exact .next (fin p)
    | cont => exact .cont (fin p)
  · rintro h' tk m' news' F' N' _ ⟨c, rfl, _, h1, h2, hp'⟩
    rw [List.take_length] at hp'
    exact done c m' h' tk hp' (kst_frOut h1 h2 F') N'

/-- a turn's end -/
theorem turn_end {σ ι : Type} {L I : Addr} {oI : Obj} {Led : σ → List (Addr × Obj)} {ps : σ → List (Str × Value)} {stored : List Str} {m₀ m' : Str → Option Value} {P : List ι → σ → Prop} {pre' : List ι} {h' : Heap} {tk' : Nat} {news' : List (Addr × Obj)} (c' : σ)
    (F : Fr h₀ L h' m') (N : News h₀ L h' news') (hn : ∀ p ∈ Led c', p ∈ news') (hI : (I, oI) ∈ news') (ho : ∀ p ∈ Led c', p.1 ≠ I) (hk : ∀ p ∈ ps c', m' p.1 = some p.2)
    (hr : ∀ z, z ≠ x → (∀ p ∈ ps c', z ≠ p.1) → stored.contains z = false → m' z = m₀ z) (hp : P pre' c') :
    TurnP h₀ L I oI Led ps x stored m₀ P s Q pre' .next { s with heap := h', toks := tk' } := ⟨c', h', tk', m', news', rfl, F, N, hn, hI, ho, hk, hr, hp⟩

theorem turn_ret {σ ι : Type} {L I : Addr} {oI : Obj} {Led : σ → List (Addr × Obj)} {ps : σ → List (Str × Value)} {stored : List Str} {m₀ : Str → Option Value} {P : List ι → σ → Prop} {pre' : List ι} {v : Value} {s₂ : Shared}
    (h : Q (.ret v) s₂) : TurnP h₀ L I oI Led ps x stored m₀ P s Q pre' (.ret v) s₂ := h
/-- a list of the base heap -/
theorem for_listB {σ ι : Type} {l : Addr} {vs : List Value} {m₀ : Str → Option Value} (items : List ι) (IsItem : ι → Value → Prop)
    (Led : σ → List (Addr × Obj)) (ps : σ → List (Str × Value)) (stored : List Str) (P : List ι → σ → Prop) (c₀ : σ)
    (hh : A.handled = none) (hl : h₀.IsList l vs.toArray) (hlen : vs.length = items.length) (hit : ∀ (i : Nat) v, vs[i]? = some v → ∃ a, items[i]? = some a ∧ IsItem a v)
    (F : Fr h₀ env.locals s.heap m₀) (N : News h₀ env.locals s.heap (Led c₀)) (hk : ∀ p ∈ ps c₀, m₀ p.1 = some p.2) (hp : P [] c₀)
    (turn : ∀ (c : σ) (pre post : List ι) (a : ι) v (u : Str → Option Value) h tk I oI, items = pre ++ a :: post → IsItem a v → P pre c → (∀ p ∈ Led c, p.1 ≠ I) →
      Fr h₀ env.locals h (fun y => if y = x then some v else kstB (fun z => if stored.contains z then u z else m₀ z) (ps c) y) → News h₀ env.locals h (Led c ++ [(I, oI)]) →
      wpAny (model prog w) A (execs body env) (TurnP h₀ env.locals I oI Led ps x stored m₀ P s Q (pre ++ [a])) E { s with heap := h, toks := tk })
    (done : ∀ (c : σ) (u : Str → Option Value) h tk, P items c → Fr h₀ env.locals h (fun y => if y = x then u y else kstB (fun z => if stored.contains z then u z else m₀ z) (ps c) y) → News h₀ env.locals h (Led c) → Q .next { s with heap := h, toks := tk }) :
    wpAny (model prog w) A (pyIter (.ref l)) (fun it s₂ => LoopAtV prog w A h₀ env x body Q E it s₂) E s := by
  have hls : s.heap.IsList l vs.toArray := hl.at fun o e => F.keep l o e
  obtain ⟨ol, hol, _⟩ := id hl
  have hlt : l < h₀.objs.size := Heap.lt_size hol
  have hne : l ≠ s.heap.objs.size := Nat.ne_of_lt (Nat.lt_trans (Nat.lt_of_lt_of_le hlt F.above) F.ns.lt)
  refine wpAny_pyIter_list hls ?_
  have W := Walks.list (prog := prog) (w := w) hh s.heap.objs.size l hne vs.toArray
  have hlen' : vs.toArray.size = items.length := by simp [hlen]
  rw [hlen'] at W
  refine for_gen items IsItem Led ps stored P c₀ W (fun i v hv => hit i v (by simpa using hv)) ?_ ?_ (by simp) (fun i h st => let ⟨o, ho, _⟩ := st.1; ⟨o, ho⟩) ?_ ?_
    ⟨⟨_, Heap.get?_push_size _ rfl, rfl, rfl⟩, hls.at fun o e => Heap.get?_push_of_some _ e⟩ (F.push _) (fun p hp => ⟨Heap.get?_push_of_some _ (N p hp).1, (N p hp).2⟩) hk hp
    (fun c pre post a v u h tk oI e1 e2 e3 e4 e5 e6 => turn c pre post a v u h tk _ oI e1 e2 e3 e4 e5 e6) done
  · intro hm
    rcases List.mem_cons.mp hm with e | hm
    · exact absurd F.ns.lt (e ▸ Nat.lt_irrefl _)
    · exact absurd (Nat.lt_of_lt_of_le hlt F.above) ((List.mem_singleton.mp hm) ▸ Nat.lt_irrefl _)
  · exact next_is_new F
  · intro b hb hbI hn
    rcases List.mem_cons.mp hb with e | hb
    · exact absurd e hbI
    · rw [List.mem_singleton.mp hb, hol] at hn; cases hn
  · intro p hp' e
    exact absurd (Heap.lt_size (N p hp').1) (e ▸ Nat.lt_irrefl _)

/-- a list of the ledger, that the loop does not change -/
theorem for_listL {σ ι : Type} {l : Addr} {vs : List Value} {nn : Nat} {m₀ : Str → Option Value} (items : List ι) (IsItem : ι → Value → Prop)
    (Led : σ → List (Addr × Obj)) (ps : σ → List (Str × Value)) (stored : List Str) (P : List ι → σ → Prop) (c₀ : σ)
    (hh : A.handled = none) (hl : ∀ c, (l, listOf vs.toArray nn) ∈ Led c) (hlen : vs.length = items.length) (hit : ∀ (i : Nat) v, vs[i]? = some v → ∃ a, items[i]? = some a ∧ IsItem a v)
    (F : Fr h₀ env.locals s.heap m₀) (N : News h₀ env.locals s.heap (Led c₀)) (hk : ∀ p ∈ ps c₀, m₀ p.1 = some p.2) (hp : P [] c₀)
    (turn : ∀ (c : σ) (pre post : List ι) (a : ι) v (u : Str → Option Value) h tk I oI, items = pre ++ a :: post → IsItem a v → P pre c → (∀ p ∈ Led c, p.1 ≠ I) →
      Fr h₀ env.locals h (fun y => if y = x then some v else kstB (fun z => if stored.contains z then u z else m₀ z) (ps c) y) → News h₀ env.locals h (Led c ++ [(I, oI)]) →
      wpAny (model prog w) A (execs body env) (TurnP h₀ env.locals I oI Led ps x stored m₀ P s Q (pre ++ [a])) E { s with heap := h, toks := tk })
    (done : ∀ (c : σ) (u : Str → Option Value) h tk, P items c → Fr h₀ env.locals h (fun y => if y = x then u y else kstB (fun z => if stored.contains z then u z else m₀ z) (ps c) y) → News h₀ env.locals h (Led c) → Q .next { s with heap := h, toks := tk }) :
    wpAny (model prog w) A (pyIter (.ref l)) (fun it s₂ => LoopAtV prog w A h₀ env x body Q E it s₂) E s := by
  have hin := N _ (hl c₀)
  have hls : s.heap.IsList l vs.toArray := ⟨_, hin.1, rfl, _, rfl⟩
  have hlt : l < s.heap.objs.size := Heap.lt_size hin.1
  have hne : l ≠ s.heap.objs.size := Nat.ne_of_lt hlt
  refine wpAny_pyIter_list hls ?_
  have W := Walks.list (prog := prog) (w := w) hh s.heap.objs.size l hne vs.toArray
  have hlen' : vs.toArray.size = items.length := by simp [hlen]
  rw [hlen'] at W
  refine for_gen items IsItem Led ps stored P c₀ W (fun i v hv => hit i v (by simpa using hv)) ?_ ?_ (by simp) (fun i h st => let ⟨o, ho, _⟩ := st.1; ⟨o, ho⟩) ?_ ?_
    ⟨⟨_, Heap.get?_push_size _ rfl, rfl, rfl⟩, hls.at fun o e => Heap.get?_push_of_some _ e⟩ (F.push _) (fun p hp => ⟨Heap.get?_push_of_some _ (N p hp).1, (N p hp).2⟩) hk hp
    (fun c pre post a v u h tk oI e1 e2 e3 e4 e5 e6 => turn c pre post a v u h tk _ oI e1 e2 e3 e4 e5 e6) done
  · intro hm
    rcases List.mem_cons.mp hm with e | hm
    · exact absurd F.ns.lt (e ▸ Nat.lt_irrefl _)
    · exact hin.2.1 (List.mem_singleton.mp hm).symm
  · exact next_is_new F
  · intro b hb hbI hn
    rcases List.mem_cons.mp hb with e | hb
    · exact absurd e hbI
    · rw [List.mem_singleton.mp hb]; exact ⟨_, hl⟩
  · intro p hp' e
    exact absurd (Heap.lt_size (N p hp').1) (e ▸ Nat.lt_irrefl _)

/-- range(a, b) -/
theorem for_range {σ : Type} {r : Addr} {a₀ b₀ : Int} {t₀ u₀ v₀ : Tok} {n : Nat} {m₀ : Str → Option Value}
    (Led : σ → List (Addr × Obj)) (ps : σ → List (Str × Value)) (stored : List Str) (P : Nat → σ → Prop) (c₀ : σ)
    (hh : A.handled = none) (hr : IsRange s.heap r a₀ b₀ 1 t₀ u₀ v₀) (hsmall : Builtin.Range.small a₀ b₀ 1 = true) (hn : Builtin.Range.rangeSize a₀ b₀ 1 = (n : Int))
    (F : Fr h₀ env.locals s.heap m₀) (N : News h₀ env.locals s.heap (Led c₀)) (hk : ∀ p ∈ ps c₀, m₀ p.1 = some p.2) (hp : P 0 c₀)
    (turn : ∀ (c : σ) (i : Nat) t (u : Str → Option Value) h tk I oI, i < n → P i c → (∀ p ∈ Led c, p.1 ≠ I) →
      Fr h₀ env.locals h (fun y => if y = x then some (.int (a₀ + i) t) else kstB (fun z => if stored.contains z then u z else m₀ z) (ps c) y) → News h₀ env.locals h (Led c ++ [(I, oI)]) →
      wpAny (model prog w) A (execs body env) (TurnP h₀ env.locals I oI Led ps x stored m₀ (fun (_ : List Nat) => P (i + 1)) s Q []) E { s with heap := h, toks := tk })
    (done : ∀ (c : σ) (u : Str → Option Value) h tk, P n c → Fr h₀ env.locals h (fun y => if y = x then u y else kstB (fun z => if stored.contains z then u z else m₀ z) (ps c) y) → News h₀ env.locals h (Led c) → Q .next { s with heap := h, toks := tk }) :
    wpAny (model prog w) A (pyIter (.ref r)) (fun it s₂ => LoopAtV prog w A h₀ env x body Q E it s₂) E s := by
  refine wpAny_pyIter_range hr hsmall ?_
  have W : Walks prog w A s.heap.objs.size [s.heap.objs.size] [s.heap.objs.size] n (fun i v => i < n ∧ ∃ t, v = .int (a₀ + i * 1) t)
      (fun i h => IsRangeIter h s.heap.objs.size (a₀ + (i : Nat) * 1) ((n : Int) - (i : Nat)) 1) := (Walks.range hh _ a₀ 1 n).bound
  have hl : (List.range n).length = n := List.length_range
  rw [← hl] at W
  refine for_gen (List.range n) (fun i v => ∃ t, v = .int (a₀ + (i : Nat)) t) Led ps stored (fun pre c => P pre.length c) c₀ W (fun i v hv => ?_) ?_ ?_ (by simp) (fun i h st => ⟨_, st⟩) ?_ ?_
    (by show IsRangeIter _ _ _ _ _; rw [hl, hn]; simpa using Heap.get?_push_size _ rfl) (F.push _) (fun p hp => ⟨Heap.get?_push_of_some _ (N p hp).1, (N p hp).2⟩) hk hp
    (fun c pre post a v u h tk oI e1 e2 e3 e4 e5 e6 => ?_) (fun c u h tk hp F N => done c u h tk (by rw [hl] at hp; exact hp) F N)
  · obtain ⟨hi, t, rfl⟩ := hv
    rw [hl] at hi
    exact ⟨i, by simp [hi], t, by simp⟩
  · intro hm
    exact absurd F.ns.lt ((List.mem_singleton.mp hm) ▸ Nat.lt_irrefl _)
  · exact next_is_new F
  · intro b hb hbI; exact absurd (List.mem_singleton.mp hb) hbI
  · intro p hp' e
    exact absurd (Heap.lt_size (N p hp').1) (e ▸ Nat.lt_irrefl _)
  · obtain ⟨t, rfl⟩ := e2
    have hpre : a = pre.length := by
      have h1 : (List.range n)[pre.length]? = some a := by rw [e1]; simp
      have h2 := List.getElem?_eq_some_iff.mp h1
      obtain ⟨h3, h4⟩ := h2
      simp at h4
      exact h4.symm
    have hlt : pre.length < n := by
      have := congrArg List.length e1
      simp at this
      omega
    subst hpre
    refine wpAny_mono (turn c pre.length t u h tk _ oI hlt e3 e4 e5 e6) (fun f s₂ p => ?_) fun _ _ e => e
    cases f with
    | ret v => exact p
    | brk => exact p
    | next => simpa [TurnP] using p
    | cont => simpa [TurnP] using p

/-- the signs of a text -/
theorem for_str {σ : Type} {xt : Str} {tx : Tok} {m₀ : Str → Option Value}
    (Led : σ → List (Addr × Obj)) (ps : σ → List (Str × Value)) (stored : List Str) (P : List Nat → σ → Prop) (c₀ : σ)
    (hh : A.handled = none)
    (F : Fr h₀ env.locals s.heap m₀) (N : News h₀ env.locals s.heap (Led c₀)) (hk : ∀ p ∈ ps c₀, m₀ p.1 = some p.2) (hp : P [] c₀)
    (turn : ∀ (c : σ) (pre post : List Nat) (a : Nat) t (u : Str → Option Value) h tk I oI, xt.cps.toList = pre ++ a :: post → P pre c → (∀ p ∈ Led c, p.1 ≠ I) →
      Fr h₀ env.locals h (fun y => if y = x then some (.str ⟨#[a]⟩ t) else kstB (fun z => if stored.contains z then u z else m₀ z) (ps c) y) → News h₀ env.locals h (Led c ++ [(I, oI)]) →
      wpAny (model prog w) A (execs body env) (TurnP h₀ env.locals I oI Led ps x stored m₀ P s Q (pre ++ [a])) E { s with heap := h, toks := tk })
    (done : ∀ (c : σ) (u : Str → Option Value) h tk, P xt.cps.toList c → Fr h₀ env.locals h (fun y => if y = x then u y else kstB (fun z => if stored.contains z then u z else m₀ z) (ps c) y) → News h₀ env.locals h (Led c) → Q .next { s with heap := h, toks := tk }) :
    wpAny (model prog w) A (pyIter (.str xt tx)) (fun it s₂ => LoopAtV prog w A h₀ env x body Q E it s₂) E s := by
  have key : ∀ (St : Nat → Heap → Prop) (o : Obj), (∀ i h, St i h → ∃ o, h.get? s.heap.objs.size = some o) → Walks prog w A s.heap.objs.size [s.heap.objs.size] [s.heap.objs.size] xt.cps.size (SignAt xt) St → St 0 (s.heap.push o) →
      LoopAtV prog w A h₀ env x body Q E (.ref s.heap.objs.size) { s with heap := s.heap.push o } := by
    intro St o hSt W hst
    have hl : xt.cps.size = xt.cps.toList.length := by simp
    rw [hl] at W
    refine for_gen xt.cps.toList (fun a v => ∃ t, v = .str ⟨#[a]⟩ t) Led ps stored P c₀ W (fun i v hv => ?_) ?_ ?_ (by simp) hSt ?_ ?_
      hst (F.push _) (fun p hp => ⟨Heap.get?_push_of_some _ (N p hp).1, (N p hp).2⟩) hk hp
      (fun c pre post a v u h tk oI e1 e2 e3 e4 e5 e6 => ?_) done
    · obtain ⟨c, t, h1, rfl⟩ := hv
      exact ⟨c, by simpa using h1, t, rfl⟩
    · intro hm
      exact absurd F.ns.lt ((List.mem_singleton.mp hm) ▸ Nat.lt_irrefl _)
    · exact next_is_new F
    · intro b hb hbI; exact absurd (List.mem_singleton.mp hb) hbI
    · intro p hp' e
      exact absurd (Heap.lt_size (N p hp').1) (e ▸ Nat.lt_irrefl _)
    · obtain ⟨t, rfl⟩ := e2
      exact turn c pre post a t u h tk _ oI e1 e3 e4 e5 e6
  cases ha : xt.cps.all (· < 128)
  · exact wpAny_pyIter_wide ha (key _ _ (fun i h st => let ⟨o, ho, _⟩ := st; ⟨o, ho⟩) (Walks.strWide hh _ xt tx) ⟨_, Heap.get?_push_size _ rfl, rfl, rfl⟩)
  · exact wpAny_pyIter_ascii ha (key _ _ (fun i h st => let ⟨o, ho, _⟩ := st; ⟨o, ho⟩) (Walks.strAscii hh _ xt tx) ⟨_, Heap.get?_push_size _ rfl, rfl, rfl⟩)
end

theorem off1 {a I : Addr} {oa : Obj} (h1 : @Ne Nat a I) : ∀ p ∈ [(a, oa)], p.1 ≠ I := fun p hp => by
  rw [List.mem_singleton.mp hp]; exact h1
theorem offC {a I : Addr} {oa : Obj} {l : List (Addr × Obj)} (h1 : @Ne Nat a I) (h : ∀ p ∈ l, p.1 ≠ I) : ∀ p ∈ (a, oa) :: l, p.1 ≠ I := fun p hp => by
  rcases List.mem_cons.mp hp with rfl | hp
  · exact h1
  · exact h p hp
theorem fn_nil {m : Str → Option Value} : ∀ p ∈ ([] : List (Str × Value)), m p.1 = some p.2 := fun _ h => nomatch h
theorem fn_cons {m : Str → Option Value} {a : Str} {v : Value} {l : List (Str × Value)} (h : m a = some v) (r : ∀ p ∈ l, m p.1 = some p.2) : ∀ p ∈ (a, v) :: l, m p.1 = some p.2 := by
  intro p hp
  rcases List.mem_cons.mp hp with rfl | hp
  · exact h
  · exact r p hp
theorem fr_norm {h₀ h : Heap} {L : Addr} {m : Str → Option Value} (F : Fr h₀ L h m) (ps : List (Str × Value)) (hm : ∀ p ∈ ps, m p.1 = some p.2) : Fr h₀ L h (kstB m ps) := by
  have e : kstB m ps = m := by
    funext z
    exact kstB_eq hm fun _ => rfl
  rw [e]; exact F

section
variable {w : World} {mean : ExcName → Option Value} {mg mb : Str → Option Value} {n : Nat} {f : Addr} {vs : List Value} {Pre : Heap → Prop} {Post : Heap → Heap → Value → Prop}
    {dp un : Nat} {fr : Option (List Env)} {gd : Option (List Code)} {s : Shared} {h₀ : Heap} {L : Addr} {m : Str → Option Value} {news : List (Addr × Obj)} {Q E : Value → Shared → Prop}
theorem use_claim (C : Claim w mean mg mb n f vs Pre Post) (F : Fr h₀ L s.heap m) (N : News h₀ L s.heap news) (X : (kz.heap_1 w.params).In h₀)
    (T : Top hd.view_39 (looseW hd.view_39 [Str.ofString "ONE_THIRD", Str.ofString "ONE_SIXTH", Str.ofString "TWO_THIRD"]) mean mg mb h₀) (hdp : dp + n < recursionLimit) (hun : un + 10 * n < cLine) (hpre : Pre s.heap)
    (ret : ∀ r h' tk', Keep s.heap h' → Fr h₀ L h' m → News h₀ L h' news → Post s.heap h' r → Q r { s with heap := h', toks := tk' }) :
    wpAny (model rwm.row.prog w) (AA dp un fr gd) (call (.ref f) vs) Q E s :=
  C dp un fr gd s Q E ⟨X.keeps F.keep, T.keeps F.keep⟩ hdp hun hpre fun r h' tk' k p => ret r h' tk' k (F.keeps k) (N.grown k) p
end

/-- the state between two statements: the ledger, and what the names hold -/
inductive At (s : Shared) (h₀ : Heap) (L : Addr) (led : List (Addr × Obj)) (ps : List (Str × Value)) : Shared → Prop
  | of (h : Heap) (tk : Nat) (m : Str → Option Value) (F : Fr h₀ L h (kstB m ps)) (N : News h₀ L h led) : At s h₀ L led ps { s with heap := h, toks := tk }
theorem At.mk {s : Shared} {h₀ : Heap} {L : Addr} {led : List (Addr × Obj)} {ps : List (Str × Value)} {h : Heap} {tk : Nat} {m : Str → Option Value} (F : Fr h₀ L h m) (N : News h₀ L h led) (hm : ∀ p ∈ ps, m p.1 = some p.2) : At s h₀ L led ps { s with heap := h, toks := tk } := .of h tk m (fr_norm F ps hm) N
theorem at_el {s s' : Shared} {h₀ : Heap} {L : Addr} {led : List (Addr × Obj)} {ps : List (Str × Value)} {b : Prop} (x : At s h₀ L led ps s')
    (k : ∀ h tk m, s' = { s with heap := h, toks := tk } → Fr h₀ L h (kstB m ps) → News h₀ L h led → b) : b := by
  cases x with | of h tk m F N => exact k h tk m rfl F N
noncomputable def NextAt (R : Shared → Prop) (f : Flow) (s' : Shared) : Prop := f = .next ∧ R s'
theorem NextAt.mk {R : Shared → Prop} {s' : Shared} (h : R s') : NextAt R .next s' := ⟨rfl, h⟩
noncomputable def NextOr (R : Shared → Prop) (Q : Flow → Shared → Prop) (f : Flow) (s' : Shared) : Prop := match f with | .next => R s' | f => Q f s'
theorem NextOr.mk {R : Shared → Prop} {Q : Flow → Shared → Prop} {s' : Shared} (h : R s') : NextOr R Q .next s' := h
theorem NextOr.ret {R : Shared → Prop} {Q : Flow → Shared → Prop} {s' : Shared} {v : Value} (h : Q (.ret v) s') : NextOr R Q (.ret v) s' := h
theorem cut_stmt {M : Model} {A : Around} {st : Stmt} {rest : List Stmt} {env : Env} {Q : Flow → Shared → Prop} {E : Value → Shared → Prop} {s : Shared} (R : Shared → Prop)
    (h1 : wpAny M A (exec st env) (NextAt R) E s) (h2 : ∀ s', R s' → wpAny M A (execs rest env) Q E s') : wpAny M A (execs (st :: rest) env) Q E s := by
  refine wpAny_execs_cons (wpAny_mono h1 (fun f s' h => ?_) fun _ _ e => e)
  obtain ⟨rfl, hr⟩ := h
  exact h2 s' hr
/-- a fork that may also hand back -/
theorem cut_stmtR {M : Model} {A : Around} {st : Stmt} {rest : List Stmt} {env : Env} {Q : Flow → Shared → Prop} {E : Value → Shared → Prop} {s : Shared} (R : Shared → Prop)
    (h1 : wpAny M A (exec st env) (NextOr R Q) E s) (h2 : ∀ s', R s' → wpAny M A (execs rest env) Q E s') : wpAny M A (execs (st :: rest) env) Q E s := by
  refine wpAny_execs_cons (wpAny_mono h1 (fun f s' h => ?_) fun _ _ e => e)
  cases f with
  | next => exact h2 s' h
  | _ => exact h
end Mine
end
open PySem PySem.W PyProof.Rows Mine in
local macro_rules | `(tactic| walk_at "mxn") => `(tactic| ((try dsimp only); (with_reducible refine wpAny_execs_nil ?_); (try dsimp only)))
open PySem PySem.W PyProof.Rows Mine in
local macro_rules | `(tactic| walk_at "mxq") => `(tactic| ((try dsimp only); (with_reducible refine wpAny_execs_cons ?_); (try dsimp only); (try (with_reducible (refine tokm ?_; intro _))); (refine foldQ ?_; intro _)))
open PySem PySem.W PyProof.Rows Mine in
local macro_rules | `(tactic| walk_at "mxc") => `(tactic| ((try dsimp only); (with_reducible refine wpAny_execs_cons ?_); (try dsimp only); (try (with_reducible (refine tokm ?_; intro _)))))
section
open PySem PySem.W PyProof.Rows
set_option maxRecDepth 100000
set_option maxHeartbeats 8000000
namespace Mine
noncomputable def priceF (x y : Str) : Int := if x = y then 0 else if x = Txt.swapcase y then 1 else 2
theorem price {w mean mg mb x tx y ty} (hx : x.length ≤ 100) (hy : y.length ≤ 100) : Claim w mean mg mb 1 75 [.str x tx, .str y ty] (fun _ => True) (fun _ _ r => ∃ t, r = .int (priceF x y) t) := by
  (have hz : (rwm, kz.heap_1) = (rwm, kz.heap_1) := rfl; revert hz; k_fill; intro hz; clear hz; w_on)
  w_strict (k_dflt (refine' enter ?ko ?kc ?kb ?kl ?_ ?c1 ?c2 ?c3 ?c4; (case ko => k_is); (case kc => k_is); (case kb => exact rfl); (case kl => exact locs rfl); (case c1 => exact rfl); (case c2 => exact rfl); (case c3 => exact rfl); (case c4 => decide); k_whole; intro dp un fr gd s L h₁ tk hpre F N X T hdp hun; (simp only [List.map, List.zip, List.zipWith, List.reverse, List.reverseAux] at F); (try dsimp only); (try k_fold)); k_steps)
  all_goals with_unfolding_all refine done_ret (by assumption) ?_
  all_goals (refine ⟨_, congrArg (fun i => Value.int i _) ?_⟩; simp_all [priceF])

noncomputable def substF (x y : Str) : Int := if x = y then 0 else if Txt.lower x = Txt.lower y then 1 else 2
theorem subst {w mean mg mb x tx y ty} (hx : x.length ≤ 100) (hy : y.length ≤ 100) : Claim w mean mg mb 1 49 [.str x tx, .str y ty] (fun _ => True) (fun _ _ r => ∃ t, r = .int (substF x y) t) := by
  (have hz : (rwm, kz.heap_1) = (rwm, kz.heap_1) := rfl; revert hz; k_fill; intro hz; clear hz; w_on)
  w_strict (k_dflt (refine' enter ?ko ?kc ?kb ?kl ?_ ?c1 ?c2 ?c3 ?c4; (case ko => k_is); (case kc => k_is); (case kb => exact rfl); (case kl => exact locs rfl); (case c1 => exact rfl); (case c2 => exact rfl); (case c3 => exact rfl); (case c4 => decide); k_whole; intro dp un fr gd s L h₁ tk hpre F N X T hdp hun; (simp only [List.map, List.zip, List.zipWith, List.reverse, List.reverseAux] at F); (try dsimp only); (try k_fold)); k_steps)
  all_goals with_unfolding_all refine done_ret (by assumption) ?_
  all_goals (refine ⟨_, congrArg (fun i => Value.int i _) ?_⟩; simp_all [substF])
end Mine
end
section
namespace Mine
noncomputable def lcp {α : Type} [DecidableEq α] : List α → List α → Nat
  | a :: as, b :: bs => if a = b then lcp as bs + 1 else 0
  | _, _ => 0

/-- one row of the table: what stands of the old row, the value on the slant, the last value, the least so far; gives the new row, the last value, the least -/
noncomputable def inner {α : Type} (cost : α → α → Int) (bc : α) : List α → List Int → Int → Int → Int → List Int × Int × Int
  | a :: as, r :: rs, d, res, mn =>
    let v := min (min res r + 2) (d + cost bc a)
    let (row, last, least) := inner cost bc as rs r v (if v < mn then v else mn)
    (v :: row, last, least)
  | _, rs, _, res, mn => (rs, res, mn)
noncomputable def outer {α : Type} (cost : α → α → Int) (a : List α) (mc : Int) : List α → Nat → List Int → Int → Int
  | [], _, _, res => res
  | bc :: bs, i, row, _ =>
    let (row', last, least) := inner cost bc a row (i * 2) (i * 2) 9223372036854775807
    if least > mc then mc + 1 else outer cost a mc bs (i + 1) row' last
noncomputable def firstRow (n : Nat) : List Int := (List.range n).map fun (i : Nat) => (2 + 2 * i : Int)
noncomputable def table {α : Type} (cost : α → α → Int) (a b : List α) (mc : Int) : Int :=
  if ((b.length : Int) - a.length) * 2 > mc then mc + 1 else outer cost a mc b 0 (firstRow a.length) 0
noncomputable def cutPre {α : Type} [DecidableEq α] (a b : List α) : List α := a.drop (lcp a b)
noncomputable def cutPost {α : Type} [DecidableEq α] (a b : List α) : List α := a.take (a.length - lcp a.reverse b.reverse)
noncomputable def levF {α : Type} [DecidableEq α] (cost : α → α → Int) (a b : List α) (mc : Int) : Int :=
  if a = b then 0 else
  let a1 := cutPre a b
  let b1 := cutPre b a
  let a2 := cutPost a1 b1
  let b2 := cutPost b1 a1
  if a2 = [] ∨ b2 = [] then 2 * ((a2.length : Int) + b2.length)
  else if b2.length < a2.length then table cost b2 a2 mc else table cost a2 b2 mc

/-- the old row's part that is still to be done, and what has been written -/
noncomputable def Part {α : Type} (cost : α → α → Int) (bc : α) (a : List α) (T : List Int × Int × Int) (j : Nat) (ns : List Int) (d res mn : Int) : Prop :=
  ∃ pre rest, ns = pre ++ rest ∧ pre.length = j ∧ rest.length = a.length - j ∧ (pre ++ (inner cost bc (a.drop j) rest d res mn).1, (inner cost bc (a.drop j) rest d res mn).2) = T
theorem Part.start {α : Type} {cost : α → α → Int} {bc : α} {a : List α} {ns : List Int} {d res mn : Int} (h : ns.length = a.length) : Part cost bc a (inner cost bc a ns d res mn) 0 ns d res mn :=
  ⟨[], ns, rfl, rfl, by omega, by simp⟩
theorem Part.done {α : Type} {cost : α → α → Int} {bc : α} {a : List α} {T : List Int × Int × Int} {ns : List Int} {d res mn : Int} (h : Part cost bc a T a.length ns d res mn) : T = (ns, res, mn) := by
  obtain ⟨pre, rest, rfl, h1, h2, h3⟩ := h
  have : rest = [] := List.length_eq_zero_iff.mp (by omega)
  subst this
  rw [← h3]; simp [inner]
theorem Part.length {α : Type} {cost : α → α → Int} {bc : α} {a : List α} {T : List Int × Int × Int} {j : Nat} {ns : List Int} {d res mn : Int} (hj : j ≤ a.length) (h : Part cost bc a T j ns d res mn) : ns.length = a.length := by
  obtain ⟨pre, rest, rfl, h1, h2, h3⟩ := h
  rw [List.length_append]; omega
theorem Part.step {α : Type} {cost : α → α → Int} {bc : α} {a : List α} {T : List Int × Int × Int} {j : Nat} {ns : List Int} {d res mn : Int} {c : α} (h : Part cost bc a T j ns d res mn) (hc : a[j]? = some c) (v mn' : Int)
    (hv : v = min (min res (ns.getD j 0) + 2) (d + cost bc c)) (hm : mn' = if v < mn then v else mn) : Part cost bc a T (j + 1) (ns.set j v) (ns.getD j 0) v mn' := by
  obtain ⟨pre, rest, rfl, h1, h2, h3⟩ := h
  have hj : j < a.length := by
    have := List.getElem?_eq_some_iff.mp hc
    exact this.1
  cases rest with
  | nil => simp at h2; omega
  | cons r rs =>
    have hd : a.drop j = c :: a.drop (j + 1) := by
      rw [List.drop_eq_getElem_cons hj]
      congr 1
      have := List.getElem?_eq_some_iff.mp hc
      exact this.2
    have hg : (pre ++ r :: rs).getD j 0 = r := by
      rw [← h1]; simp
    rw [hg] at hv ⊢
    refine ⟨pre ++ [v], rs, ?_, by simp [h1], by simp at h2; omega, ?_⟩
    · rw [← h1, List.set_append_right _ _ (Nat.le_refl _)]
      simp
    · rw [← h3, hd]
      simp only [inner, ← hv, ← hm]
      simp
theorem lcp_comm {α : Type} [DecidableEq α] : ∀ a b : List α, lcp a b = lcp b a
  | [], [] => rfl
  | [], _ :: _ => rfl
  | _ :: _, [] => rfl
  | a :: as, b :: bs => by
    unfold lcp
    by_cases h : a = b
    · subst h; simp [lcp_comm as bs]
    · have h' : ¬ b = a := fun e => h e.symm
      simp [h, h']
theorem lcp_le {α : Type} [DecidableEq α] : ∀ a b : List α, lcp a b ≤ a.length ∧ lcp a b ≤ b.length
  | [], _ => ⟨Nat.zero_le _, Nat.zero_le _⟩
  | _ :: _, [] => ⟨Nat.zero_le _, Nat.zero_le _⟩
  | a :: as, b :: bs => by
    unfold lcp
    have := lcp_le as bs
    split <;> simp <;> omega
/-- below it the signs agree; at it one ends or they part -/
theorem lcp_below {α : Type} [DecidableEq α] : ∀ (a b : List α) (i : Nat), i < lcp a b → a[i]? = b[i]?
  | [], _, _, h => by simp [lcp] at h
  | _ :: _, [], _, h => by simp [lcp] at h
  | a :: as, b :: bs, i, h => by
    unfold lcp at h
    split at h
    · rename_i e
      subst e
      cases i with
      | zero => rfl
      | succ i => simpa using lcp_below as bs i (by omega)
    · omega
theorem lcp_at {α : Type} [DecidableEq α] : ∀ (a b : List α), lcp a b < a.length → lcp a b < b.length → a[lcp a b]? ≠ b[lcp a b]?
  | [], _, h, _ => by simp at h
  | _ :: _, [], _, h => by simp at h
  | a :: as, b :: bs, h1, h2 => by
    unfold lcp at h1 h2 ⊢
    by_cases e : a = b
    · subst e
      simp at h1 h2 ⊢
      exact lcp_at as bs h1 h2
    · simp [e]
theorem lcp_lt_of {α : Type} [DecidableEq α] {a b : List α} {n : Nat} (h : n ≤ lcp a b) (h1 : n < a.length) (h2 : n < b.length) (e : a[n]? = b[n]?) : n < lcp a b := by
  rcases Nat.lt_or_ge n (lcp a b) with h' | h'
  · exact h'
  · have : n = lcp a b := by omega
    subst this
    exact absurd e (lcp_at a b h1 h2)
end Mine
end
section
open PySem PySem.W PyProof.Rows
set_option maxRecDepth 100000
set_option maxHeartbeats 8000000
namespace Mine
/-- a text by its signs -/
noncomputable def S (l : List Nat) : Str := ⟨l.toArray⟩
theorem S_cps (l : List Nat) : (S l).cps.toList = l := by simp [S]
theorem S_length (l : List Nat) : (S l).length = l.length := by simp [S, Str.length]
theorem S_inj {a b : List Nat} (h : S a = S b) : a = b := by
  have := congrArg (fun s => s.cps.toList) h
  simpa [S] using this
theorem S_eq {a b : List Nat} : S a = S b ↔ a = b := ⟨S_inj, fun h => h ▸ rfl⟩
theorem S_of (x : Str) : x = S x.cps.toList := by cases x; simp [S]
theorem S_append (a b : List Nat) : S a ++ S b = S (a ++ b) := by
  refine PySem.Str.ext' (Array.toList_inj.mp ?_)
  rw [PySem.Str.cps_append, Array.toList_append]
  simp [S]
theorem S_beq (a b : List Nat) : (S a == S b) = decide (a = b) := by
  by_cases h : a = b
  · subst h; simp
  · simp [h, S_eq]
theorem S_from {a : List Nat} {i : Int} (h0 : 0 ≤ i) (h : i ≤ a.length) : Txt.slice (S a) (some i) none = S (a.drop i.toNat) := by
  have := slice_closes_from (x := S a) (i := i) ⟨h0, by rw [S_cps]; exact h⟩
  rw [beq_iff_eq.mp this, S_cps]
  show S _ = _
  rw [List.take_of_length_le]
  simp; omega
theorem S_fromN {a : List Nat} {i : Nat} (h : i ≤ a.length) : Txt.slice (S a) (some (i : Int)) none = S (a.drop i) := by
  rw [S_from (by omega) (by omega), Int.toNat_natCast]
theorem S_to {a : List Nat} {j : Int} (h0 : 0 ≤ j) (h : j ≤ a.length) : Txt.slice (S a) none (some j) = S (a.take j.toNat) := by
  have := slice_closes_to (x := S a) (j := j) ⟨h0, by rw [S_cps]; exact h⟩
  rw [beq_iff_eq.mp this, S_cps]
  simp [S]
theorem S_toN {a : List Nat} {j : Nat} (h : j ≤ a.length) : Txt.slice (S a) none (some (j : Int)) = S (a.take j) := by
  rw [S_to (by omega) (by omega), Int.toNat_natCast]
theorem S_neg {a : List Nat} {j : Int} (h0 : j < 0) (h : -(a.length : Int) ≤ j) : Txt.slice (S a) none (some j) = S (a.take (a.length + j).toNat) := by
  have e : Txt.slice (S a) none (some j) = Txt.slice (S a) none (some (j + (S a).length)) := StrLaws.sliceText_neg_hi (S a) none h0 (by rw [S_length]; exact h)
  rw [e, S_length, S_to (by omega) (by omega)]
  congr 2
  omega
theorem S_neg_len {a : List Nat} {n : Nat} (h : n ≤ a.length) : n ≠ 0 → ((Txt.slice (S a) none (some (-(n : Int)))).length : Int) = a.length - n := by
  intro h0
  rw [S_neg (by omega) (by omega), S_length, List.length_take]
  omega
theorem S_neg_add {a : List Nat} {n : Nat} (h : n ≤ a.length) : (Txt.slice (S a) none (some (-(n : Int)))).length + n ≤ a.length := by
  rcases Nat.eq_zero_or_pos n with h0 | h0
  · have := PyProof.Txt.length_slice_le (S a) none (some (-(n : Int)))
    rw [S_length] at this
    omega
  · have := S_neg_len h (by omega)
    omega
theorem S_mid {a : List Nat} {i j : Int} (h0 : 0 ≤ i) (h1 : i ≤ j) (h : j ≤ a.length) : Txt.slice (S a) (some i) (some j) = S ((a.drop i.toNat).take (j - i).toNat) := by
  have := slice_closes (x := S a) (i := i) (j := j) ⟨h0, h1, by rw [S_cps]; exact h⟩
  rw [beq_iff_eq.mp this, S_cps]
  rfl
theorem S_whole {a : List Nat} : Txt.slice (S a) none none = S a := by
  have e : Txt.slice (S a) none none = Txt.slice (S a) (some 0) none := by
    unfold Txt.slice
    have : PySem.Builtin.Str.strSliceIndices none none 1 (S a).length = PySem.Builtin.Str.strSliceIndices (some 0) none 1 (S a).length := by
      have e0 : max 0 (min 0 ((S a).length : Int)) = 0 := by omega
      simp [PySem.Builtin.Str.strSliceIndices, e0]
    rw [this]
  rw [e, S_from (by omega) (by omega)]
  simp
theorem S_item {a : List Nat} {i : Int} (h0 : 0 ≤ i) (h : i < a.length) : Txt.item (S a) i = S [a.getD i.toNat 0] := by
  unfold Txt.item Txt.charAt seqIndex?
  have h1 : ¬ i < 0 := by omega
  have h2 : i.toNat < a.length := by omega
  simp [h1, S, Str.length, h0, h, h2]
theorem S_itemN {a : List Nat} {i : Nat} (h : i < a.length) : Txt.item (S a) (i : Int) = S [a.getD i 0] := by
  rw [S_item (by omega) (by omega), Int.toNat_natCast]
theorem S_itemNeg {a : List Nat} {i : Int} (h0 : i < 0) (h : -(a.length : Int) ≤ i) : Txt.item (S a) i = S [a.getD (a.length + i).toNat 0] := by
  unfold Txt.item Txt.charAt seqIndex?
  have h1 : 0 ≤ i + (a.length : Int) := by omega
  have h2 : (i + (a.length : Int)).toNat < a.length := by omega
  have h3 : ((a.length : Int) + i).toNat = (i + (a.length : Int)).toNat := by omega
  have h4 : i + (a.length : Int) < a.length := by omega
  simp [h0, S, Str.length, h1, h2, h3]
  rw [if_pos h4]; simp [h2]

theorem S_itemRev {a : List Nat} {n : Nat} (h : n < a.length) : Txt.item (S a) (-(n : Int) - 1) = S [a.reverse.getD n 0] := by
  rw [S_itemNeg (by omega) (by omega)]
  have h1 : ((a.length : Int) + (-(n : Int) - 1)).toNat = a.length - 1 - n := by omega
  have h2 : a.length - 1 - n < a.length := by omega
  simp [h1, h, h2]

section
variable {prog : Program} {w : World} {A : Around} {E : Value → Shared → Prop} {s : Shared} {value slice : Expr} {a : List Nat} {t : Tok} {h₀ : Heap} {L : Addr} {m : Str → Option Value} {news : List (Addr × Obj)} {Q : Value → Shared → Prop}
theorem slice_whole (hF : Fr h₀ L s.heap m) (hN : News h₀ L s.heap news) (h : ∀ h' t' k, Fr h₀ L h' m → News h₀ L h' news → Q (.str (S a) t') { s with heap := h', toks := k })
    (hs : subscripted slice false (.str (S a) t) (.ref s.heap.objs.size) = operate [.ref s.heap.objs.size, .str (S a) t] (getItem (.str (S a) t) (.ref s.heap.objs.size)) := by with_unfolding_all rfl)
    (ht : ∀ r, letTemporaryGo value (.str (S a) t) r = pure () := by intro _; with_unfolding_all rfl) (hsz : (S a).length ≤ sizeLine := by size_fits) :
    wpAny (model prog w) A (subscriptTail value slice (.str (S a) t) (.ref s.heap.objs.size)) Q E { s with heap := s.heap.push { cls := .type "slice", data := .fields #[.none, .none, .none] } } :=
  slice_strN_nn hF hN (fun h' t' k a b => by rw [S_whole]; exact h h' t' k a b) hs ht hsz
end

theorem intsAre_of : ∀ {vs : List Value} {ns : List Int}, vs.length = ns.length → (∀ (j : Nat) v, vs[j]? = some v → ∃ t, v = .int (ns.getD j 0) t) → IntsAre vs ns
  | [], [], _, _ => .nil
  | [], _ :: _, h, _ => by simp at h
  | _ :: _, [], h, _ => by simp at h
  | v :: vs, n :: ns, h, hv => by
    obtain ⟨t, e⟩ := hv 0 v rfl
    have e' : v = .int n t := e
    subst e'
    exact .cons n t (intsAre_of (by simpa using h) fun j u hu => hv (j + 1) u (by simpa using hu))
section
variable {prog : Program} {w : World} {A : Around} {E : Value → Shared → Prop} {s : Shared} {h₀ : Heap} {L : Addr} {m : Str → Option Value} {news : List (Addr × Obj)} {Q : Value → Shared → Prop}
/-- list(range(a, b, c)) -/
theorem list_range_N {r : Addr} {a b c : Int} {t u v : Tok} {n : Nat} (hh : A.handled = none) (F : Fr h₀ L s.heap m) (N : News h₀ L s.heap news) (hr : IsRange s.heap r a b c t u v) (hsmall : Builtin.Range.small a b c = true)
    (hn : Builtin.Range.rangeSize a b c = (n : Int)) (hlen : n ≤ 2 ^ 24)
    (hQ : ∀ (D : Addr) (h' : Heap) (tk : Nat) (vs : List Value) (nn : Nat), Fr h₀ L h' m → News h₀ L h' ((D, listOf vs.toArray nn) :: news) → (∀ p ∈ news, p.1 < D) → IntsAre vs ((List.range n).map fun (i : Nat) => (a + i * c : Int)) → Q (.ref D) { s with heap := h', toks := tk }) :
    wpAny (model prog w) A (call (.type "list") [.ref r]) Q E s := by
  refine call_list_range hh hr hsmall hn hlen fun h' tk acc' c' hk hS' hacc => ?_
  refine hQ _ h' tk acc'.toList c' (F.keeps hk) (fun p hp => ?_) (fun p hp => Heap.lt_size (N p hp).1) (intsAre_of (by simp [hacc.1]) fun j v hv => ?_)
  · rcases List.mem_cons.mp hp with rfl | hp
    · refine ⟨by simpa [W.listOf] using hS', ?_, ?_⟩
      · obtain ⟨oL, _, _, hL, _⟩ := F.ns
        exact Nat.ne_of_gt (Heap.lt_size hL)
      · cases hq : h₀.get? s.heap.objs.size with
        | none => rfl
        | some o' => exact absurd (Heap.lt_size (F.keep _ _ hq)) (Nat.lt_irrefl _)
    · exact ⟨hk _ _ (N p hp).1, (N p hp).2⟩
  · have hv' : acc'[j]? = some v := by simpa using hv
    obtain ⟨t, rfl⟩ := hacc.2 j v hv'
    have hj : j < n := by
      have := Array.getElem?_eq_some_iff.mp hv'
      obtain ⟨h1, _⟩ := this
      rw [hacc.1] at h1; exact h1
    exact ⟨t, by simp [hj]⟩
end

theorem size_two {n : Nat} : Builtin.Range.rangeSize 2 (2 * ((n : Int) + 1)) 2 = (n : Int) := by
  unfold Builtin.Range.rangeSize
  simp only [show (2 : Int) > 0 by decide, if_true]
  split <;> omega
theorem small_two {n : Nat} (h : n ≤ 100) : Builtin.Range.small 2 (2 * ((n : Int) + 1)) 2 = true := by
  have f : ∀ x : Int, 0 ≤ x → x ≤ 1000 → Builtin.Range.rangeFitsLong x = true := by
    intro x h1 h2
    unfold Builtin.Range.rangeFitsLong
    rw [Bool.and_eq_true]
    exact ⟨decide_eq_true (by omega), decide_eq_true (by omega)⟩
  unfold Builtin.Range.small
  rw [size_two, f 2 (by omega) (by omega), f (2 * ((n : Int) + 1)) (by omega) (by omega), f n (by omega) (by omega), if_pos (by decide), f (2 * ((n : Int) + 1) + (2 - 1)) (by omega) (by omega)]
  simp
theorem small_len {n : Nat} (h : n ≤ 1000) : Builtin.Range.small 0 (n : Int) 1 = true := small_one (by omega) (by omega) (by omega) (by omega)
theorem size_len {n : Nat} : Builtin.Range.rangeSize 0 (n : Int) 1 = (n : Int) := by
  rw [rangeSize_one]; split <;> omega
end Mine
end
section
open PySem PySem.W PyProof.Rows
set_option maxRecDepth 100000
set_option maxHeartbeats 8000000
namespace Mine
local macro_rules | `(tactic| walk_at "KswEnd") => `(tactic| refine Hold.out ?_)
local macro_rules | `(tactic| walk_at "exec While BoolOp cons nil") => `(tactic| refine Hold.out ?_)
local macro_rules | `(tactic| walk_at "call type:list") => `(tactic| refine Hold.out ?_)
local macro_rules | `(tactic| walk_at "pyIter ref") => `(tactic| refine Hold.out ?_)
local macro_rules | `(tactic| walk_at "call ref") => `(tactic| refine Hold.out ?_)
local macro_rules | `(tactic| walk_at "exec For Name Call cons nil") => `(tactic| refine Hold.out ?_)
local macro_rules | `(tactic| walk_at "ite") => `(tactic| ((try dsimp only); first | with_reducible refine ite_pos (by omega) ?_ | with_reducible refine ite_neg (by omega) ?_))
local macro_rules | `(tactic| walk_at "execs cons") => `(tactic| walk_at "mxc")
local macro_rules | `(tactic| walk_at "execs nil") => `(tactic| walk_at "mxn")
local macro_rules | `(tactic| walk_at "eval BoolOp") => `(tactic| ((try dsimp only); first | with_reducible refine BoolOp_one ?_ | with_reducible refine BoolOp_and ?_ | with_reducible refine BoolOp_or ?_))
local macro_rules | `(tactic| walk_at "isTrue") => `(tactic| (dsimp only))
local macro_rules | `(tactic| walk_at "subscriptTail Name Slice str ref") => `(tactic| ((with_reducible refine slice_whole (s := ⟨_, _, _, _, _⟩) (by assumption) (by assumption) ?_); intro _ _ _ _ _))
noncomputable def costS (c d : Nat) : Int := substF (S [c]) (S [d])
theorem getD_eq {a : List Nat} {n : Nat} (h : n < a.length) : a[n]? = some (a.getD n 0) := by simp [h]
theorem least3 (r x d c : Int) : (if d + c < (if x < r then x else r) + 2 then d + c else (if x < r then x else r) + 2) = min (min r x + 2) (d + c) := by
  rw [ar_min, ar_min]
theorem lev {w mean mg mb a tx b ty mc tm} (ha : a.length ≤ 10) (hb : b.length ≤ 10) (hmc0 : 0 ≤ mc) (hmc : mc ≤ 10) : Claim w mean mg mb 2 56 [.str (S a) tx, .str (S b) ty, .int mc tm] (fun _ => True) (fun _ _ r => ∃ t, r = .int (levF costS a b mc) t) := by
  have hx : (S a).length ≤ 10 := by rw [S_length]; exact ha
  have hy : (S b).length ≤ 10 := by rw [S_length]; exact hb
  have la := S_length a
  have lb := S_length b
  (first | ((first | refine Exists.elim (show ∃ R, levF costS a b mc = R from ⟨_, rfl⟩) ?_ | refine Mine.and_el (show ∃ R, levF costS a b mc = R from ⟨_, rfl⟩) ?_); intro R hR) | obtain ⟨R, hR⟩ : ∃ R, levF costS a b mc = R := ⟨_, rfl⟩)
  rw [hR]
  (have hz : (rwm, kz.heap_1) = (rwm, kz.heap_1) := rfl; revert hz; k_fill; intro hz; clear hz; w_on)
  w_strict (k_dflt (refine' enter ?ko ?kc ?kb ?kl ?_ ?c1 ?c2 ?c3 ?c4; (case ko => k_is); (case kc => k_is); (case kb => exact rfl); (case kl => exact locs rfl); (case c1 => exact rfl); (case c2 => exact rfl); (case c3 => exact rfl); (case c4 => decide); k_whole; intro dp un fr gd s L h₁ tk hpre F N X T hdp hun; (simp only [List.map, List.zip, List.zipWith, List.reverse, List.reverseAux] at F); (try dsimp only); (try k_fold)))
  refine foldE ?_; intro M' A' env' E' Q0 hQ0
  w_strict ((try dsimp only); k_steps)
  · refine hQ0 _ _ ?_; with_unfolding_all refine done_ret (by assumption) ?_
    refine ⟨_, congrArg (fun i => Value.int i _) ?_⟩
    rename (S a == S b) = true => e
    rw [S_beq] at e
    simp at e
    rw [← hR]
    simp [levF, e]
  rename (S a == S b) = false => hne
  rw [S_beq] at hne
  simp at hne
  refine Hold.mk ?_
  rename Fr _ _ _ _ => F; rename News _ _ _ _ => N
  (try k_fold)
  have cont : ∀ (t : Tok) (m : Str → Option Value) h tk, Fr s.heap L h m → News s.heap L h [] → (∀ p ∈ [(Str.ofString "a", Value.str (S a) tx), (Str.ofString "b", Value.str (S b) ty), (Str.ofString "max_cost", Value.int mc tm), (Str.ofString "pre", Value.int (lcp a b) t)], m p.1 = some p.2) → qk .next { s with heap := h, toks := tk } := by
    (try clear F N)
    intro t m h tk F N hm
    replace F := fr_norm F _ hm
    clear hm
    have l1 := (lcp_le a b).1
    have l2 := (lcp_le a b).2
    have k1 : lcp a b ≤ (S a).length := by omega
    have k2 : lcp a b ≤ (S b).length := by omega
    (rename Fr _ _ _ _ => F; refine foldM F ?_; clear F; intro mF F)
    w_strict (k_steps)
    refine Hold.mk ?_
    (try k_fold)
    rename Fr _ _ _ _ => F; rename News _ _ _ _ => N
    rw [S_fromN l1, S_fromN l2] at F
    generalize h1e : List.drop (lcp a b) a = a1 at F
    generalize h2e : List.drop (lcp a b) b = b1 at F
    have ka1 : (S a1).length ≤ 10 := by rw [S_length, ← h1e, List.length_drop]; omega
    have kb1 : (S b1).length ≤ 10 := by rw [S_length, ← h2e, List.length_drop]; omega
    have la1 := S_length a1
    have lb1 := S_length b1
    clear l1 l2 k1 k2
    have cont2 : ∀ (ta tb t : Tok) (m : Str → Option Value) h tk, Fr s.heap L h m → News s.heap L h [] → (∀ p ∈ [(Str.ofString "a", Value.str (S a1) ta), (Str.ofString "b", Value.str (S b1) tb), (Str.ofString "max_cost", Value.int mc tm), (Str.ofString "post", Value.int (-(lcp a1.reverse b1.reverse : Int)) t)], m p.1 = some p.2) → qk .next { s with heap := h, toks := tk } := by
      (try clear F N)
      intro ta tb t m h tk F N hm
      replace F := fr_norm F _ hm
      clear hm
      dsimp only [qk]
      have l1 := (lcp_le a1.reverse b1.reverse).1
      have l2 := (lcp_le a1.reverse b1.reverse).2
      rw [List.length_reverse] at l1 l2
      have ea : cutPost a1 b1 = a1.take (a1.length - lcp a1.reverse b1.reverse) := rfl
      have eb : cutPost b1 a1 = b1.take (b1.length - lcp a1.reverse b1.reverse) := by rw [cutPost, lcp_comm]
      (first | ((first | refine Exists.elim (show ∃ k, lcp a1.reverse b1.reverse = k from ⟨_, rfl⟩) ?_ | refine Mine.and_el (show ∃ k, lcp a1.reverse b1.reverse = k from ⟨_, rfl⟩) ?_); intro k hk) | obtain ⟨k, hk⟩ : ∃ k, lcp a1.reverse b1.reverse = k := ⟨_, rfl⟩)
      rw [hk] at F l1 l2 ea eb
      have ea' : k ≠ 0 → Txt.slice (S a1) none (some (-(k : Int))) = S (cutPost a1 b1) := by
        intro h0
        rw [S_neg (by omega) (by omega), ea]
        congr 2; omega
      have eb' : k ≠ 0 → Txt.slice (S b1) none (some (-(k : Int))) = S (cutPost b1 a1) := by
        intro h0
        rw [S_neg (by omega) (by omega), eb]
        congr 2; omega
      have ea0 : k = 0 → S a1 = S (cutPost a1 b1) := by
        intro h0; rw [ea, h0]; simp
      have eb0 : k = 0 → S b1 = S (cutPost b1 a1) := by
        intro h0; rw [eb, h0]; simp
      refine cut_stmt (fun s' => ∃ t', At s s.heap L [] [(Str.ofString "a", Value.str (S (cutPost a1 b1)) t'), (Str.ofString "b", Value.str (S b1) tb), (Str.ofString "max_cost", Value.int mc tm), (Str.ofString "post", Value.int (-(k : Int)) t)] s') ?_ ?_
      · refine opq ?_; intro Qc1 hQc1
        (rename Fr _ _ _ _ => F; refine foldM F ?_; clear F; intro mF F)
        w_strict (k_steps)
        · rename Fr _ _ _ _ => F1; rw [ea' (by omega)] at F1
          exact hQc1 _ _ (NextAt.mk ⟨_, At.mk F1 (by assumption) (by kst_all)⟩)
        · refine hQc1 _ _ ?_
          rw [← ea0 (by omega)]
          exact (NextAt.mk ⟨_, At.mk (by assumption) (by assumption) (by kst_all)⟩)
      (first | (intro s'; (first | (intro zt1; (first | refine Exists.elim zt1 ?_ | refine Mine.and_el zt1 ?_); intro t' zt2; (try clear zt1); (first | (refine Mine.at_el zt2 ?_; clear zt2; intro h tk m zt6 F N; subst zt6) | ((first | refine Exists.elim zt2 ?_ | refine Mine.and_el zt2 ?_); intro h zt3; (try clear zt2); (first | refine Exists.elim zt3 ?_ | refine Mine.and_el zt3 ?_); intro tk zt4; (try clear zt3); (first | refine Exists.elim zt4 ?_ | refine Mine.and_el zt4 ?_); intro m zt5; (try clear zt4); (first | refine Exists.elim zt5 ?_ | refine Mine.and_el zt5 ?_); intro F N; (try clear zt5)))) | rintro ⟨t', h, tk, m, F, N⟩)) | rintro s' ⟨t', h, tk, m, F, N⟩)
      refine cut_stmt (fun s' => ∃ t1 t2, At s s.heap L [] [(Str.ofString "a", Value.str (S (cutPost a1 b1)) t1), (Str.ofString "b", Value.str (S (cutPost b1 a1)) t2), (Str.ofString "max_cost", Value.int mc tm)] s') ?_ ?_
      · refine opq ?_; intro Qc2 hQc2
        (rename Fr _ _ _ _ => F; refine foldM F ?_; clear F; intro mF F)
        w_strict (k_steps)
        · rename Fr _ _ _ _ => F1; rw [eb' (by omega)] at F1
          exact hQc2 _ _ (NextAt.mk ⟨_, _, At.mk F1 (by assumption) (by kst_all)⟩)
        · refine hQc2 _ _ ?_
          rw [← eb0 (by omega)]
          exact (NextAt.mk ⟨_, _, At.mk (by assumption) (by assumption) (by kst_all)⟩)
      (first | (intro s'; (first | (intro zt7; (first | refine Exists.elim zt7 ?_ | refine Mine.and_el zt7 ?_); intro t1 zt8; (try clear zt7); (first | refine Exists.elim zt8 ?_ | refine Mine.and_el zt8 ?_); intro t2 zt9; (try clear zt8); (first | (refine Mine.at_el zt9 ?_; clear zt9; intro h tk m zt13 F N; subst zt13) | ((first | refine Exists.elim zt9 ?_ | refine Mine.and_el zt9 ?_); intro h zt10; (try clear zt9); (first | refine Exists.elim zt10 ?_ | refine Mine.and_el zt10 ?_); intro tk zt11; (try clear zt10); (first | refine Exists.elim zt11 ?_ | refine Mine.and_el zt11 ?_); intro m zt12; (try clear zt11); (first | refine Exists.elim zt12 ?_ | refine Mine.and_el zt12 ?_); intro F N; (try clear zt12)))) | rintro ⟨t1, t2, h, tk, m, F, N⟩)) | rintro s' ⟨t1, t2, h, tk, m, F, N⟩)
      have e1 : cutPre a b = a1 := h1e
      have e2 : cutPre b a = b1 := by rw [cutPre, lcp_comm, h2e]
      have goalE : (if cutPost a1 b1 = [] ∨ cutPost b1 a1 = [] then 2 * (((cutPost a1 b1).length : Int) + (cutPost b1 a1).length)
          else if (cutPost b1 a1).length < (cutPost a1 b1).length then table costS (cutPost b1 a1) (cutPost a1 b1) mc else table costS (cutPost a1 b1) (cutPost b1 a1) mc) = R := by
        rw [← hR, levF, if_neg hne]; simp only [e1, e2]
      have m1 : (cutPost a1 b1).length ≤ 10 := by rw [ea, List.length_take]; omega
      have m2 : (cutPost b1 a1).length ≤ 10 := by rw [eb, List.length_take]; omega
      clear ea eb ea' eb' ea0 eb0 e1 e2 hk l1 l2
      (first | ((first | refine Exists.elim (show ∃ l, cutPost a1 b1 = l from ⟨_, rfl⟩) ?_ | refine Mine.and_el (show ∃ l, cutPost a1 b1 = l from ⟨_, rfl⟩) ?_); intro a2 ha2) | obtain ⟨a2, ha2⟩ : ∃ l, cutPost a1 b1 = l := ⟨_, rfl⟩)
      (first | ((first | refine Exists.elim (show ∃ l, cutPost b1 a1 = l from ⟨_, rfl⟩) ?_ | refine Mine.and_el (show ∃ l, cutPost b1 a1 = l from ⟨_, rfl⟩) ?_); intro b2 hb2) | obtain ⟨b2, hb2⟩ : ∃ l, cutPost b1 a1 = l := ⟨_, rfl⟩)
      rw [ha2] at F m1 goalE
      rw [hb2] at F m2 goalE
      have n1 := S_length a2
      have n2 := S_length b2
      refine cut_stmtR (fun s' => a2 ≠ [] ∧ b2 ≠ [] ∧ At s s.heap L [] [(Str.ofString "a", Value.str (S a2) t1), (Str.ofString "b", Value.str (S b2) t2), (Str.ofString "max_cost", Value.int mc tm)] s') ?_ ?_
      · refine opq ?_; intro Qc3 hQc3
        clear_value qk
        clear la1 lb1 ka1 kb1 h1e h2e la lb ha2 hb2 hx hy
        (rename Fr _ _ _ _ => F; refine foldM F ?_; clear F; intro mF F)
        w_strict (k_steps)
        · refine hQc3 _ _ (NextOr.mk ⟨?_, ?_, At.mk (by assumption) (by assumption) (by kst_all)⟩)
          · rintro rfl; simp at n1; omega
          · rintro rfl; simp at n2; omega
        · refine hQc3 _ _ (NextOr.ret ?_)
          refine hQ0 _ _ ?_; with_unfolding_all refine done_ret (by assumption) ?_
          refine ⟨_, congrArg (fun i => Value.int i _) ?_⟩
          have : b2 = [] := List.length_eq_zero_iff.mp (by omega)
          rw [if_pos (.inr this)] at goalE
          rw [← goalE, n1, n2]
        · refine hQc3 _ _ (NextOr.ret ?_)
          refine hQ0 _ _ ?_; with_unfolding_all refine done_ret (by assumption) ?_
          refine ⟨_, congrArg (fun i => Value.int i _) ?_⟩
          have : a2 = [] := List.length_eq_zero_iff.mp (by omega)
          rw [if_pos (.inl this)] at goalE
          rw [← goalE, n1, n2]
      (try clear F N)
      (first | (intro s'; (first | (intro zt14; (first | refine Exists.elim zt14 ?_ | refine Mine.and_el zt14 ?_); intro hn1 zt15; (try clear zt14); (first | refine Exists.elim zt15 ?_ | refine Mine.and_el zt15 ?_); intro hn2 zt16; (try clear zt15); (first | (refine Mine.at_el zt16 ?_; clear zt16; intro h tk m zt20 F N; subst zt20) | ((first | refine Exists.elim zt16 ?_ | refine Mine.and_el zt16 ?_); intro h zt17; (try clear zt16); (first | refine Exists.elim zt17 ?_ | refine Mine.and_el zt17 ?_); intro tk zt18; (try clear zt17); (first | refine Exists.elim zt18 ?_ | refine Mine.and_el zt18 ?_); intro m zt19; (try clear zt18); (first | refine Exists.elim zt19 ?_ | refine Mine.and_el zt19 ?_); intro F N; (try clear zt19)))) | rintro ⟨hn1, hn2, h, tk, m, F, N⟩)) | rintro s' ⟨hn1, hn2, h, tk, m, F, N⟩)
      rw [if_neg (by rintro (h | h); exact hn1 h; exact hn2 h)] at goalE
      -- over forty signs: not here
      refine cut_stmt (fun s' => At s s.heap L [] [(Str.ofString "a", Value.str (S a2) t1), (Str.ofString "b", Value.str (S b2) t2), (Str.ofString "max_cost", Value.int mc tm)] s') ?_ ?_
      · refine opq ?_; intro Qc4 hQc4
        clear_value qk
        (rename Fr _ _ _ _ => F; refine foldM F ?_; clear F; intro mF F)
        w_strict (k_steps)
        exact hQc4 _ _ (NextAt.mk (At.mk (by assumption) (by assumption) (by kst_all)))
      (try clear F N)
      (first | (intro s'; (first | (intro zt21; (first | (refine Mine.at_el zt21 ?_; clear zt21; intro h tk m zt25 F N; subst zt25) | ((first | refine Exists.elim zt21 ?_ | refine Mine.and_el zt21 ?_); intro h zt22; (try clear zt21); (first | refine Exists.elim zt22 ?_ | refine Mine.and_el zt22 ?_); intro tk zt23; (try clear zt22); (first | refine Exists.elim zt23 ?_ | refine Mine.and_el zt23 ?_); intro m zt24; (try clear zt23); (first | refine Exists.elim zt24 ?_ | refine Mine.and_el zt24 ?_); intro F N; (try clear zt24)))) | rintro ⟨h, tk, m, F, N⟩)) | rintro s' ⟨h, tk, m, F, N⟩)
      -- the shorter one first
      refine cut_stmt (fun s' => ∃ a3 b3 ta tb, a3.length ≤ b3.length ∧ b3.length ≤ 10 ∧ table costS a3 b3 mc = R ∧ At s s.heap L [] [(Str.ofString "a", Value.str (S a3) ta), (Str.ofString "b", Value.str (S b3) tb), (Str.ofString "max_cost", Value.int mc tm)] s') ?_ ?_
      · refine opq ?_; intro Qc5 hQc5
        clear_value qk
        (rename Fr _ _ _ _ => F; refine foldM F ?_; clear F; intro mF F)
        w_strict (k_steps)
        · rename News _ _ _ _ => N1
          refine hQc5 _ _ (NextAt.mk ⟨b2, a2, _, _, by omega, m1, ?_, At.mk (by assumption) (fun _ h => nomatch h) (by kst_all)⟩)
          rw [← goalE, if_pos (by omega)]
        · refine hQc5 _ _ (NextAt.mk ⟨a2, b2, _, _, by omega, m2, ?_, At.mk (by assumption) (by assumption) (by kst_all)⟩)
          rw [← goalE, if_neg (by omega)]
      (try clear F N)
      (first | (intro s'; (first | (intro zt26; (first | refine Exists.elim zt26 ?_ | refine Mine.and_el zt26 ?_); intro a3 zt27; (try clear zt26); (first | refine Exists.elim zt27 ?_ | refine Mine.and_el zt27 ?_); intro b3 zt28; (try clear zt27); (first | refine Exists.elim zt28 ?_ | refine Mine.and_el zt28 ?_); intro ta3 zt29; (try clear zt28); (first | refine Exists.elim zt29 ?_ | refine Mine.and_el zt29 ?_); intro tb3 zt30; (try clear zt29); (first | refine Exists.elim zt30 ?_ | refine Mine.and_el zt30 ?_); intro hle zt31; (try clear zt30); (first | refine Exists.elim zt31 ?_ | refine Mine.and_el zt31 ?_); intro hb3 zt32; (try clear zt31); (first | refine Exists.elim zt32 ?_ | refine Mine.and_el zt32 ?_); intro hT zt33; (try clear zt32); (first | (refine Mine.at_el zt33 ?_; clear zt33; intro h tk m zt37 F N; subst zt37) | ((first | refine Exists.elim zt33 ?_ | refine Mine.and_el zt33 ?_); intro h zt34; (try clear zt33); (first | refine Exists.elim zt34 ?_ | refine Mine.and_el zt34 ?_); intro tk zt35; (try clear zt34); (first | refine Exists.elim zt35 ?_ | refine Mine.and_el zt35 ?_); intro m zt36; (try clear zt35); (first | refine Exists.elim zt36 ?_ | refine Mine.and_el zt36 ?_); intro F N; (try clear zt36)))) | rintro ⟨a3, b3, ta3, tb3, hle, hb3, hT, h, tk, m, F, N⟩)) | rintro s' ⟨a3, b3, ta3, tb3, hle, hb3, hT, h, tk, m, F, N⟩)
      clear goalE n1 n2 m1 m2 hn1 hn2 ha2 hb2 la1 lb1 ka1 kb1 h1e h2e la lb hx hy hR
      have n1 := S_length a3
      have n2 := S_length b3
      have hT' := hT
      unfold table at hT'
      refine cut_stmtR (fun s' => outer costS a3 mc b3 0 (firstRow a3.length) 0 = R ∧ At s s.heap L [] [(Str.ofString "a", Value.str (S a3) ta3), (Str.ofString "b", Value.str (S b3) tb3), (Str.ofString "max_cost", Value.int mc tm)] s') ?_ ?_
      · refine opq ?_; intro Qc6 hQc6
        (rename Fr _ _ _ _ => F; refine foldM F ?_; clear F; intro mF F)
        w_strict (k_steps)
        · refine hQc6 _ _ (NextOr.ret ?_)
          refine hQ0 _ _ ?_; with_unfolding_all refine done_ret (by assumption) ?_
          refine ⟨_, congrArg (fun i => Value.int i _) ?_⟩
          rw [← hT', if_pos (by omega)]
        · refine hQc6 _ _ (NextOr.mk ⟨?_, At.mk (by assumption) (by assumption) (by kst_all)⟩)
          rw [← hT', if_neg (by omega)]
      clear F N hT' hT
      (first | (intro s'; (first | (intro zt38; (first | refine Exists.elim zt38 ?_ | refine Mine.and_el zt38 ?_); intro hO zt39; (try clear zt38); (first | (refine Mine.at_el zt39 ?_; clear zt39; intro h tk m zt43 F N; subst zt43) | ((first | refine Exists.elim zt39 ?_ | refine Mine.and_el zt39 ?_); intro h zt40; (try clear zt39); (first | refine Exists.elim zt40 ?_ | refine Mine.and_el zt40 ?_); intro tk zt41; (try clear zt40); (first | refine Exists.elim zt41 ?_ | refine Mine.and_el zt41 ?_); intro m zt42; (try clear zt41); (first | refine Exists.elim zt42 ?_ | refine Mine.and_el zt42 ?_); intro F N; (try clear zt42)))) | rintro ⟨hO, h, tk, m, F, N⟩)) | rintro s' ⟨hO, h, tk, m, F, N⟩)
      (rename Fr _ _ _ _ => F; refine foldM F ?_; clear F; intro mF F)
      w_strict (k_steps)
      refine Hold.mk ?_
      rename IsRange _ _ _ _ _ _ _ _ => hr
      rename Fr _ _ _ _ => F; rename News _ _ _ _ => N
      rw [n1] at hr
      (rename Fr _ _ _ _ => F; refine foldM F ?_; clear F; intro mF F)
      refine list_range_N rfl F N hr (small_two (by omega)) size_two (by omega) ?_
      (try clear F N)
      intro ra h tk vs nn F N _ hi
      (rename Fr _ _ _ _ => F; refine foldM F ?_; clear F; intro mF F)
      w_strict ((try dsimp only); k_steps)
      refine Hold.mk ?_
      rename Fr _ _ _ _ => F; rename News _ _ _ _ => N
      (rename Fr _ _ _ _ => F; refine foldM F ?_; clear F; intro mF F)
      refine For_invVF F rfl rfl ?_ (by intro _; rfl) PassesOwn.never
      w_strict ((try dsimp only); k_steps)
      refine Hold.mk ?_
      rename IsRange _ _ _ _ _ _ _ _ => hr2
      (try clear F N)
      rename Fr _ _ _ _ => F; rename News _ _ _ _ => N
      rw [n2] at hr2
      have hi0 : IntsAre vs (firstRow a3.length) := by
        have e : firstRow a3.length = List.map (fun (i : Nat) => (2 + ↑i * 2 : Int)) (List.range a3.length) := by
          unfold firstRow; refine List.map_congr_left fun i _ => ?_; omega
        rw [e]; assumption
      refine for_range (σ := List Value × List Int × Int × Tok) (n := b3.length) (fun c => [(ra, listOf c.1.toArray nn)]) (fun c => [(Str.ofString "result", .int c.2.2.1 c.2.2.2)])
        [Str.ofString "bchar", Str.ofString "distance", Str.ofString "minimum", Str.ofString "index", Str.ofString "substitute", Str.ofString "insert_delete"]
        (fun i c => IntsAre c.1 c.2.1 ∧ c.2.1.length = a3.length ∧ outer costS a3 mc (b3.drop i) i c.2.1 c.2.2.1 = R) (vs, firstRow a3.length, 0, _) rfl hr2 (small_len (by omega)) size_len F N (by kst_all)
        ⟨hi0, by simp [firstRow], by simpa using hO⟩ ?_ ?_
      · (try clear F N); clear hr hr2 hO hi0
        (first | ((first | (intro zt44; (first | refine Exists.elim zt44 ?_ | refine Mine.and_el zt44 ?_); intro vs zt45; (try clear zt44); (first | refine Exists.elim zt45 ?_ | refine Mine.and_el zt45 ?_); intro ns zt46; (try clear zt45); (first | refine Exists.elim zt46 ?_ | refine Mine.and_el zt46 ?_); intro r tr; (try clear zt46)) | (refine Mine.pr4 ?_; intro vs ns r tr) | rintro ⟨vs, ns, r, tr⟩); intro i ti u h tk I oI hib; (first | (intro zt47; (first | refine Exists.elim zt47 ?_ | refine Mine.and_el zt47 ?_); intro hI zt48; (try clear zt47); (first | refine Exists.elim zt48 ?_ | refine Mine.and_el zt48 ?_); intro hlen hO; (try clear zt48)) | (refine Mine.pr3 ?_; intro hI hlen hO) | rintro ⟨hI, hlen, hO⟩); intro hoff F N) | rintro ⟨vs, ns, r, tr⟩ i ti u h tk I oI hib ⟨hI, hlen, hO⟩ hoff F N)
        refine opq ?_; intro Q1 hQ1
        dsimp only at F N hI hlen hO
        have hne1 : @Ne Nat ra I := hoff _ (List.Mem.head _)
        simp only [List.cons_append, List.nil_append] at N
        simp only [Int.zero_add] at F
        (rename Fr _ _ _ _ => F; refine foldM F ?_; clear F; intro mF F)
        w_strict ((try dsimp only); k_steps)
        refine Hold.mk ?_
        rename Fr _ _ _ _ => F; rename News _ _ _ _ => N
        (rename Fr _ _ _ _ => F; refine foldM F ?_; clear F; intro mF F)
        refine For_invVF F rfl rfl ?_ (by intro _; rfl) PassesOwn.never
        w_strict ((try dsimp only); k_steps)
        refine Hold.mk ?_
        rename IsRange _ _ _ _ _ _ _ _ => hr2
        (try clear F N)
        rename Fr _ _ _ _ => F; rename News _ _ _ _ => N
        rw [n1] at hr2
        (first | ((first | refine Exists.elim (show ∃ T3, inner costS (b3.getD i 0) a3 ns ((i : Int) * 2) ((i : Int) * 2) 9223372036854775807 = T3 from ⟨_, rfl⟩) ?_ | refine Mine.and_el (show ∃ T3, inner costS (b3.getD i 0) a3 ns ((i : Int) * 2) ((i : Int) * 2) 9223372036854775807 = T3 from ⟨_, rfl⟩) ?_); intro T3 hT3) | obtain ⟨T3, hT3⟩ : ∃ T3, inner costS (b3.getD i 0) a3 ns ((i : Int) * 2) ((i : Int) * 2) 9223372036854775807 = T3 := ⟨_, rfl⟩)
        have hdb : b3.drop i = b3.getD i 0 :: b3.drop (i + 1) := by rw [List.drop_eq_getElem_cons hib]; simp [hib]
        rw [hdb, outer, hT3] at hO
        refine for_range (σ := List Value × List Int × (Int × Tok) × (Int × Tok) × (Int × Tok)) (n := a3.length) (fun c => [(ra, listOf c.1.toArray nn), (I, oI)])
          (fun c => [(Str.ofString "distance", .int c.2.2.1.1 c.2.2.1.2), (Str.ofString "result", .int c.2.2.2.1.1 c.2.2.2.1.2), (Str.ofString "minimum", .int c.2.2.2.2.1 c.2.2.2.2.2)])
          [Str.ofString "substitute", Str.ofString "insert_delete"]
          (fun j c => IntsAre c.1 c.2.1 ∧ Part costS (b3.getD i 0) a3 T3 j c.2.1 c.2.2.1.1 c.2.2.2.1.1 c.2.2.2.2.1) (vs, ns, (_, _), (_, _), (_, _)) rfl hr2 (small_len (by omega)) size_len F N (by kst_all)
          ⟨by assumption, hT3 ▸ Part.start hlen⟩ ?_ ?_
        · (try clear F N); clear hr2 hO
          (first | ((first | (intro zt49; (first | refine Exists.elim zt49 ?_ | refine Mine.and_el zt49 ?_); intro vs zt50; (try clear zt49); (first | refine Exists.elim zt50 ?_ | refine Mine.and_el zt50 ?_); intro ns zt51; (try clear zt50); (first | refine Exists.elim zt51 ?_ | refine Mine.and_el zt51 ?_); intro zt52 zt53; (try clear zt51); (first | refine Exists.elim zt52 ?_ | refine Mine.and_el zt52 ?_); intro d td; (try clear zt52); (first | refine Exists.elim zt53 ?_ | refine Mine.and_el zt53 ?_); intro zt54 zt55; (try clear zt53); (first | refine Exists.elim zt54 ?_ | refine Mine.and_el zt54 ?_); intro res tres; (try clear zt54); (first | refine Exists.elim zt55 ?_ | refine Mine.and_el zt55 ?_); intro mn tmn; (try clear zt55)) | (refine Mine.pr8 ?_; intro vs ns d td res tres mn tmn) | rintro ⟨vs, ns, ⟨d, td⟩, ⟨res, tres⟩, ⟨mn, tmn⟩⟩); intro j tj u h tk I2 oI2 hja; (first | (intro zt56; (first | refine Exists.elim zt56 ?_ | refine Mine.and_el zt56 ?_); intro hI hPt; (try clear zt56)) | rintro ⟨hI, hPt⟩); intro hoff2 F N) | rintro ⟨vs, ns, ⟨d, td⟩, ⟨res, tres⟩, ⟨mn, tmn⟩⟩ j tj u h tk I2 oI2 hja ⟨hI, hPt⟩ hoff2 F N)
          refine opq ?_; intro Q2 hQ2
          dsimp only at F N hI hPt
          have hne2 : @Ne Nat ra I2 := hoff2 _ (List.Mem.head _)
          have hne3 : @Ne Nat I I2 := hoff2 _ (List.Mem.tail _ (List.Mem.head _))
          simp only [List.cons_append, List.nil_append] at N
          simp only [Int.zero_add] at F
          have hlen2 := hPt.length (by omega)
          (rename Fr _ _ _ _ => F; refine foldM F ?_; clear F; intro mF F)
          w_strict ((try dsimp only); k_steps)
          refine Hold.mk ?_
          refine use_claim (subst (by omega) (by omega)) F N X T hdp hun trivial ?_
          (try clear F N)
          (first | (intro _ h tk zt57; clear zt57; intro F N; (first | (intro zt58; (first | refine Exists.elim zt58 ?_ | refine Mine.and_el zt58 ?_); intro tc zt59; (try clear zt58); subst zt59) | rintro ⟨tc, rfl⟩)) | rintro _ h tk - F N ⟨tc, rfl⟩)
          have hcost : substF (Txt.item (S b3) ↑i) (Txt.item (S a3) ↑j) = costS (b3.getD i 0) (a3.getD j 0) := by rw [S_itemN hib, S_itemN hja]; rfl
          rw [hcost]
          clear hcost
          (first | ((first | refine Exists.elim (show ∃ cst, costS (b3.getD i 0) (a3.getD j 0) = cst from ⟨_, rfl⟩) ?_ | refine Mine.and_el (show ∃ cst, costS (b3.getD i 0) (a3.getD j 0) = cst from ⟨_, rfl⟩) ?_); intro cst hcst) | obtain ⟨cst, hcst⟩ : ∃ cst, costS (b3.getD i 0) (a3.getD j 0) = cst := ⟨_, rfl⟩)
          rw [hcst]
          have hstep : ∀ v mn', v = min (min res (ns.getD j 0) + 2) (d + cst) → mn' = (if v < mn then v else mn) → Part costS (b3.getD i 0) a3 T3 (j + 1) (ns.set j v) (ns.getD j 0) v mn' := by
            intro v mn' h1 h2
            exact hPt.step (c := a3.getD j 0) (getD_eq hja) v mn' (by rw [hcst]; exact h1) h2
          w_strict ((try dsimp only); k_steps)
          all_goals (rename IntsAre _ _ => hI2; (try clear F N); rename Fr _ _ _ _ => F; rename News _ _ _ _ => N; rw [Int.toNat_natCast] at hI2 N F)
          · rename (_ : Int) < mn => hlt
            rw [Int.toNat_natCast] at hlt
            refine hQ2 _ _ ?_; refine turn_end (⟨_, _, ⟨_, _⟩, ⟨_, _⟩, ⟨_, _⟩⟩) F N (by kst_in) (by k_mem) (offC hne2 (off1 hne3)) (by kst_all) (by (intro z h1 h2 h3; first | ((repeat (first | (with_reducible rfl) | refine Mine.sm_if (by first | exact h1 | exact Mine.sm_to (h2 _ (List.Mem.head _)) (by with_unfolding_all rfl) | exact Mine.sm_to (h2 _ (List.Mem.tail _ (List.Mem.head _))) (by with_unfolding_all rfl) | exact Mine.sm_to (h2 _ (List.Mem.tail _ (List.Mem.tail _ (List.Mem.head _)))) (by with_unfolding_all rfl) | exact Mine.sm_to (h2 _ (List.Mem.tail _ (List.Mem.tail _ (List.Mem.tail _ (List.Mem.head _))))) (by with_unfolding_all rfl) | exact Mine.sm_to (h2 _ (List.Mem.tail _ (List.Mem.tail _ (List.Mem.tail _ (List.Mem.tail _ (List.Mem.head _)))))) (by with_unfolding_all rfl) | exact Mine.sm_to (h2 _ (List.Mem.tail _ (List.Mem.tail _ (List.Mem.tail _ (List.Mem.tail _ (List.Mem.tail _ (List.Mem.head _))))))) (by with_unfolding_all rfl) | exact Mine.sm_to (h2 _ (List.Mem.tail _ (List.Mem.tail _ (List.Mem.tail _ (List.Mem.tail _ (List.Mem.tail _ (List.Mem.tail _ (List.Mem.head _)))))))) (by with_unfolding_all rfl) | exact Mine.sm_to (h2 _ (List.Mem.tail _ (List.Mem.tail _ (List.Mem.tail _ (List.Mem.tail _ (List.Mem.tail _ (List.Mem.tail _ (List.Mem.tail _ (List.Mem.head _))))))))) (by with_unfolding_all rfl) | exact Mine.sm_ne h3 (by with_unfolding_all rfl)) ?_ | refine Mine.sm_ifc h3 ?_ | refine Mine.sm_ifc (Mine.sm_sub h3 (by with_unfolding_all rfl)) ?_ | exact rfl)); done) | ((try simp only [List.forall_mem_cons, List.not_mem_nil, false_implies, implies_true, and_true, ne_eq] at h2); (try simp only [List.contains_cons, List.contains_nil, Bool.or_false, Bool.or_eq_false_iff, beq_eq_false_iff_ne, ne_eq] at h3); simp +zetaDelta [kstB, h1, h2, h3]))) ⟨hI2, ?_⟩
            clear hI2 F N
            refine hstep _ _ ?_ (if_pos hlt).symm
            exact least3 _ _ _ _
          · rename ¬ (_ : Int) < mn => hlt
            rw [Int.toNat_natCast] at hlt
            refine hQ2 _ _ ?_; refine turn_end (⟨_, _, ⟨_, _⟩, ⟨_, _⟩, ⟨_, _⟩⟩) F N (by kst_in) (by k_mem) (offC hne2 (off1 hne3)) (by kst_all) (by (intro z h1 h2 h3; first | ((repeat (first | (with_reducible rfl) | refine Mine.sm_if (by first | exact h1 | exact Mine.sm_to (h2 _ (List.Mem.head _)) (by with_unfolding_all rfl) | exact Mine.sm_to (h2 _ (List.Mem.tail _ (List.Mem.head _))) (by with_unfolding_all rfl) | exact Mine.sm_to (h2 _ (List.Mem.tail _ (List.Mem.tail _ (List.Mem.head _)))) (by with_unfolding_all rfl) | exact Mine.sm_to (h2 _ (List.Mem.tail _ (List.Mem.tail _ (List.Mem.tail _ (List.Mem.head _))))) (by with_unfolding_all rfl) | exact Mine.sm_to (h2 _ (List.Mem.tail _ (List.Mem.tail _ (List.Mem.tail _ (List.Mem.tail _ (List.Mem.head _)))))) (by with_unfolding_all rfl) | exact Mine.sm_to (h2 _ (List.Mem.tail _ (List.Mem.tail _ (List.Mem.tail _ (List.Mem.tail _ (List.Mem.tail _ (List.Mem.head _))))))) (by with_unfolding_all rfl) | exact Mine.sm_to (h2 _ (List.Mem.tail _ (List.Mem.tail _ (List.Mem.tail _ (List.Mem.tail _ (List.Mem.tail _ (List.Mem.tail _ (List.Mem.head _)))))))) (by with_unfolding_all rfl) | exact Mine.sm_to (h2 _ (List.Mem.tail _ (List.Mem.tail _ (List.Mem.tail _ (List.Mem.tail _ (List.Mem.tail _ (List.Mem.tail _ (List.Mem.tail _ (List.Mem.head _))))))))) (by with_unfolding_all rfl) | exact Mine.sm_ne h3 (by with_unfolding_all rfl)) ?_ | refine Mine.sm_ifc h3 ?_ | refine Mine.sm_ifc (Mine.sm_sub h3 (by with_unfolding_all rfl)) ?_ | exact rfl)); done) | ((try simp only [List.forall_mem_cons, List.not_mem_nil, false_implies, implies_true, and_true, ne_eq] at h2); (try simp only [List.contains_cons, List.contains_nil, Bool.or_false, Bool.or_eq_false_iff, beq_eq_false_iff_ne, ne_eq] at h3); simp +zetaDelta [kstB, h1, h2, h3]))) ⟨hI2, ?_⟩
            clear hI2 F N
            refine hstep _ _ ?_ (if_neg hlt).symm
            exact least3 _ _ _ _
        · (try clear F N)
          (first | ((first | (intro zt60; (first | refine Exists.elim zt60 ?_ | refine Mine.and_el zt60 ?_); intro vs zt61; (try clear zt60); (first | refine Exists.elim zt61 ?_ | refine Mine.and_el zt61 ?_); intro ns zt62; (try clear zt61); (first | refine Exists.elim zt62 ?_ | refine Mine.and_el zt62 ?_); intro zt63 zt64; (try clear zt62); (first | refine Exists.elim zt63 ?_ | refine Mine.and_el zt63 ?_); intro d td; (try clear zt63); (first | refine Exists.elim zt64 ?_ | refine Mine.and_el zt64 ?_); intro zt65 zt66; (try clear zt64); (first | refine Exists.elim zt65 ?_ | refine Mine.and_el zt65 ?_); intro res tres; (try clear zt65); (first | refine Exists.elim zt66 ?_ | refine Mine.and_el zt66 ?_); intro mn tmn; (try clear zt66)) | (refine Mine.pr8 ?_; intro vs ns d td res tres mn tmn) | rintro ⟨vs, ns, ⟨d, td⟩, ⟨res, tres⟩, ⟨mn, tmn⟩⟩); intro u h tk; (first | (intro zt67; (first | refine Exists.elim zt67 ?_ | refine Mine.and_el zt67 ?_); intro hI hPt; (try clear zt67)) | rintro ⟨hI, hPt⟩); intro F N) | rintro ⟨vs, ns, ⟨d, td⟩, ⟨res, tres⟩, ⟨mn, tmn⟩⟩ u h tk ⟨hI, hPt⟩ F N)
          dsimp only at F N hI hPt
          have hdone := hPt.done
          have hlen2 := hPt.length (Nat.le_refl _)
          rw [hdone] at hO
          (try dsimp only at hO)
          (rename Fr _ _ _ _ => F; refine foldM F ?_; clear F; intro mF F)
          w_strict ((try dsimp only); k_steps)
          · (try dsimp only)
            refine hQ1 _ _ ?_; refine turn_ret ?_
            (try dsimp only)
            refine hQ0 _ _ ?_; refine done_ret (by assumption) ?_
            refine ⟨_, congrArg (fun i => Value.int i _) ?_⟩
            rw [← hO, if_pos (by assumption)]
          · rw [if_neg (by assumption)] at hO
            refine hQ1 _ _ ?_; refine turn_end (⟨_, _, _, _⟩) (by assumption) (by assumption) (by kst_in) (by k_mem) (off1 hne1) (by kst_all) (by (intro z h1 h2 h3; first | ((repeat (first | (with_reducible rfl) | refine Mine.sm_if (by first | exact h1 | exact Mine.sm_to (h2 _ (List.Mem.head _)) (by with_unfolding_all rfl) | exact Mine.sm_to (h2 _ (List.Mem.tail _ (List.Mem.head _))) (by with_unfolding_all rfl) | exact Mine.sm_to (h2 _ (List.Mem.tail _ (List.Mem.tail _ (List.Mem.head _)))) (by with_unfolding_all rfl) | exact Mine.sm_to (h2 _ (List.Mem.tail _ (List.Mem.tail _ (List.Mem.tail _ (List.Mem.head _))))) (by with_unfolding_all rfl) | exact Mine.sm_to (h2 _ (List.Mem.tail _ (List.Mem.tail _ (List.Mem.tail _ (List.Mem.tail _ (List.Mem.head _)))))) (by with_unfolding_all rfl) | exact Mine.sm_to (h2 _ (List.Mem.tail _ (List.Mem.tail _ (List.Mem.tail _ (List.Mem.tail _ (List.Mem.tail _ (List.Mem.head _))))))) (by with_unfolding_all rfl) | exact Mine.sm_to (h2 _ (List.Mem.tail _ (List.Mem.tail _ (List.Mem.tail _ (List.Mem.tail _ (List.Mem.tail _ (List.Mem.tail _ (List.Mem.head _)))))))) (by with_unfolding_all rfl) | exact Mine.sm_to (h2 _ (List.Mem.tail _ (List.Mem.tail _ (List.Mem.tail _ (List.Mem.tail _ (List.Mem.tail _ (List.Mem.tail _ (List.Mem.tail _ (List.Mem.head _))))))))) (by with_unfolding_all rfl) | exact Mine.sm_ne h3 (by with_unfolding_all rfl)) ?_ | refine Mine.sm_ifc h3 ?_ | refine Mine.sm_ifc (Mine.sm_sub h3 (by with_unfolding_all rfl)) ?_ | exact rfl)); done) | ((try simp only [List.forall_mem_cons, List.not_mem_nil, false_implies, implies_true, and_true, ne_eq] at h2); (try simp only [List.contains_cons, List.contains_nil, Bool.or_false, Bool.or_eq_false_iff, beq_eq_false_iff_ne, ne_eq] at h3); simp +zetaDelta [kstB, h1, h2, h3]))) ⟨by assumption, hlen2, hO⟩
      · (try clear F N)
        (first | ((first | (intro zt68; (first | refine Exists.elim zt68 ?_ | refine Mine.and_el zt68 ?_); intro vs zt69; (try clear zt68); (first | refine Exists.elim zt69 ?_ | refine Mine.and_el zt69 ?_); intro ns zt70; (try clear zt69); (first | refine Exists.elim zt70 ?_ | refine Mine.and_el zt70 ?_); intro r tr; (try clear zt70)) | (refine Mine.pr4 ?_; intro vs ns r tr) | rintro ⟨vs, ns, r, tr⟩); intro u h tk; (first | (intro zt71; (first | refine Exists.elim zt71 ?_ | refine Mine.and_el zt71 ?_); intro hI zt72; (try clear zt71); (first | refine Exists.elim zt72 ?_ | refine Mine.and_el zt72 ?_); intro hlen hO; (try clear zt72)) | (refine Mine.pr3 ?_; intro hI hlen hO) | rintro ⟨hI, hlen, hO⟩); intro F N) | rintro ⟨vs, ns, r, tr⟩ u h tk ⟨hI, hlen, hO⟩ F N)
        dsimp only at F N hI hlen hO
        rw [List.drop_eq_nil_of_le (Nat.le_refl _), outer] at hO
        (rename Fr _ _ _ _ => F; refine foldM F ?_; clear F; intro mF F)
        w_strict ((try dsimp only); k_steps)
        refine hQ0 _ _ ?_; with_unfolding_all refine done_ret (by assumption) ?_
        refine ⟨_, congrArg (fun i => Value.int i _) ?_⟩
        exact hO
    clear_value qk
    refine ksw_while (σ := Int × Tok) (fun _ => []) (fun c => [(Str.ofString "post", .int c.1 c.2)]) (fun _ => True) [] (fun c => ∃ k : Nat, c.1 = -(k : Int) ∧ k ≤ lcp a1.reverse b1.reverse) (fun c => (a1.length + c.1).toNat) (0, _) F N trivial (by kst_all) ⟨0, rfl, Nat.zero_le _⟩ ?_ PassesOwn.never
    (try clear F N)
    (first | ((first | (intro zt73; (first | refine Exists.elim zt73 ?_ | refine Mine.and_el zt73 ?_); intro p tp; (try clear zt73)) | rintro ⟨p, tp⟩); intro u h tk hf; (first | (intro zt74; (first | refine Exists.elim zt74 ?_ | refine Mine.and_el zt74 ?_); intro n zt75; (try clear zt74); (first | refine Exists.elim zt75 ?_ | refine Mine.and_el zt75 ?_); intro zt76 hp; (try clear zt75); subst zt76) | rintro ⟨n, rfl, hp⟩); intro F N) | rintro ⟨p, tp⟩ u h tk hf ⟨n, rfl, hp⟩ F N)
    dsimp only at F N
    have l1 := (lcp_le a1.reverse b1.reverse).1
    have l2 := (lcp_le a1.reverse b1.reverse).2
    rw [List.length_reverse] at l1 l2
    have hna : n ≤ (S a1).length := by omega
    have hnb : n ≤ (S b1).length := by omega
    have hl1 := S_neg_add (a := a1) (n := n) (by omega)
    have hl2 := S_neg_add (a := b1) (n := n) (by omega)
    have hs1 := Hold.mk (S_neg_len (a := a1) (n := n) (by omega))
    have hs2 := Hold.mk (S_neg_len (a := b1) (n := n) (by omega))
    have more : Hold (n < a1.length → n < b1.length → (Txt.item (S a1) (-(n : Int) - 1) == Txt.item (S b1) (-(n : Int) - 1)) = true → n < lcp a1.reverse b1.reverse) := by
      refine Hold.mk ?_
      intro h1 h2 e
      rw [S_itemRev h1, S_itemRev h2, S_beq] at e
      have h1' : n < a1.reverse.length := by simpa using h1
      have h2' : n < b1.reverse.length := by simpa using h2
      refine lcp_lt_of hp h1' h2' ?_
      rw [getD_eq h1', getD_eq h2']
      simpa using e
    have stop : Hold (n < a1.length → n < b1.length → (Txt.item (S a1) (-(n : Int) - 1) == Txt.item (S b1) (-(n : Int) - 1)) = false → n = lcp a1.reverse b1.reverse) := by
      refine Hold.mk ?_
      intro h1 h2 e
      rw [S_itemRev h1, S_itemRev h2, S_beq] at e
      have h1' : n < a1.reverse.length := by simpa using h1
      have h2' : n < b1.reverse.length := by simpa using h2
      rcases Nat.lt_or_ge n (lcp a1.reverse b1.reverse) with h | h
      · have := lcp_below a1.reverse b1.reverse n h
        rw [getD_eq h1', getD_eq h2'] at this
        simp at e this
        exact absurd this e
      · omega
    (rename Fr _ _ _ _ => F; refine foldM F ?_; clear F; intro mF F)
    w_strict ((try dsimp only); (try k_fold); k_steps)
    all_goals first
      | (exfalso; omega)
      | (have hlt := Hold.out more (by omega) (by omega) (by assumption); refine Hold.mk ?_; refine ksw_end (-(n : Int) - 1, _) (by assumption) (by assumption) (fun _ h => nomatch h) trivial (by kst_all) (by (intro z h2 h3; first | ((repeat (first | (with_reducible rfl) | refine Mine.sm_if (by first | exact Mine.sm_to (h2 _ (List.Mem.head _)) (by with_unfolding_all rfl) | exact Mine.sm_to (h2 _ (List.Mem.tail _ (List.Mem.head _))) (by with_unfolding_all rfl) | exact Mine.sm_to (h2 _ (List.Mem.tail _ (List.Mem.tail _ (List.Mem.head _)))) (by with_unfolding_all rfl) | exact Mine.sm_to (h2 _ (List.Mem.tail _ (List.Mem.tail _ (List.Mem.tail _ (List.Mem.head _))))) (by with_unfolding_all rfl) | exact Mine.sm_to (h2 _ (List.Mem.tail _ (List.Mem.tail _ (List.Mem.tail _ (List.Mem.tail _ (List.Mem.head _)))))) (by with_unfolding_all rfl) | exact Mine.sm_to (h2 _ (List.Mem.tail _ (List.Mem.tail _ (List.Mem.tail _ (List.Mem.tail _ (List.Mem.tail _ (List.Mem.head _))))))) (by with_unfolding_all rfl) | exact Mine.sm_to (h2 _ (List.Mem.tail _ (List.Mem.tail _ (List.Mem.tail _ (List.Mem.tail _ (List.Mem.tail _ (List.Mem.tail _ (List.Mem.head _)))))))) (by with_unfolding_all rfl) | exact Mine.sm_to (h2 _ (List.Mem.tail _ (List.Mem.tail _ (List.Mem.tail _ (List.Mem.tail _ (List.Mem.tail _ (List.Mem.tail _ (List.Mem.tail _ (List.Mem.head _))))))))) (by with_unfolding_all rfl) | exact Mine.sm_ne h3 (by with_unfolding_all rfl)) ?_ | refine Mine.sm_ifc h3 ?_ | refine Mine.sm_ifc (Mine.sm_sub h3 (by with_unfolding_all rfl)) ?_ | exact rfl)); done) | ((try simp only [List.forall_mem_cons, List.not_mem_nil, false_implies, implies_true, and_true, ne_eq] at h2); (try simp only [List.contains_cons, List.contains_nil, Bool.or_false, Bool.or_eq_false_iff, beq_eq_false_iff_ne, ne_eq] at h3); simp +zetaDelta [kstB, h2, h3]))) ⟨n + 1, by dsimp only; omega, by omega⟩ (by dsimp only; omega))
      | (have hn := Hold.out stop (by omega) (by omega) (by assumption); subst hn; exact cont2 _ _ _ _ _ _ (by assumption) (by assumption) (by kst_all))
      | (have k1 := Hold.out hs1; have k2 := Hold.out hs2; exfalso; omega)
      | (have hn : n = lcp a1.reverse b1.reverse := by have k1 := Hold.out hs1; have k2 := Hold.out hs2; omega
         subst hn; exact cont2 _ _ _ _ _ _ (by assumption) (by assumption) (by kst_all))
  clear_value qk
  refine ksw_while (σ := Nat × Tok) (fun _ => []) (fun c => [(Str.ofString "pre", .int c.1 c.2)]) (fun _ => True) [] (fun c => c.1 ≤ lcp a b) (fun c => a.length - c.1) (0, tk) F N trivial (by kst_all) (by simp) ?_ PassesOwn.never
  (try clear F N)
  (first | ((first | (intro zt77; (first | refine Exists.elim zt77 ?_ | refine Mine.and_el zt77 ?_); intro n tp; (try clear zt77)) | rintro ⟨n, tp⟩); intro u h tk hf hp F N) | rintro ⟨n, tp⟩ u h tk hf hp F N)
  dsimp only at F N hp
  have l1 := (lcp_le a b).1
  have l2 := (lcp_le a b).2
  have hna : n ≤ (S a).length := by omega
  have hnb : n ≤ (S b).length := by omega
  (rename Fr _ _ _ _ => F; refine foldM F ?_; clear F; intro mF F)
  w_strict ((try dsimp only); (try k_fold); k_steps)
  · rename _ = true => e
    have h1 : n < a.length := by omega
    have h2 : n < b.length := by omega
    rw [S_itemN h1, S_itemN h2, S_beq] at e
    have hlt : n < lcp a b := lcp_lt_of hp h1 h2 (by rw [getD_eq h1, getD_eq h2]; simpa using e)
    exact Hold.mk (ksw_end (n + 1, _) (by assumption) (by assumption) (fun _ h => nomatch h) trivial (by kst_all) (by (intro z h2 h3; first | ((repeat (first | (with_reducible rfl) | refine Mine.sm_if (by first | exact Mine.sm_to (h2 _ (List.Mem.head _)) (by with_unfolding_all rfl) | exact Mine.sm_to (h2 _ (List.Mem.tail _ (List.Mem.head _))) (by with_unfolding_all rfl) | exact Mine.sm_to (h2 _ (List.Mem.tail _ (List.Mem.tail _ (List.Mem.head _)))) (by with_unfolding_all rfl) | exact Mine.sm_to (h2 _ (List.Mem.tail _ (List.Mem.tail _ (List.Mem.tail _ (List.Mem.head _))))) (by with_unfolding_all rfl) | exact Mine.sm_to (h2 _ (List.Mem.tail _ (List.Mem.tail _ (List.Mem.tail _ (List.Mem.tail _ (List.Mem.head _)))))) (by with_unfolding_all rfl) | exact Mine.sm_to (h2 _ (List.Mem.tail _ (List.Mem.tail _ (List.Mem.tail _ (List.Mem.tail _ (List.Mem.tail _ (List.Mem.head _))))))) (by with_unfolding_all rfl) | exact Mine.sm_to (h2 _ (List.Mem.tail _ (List.Mem.tail _ (List.Mem.tail _ (List.Mem.tail _ (List.Mem.tail _ (List.Mem.tail _ (List.Mem.head _)))))))) (by with_unfolding_all rfl) | exact Mine.sm_to (h2 _ (List.Mem.tail _ (List.Mem.tail _ (List.Mem.tail _ (List.Mem.tail _ (List.Mem.tail _ (List.Mem.tail _ (List.Mem.tail _ (List.Mem.head _))))))))) (by with_unfolding_all rfl) | exact Mine.sm_ne h3 (by with_unfolding_all rfl)) ?_ | refine Mine.sm_ifc h3 ?_ | refine Mine.sm_ifc (Mine.sm_sub h3 (by with_unfolding_all rfl)) ?_ | exact rfl)); done) | ((try simp only [List.forall_mem_cons, List.not_mem_nil, false_implies, implies_true, and_true, ne_eq] at h2); (try simp only [List.contains_cons, List.contains_nil, Bool.or_false, Bool.or_eq_false_iff, beq_eq_false_iff_ne, ne_eq] at h3); simp +zetaDelta [kstB, h2, h3]))) (by dsimp only; omega) (by dsimp only; omega))
  · rename _ = false => e
    have h1 : n < a.length := by omega
    have h2 : n < b.length := by omega
    rw [S_itemN h1, S_itemN h2, S_beq] at e
    have hn : n = lcp a b := by
      rcases Nat.lt_or_ge n (lcp a b) with h | h
      · have := lcp_below a b n h
        rw [getD_eq h1, getD_eq h2] at this
        simp at e this
        exact absurd this e
      · omega
    subst hn
    exact cont _ _ _ _ (by assumption) (by assumption) (by kst_all)
  · obtain rfl : n = lcp a b := by omega
    exact cont _ _ _ _ (by assumption) (by assumption) (by kst_all)
  · obtain rfl : n = lcp a b := by omega
    exact cont _ _ _ _ (by assumption) (by assumption) (by kst_all)
end Mine
end
section
open PySem PySem.W PyProof.Rows PySem.Spec PySem.SeqAt
set_option maxRecDepth 100000
set_option maxHeartbeats 8000000
namespace Mine
theorem reads_of_strs {h : Heap} {a : Addr} {vs : List Value} {ss : List Str} (hl : h.IsList a vs.toArray) (hi : StrsAre vs ss) : Reads h (.ref a) (.list (ss.map PyData.str)) [a] := by
  obtain ⟨o, ho, hc, n, hd⟩ := hl
  exact Reads.list ho hc hd (by simpa using hi.reads h)
theorem canLayAll0_strs : ∀ ss : List Str, (∀ x ∈ ss, PyData.strOk x = true) → PyData.canLayAll0 (ss.map PyData.str) = true
  | [], _ => by simp [PyData.canLayAll0]
  | n :: r, h => by simp [PyData.canLayAll0, PyData.canLay0, canLayAll0_strs r fun x hx => h x (.tail _ hx), h n (.head _)]
theorem depthAll_strs : ∀ ss : List Str, PyData.depthAll (ss.map PyData.str) ≤ 1
  | [] => by simp [PyData.depthAll]
  | n :: r => by
    have := depthAll_strs r
    simp only [List.map_cons, PyData.depthAll, PyData.depth]
    omega
theorem shaped_strs (ss : List Str) (hok : ∀ x ∈ ss, PyData.strOk x = true) : shaped (.list (ss.map PyData.str)) = true := by
  have h1 := depthAll_strs ss
  have h2 : PyData.depth (.list (ss.map PyData.str)) ≤ 64 := by simp only [PyData.depth]; omega
  show (PyData.canLay0 (.list (ss.map PyData.str)) && decide (PyData.depth (.list (ss.map PyData.str)) ≤ 64)) = true
  rw [Bool.and_eq_true]
  exact ⟨by simp only [PyData.canLay0]; exact canLayAll0_strs ss hok, decide_eq_true h2⟩
theorem noMix_strs : ∀ ss ts : List Str, noMixAll (ss.map PyData.str) (ts.map PyData.str) = true
  | [], [] => by simp [noMixAll]
  | [], _ :: _ => by simp [noMixAll]
  | _ :: _, [] => by simp [noMixAll]
  | _ :: r, _ :: q => by simp [noMixAll, noMix, noMix_strs r q]
theorem same_strs : ∀ ss ts : List Str, PySem.Spec.sameAll (ss.map PyData.str) (ts.map PyData.str) = decide (ss = ts)
  | [], [] => by simp [PySem.Spec.sameAll]
  | [], _ :: _ => by simp [PySem.Spec.sameAll]
  | _ :: _, [] => by simp [PySem.Spec.sameAll]
  | n :: r, k :: q => by
    simp only [List.map_cons, PySem.Spec.sameAll, PySem.Spec.same, same_strs r q]
    by_cases h : n = k <;> simp [h]
section
variable {prog : Program} {w : World} {A : Around} {E : Value → Shared → Prop} {s : Shared} {h₀ : Heap} {L : Addr} {m : Str → Option Value} {news : List (Addr × Obj)} {Q : Value → Shared → Prop}
theorem eq_strsR {a b : Addr} {vs us : List Value} {ss ts : List Str} (hl : s.heap.IsList a vs.toArray) (hi : StrsAre vs ss) (hl' : s.heap.IsList b us.toArray) (hi' : StrsAre us ts) (hu : A.units + 64 < cLine) (ok1 : ∀ x ∈ ss, PyData.strOk x = true) (ok2 : ∀ x ∈ ts, PyData.strOk x = true)
    (h : Q (.bool (decide (ss = ts))) s) : wpAny (model prog w) A (compareOp .Eq (.ref a) (.ref b)) Q E s :=
  eq_dataH_same (reads_of_strs hl hi) (reads_of_strs hl' hi') (shaped_strs ss ok1) (shaped_strs ts ok2) hu (by simp only [noMix]; exact noMix_strs ss ts) (by simp only [PySem.Spec.same]; rw [same_strs]; exact h)
/-- append to the ledger's first list -/
theorem append_R {D : Addr} {vs : List Value} {n : Nat} {x : Value} (F : Fr h₀ L s.heap m) (N : News h₀ L s.heap ((D, listOf vs.toArray n) :: news)) (hne : ∀ p ∈ news, p.1 ≠ D) (hsz : vs.length ≤ 1000)
    (h : ∀ h', Fr h₀ L h' m → News h₀ L h' ((D, listOf (vs ++ [x]).toArray (n + 1)) :: news) → Q .none { s with heap := h' }) : wpAny (model prog w) A (call (.builtin "list.append") [.ref D, x]) Q E s := by
  refine append_K F N (.head hne) (fun h' F' N' => h h' F' ?_) (by rw [List.size_toArray, sizeLine_eq]; omega)
  simpa using N'
theorem slice_last {value slice : PySem.Expr} {l : Addr} {vs : List Value} {n : Nat} {j : Int} {t : Tok} (k : Nat) (hj : j = -(k : Int)) (hk : 1 ≤ k) (F : Fr h₀ L s.heap m) (N : News h₀ L s.heap news) (hm : (l, listOf vs.toArray n) ∈ news) (hsz : vs.length ≤ 1000)
    (h : ∀ D h', Fr h₀ L h' m → News h₀ L h' ((D, listOf (vs.drop (vs.length - k)).toArray 0) :: news) → (∀ p ∈ news, p.1 < D) → Q (.ref D) { s with heap := h' })
    (hs : subscripted slice false (.ref l) (.ref s.heap.objs.size) = operate [.ref s.heap.objs.size, .ref l] (getItem (.ref l) (.ref s.heap.objs.size)) := by with_unfolding_all rfl) (ht : ∀ r, letTemporaryGo value (.ref l) r = pure () := by intro _; with_unfolding_all rfl) :
    wpAny (model prog w) A (subscriptTail value slice (.ref l) (.ref s.heap.objs.size)) Q E { s with heap := s.heap.push { cls := .type "slice", data := .fields #[.int j t, .none, .none] } } := by
  subst hj
  refine kmk_slice_lit F N ⟨_, (N _ hm).1, rfl, _, rfl⟩ (.int _ _) .none ?_ h hs ht (by rw [List.size_toArray, sizeLine_eq]; omega)
  rw [slicePick_last _ k hk]; simp
theorem slice_but {value slice : PySem.Expr} {l : Addr} {vs : List Value} {n : Nat} {j : Int} {t : Tok} (k : Nat) (hj : j = -(k : Int)) (hk : 1 ≤ k) (F : Fr h₀ L s.heap m) (N : News h₀ L s.heap news) (hm : (l, listOf vs.toArray n) ∈ news) (hsz : vs.length ≤ 1000)
    (h : ∀ D h', Fr h₀ L h' m → News h₀ L h' ((D, listOf (vs.take (vs.length - k)).toArray 0) :: news) → (∀ p ∈ news, p.1 < D) → Q (.ref D) { s with heap := h' })
    (hs : subscripted slice false (.ref l) (.ref s.heap.objs.size) = operate [.ref s.heap.objs.size, .ref l] (getItem (.ref l) (.ref s.heap.objs.size)) := by with_unfolding_all rfl) (ht : ∀ r, letTemporaryGo value (.ref l) r = pure () := by intro _; with_unfolding_all rfl) :
    wpAny (model prog w) A (subscriptTail value slice (.ref l) (.ref s.heap.objs.size)) Q E { s with heap := s.heap.push { cls := .type "slice", data := .fields #[.none, .int j t, .none] } } := by
  subst hj
  refine kmk_slice_lit F N ⟨_, (N _ hm).1, rfl, _, rfl⟩ .none (.int _ _) ?_ h hs ht (by rw [List.size_toArray, sizeLine_eq]; omega)
  rw [slicePick_butLast _ k hk]; simp
theorem add_R {l b : Addr} {vs us : List Value} {n k : Nat} (F : Fr h₀ L s.heap m) (N : News h₀ L s.heap news) (hl : (l, listOf vs.toArray n) ∈ news) (hb : (b, listOf us.toArray k) ∈ news) (hsz : vs.length + us.length ≤ 1000)
    (h : ∀ D h', Fr h₀ L h' m → News h₀ L h' ((D, listOf (vs ++ us).toArray 0) :: news) → (∀ p ∈ news, p.1 < D) → Q (.ref D) { s with heap := h' }) :
    wpAny (model prog w) A (binaryOp .Add (.ref l) (.ref b)) Q E s :=
  add_lists (vs := vs) (ws := us) (hsz := by rw [sizeLine_eq]; omega) F N ⟨_, (N _ hl).1, rfl, _, rfl⟩ ⟨_, (N _ hb).1, rfl, _, rfl⟩ (fun h' F' N' => h _ h' F' N' fun p hp => Heap.lt_size (N p hp).1)
theorem min3_N {a b c : Int} {t u x : Tok} (hh : A.handled = none) (F : Fr h₀ L s.heap m) (N : News h₀ L s.heap news)
    (h : ∀ h' tk tok, Fr h₀ L h' m → News h₀ L h' news → Q (.int (if b < a then (if c < b then c else b) else (if c < a then c else a)) tok) { s with heap := h', toks := tk }) :
    wpAny (model prog w) A (call (.builtin "min") [.int a t, .int b u, .int c x]) Q E s := by
  refine min_three_ints hh fun h' tk hk => ?_
  have key := fun tok => h h' tk tok (F.keeps hk) (N.grown hk)
  by_cases hba : b < a <;> by_cases hc1 : c < b <;> by_cases hc2 : c < a <;> simp only [hba, hc1, hc2, if_true, if_false] at key ⊢ <;> exact key _
theorem isListOf {D : Addr} {vs : List Value} {n : Nat} (N : News h₀ L s.heap news) (hm : (D, listOf vs.toArray n) ∈ news) : s.heap.IsList D vs.toArray := ⟨_, (N _ hm).1, rfl, _, rfl⟩
end
end Mine
end
section
open PySem PySem.W PyProof.Rows
set_option maxRecDepth 100000
set_option maxHeartbeats 8000000
namespace Mine
local macro_rules | `(tactic| walk_at "pyIter str") => `(tactic| refine Hold.out ?_)
local macro_rules | `(tactic| walk_at "exec For Name Name cons nil") => `(tactic| refine Hold.out ?_)
local macro_rules | `(tactic| walk_at "execs cons") => `(tactic| walk_at "mxq")
local macro_rules | `(tactic| walk_at "execs nil") => `(tactic| walk_at "mxn")
local macro_rules | `(tactic| walk_at "call builtin:list.append") => `(tactic| refine Hold.out ?_)
local macro_rules | `(tactic| walk_at "subscriptTail Name Slice ref ref") => `(tactic| refine Hold.out ?_)
local macro_rules | `(tactic| walk_at "compareOp Eq ref ref") => `(tactic| refine Hold.out ?_)
local macro_rules | `(tactic| walk_at "binaryOp Add ref ref") => `(tactic| refine Hold.out ?_)
noncomputable def itemS : Option Nat → Str
  | some c => S [c]
  | none => Str.ofString "any"
noncomputable def itemStep (acc : List (Option Nat)) (c : Nat) : List (Option Nat) :=
  if (acc ++ [some c]).drop ((acc ++ [some c]).length - 3) = [some 46, some 46, some 46] then (acc ++ [some c]).take ((acc ++ [some c]).length - 3) ++ [none] else acc ++ [some c]
noncomputable def itemsF (p : List Nat) : List (Option Nat) := p.foldl itemStep []
theorem itemS_ok {o : Option Nat} (h : ∀ c, o = some c → c < 128) : PyData.strOk (itemS o) = true := by
  cases o with
  | none => decide +kernel
  | some c =>
    have := h c rfl
    simp only [itemS, S, PyData.strOk]
    simp; omega
theorem itemStep_mem {acc : List (Option Nat)} {c : Nat} {o : Option Nat} (h : o ∈ itemStep acc c) : o ∈ acc ∨ o = some c ∨ o = none := by
  unfold itemStep at h
  split at h
  · rcases List.mem_append.mp h with h | h
    · have := List.mem_of_mem_take h
      rcases List.mem_append.mp this with h | h
      · exact .inl h
      · exact .inr (.inl (List.mem_singleton.mp h))
    · exact .inr (.inr (List.mem_singleton.mp h))
  · rcases List.mem_append.mp h with h | h
    · exact .inl h
    · exact .inr (.inl (List.mem_singleton.mp h))
theorem itemsF_mem {o : Option Nat} {p : List Nat} : o ∈ itemsF p → o = none ∨ ∃ c ∈ p, o = some c := by
  have : ∀ (p : List Nat) (acc : List (Option Nat)), o ∈ p.foldl itemStep acc → o ∈ acc ∨ o = none ∨ ∃ c ∈ p, o = some c := by
    intro p
    induction p with
    | nil => intro acc h; exact .inl h
    | cons c r ih =>
      intro acc h
      rcases ih _ h with h | h | ⟨d, hd, h⟩
      · rcases itemStep_mem h with h | h | h
        · exact .inl h
        · exact .inr (.inr ⟨c, .head _, h⟩)
        · exact .inr (.inl h)
      · exact .inr (.inl h)
      · exact .inr (.inr ⟨d, .tail _ hd, h⟩)
  intro h
  rcases this p [] h with h | h
  · exact absurd h List.not_mem_nil
  · exact h
theorem itemStep_length {acc : List (Option Nat)} {c : Nat} : (itemStep acc c).length ≤ acc.length + 1 := by
  unfold itemStep
  split
  · rename_i h
    have := congrArg List.length h
    simp at this ⊢
    omega
  · simp
theorem itemsF_snoc (pre : List Nat) (c : Nat) : itemsF (pre ++ [c]) = itemStep (itemsF pre) c := by simp [itemsF]
theorem itemS_inj {l : List (Option Nat)} (h : l.map itemS = [Str.ofString ".", Str.ofString ".", Str.ofString "."]) : l = [some 46, some 46, some 46] := by
  have one : ∀ o : Option Nat, itemS o = Str.ofString "." → o = some 46 := by
    intro o ho
    have e : Str.ofString "." = S [46] := by decide +kernel
    rw [e] at ho
    cases o with
    | none =>
      have : Str.ofString "any" = S [97, 110, 121] := by decide +kernel
      rw [itemS, this] at ho
      have := S_inj ho
      simp at this
    | some c =>
      have := S_inj ho
      simp at this
      rw [this]
  have hl : l.length = 3 := by have := congrArg List.length h; simpa using this
  match l, hl, h with
  | [a, b, c], _, h =>
    simp at h
    rw [one a h.1, one b h.2.1, one c h.2.2]
theorem itemS_dots : ([some 46, some 46, some 46] : List (Option Nat)).map itemS = [Str.ofString ".", Str.ofString ".", Str.ofString "."] := by decide +kernel
theorem items {w mean mg mb p tp} (hp : p.length ≤ 20) (hpa : ∀ c ∈ p, c < 128) : Claim w mean mg mb 10 87 [.str (S p) tp] (fun _ => True)
    (fun h h' r => ∃ a vs n, r = .ref a ∧ h.get? a = none ∧ h'.get? a = some (listOf vs.toArray n) ∧ StrsAre vs ((itemsF p).map itemS)) := by
  have hx : (S p).length ≤ 20 := by rw [S_length]; exact hp
  (have hz : (rwm, kz.heap_1) = (rwm, kz.heap_1) := rfl; revert hz; k_fill; intro hz; clear hz; w_on)
  w_strict (k_dflt (refine' enter ?ko ?kc ?kb ?kl ?_ ?c1 ?c2 ?c3 ?c4; (case ko => k_is); (case kc => k_is); (case kb => exact rfl); (case kl => exact locs rfl); (case c1 => exact rfl); (case c2 => exact rfl); (case c3 => exact rfl); (case c4 => decide); k_whole; intro dp un fr gd s L h₁ tk hpre F N X T hdp hun; (simp only [List.map, List.zip, List.zipWith, List.reverse, List.reverseAux] at F); (try dsimp only); (try k_fold)))
  refine opq ?_; intro Q0 hQ0
  w_strict ((try dsimp only); k_steps)
  refine Hold.mk ?_
  rename Fr _ _ _ _ => F; rename News _ _ _ _ => N
  refine For_invVF F rfl rfl ?_ (by intro _; rfl) PassesOwn.never
  w_strict ((try dsimp only); k_steps)
  refine Hold.mk ?_
  refine for_str (σ := Addr × List Value × Nat) (fun c => [(c.1, listOf c.2.1.toArray c.2.2)]) (fun c => [(Str.ofString "items", .ref c.1)]) []
    (fun pre c => StrsAre c.2.1 ((itemsF pre).map itemS) ∧ (itemsF pre).length ≤ pre.length) (_, [], 0) rfl F N (by kst_all) ⟨.nil, Nat.le_refl _⟩ ?_ ?_
  · clear F N
    (first | ((first | (intro zt78; (first | refine Exists.elim zt78 ?_ | refine Mine.and_el zt78 ?_); intro a zt79; (try clear zt78); (first | refine Exists.elim zt79 ?_ | refine Mine.and_el zt79 ?_); intro vs n; (try clear zt79)) | (refine Mine.pr3 ?_; intro a vs n) | rintro ⟨a, vs, n⟩); intro pre post c t u h tk I oI hsp; (first | (intro zt80; (first | refine Exists.elim zt80 ?_ | refine Mine.and_el zt80 ?_); intro hS hln; (try clear zt80)) | rintro ⟨hS, hln⟩); intro hoff F N) | rintro ⟨a, vs, n⟩ pre post c t u h tk I oI hsp ⟨hS, hln⟩ hoff F N)
    refine opq ?_; intro Q1 hQ1
    dsimp only at F N hS hln
    rw [S_cps] at hsp
    have hne1 : @Ne Nat a I := hoff _ (List.Mem.head _)
    simp only [List.cons_append, List.nil_append] at N
    have hpl : pre.length + 1 ≤ p.length := by rw [hsp]; simp
    have hvl : vs.length ≤ 20 := by rw [hS.length, List.length_map]; omega
    w_strict ((try dsimp only); k_steps)
    refine Hold.mk ?_
    refine append_R F N (off1 hne1.symm) (by omega) ?_
    (try clear F N)
    intro h F N
    have hS1 : StrsAre (vs ++ [Value.str ⟨#[c]⟩ t]) ((itemsF pre ++ [some c]).map itemS) := by
      rw [List.map_append]; exact KStt.strs_snoc hS
    have hl1 := hS1.length
    rw [List.length_map] at hl1
    w_strict ((try dsimp only); k_steps)
    refine Hold.mk ?_
    refine slice_last (s := ⟨_, _, _, _, _⟩) 3 rfl (by omega) F N (by k_mem) (by simp; omega) ?_
    (try clear F N)
    intro D h F N hD
    have hS2 : StrsAre ((vs ++ [Value.str ⟨#[c]⟩ t]).drop ((vs ++ [Value.str ⟨#[c]⟩ t]).length - 3)) (((itemsF pre ++ [some c]).drop ((itemsF pre ++ [some c]).length - 3)).map itemS) := by
      rw [List.map_drop, hl1]; exact hS1.drop' _
    w_strict ((try dsimp only); k_steps)
    refine Hold.mk ?_
    (try clear F N)
    rename Fr _ _ _ _ => F; rename News _ _ _ _ => N
    refine eq_strsR (isListOf N (by k_mem)) hS2 (isListOf (vs := [_, _, _]) N (by k_mem)) (.cons _ _ (.cons _ _ (.cons _ _ .nil))) (by show un + 64 < cLine; omega) ?_ ?_ ?_
    · intro x hx
      (first | ((first | refine Exists.elim (List.mem_map.mp hx) ?_ | refine Mine.and_el (List.mem_map.mp hx) ?_); intro o zt81; (first | refine Exists.elim zt81 ?_ | refine Mine.and_el zt81 ?_); intro ho zt82; (try clear zt81); subst zt82) | obtain ⟨o, ho, rfl⟩ := List.mem_map.mp hx)
      refine itemS_ok fun d hd => ?_
      subst hd
      rcases List.mem_append.mp (List.mem_of_mem_drop ho) with h | h
      · rcases itemsF_mem h with h | ⟨e, he, h⟩
        · cases h
        · cases h; exact hpa _ (by rw [hsp]; exact List.mem_append_left _ he)
      · have := List.mem_singleton.mp h
        cases this; exact hpa _ (by rw [hsp]; simp)
    · intro x hx
      have : x = Str.ofString "." := by
        simp at hx; exact hx
      subst this; decide +kernel
    have hstep := itemsF_snoc pre c
    w_strict ((try dsimp only); k_steps)
    · rename List.map itemS _ = _ => he
      replace he := itemS_inj he
      rw [itemStep, if_pos he] at hstep
      refine Hold.mk ?_
      refine slice_but (s := ⟨_, _, _, _, _⟩) 3 rfl (by omega) F N (by k_mem) (by simp; omega) ?_
      (try clear F N)
      intro D2 h F N hD2
      w_strict ((try dsimp only); k_steps)
      refine Hold.mk ?_
      (try clear F N)
      rename Fr _ _ _ _ => F; rename News _ _ _ _ => N
      refine add_R (us := [_]) F N (by k_mem) (by k_mem) (by simp; omega) ?_
      (try clear F N)
      intro D3 h F N hD3
      have hne9 : D3 ≠ I := Nat.ne_of_gt (hD3 (I, oI) (by k_mem))
      w_strict ((try dsimp only); k_steps)
      refine hQ1 _ _ ?_; refine turn_end ⟨_, _, _⟩ (by assumption) (by assumption) (by kst_in) (by k_mem) (off1 hne9) (by kst_all) (by (intro z h1 h2 h3; first | ((repeat (first | (with_reducible rfl) | refine Mine.sm_if (by first | exact h1 | exact Mine.sm_to (h2 _ (List.Mem.head _)) (by with_unfolding_all rfl) | exact Mine.sm_to (h2 _ (List.Mem.tail _ (List.Mem.head _))) (by with_unfolding_all rfl) | exact Mine.sm_to (h2 _ (List.Mem.tail _ (List.Mem.tail _ (List.Mem.head _)))) (by with_unfolding_all rfl) | exact Mine.sm_to (h2 _ (List.Mem.tail _ (List.Mem.tail _ (List.Mem.tail _ (List.Mem.head _))))) (by with_unfolding_all rfl) | exact Mine.sm_to (h2 _ (List.Mem.tail _ (List.Mem.tail _ (List.Mem.tail _ (List.Mem.tail _ (List.Mem.head _)))))) (by with_unfolding_all rfl) | exact Mine.sm_to (h2 _ (List.Mem.tail _ (List.Mem.tail _ (List.Mem.tail _ (List.Mem.tail _ (List.Mem.tail _ (List.Mem.head _))))))) (by with_unfolding_all rfl) | exact Mine.sm_to (h2 _ (List.Mem.tail _ (List.Mem.tail _ (List.Mem.tail _ (List.Mem.tail _ (List.Mem.tail _ (List.Mem.tail _ (List.Mem.head _)))))))) (by with_unfolding_all rfl) | exact Mine.sm_to (h2 _ (List.Mem.tail _ (List.Mem.tail _ (List.Mem.tail _ (List.Mem.tail _ (List.Mem.tail _ (List.Mem.tail _ (List.Mem.tail _ (List.Mem.head _))))))))) (by with_unfolding_all rfl) | exact Mine.sm_ne h3 (by with_unfolding_all rfl)) ?_ | refine Mine.sm_ifc h3 ?_ | refine Mine.sm_ifc (Mine.sm_sub h3 (by with_unfolding_all rfl)) ?_ | exact rfl)); done) | ((try simp only [List.forall_mem_cons, List.not_mem_nil, false_implies, implies_true, and_true, ne_eq] at h2); (try simp only [List.contains_cons, List.contains_nil, Bool.or_false, Bool.or_eq_false_iff, beq_eq_false_iff_ne, ne_eq] at h3); simp +zetaDelta [kstB, h1, h2, h3]))) ⟨?_, ?_⟩
      · show StrsAre _ (List.map itemS (itemsF (pre ++ [c])))
        rw [hstep, List.map_append, List.map_take, hl1]
        exact (hS1.take' _).append' (.cons _ _ .nil)
      · rw [hstep]; simp; omega
    · rename ¬ (List.map itemS _ = _) => he
      have he' : ¬ (itemsF pre ++ [some c]).drop ((itemsF pre ++ [some c]).length - 3) = [some 46, some 46, some 46] := fun q => he (by rw [q]; exact itemS_dots)
      rw [itemStep, if_neg he'] at hstep
      refine hQ1 _ _ ?_; refine turn_end ⟨_, _, _⟩ F N (by kst_in) (by k_mem) (off1 hne1) (by kst_all) (by (intro z h1 h2 h3; first | ((repeat (first | (with_reducible rfl) | refine Mine.sm_if (by first | exact h1 | exact Mine.sm_to (h2 _ (List.Mem.head _)) (by with_unfolding_all rfl) | exact Mine.sm_to (h2 _ (List.Mem.tail _ (List.Mem.head _))) (by with_unfolding_all rfl) | exact Mine.sm_to (h2 _ (List.Mem.tail _ (List.Mem.tail _ (List.Mem.head _)))) (by with_unfolding_all rfl) | exact Mine.sm_to (h2 _ (List.Mem.tail _ (List.Mem.tail _ (List.Mem.tail _ (List.Mem.head _))))) (by with_unfolding_all rfl) | exact Mine.sm_to (h2 _ (List.Mem.tail _ (List.Mem.tail _ (List.Mem.tail _ (List.Mem.tail _ (List.Mem.head _)))))) (by with_unfolding_all rfl) | exact Mine.sm_to (h2 _ (List.Mem.tail _ (List.Mem.tail _ (List.Mem.tail _ (List.Mem.tail _ (List.Mem.tail _ (List.Mem.head _))))))) (by with_unfolding_all rfl) | exact Mine.sm_to (h2 _ (List.Mem.tail _ (List.Mem.tail _ (List.Mem.tail _ (List.Mem.tail _ (List.Mem.tail _ (List.Mem.tail _ (List.Mem.head _)))))))) (by with_unfolding_all rfl) | exact Mine.sm_to (h2 _ (List.Mem.tail _ (List.Mem.tail _ (List.Mem.tail _ (List.Mem.tail _ (List.Mem.tail _ (List.Mem.tail _ (List.Mem.tail _ (List.Mem.head _))))))))) (by with_unfolding_all rfl) | exact Mine.sm_ne h3 (by with_unfolding_all rfl)) ?_ | refine Mine.sm_ifc h3 ?_ | refine Mine.sm_ifc (Mine.sm_sub h3 (by with_unfolding_all rfl)) ?_ | exact rfl)); done) | ((try simp only [List.forall_mem_cons, List.not_mem_nil, false_implies, implies_true, and_true, ne_eq] at h2); (try simp only [List.contains_cons, List.contains_nil, Bool.or_false, Bool.or_eq_false_iff, beq_eq_false_iff_ne, ne_eq] at h3); simp +zetaDelta [kstB, h1, h2, h3]))) ⟨?_, ?_⟩
      · show StrsAre _ (List.map itemS (itemsF (pre ++ [c])))
        rw [hstep]; exact hS1
      · rw [hstep]; simp; omega
  · clear F N
    (first | ((first | (intro zt83; (first | refine Exists.elim zt83 ?_ | refine Mine.and_el zt83 ?_); intro a zt84; (try clear zt83); (first | refine Exists.elim zt84 ?_ | refine Mine.and_el zt84 ?_); intro vs n; (try clear zt84)) | (refine Mine.pr3 ?_; intro a vs n) | rintro ⟨a, vs, n⟩); intro u h tk; (first | (intro zt85; (first | refine Exists.elim zt85 ?_ | refine Mine.and_el zt85 ?_); intro hS hln; (try clear zt85)) | rintro ⟨hS, hln⟩); intro F N) | rintro ⟨a, vs, n⟩ u h tk ⟨hS, hln⟩ F N)
    dsimp only at F N hS
    rw [S_cps] at hS
    w_strict ((try dsimp only); k_steps)
    refine hQ0 _ _ ?_; with_unfolding_all refine done_ret (by assumption) ?_
    exact ⟨a, vs, n, rfl, (N _ (List.Mem.head _)).2.2, (N _ (List.Mem.head _)).1, hS⟩
end Mine
end
section
open PySem PySem.W PyProof.Rows
set_option maxRecDepth 100000
set_option maxHeartbeats 8000000
namespace Mine
local macro_rules | `(tactic| walk_at "pyIter str") => `(tactic| refine Hold.out ?_)
local macro_rules | `(tactic| walk_at "pyIter ref") => `(tactic| refine Hold.out ?_)
local macro_rules | `(tactic| walk_at "exec For Name Name cons nil") => `(tactic| refine Hold.out ?_)
local macro_rules | `(tactic| walk_at "exec For Name Call cons nil") => `(tactic| refine Hold.out ?_)
local macro_rules | `(tactic| walk_at "execs cons") => `(tactic| walk_at "mxq")
local macro_rules | `(tactic| walk_at "execs nil") => `(tactic| walk_at "mxn")
local macro_rules | `(tactic| walk_at "call builtin:list.append") => `(tactic| refine Hold.out ?_)
local macro_rules | `(tactic| walk_at "call ref") => `(tactic| refine Hold.out ?_)
noncomputable def itCost : Option Nat → Int
  | none => 0
  | some _ => 2
noncomputable def initRow (its : List (Option Nat)) : List Int := its.foldl (fun row it => row ++ [row.getLastD 0 + itCost it]) [0]
noncomputable def cellF (price : Nat → Nat → Int) (sign : Nat) (its : List (Option Nat)) (row news : List Int) (place : Nat) : Int :=
  match its.getD place none with
  | none => min (news.getD place 0) (row.getD (place + 1) 0)
  | some c => min (min (news.getD place 0 + 2) (row.getD (place + 1) 0 + 2)) (row.getD place 0 + price sign c)
noncomputable def newsF (price : Nat → Nat → Int) (sign : Nat) (its : List (Option Nat)) (row : List Int) : List Int :=
  (List.range its.length).foldl (fun news place => news ++ [cellF price sign its row news place]) [row.getD 0 0 + 2]
noncomputable def farF (price : Nat → Nat → Int) (its : List (Option Nat)) (text : List Nat) : Int := (text.foldl (fun row sign => newsF price sign its row) (initRow its)).getLastD 0
noncomputable def priceS (c d : Nat) : Int := priceF (S [c]) (S [d])
theorem initRow_snoc (pre : List (Option Nat)) (it : Option Nat) : initRow (pre ++ [it]) = initRow pre ++ [(initRow pre).getLastD 0 + itCost it] := by simp [initRow]
theorem initRow_length (its : List (Option Nat)) : (initRow its).length = its.length + 1 := by
  have : ∀ (l : List (Option Nat)) (r : List Int), (l.foldl (fun row it => row ++ [row.getLastD 0 + itCost it]) r).length = r.length + l.length := by
    intro l
    induction l with
    | nil => intro r; rfl
    | cons a l ih => intro r; simp only [List.foldl_cons, ih]; simp; omega
  rw [initRow, this]; simp; omega
theorem newsF_length (price : Nat → Nat → Int) (sign : Nat) (its : List (Option Nat)) (row : List Int) : (newsF price sign its row).length = its.length + 1 := by
  have : ∀ (l : List Nat) (r : List Int), (l.foldl (fun news place => news ++ [cellF price sign its row news place]) r).length = r.length + l.length := by
    intro l
    induction l with
    | nil => intro r; rfl
    | cons a l ih => intro r; simp only [List.foldl_cons, ih]; simp; omega
  rw [newsF, this]; simp; omega
theorem itemS_any {o : Option Nat} (h : (itemS o == Str.ofString "any") = true) : o = none := by
  cases o with
  | none => rfl
  | some c =>
    have e : Str.ofString "any" = S [97, 110, 121] := by decide +kernel
    rw [e, itemS, S_beq] at h
    simp at h
theorem itemS_some {o : Option Nat} (h : (itemS o == Str.ofString "any") = false) : ∃ c, o = some c := by
  cases o with
  | none => simp [itemS] at h
  | some c => exact ⟨c, rfl⟩
theorem getD_last {ns : List Int} (h : 1 ≤ ns.length) : ns.getD (-1 + (ns.length : Int)).toNat 0 = ns.getLastD 0 := by
  have e : (-1 + (ns.length : Int)).toNat = ns.length - 1 := by omega
  rw [e, List.getD_eq_getElem?_getD, List.getLastD_eq_getLast?, List.getLast?_eq_getElem?]
section
variable {prog : Program} {w : World} {A : Around} {E : Value → Shared → Prop} {s : Shared}
theorem item_its {value slice : Expr} {a : Addr} {l : List Value} {its : List (Option Nat)} {k : Nat} {u : Tok} {Q : Value → Shared → Prop} (hl : s.heap.IsList a l.toArray) (hi : StrsAre l (its.map itemS))
    (hk : k < its.length) (hits : its.length ≤ 20) (h : ∀ t', Q (.str (itemS (its.getD k none)) t') s)
    (hs : subscripted slice false (.ref a) (.int (k : Int) u) = operate [.ref a, .int (k : Int) u] (getItem (.ref a) (.int (k : Int) u)) := by with_unfolding_all rfl) (hg : ∀ r, letTemporaryGo value (.ref a) r = pure () := by intro _; with_unfolding_all rfl) :
    wpAny (model prog w) A (subscriptTail value slice (.ref a) (.int (k : Int) u)) Q E s := by
  refine item_strsA hl hi (by omega) (by rw [List.length_map]; omega) (by omega) (fun t' => ?_) hs hg
  rw [Int.toNat_natCast]
  have e : (its.map itemS).getD k Str.empty = itemS (its.getD k none) := by simp [hk]
  rw [e]; exact h t'
theorem len_fr {h₀ : Heap} {L l : Addr} {m : Str → Option Value} {vs : List Value} {Q : Value → Shared → Prop} (F : Fr h₀ L s.heap m) (hl : h₀.IsList l vs.toArray) (hf : (vs.length : Int) < 2 ^ 63)
    (h : Q (.int vs.toArray.size (s.toks + 1)) { s with toks := s.toks + 1 + 1 }) : wpAny (model prog w) A (call (.builtin "len") [.ref l]) Q E s :=
  PyProof.Rows.len_list (hl.at fun o e => F.keep _ o e) (by rw [List.size_toArray]; exact hf) h
theorem item_fr {h₀ : Heap} {L : Addr} {m : Str → Option Value} {value slice : Expr} {a : Addr} {l : List Value} {its : List (Option Nat)} {k : Nat} {u : Tok} {Q : Value → Shared → Prop} (F : Fr h₀ L s.heap m) (hl : h₀.IsList a l.toArray) (hi : StrsAre l (its.map itemS))
    (hk : k < its.length) (hits : its.length ≤ 20) (h : ∀ t', Q (.str (itemS (its.getD k none)) t') s)
    (hs : subscripted slice false (.ref a) (.int (k : Int) u) = operate [.ref a, .int (k : Int) u] (getItem (.ref a) (.int (k : Int) u)) := by with_unfolding_all rfl) (hg : ∀ r, letTemporaryGo value (.ref a) r = pure () := by intro _; with_unfolding_all rfl) :
    wpAny (model prog w) A (subscriptTail value slice (.ref a) (.int (k : Int) u)) Q E s := item_its (hl.at fun o e => F.keep _ o e) hi hk hits h hs hg
end
local macro_rules | `(tactic| walk_at "call builtin:min") => `(tactic| (refine min3_N rfl (by with_reducible assumption) (by with_reducible assumption) ?_; intro _ _ _ _ _))
local macro_rules | `(tactic| walk_at "call builtin:len") => `(tactic| (refine len_fr (by with_reducible assumption) (by with_reducible assumption) (by omega) ?_))
local macro_rules | `(tactic| walk_at "subscriptTail Name Name ref int") => `(tactic| (refine item_fr (by with_reducible assumption) (by with_reducible assumption) (by with_reducible assumption) (by omega) (by omega) ?_; intro _))
theorem min_if2 (a b : Int) : (if b < a then b else a) = min a b := ar_min a b
theorem min_if3 (a b c : Int) : (if c < (if b < a then b else a) then c else (if b < a then b else a)) = min (min a b) c := by rw [min_if2, min_if2]
theorem far {w mean mg mb ia t tt} {vs0 : List Value} {n0 : Nat} {its : List (Option Nat)} (hits : its.length ≤ 20) (ht : t.length ≤ 20) (hS : StrsAre vs0 (its.map itemS)) : Claim w mean mg mb 10 94 [.ref ia, .str (S t) tt]
    (fun h => h.get? ia = some (listOf vs0.toArray n0))
    (fun h h' r => ∃ tr, r = .int (farF priceS its t) tr) := by
  have hx : (S t).length ≤ 20 := by rw [S_length]; exact ht
  (first | ((first | refine Exists.elim (show ∃ R, farF priceS its t = R from ⟨_, rfl⟩) ?_ | refine Mine.and_el (show ∃ R, farF priceS its t = R from ⟨_, rfl⟩) ?_); intro R hR) | obtain ⟨R, hR⟩ : ∃ R, farF priceS its t = R := ⟨_, rfl⟩)
  rw [hR]
  (have hz : (rwm, kz.heap_1) = (rwm, kz.heap_1) := rfl; revert hz; k_fill; intro hz; clear hz; w_on)
  w_strict (k_dflt (refine' enter ?ko ?kc ?kb ?kl ?_ ?c1 ?c2 ?c3 ?c4; (case ko => k_is); (case kc => k_is); (case kb => exact rfl); (case kl => exact locs rfl); (case c1 => exact rfl); (case c2 => exact rfl); (case c3 => exact rfl); (case c4 => decide); k_whole; intro dp un fr gd s L h₁ tk hpre F N X T hdp hun; (simp only [List.map, List.zip, List.zipWith, List.reverse, List.reverseAux] at F); (try dsimp only); (try k_fold)))
  refine opq ?_; intro Q0 hQ0
  w_strict ((try dsimp only); k_steps)
  refine Hold.mk ?_
  rename Fr _ _ _ _ => F; rename News _ _ _ _ => N
  have hil : s.heap.IsList ia vs0.toArray := ⟨_, hpre, rfl, _, rfl⟩
  refine For_invVF F rfl rfl ?_ (by intro _; rfl) PassesOwn.never
  w_strict ((try dsimp only); k_steps)
  refine Hold.mk ?_
  rename Addr => ra
  have hitem : ∀ (i : Nat) v, vs0[i]? = some v → ∃ o, its[i]? = some o ∧ ∃ t, v = .str (itemS o) t := by
    intro i v hv
    (first | ((first | refine Exists.elim (hS.item i v hv) ?_ | refine Mine.and_el (hS.item i v hv) ?_); intro y zt86; (first | refine Exists.elim zt86 ?_ | refine Mine.and_el zt86 ?_); intro t zt87; (try clear zt86); (first | refine Exists.elim zt87 ?_ | refine Mine.and_el zt87 ?_); intro zt88 hy; (try clear zt87); subst zt88) | obtain ⟨y, t, rfl, hy⟩ := hS.item i v hv)
    rw [List.getElem?_map] at hy
    (first | ((first | refine Exists.elim (Option.map_eq_some_iff.mp hy) ?_ | refine Mine.and_el (Option.map_eq_some_iff.mp hy) ?_); intro o zt89; (first | refine Exists.elim zt89 ?_ | refine Mine.and_el zt89 ?_); intro ho zt90; (try clear zt89); subst zt90) | obtain ⟨o, ho, rfl⟩ := Option.map_eq_some_iff.mp hy)
    exact ⟨o, ho, t, rfl⟩
  have hvl : vs0.length = its.length := by rw [hS.length, List.length_map]
  refine for_listB (σ := List Value × Nat × List Int) its (fun o v => ∃ t, v = .str (itemS o) t) (fun c => [(ra, listOf c.1.toArray c.2.1)]) (fun c => []) []
    (fun pre c => IntsAre c.1 c.2.2 ∧ c.2.2 = initRow pre) ([_], 0, [0]) rfl hil hvl hitem F N (fun _ h => nomatch h) ⟨.cons _ _ .nil, rfl⟩ ?_ ?_
  · clear F N
    (first | ((first | (intro zt91; (first | refine Exists.elim zt91 ?_ | refine Mine.and_el zt91 ?_); intro vs zt92; (try clear zt91); (first | refine Exists.elim zt92 ?_ | refine Mine.and_el zt92 ?_); intro n ns; (try clear zt92)) | (refine Mine.pr3 ?_; intro vs n ns) | rintro ⟨vs, n, ns⟩); intro pre post o v u h tk I oI hsp; (first | (intro zt93; (first | refine Exists.elim zt93 ?_ | refine Mine.and_el zt93 ?_); intro to zt94; (try clear zt93); subst zt94) | rintro ⟨to, rfl⟩); (first | (intro zt95; (first | refine Exists.elim zt95 ?_ | refine Mine.and_el zt95 ?_); intro hI hns; (try clear zt95)) | rintro ⟨hI, hns⟩); intro hoff F N) | rintro ⟨vs, n, ns⟩ pre post o v u h tk I oI hsp ⟨to, rfl⟩ ⟨hI, hns⟩ hoff F N)
    refine opq ?_; intro Q1 hQ1
    (try dsimp only at F N hI hns)
    have hne1 : @Ne Nat ra I := hoff _ (List.Mem.head _)
    simp only [List.cons_append, List.nil_append] at N
    have hnl : ns.length = pre.length + 1 := by rw [hns, initRow_length]
    have hpl : pre.length + 1 ≤ its.length := by rw [hsp]; simp
    have hvl2 := hI.length
    w_strict ((try dsimp only); k_steps)
    · rename (itemS o == Str.ofString "any") = true => ho
      have ho := itemS_any ho
      refine Hold.mk ?_
      refine append_R F N (off1 hne1.symm) (by omega) ?_
      (try clear F N)
      intro h F N
      rw [getD_last (by omega)] at N
      w_strict ((try dsimp only); k_steps)
      refine hQ1 _ _ ?_; refine turn_end ⟨_, _, _⟩ F N (by kst_in) (by k_mem) (off1 hne1) (fun _ h => nomatch h) (by (intro z h1 h2 h3; first | ((repeat (first | (with_reducible rfl) | refine Mine.sm_if (by first | exact h1 | exact Mine.sm_to (h2 _ (List.Mem.head _)) (by with_unfolding_all rfl) | exact Mine.sm_to (h2 _ (List.Mem.tail _ (List.Mem.head _))) (by with_unfolding_all rfl) | exact Mine.sm_to (h2 _ (List.Mem.tail _ (List.Mem.tail _ (List.Mem.head _)))) (by with_unfolding_all rfl) | exact Mine.sm_to (h2 _ (List.Mem.tail _ (List.Mem.tail _ (List.Mem.tail _ (List.Mem.head _))))) (by with_unfolding_all rfl) | exact Mine.sm_to (h2 _ (List.Mem.tail _ (List.Mem.tail _ (List.Mem.tail _ (List.Mem.tail _ (List.Mem.head _)))))) (by with_unfolding_all rfl) | exact Mine.sm_to (h2 _ (List.Mem.tail _ (List.Mem.tail _ (List.Mem.tail _ (List.Mem.tail _ (List.Mem.tail _ (List.Mem.head _))))))) (by with_unfolding_all rfl) | exact Mine.sm_to (h2 _ (List.Mem.tail _ (List.Mem.tail _ (List.Mem.tail _ (List.Mem.tail _ (List.Mem.tail _ (List.Mem.tail _ (List.Mem.head _)))))))) (by with_unfolding_all rfl) | exact Mine.sm_to (h2 _ (List.Mem.tail _ (List.Mem.tail _ (List.Mem.tail _ (List.Mem.tail _ (List.Mem.tail _ (List.Mem.tail _ (List.Mem.tail _ (List.Mem.head _))))))))) (by with_unfolding_all rfl) | exact Mine.sm_ne h3 (by with_unfolding_all rfl)) ?_ | refine Mine.sm_ifc h3 ?_ | refine Mine.sm_ifc (Mine.sm_sub h3 (by with_unfolding_all rfl)) ?_ | exact rfl)); done) | ((try simp only [List.forall_mem_cons, List.not_mem_nil, false_implies, implies_true, and_true, ne_eq] at h2); (try simp only [List.contains_cons, List.contains_nil, Bool.or_false, Bool.or_eq_false_iff, beq_eq_false_iff_ne, ne_eq] at h3); simp +zetaDelta [kstB, h1, h2, h3]))) ⟨hI.append (.cons _ _ .nil), ?_⟩
      rw [initRow_snoc, ← hns, ho]; rfl
    · rename (itemS o == Str.ofString "any") = false => ho
      (first | ((first | refine Exists.elim (itemS_some ho) ?_ | refine Mine.and_el (itemS_some ho) ?_); intro c ho) | obtain ⟨c, ho⟩ := itemS_some ho)
      refine Hold.mk ?_
      refine append_R F N (off1 hne1.symm) (by omega) ?_
      (try clear F N)
      intro h F N
      rw [getD_last (by omega)] at N
      w_strict ((try dsimp only); k_steps)
      refine hQ1 _ _ ?_; refine turn_end ⟨_, _, _⟩ F N (by kst_in) (by k_mem) (off1 hne1) (fun _ h => nomatch h) (by (intro z h1 h2 h3; first | ((repeat (first | (with_reducible rfl) | refine Mine.sm_if (by first | exact h1 | exact Mine.sm_to (h2 _ (List.Mem.head _)) (by with_unfolding_all rfl) | exact Mine.sm_to (h2 _ (List.Mem.tail _ (List.Mem.head _))) (by with_unfolding_all rfl) | exact Mine.sm_to (h2 _ (List.Mem.tail _ (List.Mem.tail _ (List.Mem.head _)))) (by with_unfolding_all rfl) | exact Mine.sm_to (h2 _ (List.Mem.tail _ (List.Mem.tail _ (List.Mem.tail _ (List.Mem.head _))))) (by with_unfolding_all rfl) | exact Mine.sm_to (h2 _ (List.Mem.tail _ (List.Mem.tail _ (List.Mem.tail _ (List.Mem.tail _ (List.Mem.head _)))))) (by with_unfolding_all rfl) | exact Mine.sm_to (h2 _ (List.Mem.tail _ (List.Mem.tail _ (List.Mem.tail _ (List.Mem.tail _ (List.Mem.tail _ (List.Mem.head _))))))) (by with_unfolding_all rfl) | exact Mine.sm_to (h2 _ (List.Mem.tail _ (List.Mem.tail _ (List.Mem.tail _ (List.Mem.tail _ (List.Mem.tail _ (List.Mem.tail _ (List.Mem.head _)))))))) (by with_unfolding_all rfl) | exact Mine.sm_to (h2 _ (List.Mem.tail _ (List.Mem.tail _ (List.Mem.tail _ (List.Mem.tail _ (List.Mem.tail _ (List.Mem.tail _ (List.Mem.tail _ (List.Mem.head _))))))))) (by with_unfolding_all rfl) | exact Mine.sm_ne h3 (by with_unfolding_all rfl)) ?_ | refine Mine.sm_ifc h3 ?_ | refine Mine.sm_ifc (Mine.sm_sub h3 (by with_unfolding_all rfl)) ?_ | exact rfl)); done) | ((try simp only [List.forall_mem_cons, List.not_mem_nil, false_implies, implies_true, and_true, ne_eq] at h2); (try simp only [List.contains_cons, List.contains_nil, Bool.or_false, Bool.or_eq_false_iff, beq_eq_false_iff_ne, ne_eq] at h3); simp +zetaDelta [kstB, h1, h2, h3]))) ⟨hI.append (.cons _ _ .nil), ?_⟩
      rw [initRow_snoc, ← hns, ho]; rfl
  · clear F N
    (first | ((first | (intro zt96; (first | refine Exists.elim zt96 ?_ | refine Mine.and_el zt96 ?_); intro vs zt97; (try clear zt96); (first | refine Exists.elim zt97 ?_ | refine Mine.and_el zt97 ?_); intro n ns; (try clear zt97)) | (refine Mine.pr3 ?_; intro vs n ns) | rintro ⟨vs, n, ns⟩); intro u h tk; (first | (intro zt98; (first | refine Exists.elim zt98 ?_ | refine Mine.and_el zt98 ?_); intro hI hns; (try clear zt98)) | rintro ⟨hI, hns⟩); intro F N) | rintro ⟨vs, n, ns⟩ u h tk ⟨hI, hns⟩ F N)
    (try dsimp only at F N hI hns)
    w_strict ((try dsimp only); k_steps)
    refine Hold.mk ?_
    refine For_invVF F rfl rfl ?_ (by intro _; rfl) PassesOwn.never
    w_strict ((try dsimp only); k_steps)
    refine Hold.mk ?_
    refine for_str (σ := Addr × List Value × Nat × List Int) (fun c => [(c.1, listOf c.2.1.toArray c.2.2.1)]) (fun c => [(Str.ofString "row", .ref c.1)]) [Str.ofString "news", Str.ofString "place"]
      (fun pre c => IntsAre c.2.1 c.2.2.2 ∧ c.2.2.2 = pre.foldl (fun row sign => newsF priceS sign its row) (initRow its) ∧ c.2.2.2.length = its.length + 1) (ra, vs, n, ns) rfl F N (by kst_all) ⟨hI, hns, by rw [hns, initRow_length]⟩ ?_ ?_
    · clear F N hI hns ns vs n
      (first | ((first | (intro zt99; (first | refine Exists.elim zt99 ?_ | refine Mine.and_el zt99 ?_); intro ra zt100; (try clear zt99); (first | refine Exists.elim zt100 ?_ | refine Mine.and_el zt100 ?_); intro vs zt101; (try clear zt100); (first | refine Exists.elim zt101 ?_ | refine Mine.and_el zt101 ?_); intro n row; (try clear zt101)) | (refine Mine.pr4 ?_; intro ra vs n row) | rintro ⟨ra, vs, n, row⟩); intro pre post cs tc u h tk I oI hsp; (first | (intro zt102; (first | refine Exists.elim zt102 ?_ | refine Mine.and_el zt102 ?_); intro hI zt103; (try clear zt102); (first | refine Exists.elim zt103 ?_ | refine Mine.and_el zt103 ?_); intro hns hrl; (try clear zt103)) | (refine Mine.pr3 ?_; intro hI hns hrl) | rintro ⟨hI, hns, hrl⟩); intro hoff F N) | rintro ⟨ra, vs, n, row⟩ pre post cs tc u h tk I oI hsp ⟨hI, hns, hrl⟩ hoff F N)
      refine opq ?_; intro Q2 hQ2
      (try dsimp only at F N hI hns hrl)
      have hne1 : @Ne Nat ra I := hoff _ (List.Mem.head _)
      simp only [List.cons_append, List.nil_append] at N
      w_strict ((try dsimp only); k_steps)
      refine Hold.mk ?_
      (try clear F N)
      rename Fr _ _ _ _ => F; rename News _ _ _ _ => N
      refine For_invVF F rfl rfl ?_ (by intro _; rfl) PassesOwn.never
      w_strict ((try dsimp only); k_steps)
      refine Hold.mk ?_
      rename IsRange _ _ _ _ _ _ _ _ => hr2
      (try clear F N)
      rename Fr _ _ _ _ => F; rename News _ _ _ _ => N
      rw [hvl] at hr2
      refine for_range (σ := List Value × Nat × List Int) (n := its.length) (fun c => [(_, listOf c.1.toArray c.2.1), (ra, listOf vs.toArray n), (I, oI)]) (fun c => []) []
        (fun j c => IntsAre c.1 c.2.2 ∧ c.2.2.length = j + 1 ∧ c.2.2 = (List.range j).foldl (fun news place => news ++ [cellF priceS cs its row news place]) [row.getD 0 0 + 2]) ([_], _, [_]) rfl hr2 (small_len (by omega)) size_len F N (fun _ h => nomatch h)
        ⟨.cons _ _ .nil, rfl, rfl⟩ ?_ ?_
      · (try clear F N); clear hr2
        (first | ((first | (intro zt104; (first | refine Exists.elim zt104 ?_ | refine Mine.and_el zt104 ?_); intro vs2 zt105; (try clear zt104); (first | refine Exists.elim zt105 ?_ | refine Mine.and_el zt105 ?_); intro n2 news; (try clear zt105)) | (refine Mine.pr3 ?_; intro vs2 n2 news) | rintro ⟨vs2, n2, news⟩); intro j tj u h tk I2 oI2 hja; (first | (intro zt106; (first | refine Exists.elim zt106 ?_ | refine Mine.and_el zt106 ?_); intro hI2 zt107; (try clear zt106); (first | refine Exists.elim zt107 ?_ | refine Mine.and_el zt107 ?_); intro hnl hne; (try clear zt107)) | (refine Mine.pr3 ?_; intro hI2 hnl hne) | rintro ⟨hI2, hnl, hne⟩); intro hoff2 F N) | rintro ⟨vs2, n2, news⟩ j tj u h tk I2 oI2 hja ⟨hI2, hnl, hne⟩ hoff2 F N)
        refine opq ?_; intro Q3 hQ3
        (try dsimp only at F N hI2 hnl hne)
        have hne2 : @Ne Nat _ I2 := hoff2 _ (List.Mem.head _)
        have hne3 : @Ne Nat ra I2 := hoff2 _ (List.Mem.tail _ (List.Mem.head _))
        have hne4 : @Ne Nat I I2 := hoff2 _ (List.Mem.tail _ (List.Mem.tail _ (List.Mem.head _)))
        simp only [List.cons_append, List.nil_append] at N
        simp only [Int.zero_add] at F
        have hvl2 := hI2.length
        have ej1 : ((j : Int) + 1).toNat = j + 1 := by omega
        have ej0 : ((j : Int)).toNat = j := by omega
        have hnext : ∀ v, v = cellF priceS cs its row news j → news ++ [v] = (List.range (j + 1)).foldl (fun news place => news ++ [cellF priceS cs its row news place]) [row.getD 0 0 + 2] := by
          intro v hv
          rw [List.range_succ, List.foldl_append, ← hne]
          simp [hv]
        w_strict ((try dsimp only); k_steps)
        · rename (itemS _ == Str.ofString "any") = true => ho
          have ho := itemS_any ho
          refine Hold.mk ?_
          rename Fr _ _ _ _ => F; rename News _ _ _ _ => N
          refine append_R F N (offC (by omega) (offC (by omega) (off1 (by omega)))) (by omega) ?_
          (try clear F N)
          intro h F N
          w_strict ((try dsimp only); k_steps)
          refine hQ3 _ _ ?_; refine turn_end ⟨_, _, _⟩ F N (by kst_in) (by k_mem) (offC hne2 (offC hne3 (off1 hne4))) (fun _ h => nomatch h) (by (intro z h1 h2 h3; first | ((repeat (first | (with_reducible rfl) | refine Mine.sm_if (by first | exact h1 | exact Mine.sm_to (h2 _ (List.Mem.head _)) (by with_unfolding_all rfl) | exact Mine.sm_to (h2 _ (List.Mem.tail _ (List.Mem.head _))) (by with_unfolding_all rfl) | exact Mine.sm_to (h2 _ (List.Mem.tail _ (List.Mem.tail _ (List.Mem.head _)))) (by with_unfolding_all rfl) | exact Mine.sm_to (h2 _ (List.Mem.tail _ (List.Mem.tail _ (List.Mem.tail _ (List.Mem.head _))))) (by with_unfolding_all rfl) | exact Mine.sm_to (h2 _ (List.Mem.tail _ (List.Mem.tail _ (List.Mem.tail _ (List.Mem.tail _ (List.Mem.head _)))))) (by with_unfolding_all rfl) | exact Mine.sm_to (h2 _ (List.Mem.tail _ (List.Mem.tail _ (List.Mem.tail _ (List.Mem.tail _ (List.Mem.tail _ (List.Mem.head _))))))) (by with_unfolding_all rfl) | exact Mine.sm_to (h2 _ (List.Mem.tail _ (List.Mem.tail _ (List.Mem.tail _ (List.Mem.tail _ (List.Mem.tail _ (List.Mem.tail _ (List.Mem.head _)))))))) (by with_unfolding_all rfl) | exact Mine.sm_to (h2 _ (List.Mem.tail _ (List.Mem.tail _ (List.Mem.tail _ (List.Mem.tail _ (List.Mem.tail _ (List.Mem.tail _ (List.Mem.tail _ (List.Mem.head _))))))))) (by with_unfolding_all rfl) | exact Mine.sm_ne h3 (by with_unfolding_all rfl)) ?_ | refine Mine.sm_ifc h3 ?_ | refine Mine.sm_ifc (Mine.sm_sub h3 (by with_unfolding_all rfl)) ?_ | exact rfl)); done) | ((try simp only [List.forall_mem_cons, List.not_mem_nil, false_implies, implies_true, and_true, ne_eq] at h2); (try simp only [List.contains_cons, List.contains_nil, Bool.or_false, Bool.or_eq_false_iff, beq_eq_false_iff_ne, ne_eq] at h3); simp +zetaDelta [kstB, h1, h2, h3]))) ⟨hI2.append (.cons _ _ .nil), by simp; omega, ?_⟩
          refine hnext _ ?_
          rw [cellF, ho, ej1, ej0]
          (try dsimp only)
          first | exact min_if2 _ _ | exact (min_if2 _ _).symm | (split <;> omega)
        · rename (itemS _ == Str.ofString "any") = false => ho
          (first | ((first | refine Exists.elim (itemS_some ho) ?_ | refine Mine.and_el (itemS_some ho) ?_); intro c ho) | obtain ⟨c, ho⟩ := itemS_some ho)
          refine Hold.mk ?_
          rename Fr _ _ _ _ => F; rename News _ _ _ _ => N
          rw [ho]
          refine use_claim (price (by simp [Str.length]) (by simp [itemS, S_length])) F N X T (by omega) (by omega) trivial ?_
          (try clear F N)
          (first | (intro _ h tk zt108; clear zt108; intro F N; (first | (intro zt109; (first | refine Exists.elim zt109 ?_ | refine Mine.and_el zt109 ?_); intro tc zt110; (try clear zt109); subst zt110) | rintro ⟨tc, rfl⟩)) | rintro _ h tk - F N ⟨tc, rfl⟩)
          (first | ((first | refine Exists.elim (show ∃ pr, priceF ⟨#[cs]⟩ (itemS (some c)) = pr from ⟨_, rfl⟩) ?_ | refine Mine.and_el (show ∃ pr, priceF ⟨#[cs]⟩ (itemS (some c)) = pr from ⟨_, rfl⟩) ?_); intro pr hpr) | obtain ⟨pr, hpr⟩ : ∃ pr, priceF ⟨#[cs]⟩ (itemS (some c)) = pr := ⟨_, rfl⟩)
          rw [hpr]
          w_strict ((try dsimp only); k_steps)
          refine Hold.mk ?_
          (try clear F N)
          rename Fr _ _ _ _ => F; rename News _ _ _ _ => N
          refine append_R F N (offC (by omega) (offC (by omega) (off1 (by omega)))) (by omega) ?_
          (try clear F N)
          intro h F N
          w_strict ((try dsimp only); k_steps)
          refine hQ3 _ _ ?_; refine turn_end ⟨_, _, _⟩ F N (by kst_in) (by k_mem) (offC hne2 (offC hne3 (off1 hne4))) (fun _ h => nomatch h) (by (intro z h1 h2 h3; first | ((repeat (first | (with_reducible rfl) | refine Mine.sm_if (by first | exact h1 | exact Mine.sm_to (h2 _ (List.Mem.head _)) (by with_unfolding_all rfl) | exact Mine.sm_to (h2 _ (List.Mem.tail _ (List.Mem.head _))) (by with_unfolding_all rfl) | exact Mine.sm_to (h2 _ (List.Mem.tail _ (List.Mem.tail _ (List.Mem.head _)))) (by with_unfolding_all rfl) | exact Mine.sm_to (h2 _ (List.Mem.tail _ (List.Mem.tail _ (List.Mem.tail _ (List.Mem.head _))))) (by with_unfolding_all rfl) | exact Mine.sm_to (h2 _ (List.Mem.tail _ (List.Mem.tail _ (List.Mem.tail _ (List.Mem.tail _ (List.Mem.head _)))))) (by with_unfolding_all rfl) | exact Mine.sm_to (h2 _ (List.Mem.tail _ (List.Mem.tail _ (List.Mem.tail _ (List.Mem.tail _ (List.Mem.tail _ (List.Mem.head _))))))) (by with_unfolding_all rfl) | exact Mine.sm_to (h2 _ (List.Mem.tail _ (List.Mem.tail _ (List.Mem.tail _ (List.Mem.tail _ (List.Mem.tail _ (List.Mem.tail _ (List.Mem.head _)))))))) (by with_unfolding_all rfl) | exact Mine.sm_to (h2 _ (List.Mem.tail _ (List.Mem.tail _ (List.Mem.tail _ (List.Mem.tail _ (List.Mem.tail _ (List.Mem.tail _ (List.Mem.tail _ (List.Mem.head _))))))))) (by with_unfolding_all rfl) | exact Mine.sm_ne h3 (by with_unfolding_all rfl)) ?_ | refine Mine.sm_ifc h3 ?_ | refine Mine.sm_ifc (Mine.sm_sub h3 (by with_unfolding_all rfl)) ?_ | exact rfl)); done) | ((try simp only [List.forall_mem_cons, List.not_mem_nil, false_implies, implies_true, and_true, ne_eq] at h2); (try simp only [List.contains_cons, List.contains_nil, Bool.or_false, Bool.or_eq_false_iff, beq_eq_false_iff_ne, ne_eq] at h3); simp +zetaDelta [kstB, h1, h2, h3]))) ⟨hI2.append (.cons _ _ .nil), by simp; omega, ?_⟩
          refine hnext _ ?_
          have hpr' : priceS cs c = pr := hpr
          rw [cellF, ho, ej1, ej0]
          (try dsimp only)
          rw [hpr']
          first | exact min_if3 _ _ _ | exact (min_if3 _ _ _).symm | ((repeat' split) <;> omega)
      · (try clear F N); clear hr2
        (first | ((first | (intro zt111; (first | refine Exists.elim zt111 ?_ | refine Mine.and_el zt111 ?_); intro vs2 zt112; (try clear zt111); (first | refine Exists.elim zt112 ?_ | refine Mine.and_el zt112 ?_); intro n2 news; (try clear zt112)) | (refine Mine.pr3 ?_; intro vs2 n2 news) | rintro ⟨vs2, n2, news⟩); intro u h tk; (first | (intro zt113; (first | refine Exists.elim zt113 ?_ | refine Mine.and_el zt113 ?_); intro hI2 zt114; (try clear zt113); (first | refine Exists.elim zt114 ?_ | refine Mine.and_el zt114 ?_); intro hnl hne; (try clear zt114)) | (refine Mine.pr3 ?_; intro hI2 hnl hne) | rintro ⟨hI2, hnl, hne⟩); intro F N) | rintro ⟨vs2, n2, news⟩ u h tk ⟨hI2, hnl, hne⟩ F N)
        (try dsimp only at F N hI2 hnl hne)
        w_strict ((try dsimp only); k_steps)
        refine hQ2 _ _ ?_; refine turn_end ⟨_, _, _, _⟩ (by assumption) (by assumption) (by kst_in) (by k_mem) (off1 (by omega)) (by kst_all) (by (intro z h1 h2 h3; first | ((repeat (first | (with_reducible rfl) | refine Mine.sm_if (by first | exact h1 | exact Mine.sm_to (h2 _ (List.Mem.head _)) (by with_unfolding_all rfl) | exact Mine.sm_to (h2 _ (List.Mem.tail _ (List.Mem.head _))) (by with_unfolding_all rfl) | exact Mine.sm_to (h2 _ (List.Mem.tail _ (List.Mem.tail _ (List.Mem.head _)))) (by with_unfolding_all rfl) | exact Mine.sm_to (h2 _ (List.Mem.tail _ (List.Mem.tail _ (List.Mem.tail _ (List.Mem.head _))))) (by with_unfolding_all rfl) | exact Mine.sm_to (h2 _ (List.Mem.tail _ (List.Mem.tail _ (List.Mem.tail _ (List.Mem.tail _ (List.Mem.head _)))))) (by with_unfolding_all rfl) | exact Mine.sm_to (h2 _ (List.Mem.tail _ (List.Mem.tail _ (List.Mem.tail _ (List.Mem.tail _ (List.Mem.tail _ (List.Mem.head _))))))) (by with_unfolding_all rfl) | exact Mine.sm_to (h2 _ (List.Mem.tail _ (List.Mem.tail _ (List.Mem.tail _ (List.Mem.tail _ (List.Mem.tail _ (List.Mem.tail _ (List.Mem.head _)))))))) (by with_unfolding_all rfl) | exact Mine.sm_to (h2 _ (List.Mem.tail _ (List.Mem.tail _ (List.Mem.tail _ (List.Mem.tail _ (List.Mem.tail _ (List.Mem.tail _ (List.Mem.tail _ (List.Mem.head _))))))))) (by with_unfolding_all rfl) | exact Mine.sm_ne h3 (by with_unfolding_all rfl)) ?_ | refine Mine.sm_ifc h3 ?_ | refine Mine.sm_ifc (Mine.sm_sub h3 (by with_unfolding_all rfl)) ?_ | exact rfl)); done) | ((try simp only [List.forall_mem_cons, List.not_mem_nil, false_implies, implies_true, and_true, ne_eq] at h2); (try simp only [List.contains_cons, List.contains_nil, Bool.or_false, Bool.or_eq_false_iff, beq_eq_false_iff_ne, ne_eq] at h3); simp +zetaDelta [kstB, h1, h2, h3]))) ⟨by assumption, ?_, hnl⟩
        rw [hne, List.foldl_append, ← hns]
        rfl
    · clear F N hI hns ns vs n
      (first | ((first | (intro zt115; (first | refine Exists.elim zt115 ?_ | refine Mine.and_el zt115 ?_); intro ra zt116; (try clear zt115); (first | refine Exists.elim zt116 ?_ | refine Mine.and_el zt116 ?_); intro vs zt117; (try clear zt116); (first | refine Exists.elim zt117 ?_ | refine Mine.and_el zt117 ?_); intro n row; (try clear zt117)) | (refine Mine.pr4 ?_; intro ra vs n row) | rintro ⟨ra, vs, n, row⟩); intro u h tk; (first | (intro zt118; (first | refine Exists.elim zt118 ?_ | refine Mine.and_el zt118 ?_); intro hI zt119; (try clear zt118); (first | refine Exists.elim zt119 ?_ | refine Mine.and_el zt119 ?_); intro hns hrl; (try clear zt119)) | (refine Mine.pr3 ?_; intro hI hns hrl) | rintro ⟨hI, hns, hrl⟩); intro F N) | rintro ⟨ra, vs, n, row⟩ u h tk ⟨hI, hns, hrl⟩ F N)
      (try dsimp only at F N hI hns hrl)
      rw [S_cps] at hns
      w_strict ((try dsimp only); k_steps)
      refine hQ0 _ _ ?_; with_unfolding_all refine done_ret (by assumption) ?_
      refine ⟨_, congrArg (fun i => Value.int i _) ?_⟩
      rw [getD_last (by omega), ← hR, farF, ← hns]
end Mine
end
section
open PySem PySem.W PyProof.Rows
set_option maxRecDepth 100000
set_option maxHeartbeats 8000000
namespace Mine
open PySem.Builtin.Str (occurrences) in
/-- x.find(y, i, j) -/
noncomputable def find4 (x y : Str) (i j : Int) : Int := match occurrences x y (fromIndex x.length i) (min (fromIndex x.length j) x.length) 1 with | k :: _ => (k : Int) | [] => -1
open PySem.Builtin.Str (occurrences) in
theorem gives_find4 (x y : Str) (i j : Int) (t u v v' : Tok) : Gives (Builtin.«str.find» ⟨[.str x t, .str y u, .int i v, .int j v'], []⟩) (.int (find4 x y i j)) := by
  show Gives (match occurrences x y (fromIndex x.length i) (min (fromIndex x.length j) x.length) 1 with | k :: _ => retInt k | [] => (do rule "str.find.not-found"; retInt (-1))) _
  unfold find4
  cases occurrences x y (fromIndex x.length i) (min (fromIndex x.length j) x.length) 1 with
  | nil => exact .rule (.of_eq rfl)
  | cons k _ => exact .of_eq rfl
section
variable {prog : Program} {w : World} {A : Around} {E : Value → Shared → Prop} {s : Shared} {h₀ : Heap} {L : Addr} {m : Str → Option Value} {news : List (Addr × Obj)}
theorem call_find4 {x y : Str} {i j : Int} {t u v v' : Tok} {Q : Value → Shared → Prop} (hq : Q (.int (find4 x y i j) s.toks) { s with toks := s.toks + 1 }) :
    wpAny (model prog w) A (call (.builtin "str.find") [.str x t, .str y u, .int i v, .int j v']) Q E s :=
  call_gives F.slot_str_find (typeIs_str _ _ _) F.entry_str_find (F.args_str_find_4 _ _ _ _) (gives_find4 x y i j t u v v') hq
/-- del xs[0], del xs[-1] of the ledger's first list -/
theorem del_first {D : Addr} {v : Value} {vs : List Value} {n : Nat} {u : Tok} {Q : Unit → Shared → Prop} (F : Fr h₀ L s.heap m) (N : News h₀ L s.heap ((D, listOf (v :: vs).toArray n) :: news)) (hne : ∀ p ∈ news, p.1 ≠ D) (hsz : vs.length ≤ 1000)
    (h : ∀ h' n', Fr h₀ L h' m → News h₀ L h' ((D, listOf vs.toArray n') :: news) → Q () { s with heap := h' }) : wpAny (model prog w) A (delItem (.ref D) (.int 0 u)) Q E s := by
  have D0 := N _ (List.Mem.head _)
  refine P.delItem_list (k := 0) (n := n) D0.1 (by decide) (by simp [seqIndex?]) ?_ (by simp [sizeLine_eq]; omega)
  obtain ⟨F', N'⟩ := news_upd (pre := []) (post := news) (o' := listOf vs.toArray (n + 1)) (f := Obj.mapSeq fun xs => xs.eraseIdxIfInBounds 0) F N (fun _ h => nomatch h) hne (by simp [Obj.mapSeq, W.listOf]) rfl
  exact h _ _ F' N'
theorem del_last {D : Addr} {v : Value} {vs : List Value} {n : Nat} {u : Tok} {Q : Unit → Shared → Prop} (F : Fr h₀ L s.heap m) (N : News h₀ L s.heap ((D, listOf (vs ++ [v]).toArray n) :: news)) (hne : ∀ p ∈ news, p.1 ≠ D) (hsz : vs.length ≤ 1000)
    (h : ∀ h' n', Fr h₀ L h' m → News h₀ L h' ((D, listOf vs.toArray n') :: news) → Q () { s with heap := h' }) : wpAny (model prog w) A (delItem (.ref D) (.int (-1) u)) Q E s := by
  have D0 := N _ (List.Mem.head _)
  refine P.delItem_list (k := vs.length) (n := n) D0.1 (by decide) ?_ ?_ (by simp [sizeLine_eq]; omega)
  · simp [seqIndex?]
    omega
  obtain ⟨F', N'⟩ := news_upd (pre := []) (post := news) (o' := listOf vs.toArray (n + 1)) (f := Obj.mapSeq fun xs => xs.eraseIdxIfInBounds vs.length) F N (fun _ h => nomatch h) hne (by simp [Obj.mapSeq, W.listOf, List.eraseIdx_append_of_length_le]) rfl
  exact h _ _ F' N'
end
end Mine
end
section
open PySem PySem.W PyProof.Rows
set_option maxRecDepth 100000
set_option maxHeartbeats 8000000
namespace Mine
local macro_rules | `(tactic| walk_at "pyIter ref") => `(tactic| refine Hold.out ?_)
local macro_rules | `(tactic| walk_at "exec For Name Name cons nil") => `(tactic| refine Hold.out ?_)
local macro_rules | `(tactic| walk_at "delItem ref int") => `(tactic| refine Hold.out ?_)
local macro_rules | `(tactic| walk_at "execs cons") => `(tactic| walk_at "mxq")
local macro_rules | `(tactic| walk_at "execs nil") => `(tactic| walk_at "mxn")
section
variable {prog : Program} {w : World} {A : Around} {E : Value → Shared → Prop} {s : Shared}
theorem len_nw {h₀ : Heap} {L l : Addr} {n : Nat} {news : List (Addr × Obj)} {vs : List Value} {Q : Value → Shared → Prop} (N : News h₀ L s.heap news) (hm : (l, listOf vs.toArray n) ∈ news) (hf : (vs.length : Int) < 2 ^ 63)
    (h : Q (.int vs.toArray.size (s.toks + 1)) { s with toks := s.toks + 1 + 1 }) : wpAny (model prog w) A (call (.builtin "len") [.ref l]) Q E s :=
  PyProof.Rows.len_list (isListOf N hm) (by rw [List.size_toArray]; exact hf) h
theorem item_first {value slice : Expr} {l : Addr} {vs : List Value} {ys : List Str} {u : Tok} {Q : Value → Shared → Prop} (hl : s.heap.IsList l vs.toArray) (hi : StrsAre vs ys) (hn : 1 ≤ ys.length) (h : ∀ t, Q (.str (ys.headD Str.empty) t) s)
    (hs : subscripted slice false (.ref l) (.int 0 u) = operate [.ref l, .int 0 u] (getItem (.ref l) (.int 0 u)) := by with_unfolding_all rfl) (hg : ∀ r, letTemporaryGo value (.ref l) r = pure () := by intro _; with_unfolding_all rfl) :
    wpAny (model prog w) A (subscriptTail value slice (.ref l) (.int 0 u)) Q E s := by
  refine item_strsA hl hi (by omega) (by omega) (by decide) (fun t' => ?_) hs hg
  have e : ys.getD (0 : Int).toNat Str.empty = ys.headD Str.empty := by cases ys <;> rfl
  rw [e]; exact h t'
theorem item_last {value slice : Expr} {l : Addr} {vs : List Value} {ys : List Str} {u : Tok} {Q : Value → Shared → Prop} (hl : s.heap.IsList l vs.toArray) (hi : StrsAre vs ys) (hn : 1 ≤ ys.length) (h : ∀ t, Q (.str (ys.getLastD Str.empty) t) s)
    (hs : subscripted slice false (.ref l) (.int (-1) u) = operate [.ref l, .int (-1) u] (getItem (.ref l) (.int (-1) u)) := by with_unfolding_all rfl) (hg : ∀ r, letTemporaryGo value (.ref l) r = pure () := by intro _; with_unfolding_all rfl) :
    wpAny (model prog w) A (subscriptTail value slice (.ref l) (.int (-1) u)) Q E s := by
  refine item_strs_neg hl hi (by omega) (by omega) (by decide) (fun t' => ?_) hs hg
  have e : ys.getD (-1 + (ys.length : Int)).toNat Str.empty = ys.getLastD Str.empty := by
    rw [show (-1 + (ys.length : Int)).toNat = ys.length - 1 by omega, List.getD_eq_getElem?_getD, List.getLastD_eq_getLast?, List.getLast?_eq_getElem?]
  rw [e]; exact h t'
end
local macro_rules | `(tactic| walk_at "call builtin:len") => `(tactic| ((try dsimp only); refine len_nw (by with_reducible assumption) (by k_mem) (by omega) ?_))
local macro_rules | `(tactic| walk_at "subscriptTail Name Constant ref int") => `(tactic| (refine item_first (isListOf (by with_reducible assumption) (by k_mem)) (by with_reducible assumption) (by omega) ?_; intro _))
local macro_rules | `(tactic| walk_at "subscriptTail Name UnaryOp ref int") => `(tactic| (refine item_last (isListOf (by with_reducible assumption) (by k_mem)) (by with_reducible assumption) (by omega) ?_; intro _))
local macro_rules | `(tactic| walk_at "call builtin:str.find") => `(tactic| (refine call_find4 ?_))
noncomputable def dots : Str := Str.ofString "..."
noncomputable def matchL (g : Str) (e : Int) : List Str → Int → Bool
  | [], _ => true
  | w :: r, st => if find4 g w st e < 0 then false else matchL g e r (find4 g w st e + w.length)
noncomputable def matchR (g : Str) (st e : Int) (parts : List Str) : Bool := if st > e then false else matchL g e parts st
noncomputable def matchQ (g : Str) (st : Int) (parts : List Str) : Bool :=
  if (parts.getLastD Str.empty).length ≠ 0 then (if Txt.endswith g (parts.getLastD Str.empty) then matchR g st (g.length - (parts.getLastD Str.empty).length) parts.dropLast else false) else matchR g st g.length parts
noncomputable def matchP (g : Str) (parts : List Str) : Bool :=
  if (parts.headD Str.empty).length ≠ 0 then (if Txt.startswith g (parts.headD Str.empty) then matchQ g (parts.headD Str.empty).length parts.tail else false) else matchQ g 0 parts
noncomputable def matchS (x g : Str) : Bool := if (Builtin.Str.occurrences x dots 0 x.length 1).isEmpty then x == g else matchP g (Txt.split x dots)
theorem split_two {x : Str} (h : (Builtin.Str.occurrences x dots 0 x.length 1).isEmpty = false) : 2 ≤ (Txt.split x dots).length := by
  rcases StrLaws.occ_head x dots 1 (Nat.le_refl _) with ⟨e, _⟩ | ⟨i, r, e, hat, _⟩
  · rw [e] at h; simp at h
  · have hlen : ¬ x.length < dots.length := by have := hat.1; omega
    have hkind : ¬ Builtin.Str.strKind x < Builtin.Str.strKind dots := by
      have h1 : Builtin.Str.strKind dots = 1 := by decide +kernel
      rw [h1]
      unfold Builtin.Str.strKind
      split
      · omega
      · split <;> omega
    rcases StrLaws.occ_head x dots (x.length + 1) (by omega) with ⟨e', hn⟩ | ⟨i', r', e', _⟩
    · exact absurd hat (hn i)
    · unfold Txt.split
      rw [if_neg (by simp [hlen, hkind]), e']
      simp [Builtin.Str.partsBetween]
theorem ell {w mean mg mb p tp g tg} (hp : p.length ≤ 20) (hg : g.length ≤ 20) : Claim w mean mg mb 10 21 [.str (S p) tp, .str (S g) tg] (fun _ => True)
    (fun h h' r => r = .bool (matchS (S p) (S g))) := by
  have hx : (S p).length ≤ 20 := by rw [S_length]; exact hp
  have hy : (S g).length ≤ 20 := by rw [S_length]; exact hg
  (first | ((first | refine Exists.elim (show ∃ R, matchS (S p) (S g) = R from ⟨_, rfl⟩) ?_ | refine Mine.and_el (show ∃ R, matchS (S p) (S g) = R from ⟨_, rfl⟩) ?_); intro R hR) | obtain ⟨R, hR⟩ : ∃ R, matchS (S p) (S g) = R := ⟨_, rfl⟩)
  rw [hR]
  (have hz : (rwm, kz.heap_1) = (rwm, kz.heap_1) := rfl; revert hz; k_fill; intro hz; clear hz; w_on)
  w_strict (k_dflt (refine' enter ?ko ?kc ?kb ?kl ?_ ?c1 ?c2 ?c3 ?c4; (case ko => k_is); (case kc => k_is); (case kb => exact rfl); (case kl => exact locs rfl); (case c1 => exact rfl); (case c2 => exact rfl); (case c3 => exact rfl); (case c4 => decide); k_whole; intro dp un fr gd s L h₁ tk hpre F N X T hdp hun; (simp only [List.map, List.zip, List.zipWith, List.reverse, List.reverseAux] at F); (try dsimp only); (try k_fold)))
  refine opq ?_; intro Q0 hQ0
  refine cut_stmtR (fun s' => matchP (S g) (Txt.split (S p) dots) = R ∧ 2 ≤ (Txt.split (S p) dots).length ∧ At s s.heap L [] [(Str.ofString "want", Value.str (S p) tp), (Str.ofString "got", Value.str (S g) tg)] s') ?_ ?_
  · refine opq ?_; intro Qc1 hQc1
    w_strict ((try k_fold); k_steps)
    · refine hQc1 _ _ (NextOr.ret ?_)
      refine hQ0 _ _ ?_; with_unfolding_all refine done_ret (by assumption) ?_
      rw [← hR, matchS, if_pos (by assumption)]
    · rename (Builtin.Str.occurrences _ _ _ _ _).isEmpty = false => he
      refine hQc1 _ _ (NextOr.mk ⟨?_, split_two he, At.mk F N (by kst_all)⟩)
      rw [← hR, matchS, if_neg (by rw [show dots = Str.ofString "..." from rfl, he]; decide)]
  clear F N hR
  (first | (intro s'; (first | (intro zt120; (first | refine Exists.elim zt120 ?_ | refine Mine.and_el zt120 ?_); intro hR zt121; (try clear zt120); (first | refine Exists.elim zt121 ?_ | refine Mine.and_el zt121 ?_); intro h2 zt122; (try clear zt121); (first | (refine Mine.at_el zt122 ?_; clear zt122; intro h tk m zt126 F N; subst zt126) | ((first | refine Exists.elim zt122 ?_ | refine Mine.and_el zt122 ?_); intro h zt123; (try clear zt122); (first | refine Exists.elim zt123 ?_ | refine Mine.and_el zt123 ?_); intro tk zt124; (try clear zt123); (first | refine Exists.elim zt124 ?_ | refine Mine.and_el zt124 ?_); intro m zt125; (try clear zt124); (first | refine Exists.elim zt125 ?_ | refine Mine.and_el zt125 ?_); intro F N; (try clear zt125)))) | rintro ⟨hR, h2, h, tk, m, F, N⟩)) | rintro s' ⟨hR, h2, h, tk, m, F, N⟩)
  -- ws
  refine cut_stmt (fun s' => ∃ a vs n, StrsAre vs (Txt.split (S p) dots) ∧ At s s.heap L [(a, listOf vs.toArray n)] [(Str.ofString "got", Value.str (S g) tg), (Str.ofString "ws", .ref a)] s') ?_ ?_
  · refine opq ?_; intro Qc2 hQc2
    w_strict ((try k_fold); k_steps)
    rename StrsAre _ _ => hS
    rename _ = Txt.split _ _ => hl
    rw [hl] at hS
    exact hQc2 _ _ (NextAt.mk ⟨_, _, _, hS, At.mk (by assumption) (by assumption) (by kst_all)⟩)
  clear F N
  (first | (intro s'; (first | (intro zt127; (first | refine Exists.elim zt127 ?_ | refine Mine.and_el zt127 ?_); intro a zt128; (try clear zt127); (first | refine Exists.elim zt128 ?_ | refine Mine.and_el zt128 ?_); intro vs zt129; (try clear zt128); (first | refine Exists.elim zt129 ?_ | refine Mine.and_el zt129 ?_); intro n zt130; (try clear zt129); (first | refine Exists.elim zt130 ?_ | refine Mine.and_el zt130 ?_); intro hvs zt131; (try clear zt130); (first | (refine Mine.at_el zt131 ?_; clear zt131; intro h tk m zt135 F N; subst zt135) | ((first | refine Exists.elim zt131 ?_ | refine Mine.and_el zt131 ?_); intro h zt132; (try clear zt131); (first | refine Exists.elim zt132 ?_ | refine Mine.and_el zt132 ?_); intro tk zt133; (try clear zt132); (first | refine Exists.elim zt133 ?_ | refine Mine.and_el zt133 ?_); intro m zt134; (try clear zt133); (first | refine Exists.elim zt134 ?_ | refine Mine.and_el zt134 ?_); intro F N; (try clear zt134)))) | rintro ⟨a, vs, n, hvs, h, tk, m, F, N⟩)) | rintro s' ⟨a, vs, n, hvs, h, tk, m, F, N⟩)
  have hwl : ∀ x ∈ Txt.split (S p) dots, x.length ≤ 20 := fun x hx' => Nat.le_trans (part_short hx') hx
  have hpn : (Txt.split (S p) dots).length ≤ 30 := by have := PyProof.Rows.split_le (S p) dots; omega
  (first | ((first | refine Exists.elim (show ∃ parts, Txt.split (S p) dots = parts from ⟨_, rfl⟩) ?_ | refine Mine.and_el (show ∃ parts, Txt.split (S p) dots = parts from ⟨_, rfl⟩) ?_); intro parts hparts) | obtain ⟨parts, hparts⟩ : ∃ parts, Txt.split (S p) dots = parts := ⟨_, rfl⟩)
  rw [hparts] at hR h2 hvs hwl hpn
  clear hparts
  have hvl := hvs.length
  refine cut_stmt (fun s' => At s s.heap L [(a, listOf vs.toArray n)] [(Str.ofString "got", Value.str (S g) tg), (Str.ofString "ws", .ref a)] s') ?_ ?_
  · refine opq ?_; intro Qc3 hQc3
    w_strict ((try k_fold); k_steps)
    exact hQc3 _ _ (NextAt.mk (At.mk (by assumption) (by assumption) (by kst_all)))
  clear F N
  (first | (intro s'; (first | (intro zt136; (first | (refine Mine.at_el zt136 ?_; clear zt136; intro h tk m zt140 F N; subst zt140) | ((first | refine Exists.elim zt136 ?_ | refine Mine.and_el zt136 ?_); intro h zt137; (try clear zt136); (first | refine Exists.elim zt137 ?_ | refine Mine.and_el zt137 ?_); intro tk zt138; (try clear zt137); (first | refine Exists.elim zt138 ?_ | refine Mine.and_el zt138 ?_); intro m zt139; (try clear zt138); (first | refine Exists.elim zt139 ?_ | refine Mine.and_el zt139 ?_); intro F N; (try clear zt139)))) | rintro ⟨h, tk, m, F, N⟩)) | rintro s' ⟨h, tk, m, F, N⟩)
  refine cut_stmt (fun s' => ∃ t1 t2, At s s.heap L [(a, listOf vs.toArray n)] [(Str.ofString "got", Value.str (S g) tg), (Str.ofString "ws", .ref a), (Str.ofString "startpos", .int 0 t1), (Str.ofString "endpos", .int ((S g).length : Int) t2)] s') ?_ ?_
  · refine opq ?_; intro Qc4 hQc4
    w_strict ((try k_fold); k_steps)
    rename News _ _ _ _ => N9
    exact hQc4 _ _ (NextAt.mk ⟨_, _, At.mk (by assumption) (kst_newsOf N9 (by kst_inAny)) (by kst_all)⟩)
  clear F N
  (first | (intro s'; (first | (intro zt141; (first | refine Exists.elim zt141 ?_ | refine Mine.and_el zt141 ?_); intro t1 zt142; (try clear zt141); (first | refine Exists.elim zt142 ?_ | refine Mine.and_el zt142 ?_); intro t2 zt143; (try clear zt142); (first | (refine Mine.at_el zt143 ?_; clear zt143; intro h tk m zt147 F N; subst zt147) | ((first | refine Exists.elim zt143 ?_ | refine Mine.and_el zt143 ?_); intro h zt144; (try clear zt143); (first | refine Exists.elim zt144 ?_ | refine Mine.and_el zt144 ?_); intro tk zt145; (try clear zt144); (first | refine Exists.elim zt145 ?_ | refine Mine.and_el zt145 ?_); intro m zt146; (try clear zt145); (first | refine Exists.elim zt146 ?_ | refine Mine.and_el zt146 ?_); intro F N; (try clear zt146)))) | rintro ⟨t1, t2, h, tk, m, F, N⟩)) | rintro s' ⟨t1, t2, h, tk, m, F, N⟩)
  refine cut_stmt (fun s' => ∃ t3, At s s.heap L [(a, listOf vs.toArray n)] [(Str.ofString "got", Value.str (S g) tg), (Str.ofString "ws", .ref a), (Str.ofString "startpos", .int 0 t1), (Str.ofString "endpos", .int ((S g).length : Int) t2), (Str.ofString "w", .str (parts.headD Str.empty) t3)] s') ?_ ?_
  · refine opq ?_; intro Qc5 hQc5
    w_strict ((try k_fold); k_steps)
    exact hQc5 _ _ (NextAt.mk ⟨_, At.mk (by assumption) (by assumption) (by kst_all)⟩)
  clear F N
  (first | (intro s'; (first | (intro zt148; (first | refine Exists.elim zt148 ?_ | refine Mine.and_el zt148 ?_); intro t3 zt149; (try clear zt148); (first | (refine Mine.at_el zt149 ?_; clear zt149; intro h tk m zt153 F N; subst zt153) | ((first | refine Exists.elim zt149 ?_ | refine Mine.and_el zt149 ?_); intro h zt150; (try clear zt149); (first | refine Exists.elim zt150 ?_ | refine Mine.and_el zt150 ?_); intro tk zt151; (try clear zt150); (first | refine Exists.elim zt151 ?_ | refine Mine.and_el zt151 ?_); intro m zt152; (try clear zt151); (first | refine Exists.elim zt152 ?_ | refine Mine.and_el zt152 ?_); intro F N; (try clear zt152)))) | rintro ⟨t3, h, tk, m, F, N⟩)) | rintro s' ⟨t3, h, tk, m, F, N⟩)
  have hw0 : (parts.headD Str.empty).length ≤ 20 := by
    cases parts with
    | nil => simp at h2
    | cons x r => exact hwl _ (List.Mem.head _)
  refine cut_stmtR (fun s' => ∃ (st : Int) (ts : Tok) (parts' : List Str) (vs' : List Value) (n' : Nat), 0 ≤ st ∧ st ≤ 20 ∧ StrsAre vs' parts' ∧ 1 ≤ parts'.length ∧ parts'.length ≤ 30 ∧ (∀ x ∈ parts', x.length ≤ 20) ∧ matchQ (S g) st parts' = R ∧
      At s s.heap L [(a, listOf vs'.toArray n')] [(Str.ofString "got", Value.str (S g) tg), (Str.ofString "ws", .ref a), (Str.ofString "startpos", .int st ts), (Str.ofString "endpos", .int ((S g).length : Int) t2)] s') ?_ ?_
  · w_strict ((try k_fold); k_steps)
    · refine Hold.mk ?_
      obtain ⟨w0, r0, rfl⟩ : ∃ w0 r0, parts = w0 :: r0 := by
        cases parts with
        | nil => simp at h2
        | cons x r => exact ⟨x, r, rfl⟩
      (first | ((first | refine Exists.elim (StrsAre.cons_inv hvs) ?_ | refine Mine.and_el (StrsAre.cons_inv hvs) ?_); intro tw zt154; (first | refine Exists.elim zt154 ?_ | refine Mine.and_el zt154 ?_); intro vs1 zt155; (try clear zt154); (first | refine Exists.elim zt155 ?_ | refine Mine.and_el zt155 ?_); intro zt156 hvs1; (try clear zt155); subst zt156) | obtain ⟨tw, vs1, rfl, hvs1⟩ := StrsAre.cons_inv hvs)
      (try clear F N)
      rename Fr _ _ _ _ => F; rename News _ _ _ _ => N
      refine del_first F N (fun _ h => nomatch h) (by simp at hvl hpn; omega) ?_
      clear F N
      intro h n' F N
      w_strict ((try dsimp only); k_steps)
      refine NextOr.mk ⟨_, _, r0, vs1, n', ?_, ?_, hvs1, ?_, ?_, fun x hx => hwl x (.tail _ hx), ?_, At.mk F N (by kst_all)⟩
      · exact Int.natCast_nonneg _
      · omega
      · simp at h2; omega
      · simp at hpn; omega
      · rw [← hR, matchP, if_pos (by omega), if_pos (by assumption)]; rfl
    · (try dsimp only)
      refine NextOr.ret ?_
      refine hQ0 _ _ (done_ret (by assumption) ?_)
      rename Txt.startswith _ _ = false => hst
      rw [← hR, matchP, if_pos (by omega), hst]; rfl
    · refine NextOr.mk ⟨_, _, parts, vs, n, ?_, ?_, hvs, ?_, hpn, hwl, ?_, At.mk F N (by kst_all)⟩
      · omega
      · omega
      · omega
      · rw [← hR, matchP, if_neg (by omega)]
  clear F N hR h2 hvs hwl hvl hpn hw0
  clear vs n parts
  (first | (intro s'; (first | (intro zt157; (first | refine Exists.elim zt157 ?_ | refine Mine.and_el zt157 ?_); intro st zt158; (try clear zt157); (first | refine Exists.elim zt158 ?_ | refine Mine.and_el zt158 ?_); intro ts zt159; (try clear zt158); (first | refine Exists.elim zt159 ?_ | refine Mine.and_el zt159 ?_); intro parts zt160; (try clear zt159); (first | refine Exists.elim zt160 ?_ | refine Mine.and_el zt160 ?_); intro vs zt161; (try clear zt160); (first | refine Exists.elim zt161 ?_ | refine Mine.and_el zt161 ?_); intro n zt162; (try clear zt161); (first | refine Exists.elim zt162 ?_ | refine Mine.and_el zt162 ?_); intro hst0 zt163; (try clear zt162); (first | refine Exists.elim zt163 ?_ | refine Mine.and_el zt163 ?_); intro hst1 zt164; (try clear zt163); (first | refine Exists.elim zt164 ?_ | refine Mine.and_el zt164 ?_); intro hvs zt165; (try clear zt164); (first | refine Exists.elim zt165 ?_ | refine Mine.and_el zt165 ?_); intro h1 zt166; (try clear zt165); (first | refine Exists.elim zt166 ?_ | refine Mine.and_el zt166 ?_); intro hpn zt167; (try clear zt166); (first | refine Exists.elim zt167 ?_ | refine Mine.and_el zt167 ?_); intro hwl zt168; (try clear zt167); (first | refine Exists.elim zt168 ?_ | refine Mine.and_el zt168 ?_); intro hR zt169; (try clear zt168); (first | (refine Mine.at_el zt169 ?_; clear zt169; intro h tk m zt173 F N; subst zt173) | ((first | refine Exists.elim zt169 ?_ | refine Mine.and_el zt169 ?_); intro h zt170; (try clear zt169); (first | refine Exists.elim zt170 ?_ | refine Mine.and_el zt170 ?_); intro tk zt171; (try clear zt170); (first | refine Exists.elim zt171 ?_ | refine Mine.and_el zt171 ?_); intro m zt172; (try clear zt171); (first | refine Exists.elim zt172 ?_ | refine Mine.and_el zt172 ?_); intro F N; (try clear zt172)))) | rintro ⟨st, ts, parts, vs, n, hst0, hst1, hvs, h1, hpn, hwl, hR, h, tk, m, F, N⟩)) | rintro s' ⟨st, ts, parts, vs, n, hst0, hst1, hvs, h1, hpn, hwl, hR, h, tk, m, F, N⟩)
  have hvl := hvs.length
  refine cut_stmt (fun s' => ∃ t3, At s s.heap L [(a, listOf vs.toArray n)] [(Str.ofString "got", Value.str (S g) tg), (Str.ofString "ws", .ref a), (Str.ofString "startpos", .int st ts), (Str.ofString "endpos", .int ((S g).length : Int) t2), (Str.ofString "w", .str (parts.getLastD Str.empty) t3)] s') ?_ ?_
  · refine opq ?_; intro Qc6 hQc6
    w_strict ((try k_fold); k_steps)
    exact hQc6 _ _ (NextAt.mk ⟨_, At.mk (by assumption) (by assumption) (by kst_all)⟩)
  (try clear F N)
  (first | (intro s'; (first | (intro zt174; (first | refine Exists.elim zt174 ?_ | refine Mine.and_el zt174 ?_); intro t3 zt175; (try clear zt174); (first | (refine Mine.at_el zt175 ?_; clear zt175; intro h tk m zt179 F N; subst zt179) | ((first | refine Exists.elim zt175 ?_ | refine Mine.and_el zt175 ?_); intro h zt176; (try clear zt175); (first | refine Exists.elim zt176 ?_ | refine Mine.and_el zt176 ?_); intro tk zt177; (try clear zt176); (first | refine Exists.elim zt177 ?_ | refine Mine.and_el zt177 ?_); intro m zt178; (try clear zt177); (first | refine Exists.elim zt178 ?_ | refine Mine.and_el zt178 ?_); intro F N; (try clear zt178)))) | rintro ⟨t3, h, tk, m, F, N⟩)) | rintro s' ⟨t3, h, tk, m, F, N⟩)
  obtain ⟨r0, w0, rfl⟩ : ∃ r0 w0, parts = r0 ++ [w0] := ⟨parts.dropLast, parts.getLast (by rintro rfl; simp at h1), (List.dropLast_concat_getLast _).symm⟩
  have hw0 : w0.length ≤ 20 := hwl _ (by simp)
  have hlast : (r0 ++ [w0]).getLastD Str.empty = w0 := by simp
  rw [hlast] at F
  refine cut_stmtR (fun s' => ∃ (en : Int) (te : Tok) (parts' : List Str) (vs' : List Value) (n' : Nat), en ≤ 20 ∧ StrsAre vs' parts' ∧ parts'.length ≤ 30 ∧ (∀ x ∈ parts', x.length ≤ 20) ∧ matchR (S g) st en parts' = R ∧
      At s s.heap L [(a, listOf vs'.toArray n')] [(Str.ofString "got", Value.str (S g) tg), (Str.ofString "ws", .ref a), (Str.ofString "startpos", .int st ts), (Str.ofString "endpos", .int en te)] s') ?_ ?_
  · w_strict ((try k_fold); k_steps)
    · refine Hold.mk ?_
      obtain ⟨vs1, vl, rfl⟩ : ∃ vs1 vl, vs = vs1 ++ [vl] := ⟨vs.dropLast, vs.getLast (by rintro rfl; simp at hvl), (List.dropLast_concat_getLast _).symm⟩
      have hvs1 : StrsAre vs1 r0 := by
        have h9 := hvs.take' r0.length
        have e9 : vs1.length = r0.length := by simpa using hvl
        rw [List.take_left', List.take_left'] at h9
        · exact h9
        · rfl
        · exact e9
      (try clear F N)
      rename Fr _ _ _ _ => F; rename News _ _ _ _ => N
      refine del_last F N (fun _ h => nomatch h) (by simp at hvl hpn; omega) ?_
      clear F N
      intro h n' F N
      w_strict ((try dsimp only); k_steps)
      refine NextOr.mk ⟨_, _, r0, vs1, n', ?_, hvs1, ?_, fun x hx => hwl x (List.mem_append_left _ hx), ?_, At.mk F N (by kst_all)⟩
      · omega
      · simp at hpn; omega
      · rw [← hR, matchQ, hlast, if_pos (by omega), if_pos (by assumption)]; simp
    · (try dsimp only)
      refine NextOr.ret ?_
      refine hQ0 _ _ (done_ret (by assumption) ?_)
      rename Txt.endswith _ _ = false => hst
      rw [← hR, matchQ, hlast, if_pos (by omega), hst]; rfl
    · refine NextOr.mk ⟨_, _, r0 ++ [w0], vs, n, ?_, hvs, hpn, hwl, ?_, At.mk (by assumption) (by assumption) (by kst_all)⟩
      · omega
      · rw [← hR, matchQ, hlast, if_neg (by omega)]
  clear F N hR h1 hvs hwl hvl hpn hw0 hlast
  (first | (intro s'; (first | (intro zt180; (first | refine Exists.elim zt180 ?_ | refine Mine.and_el zt180 ?_); intro en zt181; (try clear zt180); (first | refine Exists.elim zt181 ?_ | refine Mine.and_el zt181 ?_); intro te zt182; (try clear zt181); (first | refine Exists.elim zt182 ?_ | refine Mine.and_el zt182 ?_); intro parts zt183; (try clear zt182); (first | refine Exists.elim zt183 ?_ | refine Mine.and_el zt183 ?_); intro vs zt184; (try clear zt183); (first | refine Exists.elim zt184 ?_ | refine Mine.and_el zt184 ?_); intro n zt185; (try clear zt184); (first | refine Exists.elim zt185 ?_ | refine Mine.and_el zt185 ?_); intro hen zt186; (try clear zt185); (first | refine Exists.elim zt186 ?_ | refine Mine.and_el zt186 ?_); intro hvs zt187; (try clear zt186); (first | refine Exists.elim zt187 ?_ | refine Mine.and_el zt187 ?_); intro hpn zt188; (try clear zt187); (first | refine Exists.elim zt188 ?_ | refine Mine.and_el zt188 ?_); intro hwl zt189; (try clear zt188); (first | refine Exists.elim zt189 ?_ | refine Mine.and_el zt189 ?_); intro hR zt190; (try clear zt189); (first | (refine Mine.at_el zt190 ?_; clear zt190; intro h tk m zt194 F N; subst zt194) | ((first | refine Exists.elim zt190 ?_ | refine Mine.and_el zt190 ?_); intro h zt191; (try clear zt190); (first | refine Exists.elim zt191 ?_ | refine Mine.and_el zt191 ?_); intro tk zt192; (try clear zt191); (first | refine Exists.elim zt192 ?_ | refine Mine.and_el zt192 ?_); intro m zt193; (try clear zt192); (first | refine Exists.elim zt193 ?_ | refine Mine.and_el zt193 ?_); intro F N; (try clear zt193)))) | rintro ⟨en, te, parts, vs, n, hen, hvs, hpn, hwl, hR, h, tk, m, F, N⟩)) | rintro s' ⟨en, te, parts, vs, n, hen, hvs, hpn, hwl, hR, h, tk, m, F, N⟩)
  refine cut_stmtR (fun s' => matchL (S g) en parts st = R ∧ At s s.heap L [(a, listOf vs.toArray n)] [(Str.ofString "got", Value.str (S g) tg), (Str.ofString "ws", .ref a), (Str.ofString "startpos", .int st ts), (Str.ofString "endpos", .int en te)] s') ?_ ?_
  · refine opq ?_; intro Qc7 hQc7
    w_strict ((try k_fold); k_steps)
    · (try dsimp only)
      refine hQc7 _ _ (NextOr.ret ?_)
      refine hQ0 _ _ (done_ret (by assumption) ?_)
      rw [← hR, matchR, if_pos (by omega)]
    · refine hQc7 _ _ (NextOr.mk ⟨?_, At.mk (by assumption) (by assumption) (by kst_all)⟩)
      rw [← hR, matchR, if_neg (by omega)]
  clear F N hR
  (first | (intro s'; (first | (intro zt195; (first | refine Exists.elim zt195 ?_ | refine Mine.and_el zt195 ?_); intro hR zt196; (try clear zt195); (first | (refine Mine.at_el zt196 ?_; clear zt196; intro h tk m zt200 F N; subst zt200) | ((first | refine Exists.elim zt196 ?_ | refine Mine.and_el zt196 ?_); intro h zt197; (try clear zt196); (first | refine Exists.elim zt197 ?_ | refine Mine.and_el zt197 ?_); intro tk zt198; (try clear zt197); (first | refine Exists.elim zt198 ?_ | refine Mine.and_el zt198 ?_); intro m zt199; (try clear zt198); (first | refine Exists.elim zt199 ?_ | refine Mine.and_el zt199 ?_); intro F N; (try clear zt199)))) | rintro ⟨hR, h, tk, m, F, N⟩)) | rintro s' ⟨hR, h, tk, m, F, N⟩)
  w_strict ((try k_fold); k_steps)
  refine Hold.mk ?_
  refine For_invVF F rfl rfl ?_ (by intro _; rfl) PassesOwn.never
  w_strict ((try dsimp only); k_steps)
  refine Hold.mk ?_
  refine for_listL (σ := Int × Tok) (vs := vs) (nn := n) parts (fun x v => ∃ t, v = .str x t) (fun _ => [(a, listOf vs.toArray n)]) (fun c => [(Str.ofString "startpos", .int c.1 c.2)]) []
    (fun pre c => matchL (S g) en (parts.drop pre.length) c.1 = R) (st, ts) rfl (fun _ => List.Mem.head _) hvs.length (fun i v hv => by obtain ⟨y, t, h1, h2⟩ := hvs.item i v hv; exact ⟨y, h2, t, h1⟩) F N (by kst_all) (by simpa using hR) ?_ ?_
  · clear F N hR
    (first | ((first | (intro zt201; (first | refine Exists.elim zt201 ?_ | refine Mine.and_el zt201 ?_); intro st ts; (try clear zt201)) | rintro ⟨st, ts⟩); intro pre post x v u h tk I oI hsp; (first | (intro zt202; (first | refine Exists.elim zt202 ?_ | refine Mine.and_el zt202 ?_); intro tx zt203; (try clear zt202); subst zt203) | rintro ⟨tx, rfl⟩); intro hR hoff F N) | rintro ⟨st, ts⟩ pre post x v u h tk I oI hsp ⟨tx, rfl⟩ hR hoff F N)
    refine opq ?_; intro Q1 hQ1
    (try dsimp only at F N hR)
    have hd9 : parts.drop pre.length = x :: post := by rw [hsp]; simp
    rw [hd9, matchL] at hR
    have hne1 : @Ne Nat a I := hoff _ (List.Mem.head _)
    have hxl : x.length ≤ 20 := hwl x (by rw [hsp]; simp)
    w_strict ((try dsimp only); k_steps)
    · (try dsimp only)
      refine hQ1 _ _ ?_; refine turn_ret ?_
      (try dsimp only)
      refine hQ0 _ _ ?_; refine done_ret (by assumption) ?_
      rw [← hR, if_pos (by assumption)]
    · rw [if_neg (by assumption)] at hR
      refine hQ1 _ _ ?_; refine turn_end ⟨_, _⟩ (by assumption) (by assumption) (by kst_in) (by simp) (off1 hne1) (by kst_all) (by (intro z h1 h2 h3; first | ((repeat (first | (with_reducible rfl) | refine Mine.sm_if (by first | exact h1 | exact Mine.sm_to (h2 _ (List.Mem.head _)) (by with_unfolding_all rfl) | exact Mine.sm_to (h2 _ (List.Mem.tail _ (List.Mem.head _))) (by with_unfolding_all rfl) | exact Mine.sm_to (h2 _ (List.Mem.tail _ (List.Mem.tail _ (List.Mem.head _)))) (by with_unfolding_all rfl) | exact Mine.sm_to (h2 _ (List.Mem.tail _ (List.Mem.tail _ (List.Mem.tail _ (List.Mem.head _))))) (by with_unfolding_all rfl) | exact Mine.sm_to (h2 _ (List.Mem.tail _ (List.Mem.tail _ (List.Mem.tail _ (List.Mem.tail _ (List.Mem.head _)))))) (by with_unfolding_all rfl) | exact Mine.sm_to (h2 _ (List.Mem.tail _ (List.Mem.tail _ (List.Mem.tail _ (List.Mem.tail _ (List.Mem.tail _ (List.Mem.head _))))))) (by with_unfolding_all rfl) | exact Mine.sm_to (h2 _ (List.Mem.tail _ (List.Mem.tail _ (List.Mem.tail _ (List.Mem.tail _ (List.Mem.tail _ (List.Mem.tail _ (List.Mem.head _)))))))) (by with_unfolding_all rfl) | exact Mine.sm_to (h2 _ (List.Mem.tail _ (List.Mem.tail _ (List.Mem.tail _ (List.Mem.tail _ (List.Mem.tail _ (List.Mem.tail _ (List.Mem.tail _ (List.Mem.head _))))))))) (by with_unfolding_all rfl) | exact Mine.sm_ne h3 (by with_unfolding_all rfl)) ?_ | refine Mine.sm_ifc h3 ?_ | refine Mine.sm_ifc (Mine.sm_sub h3 (by with_unfolding_all rfl)) ?_ | exact rfl)); done) | ((try simp only [List.forall_mem_cons, List.not_mem_nil, false_implies, implies_true, and_true, ne_eq] at h2); (try simp only [List.contains_cons, List.contains_nil, Bool.or_false, Bool.or_eq_false_iff, beq_eq_false_iff_ne, ne_eq] at h3); simp +zetaDelta [kstB, h1, h2, h3]))) ?_
      have hd8 : parts.drop (pre ++ [x]).length = post := by rw [hsp]; simp
      rw [hd8]; exact hR
  · clear F N hR
    (first | ((first | (intro zt204; (first | refine Exists.elim zt204 ?_ | refine Mine.and_el zt204 ?_); intro st ts; (try clear zt204)) | rintro ⟨st, ts⟩); intro u h tk hR F N) | rintro ⟨st, ts⟩ u h tk hR F N)
    (try dsimp only at F N hR)
    rw [List.drop_eq_nil_of_le (Nat.le_refl _), matchL] at hR
    w_strict ((try dsimp only); k_steps)
    refine hQ0 _ _ ?_; with_unfolding_all refine done_ret (by assumption) ?_
    rw [hR]
end Mine
end
section
open PySem PySem.W PySem.Spec PyProof.V PyProof.Rows
set_option maxRecDepth 100000
set_option maxHeartbeats 8000000
namespace Mine
/-- a sign's other size -/
noncomputable def swp (c : Nat) : Nat := if 65 ≤ c ∧ c ≤ 90 then c + 32 else if 97 ≤ c ∧ c ≤ 122 then c - 32 else c
noncomputable def loC (c : Nat) : Nat := if 65 ≤ c ∧ c ≤ 90 then c + 32 else c
theorem swp_all : ∀ c : Fin 128, Txt.swapcase (S [c.val]) = S [swp c.val] := by decide +kernel
theorem low_all : ∀ c : Fin 128, Txt.lower (S [c.val]) = S [loC c.val] := by decide +kernel
theorem swapcase_S {c : Nat} (h : c < 128) : Txt.swapcase (S [c]) = S [swp c] := swp_all ⟨c, h⟩
theorem lower_S {c : Nat} (h : c < 128) : Txt.lower (S [c]) = S [loC c] := low_all ⟨c, h⟩
noncomputable def Near (W : List (List Nat × Int)) (c : List (Str × Int)) : Prop := (∀ p ∈ c, ∃ q ∈ W, p = (S q.1, q.2)) ∧ (∀ q ∈ W, ∃ v, (S q.1, v) ∈ c)
noncomputable def IsNear (prog : Program) (w : World) (o : Obj) (W : List (List Nat × Int)) (n : Nat) : Prop :=
  ∃ kvs c, o.IsDictOf (PySem.strKind prog w) kvs ∧ FlatPairs PyData.str kvs (kdpD c) ∧ Near W c ∧ c.length ≤ n
theorem Near.put {W : List (List Nat × Int)} {c : List (Str × Int)} (h : Near W c) (k : List Nat) (v : Int) : Near (W ++ [(k, v)]) (kdpPut c (S k) v) := by
  unfold kdpPut
  split
  · rename_i hc
    refine ⟨fun p hp => ?_, fun q hq => ?_⟩
    · (first | ((first | refine Exists.elim (List.mem_map.mp hp) ?_ | refine Mine.and_el (List.mem_map.mp hp) ?_); intro p' zt205; (first | refine Exists.elim zt205 ?_ | refine Mine.and_el zt205 ?_); intro hp' zt206; (try clear zt205); subst zt206) | obtain ⟨p', hp', rfl⟩ := List.mem_map.mp hp)
      by_cases e : p'.1 = S k
      · rw [if_pos (decide_eq_true e)]
        exact ⟨(k, v), by simp, by rw [e]⟩
      · rw [if_neg (by simp [e])]
        (first | ((first | refine Exists.elim (h.1 p' hp') ?_ | refine Mine.and_el (h.1 p' hp') ?_); intro q zt207; (first | refine Exists.elim zt207 ?_ | refine Mine.and_el zt207 ?_); intro hq e; (try clear zt207)) | obtain ⟨q, hq, e⟩ := h.1 p' hp')
        exact ⟨q, by simp [hq], e⟩
    · rcases List.mem_append.mp hq with hq | hq
      · (first | ((first | refine Exists.elim (h.2 q hq) ?_ | refine Mine.and_el (h.2 q hq) ?_); intro v' hv') | obtain ⟨v', hv'⟩ := h.2 q hq)
        by_cases e : S q.1 = S k
        · exact ⟨v, List.mem_map.mpr ⟨_, hv', by rw [if_pos (decide_eq_true e)]⟩⟩
        · exact ⟨v', List.mem_map.mpr ⟨_, hv', by rw [if_neg (by simp [e])]⟩⟩
      · rw [List.mem_singleton.mp hq]
        (first | ((first | refine Exists.elim (List.any_eq_true.mp hc) ?_ | refine Mine.and_el (List.any_eq_true.mp hc) ?_); intro p zt208; (first | refine Exists.elim zt208 ?_ | refine Mine.and_el zt208 ?_); intro hp e; (try clear zt208)) | obtain ⟨p, hp, e⟩ := List.any_eq_true.mp hc)
        exact ⟨v, List.mem_map.mpr ⟨p, hp, by rw [if_pos e, of_decide_eq_true e]⟩⟩
  · refine ⟨fun p hp => ?_, fun q hq => ?_⟩
    · rcases List.mem_append.mp hp with hp | hp
      · (first | ((first | refine Exists.elim (h.1 p hp) ?_ | refine Mine.and_el (h.1 p hp) ?_); intro q zt209; (first | refine Exists.elim zt209 ?_ | refine Mine.and_el zt209 ?_); intro hq e; (try clear zt209)) | obtain ⟨q, hq, e⟩ := h.1 p hp)
        exact ⟨q, by simp [hq], e⟩
      · rw [List.mem_singleton.mp hp]
        exact ⟨(k, v), by simp, rfl⟩
    · rcases List.mem_append.mp hq with hq | hq
      · (first | ((first | refine Exists.elim (h.2 q hq) ?_ | refine Mine.and_el (h.2 q hq) ?_); intro v' hv') | obtain ⟨v', hv'⟩ := h.2 q hq)
        exact ⟨v', by simp [hv']⟩
      · rw [List.mem_singleton.mp hq]; exact ⟨v, by simp⟩
theorem ints_item : ∀ {vs : List Value} {ys : List Int}, IntsAre vs ys → ∀ (i : Nat) (v : Value), vs[i]? = some v → ∃ y t, v = .int y t ∧ ys[i]? = some y
  | _, _, .cons m t _, 0, v, e => by simp at e; exact ⟨m, t, e.symm, rfl⟩
  | _, _, .cons _ _ h, i + 1, v, e => by simpa using ints_item h i v (by simpa using e)
section
variable {prog : Program} {w : World} {A : Around} {E : Value → Shared → Prop} {s : Shared} {h₀ : Heap} {L d : Addr} {m : Str → Option Value} {news : List (Addr × Obj)} {o : Obj} {tk te : Tok} {e : Int} {k : Str}
theorem put_near {Q : Unit → Shared → Prop} {W : List (List Nat × Int)} {n : Nat} (l : List Nat) (hk : k = S l) (F : Fr h₀ L s.heap m) (N : News h₀ L s.heap ((d, o) :: news)) (hne : ∀ p ∈ news, p.1 ≠ d) (hI : IsNear prog w o W n) (hn : n ≤ 1000)
    (h : ∀ h' o', Fr h₀ L h' m → News h₀ L h' ((d, o') :: news) → IsNear prog w o' (W ++ [(l, e)]) (n + 1) → Q () { s with heap := h', toks := s.toks + 1 }) :
    wpAny (model prog w) A (setItem (.ref d) (.str k tk) (.int e te)) Q E s := by
  (first | ((first | refine Exists.elim hI ?_ | refine Mine.and_el hI ?_); intro kvs zt210; (try clear hI); (first | (refine Mine.at_el zt210 ?_; clear zt210; intro c h1 h2 zt214 h3 h4; subst zt214) | ((first | refine Exists.elim zt210 ?_ | refine Mine.and_el zt210 ?_); intro c zt211; (try clear zt210); (first | refine Exists.elim zt211 ?_ | refine Mine.and_el zt211 ?_); intro h1 zt212; (try clear zt211); (first | refine Exists.elim zt212 ?_ | refine Mine.and_el zt212 ?_); intro h2 zt213; (try clear zt212); (first | refine Exists.elim zt213 ?_ | refine Mine.and_el zt213 ?_); intro h3 h4; (try clear zt213)))) | obtain ⟨kvs, c, h1, h2, h3, h4⟩ := hI)
  subst hk
  refine kdp_setItem (u := fun o' => (d, o') :: news) F N (.head hne) h1 h2 (by omega) fun h' o' kvs' F' N' a b => ?_
  exact h h' o' F' N' ⟨kvs', _, a, b, h3.put l e, Nat.le_trans (kdpPut_len _ _ _) (by omega)⟩
theorem news_mv {h : Heap} {a b c e f : Addr × Obj} (N : News h₀ L h [a, b, c, e, f]) : News h₀ L h [c, a, e, f] := by
  intro p hp
  refine N p ?_
  simp only [List.mem_cons, List.not_mem_nil, or_false] at hp ⊢
  rcases hp with e | e | e | e <;> simp [e]
theorem news_sw {h : Heap} {a b c : Addr × Obj} (N : News h₀ L h [a, b, c]) : News h₀ L h [b, a, c] := by
  intro p hp
  refine N p ?_
  simp only [List.mem_cons, List.not_mem_nil, or_false] at hp ⊢
  rcases hp with e | e | e <;> simp [e]
theorem add_B {Q : Value → Shared → Prop} {l b : Addr} {vs us : List Value} {k : Nat} (F : Fr h₀ L s.heap m) (N : News h₀ L s.heap news) (hl : h₀.IsList l vs.toArray) (hb : (b, listOf us.toArray k) ∈ news) (hsz : vs.length + us.length ≤ 1000)
    (h : ∀ D h', Fr h₀ L h' m → News h₀ L h' ((D, listOf (vs ++ us).toArray 0) :: news) → (∀ p ∈ news, p.1 < D) → Q (.ref D) { s with heap := h' }) :
    wpAny (model prog w) A (binaryOp .Add (.ref l) (.ref b)) Q E s :=
  add_lists (vs := vs) (ws := us) (hsz := by rw [sizeLine_eq]; omega) F N (hl.at fun o e => F.keep _ o e) ⟨_, (N _ hb).1, rfl, _, rfl⟩ (fun h' F' N' => h _ h' F' N' fun p hp => Heap.lt_size (N p hp).1)
end
end Mine
end
section
open PySem PySem.W PyProof.Rows
set_option maxRecDepth 100000
set_option maxHeartbeats 8000000
namespace Mine
local macro_rules | `(tactic| walk_at $s) => if ["pyIter ref", "exec For Name Name cons nil", "exec For Name Call cons nil", "exec For Name BinOp cons nil", "call ref", "binaryOp Add ref ref", "eval Dict", "KdnMade", "setItem ref str"].contains s.getString then `(tactic| refine Hold.out ?_) else Lean.Macro.throwUnsupported
local macro_rules | `(tactic| walk_at "execs cons") => `(tactic| walk_at "mxq")
local macro_rules | `(tactic| walk_at "execs nil") => `(tactic| walk_at "mxn")
noncomputable def insW (t sg : List Nat) (j : Nat) : List (List Nat × Int) := sg.map fun c => (t.take j ++ c :: t.drop j, 2)
noncomputable def insAll (t sg : List Nat) (j : Nat) : List (List Nat × Int) := [(t, 0)] ++ (List.range j).flatMap (insW t sg)
theorem insAll_succ (t sg : List Nat) (j : Nat) : insAll t sg (j + 1) = insAll t sg j ++ sg.map fun c => (t.take j ++ c :: t.drop j, 2) := by simp [insAll, List.range_succ, insW]
noncomputable def subW (t sg : List Nat) (j : Nat) : List (List Nat × Int) := (sg ++ [swp (t.getD j 0)]).map fun c => (t.take j ++ c :: t.drop (j + 1), priceF (S [t.getD j 0]) (S [c]))
noncomputable def subAll (t sg : List Nat) (j : Nat) : List (List Nat × Int) := insAll t sg (t.length + 1) ++ (List.range j).flatMap fun i => (t.take i ++ t.drop (i + 1), 2) :: subW t sg i
theorem subAll_succ (t sg : List Nat) (j : Nat) : subAll t sg (j + 1) = subAll t sg j ++ [(t.take j ++ t.drop (j + 1), 2)] ++ (sg ++ [swp (t.getD j 0)]).map fun c => (t.take j ++ c :: t.drop (j + 1), priceF (S [t.getD j 0]) (S [c])) := by
  simp [subAll, List.range_succ, subW]
noncomputable def letters (t : List Nat) : List Nat := (List.range t.length).filter fun j => t.getD j 0 != 46
theorem letters_fold {t : List Nat} (lt : (S t).length = t.length) : (List.foldl
        (fun l' k' =>
          if (1 ≤ (Txt.item (S t) k').length ∧ (Txt.item (S t) k').length ≤ 1) ∧ ¬Txt.item (S t) k' = Str.ofString "." then l' ++ [k']
          else if (1 ≤ (Txt.item (S t) k').length ∧ (Txt.item (S t) k').length ≤ 1) ∧ (Txt.item (S t) k' != Str.ofString ".") = false then l' else l')
        [] (rangeKs 0 (((S t).length : Int) - 0).toNat)) = (letters t).map fun (i : Nat) => (i : Int) := by
  rw [lt]
  have hd : Str.ofString "." = S [46] := by decide +kernel
  have key : ∀ (l : List Nat) (acc : List Int), (∀ i ∈ l, i < t.length) → List.foldl
        (fun l' k' =>
          if (1 ≤ (Txt.item (S t) k').length ∧ (Txt.item (S t) k').length ≤ 1) ∧ ¬Txt.item (S t) k' = Str.ofString "." then l' ++ [k']
          else if (1 ≤ (Txt.item (S t) k').length ∧ (Txt.item (S t) k').length ≤ 1) ∧ (Txt.item (S t) k' != Str.ofString ".") = false then l' else l')
        acc (l.map fun (i : Nat) => (0 : Int) + (i : Int)) = acc ++ (l.filter fun j => t.getD j 0 != 46).map fun (i : Nat) => (i : Int) := by
    intro l
    induction l with
    | nil => intro acc _; simp
    | cons i l ih =>
      intro acc hl
      have hi : i < t.length := hl i (by simp)
      rw [List.map_cons, List.foldl_cons, ih _ (fun j hj => hl j (by simp [hj])), Int.zero_add, S_itemN hi, hd, S_length]
      by_cases e : t.getD i 0 = 46
      · rw [e, if_neg (by simp), if_pos (by simp), List.filter_cons_of_neg (by rw [e]; decide)]
      · have e2 : ¬ S [t.getD i 0] = S [46] := by rw [S_eq]; simpa using e
        rw [if_pos ⟨⟨Nat.le_refl _, Nat.le_refl _⟩, e2⟩, List.filter_cons_of_pos (by rw [bne_iff_ne]; exact e)]
        simp
  have := key (List.range t.length) [] (fun i hi => List.mem_range.mp hi)
  simpa [rangeKs, letters] using this
noncomputable def dblW (t : List Nat) (one : Nat) (l : List Nat) : List (List Nat × Int) := (l.filter fun two => decide (one < two)).map fun two => (t.take one ++ swp (t.getD one 0) :: ((t.drop (one + 1)).take (two - (one + 1)) ++ swp (t.getD two 0) :: t.drop (two + 1)), 2)
noncomputable def nearW (t sg : List Nat) : List (List Nat × Int) := subAll t sg t.length ++ (letters t).flatMap fun one => dblW t one (letters t)
theorem toN1 (a : Nat) : ((a : Int) + 1).toNat = a + 1 := rfl
theorem toN2 (a b : Nat) : ((b : Int) - ((a : Int) + 1)).toNat = b - (a + 1) := by omega
theorem near {w mean mg mb t tt sa} {sg : List Nat} {vs0 : List Value} {n0 : Nat} (ht : t.length ≤ 5) (hsg : sg.length ≤ 5) (h128 : ∀ c ∈ t, c < 128) (hS : StrsAre vs0 (sg.map fun c => S [c])) : Claim w mean mg mb 10 80 [.str (S t) tt, .ref sa]
    (fun h => h.get? sa = some (listOf vs0.toArray n0))
    (fun h h' r => ∃ a o, r = .ref a ∧ h'.get? a = some o ∧ h.get? a = none ∧ (a == sysModules) = false ∧ IsNear rwm.row.prog w o (nearW t sg) 100) := by
  have hx : (S t).length ≤ 5 := by rw [S_length]; exact ht
  have lt := S_length t
  have hitem : ∀ (i : Nat) v, vs0[i]? = some v → ∃ o, sg[i]? = some o ∧ ∃ t, v = .str (S [o]) t := by
    intro i v hv
    (first | ((first | refine Exists.elim (hS.item i v hv) ?_ | refine Mine.and_el (hS.item i v hv) ?_); intro y zt215; (first | refine Exists.elim zt215 ?_ | refine Mine.and_el zt215 ?_); intro t zt216; (try clear zt215); (first | refine Exists.elim zt216 ?_ | refine Mine.and_el zt216 ?_); intro zt217 hy; (try clear zt216); subst zt217) | obtain ⟨y, t, rfl, hy⟩ := hS.item i v hv)
    rw [List.getElem?_map] at hy
    (first | ((first | refine Exists.elim (Option.map_eq_some_iff.mp hy) ?_ | refine Mine.and_el (Option.map_eq_some_iff.mp hy) ?_); intro o zt218; (first | refine Exists.elim zt218 ?_ | refine Mine.and_el zt218 ?_); intro ho zt219; (try clear zt218); subst zt219) | obtain ⟨o, ho, rfl⟩ := Option.map_eq_some_iff.mp hy)
    exact ⟨o, ho, t, rfl⟩
  have hvl : vs0.length = sg.length := by rw [hS.length, List.length_map]
  have ht128 : ∀ j, j < t.length → t.getD j 0 < 128 := by
    intro j hj
    rw [List.getD_eq_getElem?_getD, List.getElem?_eq_getElem hj]
    exact h128 _ (List.getElem_mem hj)
  (have hz : (rwm, kz.heap_1) = (rwm, kz.heap_1) := rfl; revert hz; k_fill; intro hz; clear hz; w_on)
  w_strict (k_dflt (refine' enterC (Str.ofString "text") ?ko ?kc ?kb ?kl ?kx ?_ ?c1 ?c2 ?c3; (case ko => k_is); (case kc => k_is); (case kb => exact rfl); (case kl => intro _ y hy; (simp only [List.map, List.zip, List.zipWith, List.mem_cons, List.not_mem_nil, or_false] at hy); rcases hy with rfl | rfl <;> first | exact Or.inl rfl | exact Or.inr ⟨rfl, rfl⟩); (case kx => intro _; exact rfl); (case c1 => exact rfl); (case c2 => exact rfl); (case c3 => exact rfl); k_whole; intro dp un fr gd s L h₁ tk oc hpre F N hoc X T hdp hun))
  refine foldE ?_; intro M' A' env' E' Q0 hQ0
  replace F : Fr s.heap L h₁ (fun y => if y = Str.ofString "signs" then some (.ref sa) else none) := F
  replace hoc : oc.data = .cell (some (.str (S t) tt)) := hoc
  have hil : s.heap.IsList sa vs0.toArray := ⟨_, hpre, rfl, _, rfl⟩
  w_strict ((try dsimp only); (try k_fold); k_steps)
  refine Hold.mk ?_
  refine kdn_eval (knd := PySem.strKind rwm.row.prog w) F N T.nolimit rfl rfl (List.cons_ne_nil _ _) (Nat.le_of_ble_eq_true rfl) ?_
  clear F N
  intro d h o F N hlt hsys ho
  w_strict ((try dsimp only); k_steps)
  refine Hold.mk ?_
  have hne0 : @Ne Nat (L + 1) d := Nat.ne_of_lt (hlt _ (List.Mem.head _))
  refine kdn_made_strF F N (.head (off1 hne0)) ho rfl (by simp [strPairs]) rfl ?_
  clear F N ho o hlt
  intro h o F N ho1 ho2
  have ho : IsNear rwm.row.prog w o (insAll t sg 0) 1 := ⟨_, [(S t, 0)], ho1, ho2, ⟨by simp [insAll], by simp [insAll]⟩, by simp⟩
  clear ho1 ho2
  (rename Fr _ _ _ _ => F; refine foldM F ?_; clear F; intro mF F)
  w_strict ((try dsimp only); k_steps)
  refine Hold.mk ?_
  rename Fr _ _ _ _ => F; rename News _ _ _ _ => N
  (rename Fr _ _ _ _ => F; refine foldM F ?_; clear F; intro mF F)
  refine For_invVF F rfl rfl ?_ (by intro _; rfl) PassesOwn.never
  w_strict ((try dsimp only); k_steps)
  refine Hold.mk ?_
  rename IsRange _ _ _ _ _ _ _ _ => hr
  (try clear F N)
  rename Fr _ _ _ _ => F; rename News _ _ _ _ => N
  rw [lt] at hr
  refine for_range (σ := Obj) (n := t.length + 1) (fun c => [(d, c), (L + 1, oc)]) (fun c => []) [Str.ofString "sign"] (fun j c => IsNear rwm.row.prog w c (insAll t sg j) (1 + 5 * j)) o rfl hr (small_len (n := t.length + 1) (by omega)) (size_len (n := t.length + 1)) F N (fun _ h => nomatch h) ho ?_ ?_
  · clear F N ho hr
    intro o j tj u h tk I oI hj ho hoff F N
    refine opq ?_; intro Q1 hQ1
    have hne1 : @Ne Nat d I := hoff _ (List.Mem.head _)
    have hne2 : @Ne Nat (L + 1) I := hoff _ (List.Mem.tail _ (List.Mem.head _))
    simp only [List.cons_append, List.nil_append] at N
    simp only [Int.zero_add] at F
    (rename Fr _ _ _ _ => F; refine foldM F ?_; clear F; intro mF F)
    w_strict ((try dsimp only); k_steps)
    refine Hold.mk ?_
    refine For_invVF F rfl rfl ?_ (by intro _; rfl) PassesOwn.never
    w_strict ((try dsimp only); k_steps)
    refine Hold.mk ?_
    refine for_listB (σ := Obj) sg (fun c v => ∃ t, v = .str (S [c]) t) (fun c => [(d, c), (L + 1, oc), (I, oI)]) (fun c => []) []
      (fun pre c => IsNear rwm.row.prog w c (insAll t sg j ++ pre.map fun c => (t.take j ++ c :: t.drop j, 2)) (1 + 5 * j + pre.length)) o rfl hil hvl hitem F N (fun _ h => nomatch h) (by simpa using ho) ?_ ?_
    · clear F N ho
      (first | (intro o pre post c v u h tk I2 oI2 hsp; (first | (intro zt220; (first | refine Exists.elim zt220 ?_ | refine Mine.and_el zt220 ?_); intro to zt221; (try clear zt220); subst zt221) | rintro ⟨to, rfl⟩); intro ho hoff F N) | rintro o pre post c v u h tk I2 oI2 hsp ⟨to, rfl⟩ ho hoff F N)
      refine opq ?_; intro Q2 hQ2
      simp only [List.cons_append, List.nil_append] at N
      have hne3 : @Ne Nat d I2 := hoff _ (List.Mem.head _)
      have hne4 : @Ne Nat (L + 1) I2 := hoff _ (List.Mem.tail _ (List.Mem.head _))
      have hne5 : @Ne Nat I I2 := hoff _ (List.Mem.tail _ (List.Mem.tail _ (List.Mem.head _)))
      have hc1 : (S [c]).length = 1 := by rw [S_length]; rfl
      (try dsimp only at F)
      (rename Fr _ _ _ _ => F; refine foldM F ?_; clear F; intro mF F)
      w_strict ((try dsimp only); k_steps)
      refine Hold.mk ?_
      (try clear F N)
      rename Fr _ _ _ _ => F; rename News _ _ _ _ => N
      have hpl : pre.length + 1 ≤ sg.length := by rw [hsp]; simp
      (rename Fr _ _ _ _ => F; refine foldM F ?_; clear F; intro mF F)
      refine put_near (t.take j ++ c :: t.drop j) (by rw [S_toN (by omega), S_fromN (by omega), S_append, S_append]; simp) F N (offC hne0 (offC hne1.symm (off1 hne3.symm))) ho (by omega) ?_
      clear F N ho
      intro h o F N ho
      (rename Fr _ _ _ _ => F; refine foldM F ?_; clear F; intro mF F)
      w_strict ((try dsimp only); k_steps)
      refine hQ2 _ _ ?_; refine turn_end o F N (by kst_in) (by k_mem) (offC hne3 (offC hne4 (off1 hne5))) (fun _ h => nomatch h) (by (intro z h1 h2 h3; first | ((repeat (first | (with_reducible rfl) | refine Mine.sm_if (by first | exact h1 | exact Mine.sm_to (h2 _ (List.Mem.head _)) (by with_unfolding_all rfl) | exact Mine.sm_to (h2 _ (List.Mem.tail _ (List.Mem.head _))) (by with_unfolding_all rfl) | exact Mine.sm_to (h2 _ (List.Mem.tail _ (List.Mem.tail _ (List.Mem.head _)))) (by with_unfolding_all rfl) | exact Mine.sm_to (h2 _ (List.Mem.tail _ (List.Mem.tail _ (List.Mem.tail _ (List.Mem.head _))))) (by with_unfolding_all rfl) | exact Mine.sm_to (h2 _ (List.Mem.tail _ (List.Mem.tail _ (List.Mem.tail _ (List.Mem.tail _ (List.Mem.head _)))))) (by with_unfolding_all rfl) | exact Mine.sm_to (h2 _ (List.Mem.tail _ (List.Mem.tail _ (List.Mem.tail _ (List.Mem.tail _ (List.Mem.tail _ (List.Mem.head _))))))) (by with_unfolding_all rfl) | exact Mine.sm_to (h2 _ (List.Mem.tail _ (List.Mem.tail _ (List.Mem.tail _ (List.Mem.tail _ (List.Mem.tail _ (List.Mem.tail _ (List.Mem.head _)))))))) (by with_unfolding_all rfl) | exact Mine.sm_to (h2 _ (List.Mem.tail _ (List.Mem.tail _ (List.Mem.tail _ (List.Mem.tail _ (List.Mem.tail _ (List.Mem.tail _ (List.Mem.tail _ (List.Mem.head _))))))))) (by with_unfolding_all rfl) | exact Mine.sm_ne h3 (by with_unfolding_all rfl)) ?_ | refine Mine.sm_ifc h3 ?_ | refine Mine.sm_ifc (Mine.sm_sub h3 (by with_unfolding_all rfl)) ?_ | exact rfl)); done) | ((try simp only [List.forall_mem_cons, List.not_mem_nil, false_implies, implies_true, and_true, ne_eq] at h2); (try simp only [List.contains_cons, List.contains_nil, Bool.or_false, Bool.or_eq_false_iff, beq_eq_false_iff_ne, ne_eq] at h3); simp +zetaDelta [kstB, h1, h2, h3]))) ?_
      rw [List.map_append, ← List.append_assoc, List.length_append]
      exact ho
    · clear F N ho
      intro o u h tk ho F N
      (rename Fr _ _ _ _ => F; refine foldM F ?_; clear F; intro mF F)
      w_strict ((try dsimp only); k_steps)
      refine hQ1 _ _ ?_; refine turn_end o (by assumption) (by assumption) (by kst_in) (by k_mem) (offC hne1 (off1 hne2)) (fun _ h => nomatch h) (by (intro z h1 h2 h3; first | ((repeat (first | (with_reducible rfl) | refine Mine.sm_if (by first | exact h1 | exact Mine.sm_to (h2 _ (List.Mem.head _)) (by with_unfolding_all rfl) | exact Mine.sm_to (h2 _ (List.Mem.tail _ (List.Mem.head _))) (by with_unfolding_all rfl) | exact Mine.sm_to (h2 _ (List.Mem.tail _ (List.Mem.tail _ (List.Mem.head _)))) (by with_unfolding_all rfl) | exact Mine.sm_to (h2 _ (List.Mem.tail _ (List.Mem.tail _ (List.Mem.tail _ (List.Mem.head _))))) (by with_unfolding_all rfl) | exact Mine.sm_to (h2 _ (List.Mem.tail _ (List.Mem.tail _ (List.Mem.tail _ (List.Mem.tail _ (List.Mem.head _)))))) (by with_unfolding_all rfl) | exact Mine.sm_to (h2 _ (List.Mem.tail _ (List.Mem.tail _ (List.Mem.tail _ (List.Mem.tail _ (List.Mem.tail _ (List.Mem.head _))))))) (by with_unfolding_all rfl) | exact Mine.sm_to (h2 _ (List.Mem.tail _ (List.Mem.tail _ (List.Mem.tail _ (List.Mem.tail _ (List.Mem.tail _ (List.Mem.tail _ (List.Mem.head _)))))))) (by with_unfolding_all rfl) | exact Mine.sm_to (h2 _ (List.Mem.tail _ (List.Mem.tail _ (List.Mem.tail _ (List.Mem.tail _ (List.Mem.tail _ (List.Mem.tail _ (List.Mem.tail _ (List.Mem.head _))))))))) (by with_unfolding_all rfl) | exact Mine.sm_ne h3 (by with_unfolding_all rfl)) ?_ | refine Mine.sm_ifc h3 ?_ | refine Mine.sm_ifc (Mine.sm_sub h3 (by with_unfolding_all rfl)) ?_ | exact rfl)); done) | ((try simp only [List.forall_mem_cons, List.not_mem_nil, false_implies, implies_true, and_true, ne_eq] at h2); (try simp only [List.contains_cons, List.contains_nil, Bool.or_false, Bool.or_eq_false_iff, beq_eq_false_iff_ne, ne_eq] at h3); simp +zetaDelta [kstB, h1, h2, h3]))) ?_
      (first | ((first | refine Exists.elim ho ?_ | refine Mine.and_el ho ?_); intro kvs zt222; (try clear ho); (first | (refine Mine.at_el zt222 ?_; clear zt222; intro c h1 h2 zt226 h3 h4; subst zt226) | ((first | refine Exists.elim zt222 ?_ | refine Mine.and_el zt222 ?_); intro c zt223; (try clear zt222); (first | refine Exists.elim zt223 ?_ | refine Mine.and_el zt223 ?_); intro h1 zt224; (try clear zt223); (first | refine Exists.elim zt224 ?_ | refine Mine.and_el zt224 ?_); intro h2 zt225; (try clear zt224); (first | refine Exists.elim zt225 ?_ | refine Mine.and_el zt225 ?_); intro h3 h4; (try clear zt225)))) | obtain ⟨kvs, c, h1, h2, h3, h4⟩ := ho)
      refine ⟨kvs, c, h1, h2, ?_, by omega⟩
      rw [insAll_succ]
      exact h3
  · clear F N ho hr
    intro o u h tk ho F N
    (rename Fr _ _ _ _ => F; refine foldM F ?_; clear F; intro mF F)
    w_strict ((try dsimp only); k_steps)
    refine Hold.mk ?_
    refine For_invVF F rfl rfl ?_ (by intro _; rfl) PassesOwn.never
    w_strict ((try dsimp only); k_steps)
    refine Hold.mk ?_
    rename IsRange _ _ _ _ _ _ _ _ => hr
    (try clear F N)
    rename Fr _ _ _ _ => F; rename News _ _ _ _ => N
    rw [lt] at hr
    refine for_range (σ := Obj) (n := t.length) (fun c => [(d, c), (L + 1, oc)]) (fun c => []) [Str.ofString "sign"] (fun j c => IsNear rwm.row.prog w c (subAll t sg j) (31 + 7 * j)) o rfl hr (small_len (by omega)) size_len F N (fun _ h => nomatch h) ?_ ?_ ?_
    · (first | ((first | refine Exists.elim ho ?_ | refine Mine.and_el ho ?_); intro kvs zt227; (try clear ho); (first | (refine Mine.at_el zt227 ?_; clear zt227; intro c h1 h2 zt231 h3 h4; subst zt231) | ((first | refine Exists.elim zt227 ?_ | refine Mine.and_el zt227 ?_); intro c zt228; (try clear zt227); (first | refine Exists.elim zt228 ?_ | refine Mine.and_el zt228 ?_); intro h1 zt229; (try clear zt228); (first | refine Exists.elim zt229 ?_ | refine Mine.and_el zt229 ?_); intro h2 zt230; (try clear zt229); (first | refine Exists.elim zt230 ?_ | refine Mine.and_el zt230 ?_); intro h3 h4; (try clear zt230)))) | obtain ⟨kvs, c, h1, h2, h3, h4⟩ := ho)
      exact ⟨kvs, c, h1, h2, by simpa [subAll] using h3, by omega⟩
    · clear F N ho hr
      intro o j tj u h tk I oI hj ho hoff F N
      refine opq ?_; intro Q3 hQ3
      have hne1 : @Ne Nat d I := hoff _ (List.Mem.head _)
      have hne2 : @Ne Nat (L + 1) I := hoff _ (List.Mem.tail _ (List.Mem.head _))
      simp only [List.cons_append, List.nil_append] at N
      simp only [Int.zero_add] at F
      (rename Fr _ _ _ _ => F; refine foldM F ?_; clear F; intro mF F)
      w_strict ((try dsimp only); k_steps)
      refine Hold.mk ?_
      (try clear F N)
      rename Fr _ _ _ _ => F; rename News _ _ _ _ => N
      (rename Fr _ _ _ _ => F; refine foldM F ?_; clear F; intro mF F)
      refine put_near (t.take j ++ t.drop (j + 1)) (by rw [S_toN (by omega), S_from (by omega) (by omega), S_append]; rfl) F N (offC hne0 (off1 hne1.symm)) ho (by omega) ?_
      clear F N ho
      intro h o F N ho
      (rename Fr _ _ _ _ => F; refine foldM F ?_; clear F; intro mF F)
      w_strict ((try dsimp only); k_steps)
      refine Hold.mk ?_
      refine For_invVF F rfl rfl ?_ (by intro _; rfl) PassesOwn.never
      w_strict ((try dsimp only); k_steps)
      refine Hold.mk ?_
      (try clear F N)
      rename Fr _ _ _ _ => F; rename News _ _ _ _ => N
      rename _ ∧ _ ∧ _ => hlts
      rw [S_itemN hj, swapcase_S (ht128 _ hj)] at N
      (rename Fr _ _ _ _ => F; refine foldM F ?_; clear F; intro mF F)
      refine add_B F N hil (us := [_]) (List.Mem.head _) (by simp; omega) ?_
      (try clear F N)
      intro D h F N hD
      have hDl := hD _ (List.Mem.head _)
      have hDd : @Ne Nat d D := Nat.ne_of_lt (hD _ (List.Mem.tail _ (List.Mem.head _)))
      have hDL : @Ne Nat (L + 1) D := Nat.ne_of_lt (hD _ (List.Mem.tail _ (List.Mem.tail _ (List.Mem.head _))))
      have hDI : @Ne Nat I D := Nat.ne_of_lt (hD _ (List.Mem.tail _ (List.Mem.tail _ (List.Mem.tail _ (List.Mem.head _)))))
      clear hD
      replace N := news_mv N
      w_strict ((try dsimp only); k_steps)
      refine Hold.mk ?_
      refine for_listL (σ := Obj) (l := D) (sg ++ [swp (t.getD j 0)]) (fun c v => ∃ t, v = .str (S [c]) t) (fun c => [(d, c), (D, _), (L + 1, oc), (I, oI)]) (fun c => []) []
        (fun pre c => IsNear rwm.row.prog w c (subAll t sg j ++ [(t.take j ++ t.drop (j + 1), 2)] ++ pre.map fun c => (t.take j ++ c :: t.drop (j + 1), priceF (S [t.getD j 0]) (S [c]))) (32 + 7 * j + pre.length)) o rfl (fun c => List.Mem.tail _ (List.Mem.head _)) (by simp [hvl]) ?_ F N (fun _ h => nomatch h) ?_ ?_ ?_
      · intro i v hv
        rcases Nat.lt_or_ge i vs0.length with hi | hi
        · rw [List.getElem?_append_left hi] at hv
          (first | ((first | refine Exists.elim (hitem i v hv) ?_ | refine Mine.and_el (hitem i v hv) ?_); intro c zt232; (first | refine Exists.elim zt232 ?_ | refine Mine.and_el zt232 ?_); intro h1 h2; (try clear zt232)) | obtain ⟨c, h1, h2⟩ := hitem i v hv)
          exact ⟨c, by rw [List.getElem?_append_left (by omega)]; exact h1, h2⟩
        · rw [List.getElem?_append_right hi] at hv
          rw [List.getElem?_append_right (by omega), ← hvl]
          cases hk : i - vs0.length with
          | zero => rw [hk] at hv; simp at hv ⊢; exact ⟨_, hv.symm⟩
          | succ k => rw [hk] at hv; simp at hv
      · have e32 : 31 + 7 * j + 1 = 32 + 7 * j := by omega
        rw [e32] at ho; simpa using ho
      · clear F N ho
        (first | (intro o pre post c v u h tk I2 oI2 hsp; (first | (intro zt233; (first | refine Exists.elim zt233 ?_ | refine Mine.and_el zt233 ?_); intro to zt234; (try clear zt233); subst zt234) | rintro ⟨to, rfl⟩); intro ho hoff F N) | rintro o pre post c v u h tk I2 oI2 hsp ⟨to, rfl⟩ ho hoff F N)
        refine opq ?_; intro Q4 hQ4
        simp only [List.cons_append, List.nil_append] at N
        have hne3 : @Ne Nat d I2 := hoff _ (List.Mem.head _)
        have hne4 : @Ne Nat D I2 := hoff _ (List.Mem.tail _ (List.Mem.head _))
        have hne5 : @Ne Nat (L + 1) I2 := hoff _ (List.Mem.tail _ (List.Mem.tail _ (List.Mem.head _)))
        have hne6 : @Ne Nat I I2 := hoff _ (List.Mem.tail _ (List.Mem.tail _ (List.Mem.tail _ (List.Mem.head _))))
        have hc1 : (S [c]).length = 1 := by rw [S_length]; rfl
        (try dsimp only at F)
        (rename Fr _ _ _ _ => F; refine foldM F ?_; clear F; intro mF F)
        w_strict ((try dsimp only); k_steps)
        refine Hold.mk ?_
        rw [S_itemN hj]
        refine use_claim (price (by rw [S_length]; simp) (by omega)) F N X T (by omega) (by omega) trivial ?_
        (try clear F N)
        (first | (intro _ h tk zt235; clear zt235; intro F N; (first | (intro zt236; (first | refine Exists.elim zt236 ?_ | refine Mine.and_el zt236 ?_); intro tc zt237; (try clear zt236); subst zt237) | rintro ⟨tc, rfl⟩)) | rintro _ h tk - F N ⟨tc, rfl⟩)
        w_strict ((try dsimp only); k_steps)
        refine Hold.mk ?_
        (try clear F N)
        rename Fr _ _ _ _ => F; rename News _ _ _ _ => N
        have hpl : pre.length + 1 ≤ sg.length + 1 := by
          have := congrArg List.length hsp
          simp at this; omega
        (rename Fr _ _ _ _ => F; refine foldM F ?_; clear F; intro mF F)
        refine put_near (t.take j ++ c :: t.drop (j + 1)) (by rw [S_toN (by omega), S_from (by omega) (by omega), S_append, S_append]; simp) F N (offC hDd.symm (offC hne0 (offC hne1.symm (off1 hne3.symm)))) ho (by omega) ?_
        clear F N ho
        intro h o F N ho
        (rename Fr _ _ _ _ => F; refine foldM F ?_; clear F; intro mF F)
        w_strict ((try dsimp only); k_steps)
        refine hQ4 _ _ ?_; refine turn_end o F N (by kst_in) (by k_mem) (offC hne3 (offC hne4 (offC hne5 (off1 hne6)))) (fun _ h => nomatch h) (by (intro z h1 h2 h3; first | ((repeat (first | (with_reducible rfl) | refine Mine.sm_if (by first | exact h1 | exact Mine.sm_to (h2 _ (List.Mem.head _)) (by with_unfolding_all rfl) | exact Mine.sm_to (h2 _ (List.Mem.tail _ (List.Mem.head _))) (by with_unfolding_all rfl) | exact Mine.sm_to (h2 _ (List.Mem.tail _ (List.Mem.tail _ (List.Mem.head _)))) (by with_unfolding_all rfl) | exact Mine.sm_to (h2 _ (List.Mem.tail _ (List.Mem.tail _ (List.Mem.tail _ (List.Mem.head _))))) (by with_unfolding_all rfl) | exact Mine.sm_to (h2 _ (List.Mem.tail _ (List.Mem.tail _ (List.Mem.tail _ (List.Mem.tail _ (List.Mem.head _)))))) (by with_unfolding_all rfl) | exact Mine.sm_to (h2 _ (List.Mem.tail _ (List.Mem.tail _ (List.Mem.tail _ (List.Mem.tail _ (List.Mem.tail _ (List.Mem.head _))))))) (by with_unfolding_all rfl) | exact Mine.sm_to (h2 _ (List.Mem.tail _ (List.Mem.tail _ (List.Mem.tail _ (List.Mem.tail _ (List.Mem.tail _ (List.Mem.tail _ (List.Mem.head _)))))))) (by with_unfolding_all rfl) | exact Mine.sm_to (h2 _ (List.Mem.tail _ (List.Mem.tail _ (List.Mem.tail _ (List.Mem.tail _ (List.Mem.tail _ (List.Mem.tail _ (List.Mem.tail _ (List.Mem.head _))))))))) (by with_unfolding_all rfl) | exact Mine.sm_ne h3 (by with_unfolding_all rfl)) ?_ | refine Mine.sm_ifc h3 ?_ | refine Mine.sm_ifc (Mine.sm_sub h3 (by with_unfolding_all rfl)) ?_ | exact rfl)); done) | ((try simp only [List.forall_mem_cons, List.not_mem_nil, false_implies, implies_true, and_true, ne_eq] at h2); (try simp only [List.contains_cons, List.contains_nil, Bool.or_false, Bool.or_eq_false_iff, beq_eq_false_iff_ne, ne_eq] at h3); simp +zetaDelta [kstB, h1, h2, h3]))) ?_
        rw [List.map_append, ← List.append_assoc, List.length_append]
        exact ho
      · clear F N ho
        intro o u h tk ho F N
        (rename Fr _ _ _ _ => F; refine foldM F ?_; clear F; intro mF F)
        w_strict ((try dsimp only); k_steps)
        refine hQ3 _ _ ?_; refine turn_end o (by assumption) (by assumption) (by kst_in) (by k_mem) (offC hne1 (off1 hne2)) (fun _ h => nomatch h) (by (intro z h1 h2 h3; first | ((repeat (first | (with_reducible rfl) | refine Mine.sm_if (by first | exact h1 | exact Mine.sm_to (h2 _ (List.Mem.head _)) (by with_unfolding_all rfl) | exact Mine.sm_to (h2 _ (List.Mem.tail _ (List.Mem.head _))) (by with_unfolding_all rfl) | exact Mine.sm_to (h2 _ (List.Mem.tail _ (List.Mem.tail _ (List.Mem.head _)))) (by with_unfolding_all rfl) | exact Mine.sm_to (h2 _ (List.Mem.tail _ (List.Mem.tail _ (List.Mem.tail _ (List.Mem.head _))))) (by with_unfolding_all rfl) | exact Mine.sm_to (h2 _ (List.Mem.tail _ (List.Mem.tail _ (List.Mem.tail _ (List.Mem.tail _ (List.Mem.head _)))))) (by with_unfolding_all rfl) | exact Mine.sm_to (h2 _ (List.Mem.tail _ (List.Mem.tail _ (List.Mem.tail _ (List.Mem.tail _ (List.Mem.tail _ (List.Mem.head _))))))) (by with_unfolding_all rfl) | exact Mine.sm_to (h2 _ (List.Mem.tail _ (List.Mem.tail _ (List.Mem.tail _ (List.Mem.tail _ (List.Mem.tail _ (List.Mem.tail _ (List.Mem.head _)))))))) (by with_unfolding_all rfl) | exact Mine.sm_to (h2 _ (List.Mem.tail _ (List.Mem.tail _ (List.Mem.tail _ (List.Mem.tail _ (List.Mem.tail _ (List.Mem.tail _ (List.Mem.tail _ (List.Mem.head _))))))))) (by with_unfolding_all rfl) | exact Mine.sm_ne h3 (by with_unfolding_all rfl)) ?_ | refine Mine.sm_ifc h3 ?_ | refine Mine.sm_ifc (Mine.sm_sub h3 (by with_unfolding_all rfl)) ?_ | exact rfl)); done) | ((try simp only [List.forall_mem_cons, List.not_mem_nil, false_implies, implies_true, and_true, ne_eq] at h2); (try simp only [List.contains_cons, List.contains_nil, Bool.or_false, Bool.or_eq_false_iff, beq_eq_false_iff_ne, ne_eq] at h3); simp +zetaDelta [kstB, h1, h2, h3]))) ?_
        (first | ((first | refine Exists.elim ho ?_ | refine Mine.and_el ho ?_); intro kvs zt238; (try clear ho); (first | (refine Mine.at_el zt238 ?_; clear zt238; intro c h1 h2 zt242 h3 h4; subst zt242) | ((first | refine Exists.elim zt238 ?_ | refine Mine.and_el zt238 ?_); intro c zt239; (try clear zt238); (first | refine Exists.elim zt239 ?_ | refine Mine.and_el zt239 ?_); intro h1 zt240; (try clear zt239); (first | refine Exists.elim zt240 ?_ | refine Mine.and_el zt240 ?_); intro h2 zt241; (try clear zt240); (first | refine Exists.elim zt241 ?_ | refine Mine.and_el zt241 ?_); intro h3 h4; (try clear zt241)))) | obtain ⟨kvs, c, h1, h2, h3, h4⟩ := ho)
        refine ⟨kvs, c, h1, h2, ?_, by simp at h4; omega⟩
        rw [subAll_succ]
        exact h3
    · clear F N ho hr
      intro o u h tk ho F N
      (rename Fr _ _ _ _ => F; refine foldM F ?_; clear F; intro mF F)
      w_strict ((try dsimp only); k_steps)
      refine Hold.mk ?_
      rename IntsAre _ _ => hI
      rename _ ∧ _ => hoffs
      (try clear F N)
      rename Fr _ _ _ _ => F; rename News _ _ _ _ => N
      rename_i D h tk _
      rw [letters_fold lt] at hI
      (first | ((first | refine Exists.elim hoffs ?_ | refine Mine.and_el hoffs ?_); intro hDd hDL; (try clear hoffs)) | obtain ⟨hDd, hDL⟩ := hoffs)
      replace hDd : @Ne Nat d D := hDd
      replace hDL : @Ne Nat (L + 1) D := hDL
      rename List Value => ys
      have hyl : ys.length = (letters t).length := by rw [hI.length, List.length_map]
      have hlit : ∀ (i : Nat) v, ys[i]? = some v → ∃ o, (letters t)[i]? = some o ∧ ∃ t, v = .int (o : Nat) t := by
        intro i v hv
        (first | ((first | refine Exists.elim (ints_item hI i v hv) ?_ | refine Mine.and_el (ints_item hI i v hv) ?_); intro y zt243; (first | refine Exists.elim zt243 ?_ | refine Mine.and_el zt243 ?_); intro t zt244; (try clear zt243); (first | refine Exists.elim zt244 ?_ | refine Mine.and_el zt244 ?_); intro zt245 hy; (try clear zt244); subst zt245) | obtain ⟨y, t, rfl, hy⟩ := ints_item hI i v hv)
        rw [List.getElem?_map] at hy
        (first | ((first | refine Exists.elim (Option.map_eq_some_iff.mp hy) ?_ | refine Mine.and_el (Option.map_eq_some_iff.mp hy) ?_); intro o zt246; (first | refine Exists.elim zt246 ?_ | refine Mine.and_el zt246 ?_); intro ho zt247; (try clear zt246); subst zt247) | obtain ⟨o, ho, rfl⟩ := Option.map_eq_some_iff.mp hy)
        exact ⟨o, ho, t, rfl⟩
      replace N : News s.heap L h [(d, o), (D, listOf ys.toArray ys.length), (L + 1, oc)] := news_sw N
      have hlt : ∀ i ∈ letters t, i < t.length := by
        intro i hi
        exact List.mem_range.mp (List.mem_filter.mp hi).1
      have hll : (letters t).length ≤ 5 := Nat.le_trans (List.length_filter_le _ _) (by simpa using ht)
      (rename Fr _ _ _ _ => F; refine foldM F ?_; clear F; intro mF F)
      refine For_invVF F rfl rfl ?_ (by intro _; rfl) PassesOwn.never
      w_strict ((try dsimp only); k_steps)
      refine Hold.mk ?_
      refine for_listL (σ := Obj) (l := D) (letters t) (fun (c : Nat) v => ∃ t, v = .int (c : Int) t) (fun c => [(d, c), (D, listOf ys.toArray ys.length), (L + 1, oc)]) (fun c => []) [Str.ofString "two", Str.ofString "middle"]
        (fun pre c => IsNear rwm.row.prog w c (subAll t sg t.length ++ pre.flatMap fun one => dblW t one (letters t)) (66 + 5 * pre.length)) o rfl (fun c => List.Mem.tail _ (List.Mem.head _)) hyl hlit F N (fun _ h => nomatch h) ?_ ?_ ?_
      · (first | ((first | refine Exists.elim ho ?_ | refine Mine.and_el ho ?_); intro kvs zt248; (try clear ho); (first | (refine Mine.at_el zt248 ?_; clear zt248; intro c h1 h2 zt252 h3 h4; subst zt252) | ((first | refine Exists.elim zt248 ?_ | refine Mine.and_el zt248 ?_); intro c zt249; (try clear zt248); (first | refine Exists.elim zt249 ?_ | refine Mine.and_el zt249 ?_); intro h1 zt250; (try clear zt249); (first | refine Exists.elim zt250 ?_ | refine Mine.and_el zt250 ?_); intro h2 zt251; (try clear zt250); (first | refine Exists.elim zt251 ?_ | refine Mine.and_el zt251 ?_); intro h3 h4; (try clear zt251)))) | obtain ⟨kvs, c, h1, h2, h3, h4⟩ := ho)
        exact ⟨kvs, c, h1, h2, by simpa using h3, by omega⟩
      · clear F N ho
        (first | (intro o pre post one v u h tk I oI hsp; (first | (intro zt253; (first | refine Exists.elim zt253 ?_ | refine Mine.and_el zt253 ?_); intro to zt254; (try clear zt253); subst zt254) | rintro ⟨to, rfl⟩); intro ho hoff F N) | rintro o pre post one v u h tk I oI hsp ⟨to, rfl⟩ ho hoff F N)
        refine opq ?_; intro Q5 hQ5
        simp only [List.cons_append, List.nil_append] at N
        (try dsimp only at F)
        have hne1 : @Ne Nat d I := hoff _ (List.Mem.head _)
        have hne2 : @Ne Nat D I := hoff _ (List.Mem.tail _ (List.Mem.head _))
        have hne3 : @Ne Nat (L + 1) I := hoff _ (List.Mem.tail _ (List.Mem.tail _ (List.Mem.head _)))
        have ho1 : one < t.length := hlt _ (by rw [hsp]; simp)
        have hpl : pre.length + 1 ≤ (letters t).length := by rw [hsp]; simp
        (rename Fr _ _ _ _ => F; refine foldM F ?_; clear F; intro mF F)
        w_strict ((try dsimp only); k_steps)
        refine Hold.mk ?_
        refine For_invVF F rfl rfl ?_ (by intro _; rfl) PassesOwn.never
        w_strict ((try dsimp only); k_steps)
        refine Hold.mk ?_
        refine for_listL (σ := Obj) (l := D) (letters t) (fun (c : Nat) v => ∃ t, v = .int (c : Int) t) (fun c => [(d, c), (D, listOf ys.toArray ys.length), (L + 1, oc), (I, oI)]) (fun c => []) [Str.ofString "middle"]
          (fun pre2 c => IsNear rwm.row.prog w c ((subAll t sg t.length ++ pre.flatMap fun one => dblW t one (letters t)) ++ dblW t one pre2) (66 + 5 * pre.length + pre2.length)) o rfl (fun c => List.Mem.tail _ (List.Mem.head _)) hyl hlit F N (fun _ h => nomatch h) (by simpa [dblW] using ho) ?_ ?_
        · clear F N ho
          (first | (intro o pre2 post2 two v u h tk I2 oI2 hsp2; (first | (intro zt255; (first | refine Exists.elim zt255 ?_ | refine Mine.and_el zt255 ?_); intro to2 zt256; (try clear zt255); subst zt256) | rintro ⟨to2, rfl⟩); intro ho hoff2 F N) | rintro o pre2 post2 two v u h tk I2 oI2 hsp2 ⟨to2, rfl⟩ ho hoff2 F N)
          refine opq ?_; intro Q6 hQ6
          simp only [List.cons_append, List.nil_append] at N
          (try dsimp only at F)
          have hne4 : @Ne Nat d I2 := hoff2 _ (List.Mem.head _)
          have hne5 : @Ne Nat D I2 := hoff2 _ (List.Mem.tail _ (List.Mem.head _))
          have hne6 : @Ne Nat (L + 1) I2 := hoff2 _ (List.Mem.tail _ (List.Mem.tail _ (List.Mem.head _)))
          have hne7 : @Ne Nat I I2 := hoff2 _ (List.Mem.tail _ (List.Mem.tail _ (List.Mem.tail _ (List.Mem.head _))))
          have ho2 : two < t.length := hlt _ (by rw [hsp2]; simp)
          have hpl2 : pre2.length + 1 ≤ (letters t).length := by rw [hsp2]; simp
          (rename Fr _ _ _ _ => F; refine foldM F ?_; clear F; intro mF F)
          w_strict ((try dsimp only); k_steps)
          · refine Hold.mk ?_
            (try clear F N)
            rename Fr _ _ _ _ => F; rename News _ _ _ _ => N
            rename (one : Int) < (two : Int) => hot
            (rename Fr _ _ _ _ => F; refine foldM F ?_; clear F; intro mF F)
            refine put_near (t.take one ++ swp (t.getD one 0) :: ((t.drop (one + 1)).take (two - (one + 1)) ++ swp (t.getD two 0) :: t.drop (two + 1))) ?_ F N (offC hDd.symm (offC hne0 (offC hne1.symm (off1 hne4.symm)))) ho (by omega) ?_
            · rw [S_toN (by omega), S_itemN ho1, S_itemN ho2, swapcase_S (ht128 _ ho1), swapcase_S (ht128 _ ho2), S_mid (by omega) (by omega) (by omega), S_from (by omega) (by omega), S_append, S_append, S_append, S_append]
              rw [toN1, toN1, toN2]
              simp
            clear F N ho
            intro h o F N ho
            (rename Fr _ _ _ _ => F; refine foldM F ?_; clear F; intro mF F)
            w_strict ((try dsimp only); k_steps)
            refine hQ6 _ _ ?_; refine turn_end o F N (by kst_in) (by k_mem) (offC hne4 (offC hne5 (offC hne6 (off1 hne7)))) (fun _ h => nomatch h) (by (intro z h1 h2 h3; first | ((repeat (first | (with_reducible rfl) | refine Mine.sm_if (by first | exact h1 | exact Mine.sm_to (h2 _ (List.Mem.head _)) (by with_unfolding_all rfl) | exact Mine.sm_to (h2 _ (List.Mem.tail _ (List.Mem.head _))) (by with_unfolding_all rfl) | exact Mine.sm_to (h2 _ (List.Mem.tail _ (List.Mem.tail _ (List.Mem.head _)))) (by with_unfolding_all rfl) | exact Mine.sm_to (h2 _ (List.Mem.tail _ (List.Mem.tail _ (List.Mem.tail _ (List.Mem.head _))))) (by with_unfolding_all rfl) | exact Mine.sm_to (h2 _ (List.Mem.tail _ (List.Mem.tail _ (List.Mem.tail _ (List.Mem.tail _ (List.Mem.head _)))))) (by with_unfolding_all rfl) | exact Mine.sm_to (h2 _ (List.Mem.tail _ (List.Mem.tail _ (List.Mem.tail _ (List.Mem.tail _ (List.Mem.tail _ (List.Mem.head _))))))) (by with_unfolding_all rfl) | exact Mine.sm_to (h2 _ (List.Mem.tail _ (List.Mem.tail _ (List.Mem.tail _ (List.Mem.tail _ (List.Mem.tail _ (List.Mem.tail _ (List.Mem.head _)))))))) (by with_unfolding_all rfl) | exact Mine.sm_to (h2 _ (List.Mem.tail _ (List.Mem.tail _ (List.Mem.tail _ (List.Mem.tail _ (List.Mem.tail _ (List.Mem.tail _ (List.Mem.tail _ (List.Mem.head _))))))))) (by with_unfolding_all rfl) | exact Mine.sm_ne h3 (by with_unfolding_all rfl)) ?_ | refine Mine.sm_ifc h3 ?_ | refine Mine.sm_ifc (Mine.sm_sub h3 (by with_unfolding_all rfl)) ?_ | exact rfl)); done) | ((try simp only [List.forall_mem_cons, List.not_mem_nil, false_implies, implies_true, and_true, ne_eq] at h2); (try simp only [List.contains_cons, List.contains_nil, Bool.or_false, Bool.or_eq_false_iff, beq_eq_false_iff_ne, ne_eq] at h3); simp +zetaDelta [kstB, h1, h2, h3]))) ?_
            rw [dblW, List.filter_append, List.filter_cons_of_pos (by simpa using hot), List.map_append, ← List.append_assoc, List.length_append]
            exact ho
          · refine hQ6 _ _ ?_; refine turn_end o (by assumption) (by assumption) (by kst_in) (by k_mem) (offC hne4 (offC hne5 (offC hne6 (off1 hne7)))) (fun _ h => nomatch h) (by (intro z h1 h2 h3; first | ((repeat (first | (with_reducible rfl) | refine Mine.sm_if (by first | exact h1 | exact Mine.sm_to (h2 _ (List.Mem.head _)) (by with_unfolding_all rfl) | exact Mine.sm_to (h2 _ (List.Mem.tail _ (List.Mem.head _))) (by with_unfolding_all rfl) | exact Mine.sm_to (h2 _ (List.Mem.tail _ (List.Mem.tail _ (List.Mem.head _)))) (by with_unfolding_all rfl) | exact Mine.sm_to (h2 _ (List.Mem.tail _ (List.Mem.tail _ (List.Mem.tail _ (List.Mem.head _))))) (by with_unfolding_all rfl) | exact Mine.sm_to (h2 _ (List.Mem.tail _ (List.Mem.tail _ (List.Mem.tail _ (List.Mem.tail _ (List.Mem.head _)))))) (by with_unfolding_all rfl) | exact Mine.sm_to (h2 _ (List.Mem.tail _ (List.Mem.tail _ (List.Mem.tail _ (List.Mem.tail _ (List.Mem.tail _ (List.Mem.head _))))))) (by with_unfolding_all rfl) | exact Mine.sm_to (h2 _ (List.Mem.tail _ (List.Mem.tail _ (List.Mem.tail _ (List.Mem.tail _ (List.Mem.tail _ (List.Mem.tail _ (List.Mem.head _)))))))) (by with_unfolding_all rfl) | exact Mine.sm_to (h2 _ (List.Mem.tail _ (List.Mem.tail _ (List.Mem.tail _ (List.Mem.tail _ (List.Mem.tail _ (List.Mem.tail _ (List.Mem.tail _ (List.Mem.head _))))))))) (by with_unfolding_all rfl) | exact Mine.sm_ne h3 (by with_unfolding_all rfl)) ?_ | refine Mine.sm_ifc h3 ?_ | refine Mine.sm_ifc (Mine.sm_sub h3 (by with_unfolding_all rfl)) ?_ | exact rfl)); done) | ((try simp only [List.forall_mem_cons, List.not_mem_nil, false_implies, implies_true, and_true, ne_eq] at h2); (try simp only [List.contains_cons, List.contains_nil, Bool.or_false, Bool.or_eq_false_iff, beq_eq_false_iff_ne, ne_eq] at h3); simp +zetaDelta [kstB, h1, h2, h3]))) ?_
            (first | ((first | refine Exists.elim ho ?_ | refine Mine.and_el ho ?_); intro kvs zt257; (try clear ho); (first | (refine Mine.at_el zt257 ?_; clear zt257; intro c h1 h2 zt261 h3 h4; subst zt261) | ((first | refine Exists.elim zt257 ?_ | refine Mine.and_el zt257 ?_); intro c zt258; (try clear zt257); (first | refine Exists.elim zt258 ?_ | refine Mine.and_el zt258 ?_); intro h1 zt259; (try clear zt258); (first | refine Exists.elim zt259 ?_ | refine Mine.and_el zt259 ?_); intro h2 zt260; (try clear zt259); (first | refine Exists.elim zt260 ?_ | refine Mine.and_el zt260 ?_); intro h3 h4; (try clear zt260)))) | obtain ⟨kvs, c, h1, h2, h3, h4⟩ := ho)
            refine ⟨kvs, c, h1, h2, ?_, by simp; omega⟩
            rw [dblW, List.filter_append, List.filter_cons_of_neg (by simp; omega)]
            simpa [dblW] using h3
        · clear F N ho
          intro o u h tk ho F N
          (rename Fr _ _ _ _ => F; refine foldM F ?_; clear F; intro mF F)
          w_strict ((try dsimp only); k_steps)
          refine hQ5 _ _ ?_; refine turn_end o (by assumption) (by assumption) (by kst_in) (by k_mem) (offC hne1 (offC hne2 (off1 hne3))) (fun _ h => nomatch h) (by (intro z h1 h2 h3; first | ((repeat (first | (with_reducible rfl) | refine Mine.sm_if (by first | exact h1 | exact Mine.sm_to (h2 _ (List.Mem.head _)) (by with_unfolding_all rfl) | exact Mine.sm_to (h2 _ (List.Mem.tail _ (List.Mem.head _))) (by with_unfolding_all rfl) | exact Mine.sm_to (h2 _ (List.Mem.tail _ (List.Mem.tail _ (List.Mem.head _)))) (by with_unfolding_all rfl) | exact Mine.sm_to (h2 _ (List.Mem.tail _ (List.Mem.tail _ (List.Mem.tail _ (List.Mem.head _))))) (by with_unfolding_all rfl) | exact Mine.sm_to (h2 _ (List.Mem.tail _ (List.Mem.tail _ (List.Mem.tail _ (List.Mem.tail _ (List.Mem.head _)))))) (by with_unfolding_all rfl) | exact Mine.sm_to (h2 _ (List.Mem.tail _ (List.Mem.tail _ (List.Mem.tail _ (List.Mem.tail _ (List.Mem.tail _ (List.Mem.head _))))))) (by with_unfolding_all rfl) | exact Mine.sm_to (h2 _ (List.Mem.tail _ (List.Mem.tail _ (List.Mem.tail _ (List.Mem.tail _ (List.Mem.tail _ (List.Mem.tail _ (List.Mem.head _)))))))) (by with_unfolding_all rfl) | exact Mine.sm_to (h2 _ (List.Mem.tail _ (List.Mem.tail _ (List.Mem.tail _ (List.Mem.tail _ (List.Mem.tail _ (List.Mem.tail _ (List.Mem.tail _ (List.Mem.head _))))))))) (by with_unfolding_all rfl) | exact Mine.sm_ne h3 (by with_unfolding_all rfl)) ?_ | refine Mine.sm_ifc h3 ?_ | refine Mine.sm_ifc (Mine.sm_sub h3 (by with_unfolding_all rfl)) ?_ | exact rfl)); done) | ((try simp only [List.forall_mem_cons, List.not_mem_nil, false_implies, implies_true, and_true, ne_eq] at h2); (try simp only [List.contains_cons, List.contains_nil, Bool.or_false, Bool.or_eq_false_iff, beq_eq_false_iff_ne, ne_eq] at h3); simp +zetaDelta [kstB, h1, h2, h3]))) ?_
          (first | ((first | refine Exists.elim ho ?_ | refine Mine.and_el ho ?_); intro kvs zt262; (try clear ho); (first | (refine Mine.at_el zt262 ?_; clear zt262; intro c h1 h2 zt266 h3 h4; subst zt266) | ((first | refine Exists.elim zt262 ?_ | refine Mine.and_el zt262 ?_); intro c zt263; (try clear zt262); (first | refine Exists.elim zt263 ?_ | refine Mine.and_el zt263 ?_); intro h1 zt264; (try clear zt263); (first | refine Exists.elim zt264 ?_ | refine Mine.and_el zt264 ?_); intro h2 zt265; (try clear zt264); (first | refine Exists.elim zt265 ?_ | refine Mine.and_el zt265 ?_); intro h3 h4; (try clear zt265)))) | obtain ⟨kvs, c, h1, h2, h3, h4⟩ := ho)
          refine ⟨kvs, c, h1, h2, ?_, by simp; omega⟩
          rw [List.flatMap_append, ← List.append_assoc]
          simpa using h3
      · clear F N ho
        intro o u h tk ho F N
        (rename Fr _ _ _ _ => F; refine foldM F ?_; clear F; intro mF F)
        w_strict ((try dsimp only); k_steps)
        refine hQ0 _ _ ?_; with_unfolding_all refine done_ret (by assumption) ?_
        (first | ((first | refine Exists.elim ho ?_ | refine Mine.and_el ho ?_); intro kvs zt267; (try clear ho); (first | (refine Mine.at_el zt267 ?_; clear zt267; intro c h1 h2 zt271 h3 h4; subst zt271) | ((first | refine Exists.elim zt267 ?_ | refine Mine.and_el zt267 ?_); intro c zt268; (try clear zt267); (first | refine Exists.elim zt268 ?_ | refine Mine.and_el zt268 ?_); intro h1 zt269; (try clear zt268); (first | refine Exists.elim zt269 ?_ | refine Mine.and_el zt269 ?_); intro h2 zt270; (try clear zt269); (first | refine Exists.elim zt270 ?_ | refine Mine.and_el zt270 ?_); intro h3 h4; (try clear zt270)))) | obtain ⟨kvs, c, h1, h2, h3, h4⟩ := ho)
        exact ⟨d, o, rfl, (N _ (List.Mem.head _)).1, (N _ (List.Mem.head _)).2.2, hsys, kvs, c, h1, h2, h3, by omega⟩
end Mine
end
section
open PySem PySem.W PySem.Spec PySem.Calls PyProof.V PyProof.Rows PyProof.Rows.LCg PyProof.Rows.LCp
set_option maxRecDepth 100000
set_option maxHeartbeats 8000000
namespace Mine
section
variable {prog : Program} {w : World} {A : Around} {E : Value → Shared → Prop} {s : Shared} {h₀ : Heap} {L : Addr} {m : Str → Option Value} {env : Env} {news : List (Addr × Obj)}
/-- a list comprehension with two names over a list of pairs, all of them older than the frame -/
theorem comp_pairs {ι : Type} {elt iter : PySem.Expr} {x x₂ : Str} {px px₂ tp : Pos} {kk : Nat} {scope : Scope} {cl : List (Str × Addr)} {pos : Pos} {Q : Value → Shared → Prop} (items : List ι) (IsItem : ι → Value → Value → Prop) (Out : ι → Value → Prop) {ax : Addr} {vs : List Value}
    (F : Fr h₀ L s.heap m) (N : News h₀ L s.heap news) (hh : A.handled = none) (hl : h₀.IsList ax vs.toArray) (hlen : vs.length = items.length) (hsz : vs.length ≤ 1000)
    (hit : ∀ (i : Nat) v, vs[i]? = some v → ∃ a T v₁ v₂, items[i]? = some a ∧ v = .ref T ∧ IsTup h₀ T #[v₁, v₂] ∧ IsItem a v₁ v₂)
    (hclos : closureFor scope env = pure cl) (hcell : ∀ y ∈ scope.names, y.2 ≠ .cell) (hkind : scope.kind = .function)
    (hnames : ∀ y ∈ scope.names, y.2 = .local → scope.names.lookup y.1 = some .local) (hx : scope.names.lookup x = some .local) (hx₂ : scope.names.lookup x₂ = some .local) (hxx : x ≠ x₂)
    (hiter : wpAny (model prog w) A (eval iter env) (fun xv s₁ => xv = .ref ax ∧ s₁ = s) E s)
    (turn : ∀ a v₁ v₂ I oI C oC D m₂ ys h tk (E' : Value → Shared → Prop), a ∈ items → IsItem a v₁ v₂ → NsObj oC m₂ → m₂ x = some v₁ → m₂ x₂ = some v₂ → Fr h₀ L h m → News h₀ L h ((I, oI) :: (C, oC) :: (D, lst ys) :: news) → Off3 I C D news → ((@Ne Nat I C) ∧ (@Ne Nat I D) ∧ (@Ne Nat C D)) →
      wpAny (model prog w) A (eval elt (compEnvC scope cl C env)) (CompEnd h₀ L m { s with heap := h, toks := tk } I oI C oC D (lst ys) (fun _ => True) (fun y news' => news' = news ∧ Out a y)) E' { s with heap := h, toks := tk })
    (fin : ∀ ys D h tk, ys.length = items.length → (∀ (i : Nat) y, ys[i]? = some y → ∃ a, items[i]? = some a ∧ Out a y) → Fr h₀ L h m → News h₀ L h ((D, lst ys) :: news) → Off1 D news → Q (.ref D) { s with heap := h, toks := tk })
    (hs : ∀ x, foldedSetIterable iter env x = pure x := by intro _; rfl) :
    wpAny (model prog w) A (eval (.ListComp elt [⟨.Tuple [.Name x px, .Name x₂ px₂] kk tp, iter, [], 0⟩] scope pos) env) Q E s := by
  rw [eval_ListComp]
  refine wpAny_comprehension_free (use := none) rfl hs hclos hkind hnames (wpAny_mono hiter (fun xv s₁ h₁ => ?_) fun _ _ e => e)
  (first | ((first | refine Exists.elim h₁ ?_ | refine Mine.and_el h₁ ?_); intro zt272 zt273; (try clear h₁); subst zt272; subst zt273) | obtain ⟨rfl, rfl⟩ := h₁)
  have hls : s₁.heap.IsList ax vs.toArray := hl.at fun o e => F.keep _ o e
  have hlt : ax < s₁.heap.objs.size := by obtain ⟨_, e, _⟩ := hls; exact Heap.lt_size e
  refine wpAny_pyIter_list hls ?_
  have W := Walks.list (prog := prog) (w := w) hh s₁.heap.objs.size ax (Nat.ne_of_lt hlt) vs.toArray
  have hI₀ : h₀.get? s₁.heap.objs.size = none := next_is_new F
  have hIL : L ≠ s₁.heap.objs.size := Nat.ne_of_lt F.ns.lt
  have offI : ∀ p ∈ news, p.1 ≠ s₁.heap.objs.size := fun p hp => Nat.ne_of_lt (Heap.lt_size (N p hp).1)
  (first | ((first | refine Exists.elim (show ∃ I, s₁.heap.objs.size = I from ⟨_, rfl⟩) ?_ | refine Mine.and_el (show ∃ I, s₁.heap.objs.size = I from ⟨_, rfl⟩) ?_); intro I hI) | obtain ⟨I, hI⟩ : ∃ I, s₁.heap.objs.size = I := ⟨_, rfl⟩)
  (first | ((first | refine Exists.elim (show ∃ H, s₁.heap.push { cls := .type "list_iterator", data := .fields #[.ref ax, .int 0 0] } = H from ⟨_, rfl⟩) ?_ | refine Mine.and_el (show ∃ H, s₁.heap.push { cls := .type "list_iterator", data := .fields #[.ref ax, .int 0 0] } = H from ⟨_, rfl⟩) ?_); intro H1 hH1) | obtain ⟨H1, hH1⟩ : ∃ H, s₁.heap.push { cls := .type "list_iterator", data := .fields #[.ref ax, .int 0 0] } = H := ⟨_, rfl⟩)
  have up1 : ∀ b o, s₁.heap.get? b = some o → H1.get? b = some o := fun b o e => hH1 ▸ Heap.get?_push_of_some _ e
  have F1 : Fr h₀ L H1 m := F.keeps up1
  have N1 : News h₀ L H1 news := N.grown up1
  have hit1 : H1.IsListIter s₁.heap.objs.size ax 0 := hH1 ▸ ⟨_, Heap.get?_push_size _ rfl, rfl, rfl⟩
  have hl1 : H1.IsList ax vs.toArray := hls.at fun o e => up1 _ o e
  have sz1 : H1.objs.size = s₁.heap.objs.size + 1 := by rw [← hH1, Heap.size_push]
  rw [hI] at W hI₀ hIL offI hit1 hlt sz1 ⊢
  rw [hH1]
  have hIlt : I < H1.objs.size := by rw [sz1]; exact Nat.lt_succ_self _
  have haxlt : ax < H1.objs.size := by rw [sz1]; exact Nat.lt_succ_of_lt hlt
  refine wpAny_newObj_type (wpAny_newFunctionEnv hcell (by intro y hy; simp at hy) (fun h₁ hns₁ hsb₁ => ?_) hkind)
  dsimp only at hns₁ hsb₁ ⊢
  (first | ((first | refine Exists.elim (show ∃ H, H1.push { cls := .type "list", dict := none, data := .seq ([] : List Value).toArray } = H from ⟨_, rfl⟩) ?_ | refine Mine.and_el (show ∃ H, H1.push { cls := .type "list", dict := none, data := .seq ([] : List Value).toArray } = H from ⟨_, rfl⟩) ?_); intro H2 hH2) | obtain ⟨H2, hH2⟩ : ∃ H, H1.push { cls := .type "list", dict := none, data := .seq ([] : List Value).toArray } = H := ⟨_, rfl⟩)
  have sz2 : H2.objs.size = I + 2 := by rw [← hH2, Heap.size_push, sz1]
  (first | ((first | refine Exists.elim (show ∃ D, H1.objs.size = D from ⟨_, rfl⟩) ?_ | refine Mine.and_el (show ∃ D, H1.objs.size = D from ⟨_, rfl⟩) ?_); intro D hD) | obtain ⟨D, hD⟩ : ∃ D, H1.objs.size = D := ⟨_, rfl⟩)
  (first | ((first | refine Exists.elim (show ∃ C, H2.objs.size = C from ⟨_, rfl⟩) ?_ | refine Mine.and_el (show ∃ C, H2.objs.size = C from ⟨_, rfl⟩) ?_); intro C hC) | obtain ⟨C, hC⟩ : ∃ C, H2.objs.size = C := ⟨_, rfl⟩)
  have eD : D = I + 1 := by rw [← hD, sz1]
  have eC : C = I + 2 := by rw [← hC, sz2]
  have up2 : ∀ b o, H1.get? b = some o → h₁.get? b = some o := fun b o e => by
    have hb : b < H1.objs.size := Heap.lt_size e
    refine hsb₁.extBut b o ?_ (Heap.get?_push_of_some _ (Heap.get?_push_of_some _ e))
    have : b < (H1.push { cls := .type "list", dict := none, data := .seq ([] : List Value).toArray }).objs.size := by rw [Heap.size_push]; exact Nat.lt_succ_of_lt hb
    exact Nat.ne_of_lt this
  have hDC : D ≠ C := by rw [eD, eC]; exact Nat.ne_of_lt (Nat.lt_succ_self _)
  have hacc : h₁.get? D = some (lst []) := by
    refine hsb₁.extBut _ _ ?_ (Heap.get?_push_of_some _ (hD ▸ Heap.get?_push_size _ rfl))
    show D ≠ (H1.push { cls := .type "list", dict := none, data := .seq ([] : List Value).toArray }).objs.size
    rw [hH2, hC]; exact hDC
  have hCe : (H1.push { cls := .type "list", dict := none, data := .seq ([] : List Value).toArray }).objs.size = C := by rw [hH2, hC]
  have hns : h₁.Ns C (fun x => List.lookup x [].reverse) := hCe ▸ hns₁
  have lowH : ∀ b o, s₁.heap.get? b = some o → b < I := fun b o e => hI ▸ Heap.lt_size e
  have new₀ : ∀ b, I ≤ b → h₀.get? b = none := fun b hb => by
    cases e : h₀.get? b with
    | none => rfl
    | some o => exact absurd (lowH _ _ (F.keep _ _ e)) (Nat.not_lt.mpr hb)
  have hD₀ : h₀.get? D = none := new₀ _ (by rw [eD]; exact Nat.le_succ _)
  have hC₀ : h₀.get? C = none := new₀ _ (by rw [eC]; exact Nat.le_trans (Nat.le_succ _) (Nat.le_succ _))
  have hLlt : L < I := hI ▸ F.ns.lt
  have below : ∀ b, b < I → b ≠ I ∧ b ≠ C ∧ b ≠ D := fun b hb => ⟨Nat.ne_of_lt hb, by rw [eC]; exact Nat.ne_of_lt (Nat.lt_succ_of_lt (Nat.lt_succ_of_lt hb)), by rw [eD]; exact Nat.ne_of_lt (Nat.lt_succ_of_lt hb)⟩
  have hDL : D ≠ L := Ne.symm (below L hLlt).2.2
  have hCL : C ≠ L := Ne.symm (below L hLlt).2.1
  have hIC : I ≠ C := by rw [eC]; exact Nat.ne_of_lt (Nat.lt_succ_of_lt (Nat.lt_succ_self _))
  have hID : I ≠ D := by rw [eD]; exact Nat.ne_of_lt (Nat.lt_succ_self _)
  have off : Off3 I C D news := Off3.of fun p hp => below _ (lowH _ _ (N p hp).1)
  have hCf : C ∉ [I, ax] := by
    intro hm
    rcases List.mem_cons.mp hm with e | hm
    · exact hIC e.symm
    · exact (below ax hlt).2.1 (List.mem_singleton.mp hm).symm
  have hDf : D ∉ [I, ax] := by
    intro hm
    rcases List.mem_cons.mp hm with e | hm
    · exact hID e.symm
    · exact (below ax hlt).2.2 (List.mem_singleton.mp hm).symm
  have off3 := off.mem
  have hn : vs.toArray.size = vs.length := by simp
  rw [hn] at W
  have loop : codeAny (model prog w) A (.compLoop (.ListComp elt [⟨.Tuple [.Name x px, .Name x₂ px₂] kk tp, iter, [], 0⟩] scope pos) 0 (.ref I) (.ref D) (compEnvC scope cl C env))
        (compPost (model prog w) A E none Q (.ref D) C) { s₁ with heap := h₁, toks := s₁.toks + ([] : List (Str × Value)).length } := by
    refine codeAny_compLoop_pair
      (fun k s' => ∃ h' tk i ys m', s' = { s₁ with heap := h', toks := tk } ∧ i ≤ vs.length ∧ k = vs.length + 1 - i ∧ ys.length = i ∧ (h'.IsListIter I ax i ∧ h'.IsList ax vs.toArray) ∧ Fr h₀ L h' m ∧ h'.Ns C m' ∧ News h₀ L h' ((D, lst ys) :: news) ∧
        (∀ (j : Nat) y, ys[j]? = some y → ∃ a, items[j]? = some a ∧ Out a y)) ?_ (vs.length + 1)
      ⟨h₁, _, 0, [], _, rfl, Nat.zero_le _, rfl, rfl, W.frame _ _ _ ⟨hit1, hl1⟩ (fun b _ o e => up2 b o e), F1.keeps up2, hns, fun p hp => ?_, fun j y e => by simp at e⟩
    · (first | (intro k s'; (first | (intro zt274; (first | refine Exists.elim zt274 ?_ | refine Mine.and_el zt274 ?_); intro h' zt275; (try clear zt274); (first | refine Exists.elim zt275 ?_ | refine Mine.and_el zt275 ?_); intro tk zt276; (try clear zt275); (first | refine Exists.elim zt276 ?_ | refine Mine.and_el zt276 ?_); intro i zt277; (try clear zt276); (first | refine Exists.elim zt277 ?_ | refine Mine.and_el zt277 ?_); intro ys zt278; (try clear zt277); (first | refine Exists.elim zt278 ?_ | refine Mine.and_el zt278 ?_); intro m' zt279; (try clear zt278); (first | refine Exists.elim zt279 ?_ | refine Mine.and_el zt279 ?_); intro zt280 zt281; (try clear zt279); subst zt280; (first | refine Exists.elim zt281 ?_ | refine Mine.and_el zt281 ?_); intro hi zt282; (try clear zt281); (first | refine Exists.elim zt282 ?_ | refine Mine.and_el zt282 ?_); intro zt283 zt284; (try clear zt282); subst zt283; (first | refine Exists.elim zt284 ?_ | refine Mine.and_el zt284 ?_); intro hyl zt285; (try clear zt284); (first | (refine Mine.at_el zt285 ?_; clear zt285; intro hst' F' hn' zt289 N' hout; subst zt289) | ((first | refine Exists.elim zt285 ?_ | refine Mine.and_el zt285 ?_); intro hst' zt286; (try clear zt285); (first | refine Exists.elim zt286 ?_ | refine Mine.and_el zt286 ?_); intro F' zt287; (try clear zt286); (first | refine Exists.elim zt287 ?_ | refine Mine.and_el zt287 ?_); intro hn' zt288; (try clear zt287); (first | refine Exists.elim zt288 ?_ | refine Mine.and_el zt288 ?_); intro N' hout; (try clear zt288)))) | rintro ⟨h', tk, i, ys, m', rfl, hi, rfl, hyl, hst', F', hn', N', hout⟩)) | rintro k s' ⟨h', tk, i, ys, m', rfl, hi, rfl, hyl, hst', F', hn', N', hout⟩)
      by_cases hlt' : i < vs.length
      · refine W.item i _ _ _ hlt' hst' fun v h₂ tk₂ hPv hst₂ hk₂ => ?_
        (first | ((first | refine Exists.elim (hit i v (by simpa using hPv)) ?_ | refine Mine.and_el (hit i v (by simpa using hPv)) ?_); intro a zt290; (first | refine Exists.elim zt290 ?_ | refine Mine.and_el zt290 ?_); intro T zt291; (try clear zt290); (first | refine Exists.elim zt291 ?_ | refine Mine.and_el zt291 ?_); intro v₁ zt292; (try clear zt291); (first | refine Exists.elim zt292 ?_ | refine Mine.and_el zt292 ?_); intro v₂ zt293; (try clear zt292); (first | refine Exists.elim zt293 ?_ | refine Mine.and_el zt293 ?_); intro ha zt294; (try clear zt293); (first | refine Exists.elim zt294 ?_ | refine Mine.and_el zt294 ?_); intro zt295 zt296; (try clear zt294); subst zt295; (first | refine Exists.elim zt296 ?_ | refine Mine.and_el zt296 ?_); intro hT hIt; (try clear zt296)) | obtain ⟨a, T, v₁, v₂, ha, rfl, hT, hIt⟩ := hit i v (by simpa using hPv))
        have N₂ : News h₀ L h₂ ((D, lst ys) :: news) := news_but N' hk₂ fun p hp => by
          rcases List.mem_cons.mp hp with rfl | hp
          · exact Ne.symm hID
          · exact (off3 p hp).1
        have F₂ : Fr h₀ L h₂ m := fr_but F' hk₂ hIL hI₀
        have ht : IsTup h₂ T #[v₁, v₂] := by
          (first | ((first | refine Exists.elim hT ?_ | refine Mine.and_el hT ?_); intro ot zt297; (try clear hT); (first | refine Exists.elim zt297 ?_ | refine Mine.and_el zt297 ?_); intro e r; (try clear zt297)) | obtain ⟨ot, e, r⟩ := hT)
          exact ⟨ot, F₂.keep _ _ e, r⟩
        refine wpAny_letOwnedTupleGo_listiter hst₂.1 ?_
        refine assign_Tuple_tuple hh ht rfl rfl fun h₅ he => ?_
        have he' : ∀ b o, h₂.get? b = some o → h₅.get? b = some o := fun b o e => he b o (Nat.ne_of_lt (Heap.lt_size e)) e
        refine assignInOrder_cons (wpAny_assign_Name (wpAny_storeName_local (lookup_relabel_local hx) ((hn'.at' fun o e => hk₂ _ o (by simpa using Ne.symm hIC) e).at' fun o e => he' _ o e) (fun h₆ hn₆ hs₆ => ?_) (by simp [compEnvC, relabel, hkind])))
        refine assignInOrder_cons (wpAny_assign_Name (wpAny_storeName_local (lookup_relabel_local hx₂) hn₆ (fun h₃ hn₃ hs₃ => ?_) (by simp [compEnvC, relabel, hkind])))
        refine assignInOrder_nil ?_
        have old3 : ∀ b o, b ≠ C → h₂.get? b = some o → h₃.get? b = some o := fun b o hb e => hs₃.extBut b o hb (hs₆.extBut b o hb (he' b o e))
        have hst₃ := W.frame _ _ _ hst₂ fun b hb o e => old3 b o (fun q => hCf (by rw [← q]; exact hb)) e
        (first | ((first | refine Exists.elim (id hst₃.1) ?_ | refine Mine.and_el (id hst₃.1) ?_); intro oI zt298; (first | refine Exists.elim zt298 ?_ | refine Mine.and_el zt298 ?_); intro heI hoI; (try clear zt298)) | obtain ⟨oI, heI, hoI⟩ := id hst₃.1)
        (first | ((first | refine Exists.elim (ns_obj hn₃) ?_ | refine Mine.and_el (ns_obj hn₃) ?_); intro oC zt299; (first | refine Exists.elim zt299 ?_ | refine Mine.and_el zt299 ?_); intro heC hoC; (try clear zt299)) | obtain ⟨oC, heC, hoC⟩ := ns_obj hn₃)
        have F₃ : Fr h₀ L h₃ m := ((F₂.keeps he').change hs₆ hCL hC₀).change hs₃ hCL hC₀
        have N₃ : News h₀ L h₃ ((I, oI) :: (C, oC) :: (D, lst ys) :: news) := fun p hp => by
          rcases List.mem_cons.mp hp with rfl | hp
          · exact ⟨heI, Ne.symm hIL, hI₀⟩
          · rcases List.mem_cons.mp hp with rfl | hp
            · exact ⟨heC, hCL, hC₀⟩
            · have z := N₂ p hp
              refine ⟨old3 _ _ ?_ z.1, z.2⟩
              rcases List.mem_cons.mp hp with rfl | hp
              · exact hDC
              · exact (off3 p hp).2.1
        refine wpAny_mono (turn a v₁ v₂ I oI C oC D _ ys h₃ _ _ (List.mem_of_getElem? ha) hIt hoC (by simp [hxx]) (by simp) F₃ N₃ off ⟨hIC, hID, Ne.symm hDC⟩) (fun y s₄ h₄ => ?_) fun _ _ e => e
        (first | (have zt300 := h₄; clear h₄; (first | refine Exists.elim zt300 ?_ | refine Mine.and_el zt300 ?_); intro h₄ zt301; (try clear zt300); (first | refine Exists.elim zt301 ?_ | refine Mine.and_el zt301 ?_); intro tk₄ zt302; (try clear zt301); (first | refine Exists.elim zt302 ?_ | refine Mine.and_el zt302 ?_); intro news₄ zt303; (try clear zt302); (first | refine Exists.elim zt303 ?_ | refine Mine.and_el zt303 ?_); intro zt304 zt305; (try clear zt303); subst zt304; (first | refine Exists.elim zt305 ?_ | refine Mine.and_el zt305 ?_); intro F₄ zt306; (try clear zt305); (first | refine Exists.elim zt306 ?_ | refine Mine.and_el zt306 ?_); intro N₄ zt307; (try clear zt306); (first | refine Exists.elim zt307 ?_ | refine Mine.and_el zt307 ?_); intro zt308 zt309; (try clear zt307); clear zt308; (first | refine Exists.elim zt309 ?_ | refine Mine.and_el zt309 ?_); intro zt310 zt311; (try clear zt309); clear zt310; (first | refine Exists.elim zt311 ?_ | refine Mine.and_el zt311 ?_); intro zt312 hy; (try clear zt311); subst zt312) | obtain ⟨h₄, tk₄, news₄, rfl, F₄, N₄, -, -, rfl, hy⟩ := h₄)
        have zI := (N₄ (I, oI) List.mem_cons_self).1
        have zC := (N₄ (C, oC) (List.mem_cons_of_mem _ List.mem_cons_self)).1
        have zD := (N₄ (D, lst ys) (List.mem_cons_of_mem _ (List.mem_cons_of_mem _ List.mem_cons_self))).1
        have N₄' : News h₀ L h₄ news₄ := fun p hp => N₄ p (List.mem_cons_of_mem _ (List.mem_cons_of_mem _ (List.mem_cons_of_mem _ hp)))
        have hst₄ : h₄.IsListIter I ax (i + 1) ∧ h₄.IsList ax vs.toArray := ⟨⟨oI, zI, hoI⟩, hl.at fun o e => F₄.keep _ o e⟩
        refine append_at (hsz := by show ys.toArray.size ≤ sizeLine; rw [List.size_toArray, hyl, sizeLine_eq]; omega) zD fun h₅ hs₅ hD₅ => ?_
        refine ⟨vs.length + 1 - (i + 1), by omega, h₅, tk₄, i + 1, ys ++ [y], _, rfl, hlt', rfl, by rw [List.length_append, List.length_singleton, hyl], W.frame _ _ _ hst₄ (fun b hb o e => hs₅.extBut b o (fun q => hDf (q ▸ hb)) e), F₄.change hs₅ hDL hD₀,
          (hoC.ns zC).sameBut hs₅ (Ne.symm hDC), fun p hp => ?_, fun j z hz => ?_⟩
        · rcases List.mem_cons.mp hp with rfl | hp
          · exact ⟨hD₅.trans (congrArg some (lst_snoc ys y)), hDL, hD₀⟩
          · exact ⟨hs₅.extBut _ _ (off3 p hp).2.2 (N₄' p hp).1, (N₄' p hp).2⟩
        · rcases Nat.lt_or_ge j ys.length with hj | hj
          · rw [List.getElem?_append_left hj] at hz
            exact hout j z hz
          · rw [List.getElem?_append_right hj] at hz
            have : j - ys.length = 0 := by
              rcases Nat.eq_zero_or_pos (j - ys.length) with e | e
              · exact e
              · rw [List.getElem?_eq_none (by simp; omega)] at hz; cases hz
            rw [this] at hz
            have ej : j = i := by omega
            have ez : y = z := by simpa using hz
            exact ⟨a, ej ▸ ha, ez ▸ hy⟩
      · obtain rfl : i = vs.length := Nat.le_antisymm hi (Nat.not_lt.mp hlt')
        refine W.done _ _ _ hst' fun h₂ tk₂ hk₂ => ?_
        have N₂ : News h₀ L h₂ ((D, lst ys) :: news) := news_but N' hk₂ fun p hp => by
          rcases List.mem_cons.mp hp with rfl | hp
          · exact Ne.symm hID
          · exact (off3 p hp).1
        have F₂ : Fr h₀ L h₂ m := fr_but F' hk₂ hIL hI₀
        refine ⟨m', hn'.at' fun o e => hk₂ _ o (by simpa using Ne.symm hIC) e, fun h'' hs'' => ?_⟩
        refine fin ys D h'' _ (by omega) hout (F₂.change hs'' hCL hC₀) (fun p hp => ?_) off.one
        refine ⟨hs''.extBut _ _ ?_ (N₂ p hp).1, (N₂ p hp).2⟩
        rcases List.mem_cons.mp hp with rfl | hp
        · exact hDC
        · exact (off3 p hp).2.1
    · rcases List.mem_cons.mp hp with rfl | hp
      · exact ⟨hacc, hDL, hD₀⟩
      · exact ⟨up2 _ _ (N1 p hp).1, (N1 p hp).2⟩
  rw [hCe, hD]
  exact codeAny_compStart_list loop (W.self 0 _ _ _ (W.frame _ _ _ ⟨hit1, hl1⟩ (fun b _ o e => up2 b o e)) loop)
end
end Mine
end
section
open PySem PySem.W PyProof.Rows PyProof.Rows.LCg
set_option maxRecDepth 100000
set_option maxHeartbeats 8000000
namespace Mine
local macro_rules | `(tactic| walk_at "pyIter ref") => `(tactic| refine Hold.out ?_)
local macro_rules | `(tactic| walk_at "eval ListComp") => `(tactic| refine Hold.out ?_)
local macro_rules | `(tactic| walk_at "execs cons") => `(tactic| walk_at "mxc")
local macro_rules | `(tactic| walk_at "call builtin:str.join") => `(tactic| refine Hold.out ?_)
local macro_rules | `(tactic| walk_at "execs nil") => `(tactic| walk_at "mxn")
noncomputable def RowIs (h : Heap) (vs : List Value) (row : List (Int × Int)) : Prop :=
  vs.length = row.length ∧ ∀ (i : Nat) v, vs[i]? = some v → ∃ a T t₁ t₂, row[i]? = some a ∧ v = .ref T ∧ IsTup h T #[.int a.1 t₁, .int a.2 t₂]
noncomputable def nameC (hue q : Int) : Nat := if q = 1 then 97 + (hue % 12).toNat else if q = 2 then 46 else 65 + (hue % 12).toNat
theorem low_all12 : ∀ k : Fin 12, Txt.item (Str.ofString "abcdefghijkl") ((k.val : Nat) : Int) = S [97 + k.val] := by decide +kernel
theorem cap_all12 : ∀ k : Fin 12, Txt.item (Str.ofString "ABCDEFGHIJKL") ((k.val : Nat) : Int) = S [65 + k.val] := by decide +kernel
theorem dot_all12 : ∀ k : Fin 12, Txt.item (Str.ofString "............") ((k.val : Nat) : Int) = S [46] := by decide +kernel
theorem fmod12 (h : Int) : ∃ k : Fin 12, h.fmod 12 = ((k.val : Nat) : Int) ∧ (h % 12).toNat = k.val := by
  have e : h.fmod 12 = h % 12 := Int.fmod_eq_emod_of_nonneg _ (by omega)
  exact ⟨⟨(h % 12).toNat, by omega⟩, by rw [e]; dsimp only; omega, rfl⟩
theorem low_name (h : Int) : Txt.item (Str.ofString "abcdefghijkl") (h.fmod 12) = S [97 + (h % 12).toNat] := by
  obtain ⟨k, e1, e2⟩ := fmod12 h; rw [e1, e2]; exact low_all12 k
theorem cap_name (h : Int) : Txt.item (Str.ofString "ABCDEFGHIJKL") (h.fmod 12) = S [65 + (h % 12).toNat] := by
  obtain ⟨k, e1, e2⟩ := fmod12 h; rw [e1, e2]; exact cap_all12 k
theorem dot_name (h : Int) : Txt.item (Str.ofString "............") (h.fmod 12) = S [46] := by
  obtain ⟨k, e1, e2⟩ := fmod12 h; rw [e1]; exact dot_all12 k
theorem strsAre_of : ∀ {vs : List Value} {ss : List Str}, vs.length = ss.length → (∀ (j : Nat) v, vs[j]? = some v → ∃ t, v = .str (ss.getD j Str.empty) t) → StrsAre vs ss
  | [], [], _, _ => .nil
  | v :: vs, x :: ss, hl, h => by
    (first | ((first | refine Exists.elim (h 0 v rfl) ?_ | refine Mine.and_el (h 0 v rfl) ?_); intro t e) | obtain ⟨t, e⟩ := h 0 v rfl)
    rw [e]
    exact .cons _ _ (strsAre_of (by simpa using hl) fun j v hj => by simpa using h (j + 1) v (by simpa using hj))
  | [], _ :: _, hl, _ => by simp at hl
  | _ :: _, [], hl, _ => by simp at hl
theorem join_named (l : List (Int × Int)) : Str.join (Str.ofString "") (l.map fun a => S [nameC a.1 a.2]) = S (l.map fun a => nameC a.1 a.2) := by
  have he : Str.ofString "" = S [] := by decide +kernel
  have key : ∀ l : List Nat, Str.join (S []) (l.map fun c => S [c]) = S l := by
    intro l
    induction l with
    | nil => rfl
    | cons c l ih =>
      cases l with
      | nil => rfl
      | cons d l =>
        have : Str.join (S []) ((c :: d :: l).map fun c => S [c]) = S [c] ++ S [] ++ Str.join (S []) ((d :: l).map fun c => S [c]) := rfl
        rw [this, ih, S_append, S_append]; rfl
  have := key (l.map fun a => nameC a.1 a.2)
  rw [List.map_map] at this
  rw [he]
  exact this
theorem weigh_named (l : List (Int × Int)) : (l.map ((fun x : Str => x.length) ∘ fun a => S [nameC a.1 a.2])).sum = l.length := by
  induction l with
  | nil => rfl
  | cons a l ih => rw [List.map_cons, List.sum_cons, ih]; simp [S_length]; omega
theorem named {w mean mg mb sa} {vs0 : List Value} {n0 : Nat} {row : List (Int × Int)} (hrow : row.length ≤ 20) (hq : ∀ a ∈ row, (a.2 = 1 ∨ a.2 = 2 ∨ a.2 = 3) ∧ -1000 ≤ a.1 ∧ a.1 ≤ 1000) : Claim w mean mg mb 10 68 [.ref sa]
    (fun h => h.get? sa = some (listOf vs0.toArray n0) ∧ RowIs h vs0 row)
    (fun h h' r => ∃ t, r = .str (S (row.map fun a => nameC a.1 a.2)) t) := by
  (have hz : (rwm, kz.heap_1) = (rwm, kz.heap_1) := rfl; revert hz; k_fill; intro hz; clear hz; w_on)
  w_strict (k_dflt (refine' enterC (Str.ofString "names") ?ko ?kc ?kb ?kl ?kx ?_ ?c1 ?c2 ?c3; (case ko => k_is); (case kc => k_is); (case kb => exact rfl); (case kl => intro _ y hy; (simp only [List.map, List.zip, List.zipWith, List.mem_cons, List.not_mem_nil, or_false] at hy); rcases hy with rfl | rfl <;> first | exact Or.inl rfl | exact Or.inr ⟨rfl, rfl⟩); (case kx => intro _; exact rfl); (case c1 => exact rfl); (case c2 => exact rfl); (case c3 => exact rfl); k_whole; intro dp un fr gd s L h₁ tk oc hpre F N hoc X T hdp hun))
  replace F : Fr s.heap L h₁ (fun y => if y = Str.ofString "row" then some (.ref sa) else none) := F
  replace hoc : oc.data = .cell none := hoc
  have hil : s.heap.IsList sa vs0.toArray := ⟨_, hpre.1, rfl, _, rfl⟩
  w_strict ((try dsimp only); (try k_fold); k_steps)
  refine Hold.mk ?_
  rename Fr _ _ _ _ => F; rename News _ _ _ _ => N
  rename Obj.data _ = _ => hcd
  rename Obj.IsDictOf _ _ _ => hdict
  refine comp_pairs (news := [_, _]) row (fun a v₁ v₂ => ∃ t₁ t₂, v₁ = .int a.1 t₁ ∧ v₂ = .int a.2 t₂) (fun a y => ∃ t, y = .str (S [nameC a.1 a.2]) t) F N rfl hil hpre.2.1 (by rw [hpre.2.1]; omega) ?_ (by with_unfolding_all rfl) (by decide) (by rfl) (by decide) (by rfl) (by rfl) (by decide) ?_ ?_ ?_
  · intro i v hv
    (first | ((first | refine Exists.elim (hpre.2.2 i v hv) ?_ | refine Mine.and_el (hpre.2.2 i v hv) ?_); intro a zt313; (first | refine Exists.elim zt313 ?_ | refine Mine.and_el zt313 ?_); intro T zt314; (try clear zt313); (first | (refine Mine.at_el zt314 ?_; clear zt314; intro t₁ t₂ h1 zt318 h2 h3; subst zt318) | ((first | refine Exists.elim zt314 ?_ | refine Mine.and_el zt314 ?_); intro t₁ zt315; (try clear zt314); (first | refine Exists.elim zt315 ?_ | refine Mine.and_el zt315 ?_); intro t₂ zt316; (try clear zt315); (first | refine Exists.elim zt316 ?_ | refine Mine.and_el zt316 ?_); intro h1 zt317; (try clear zt316); (first | refine Exists.elim zt317 ?_ | refine Mine.and_el zt317 ?_); intro h2 h3; (try clear zt317)))) | obtain ⟨a, T, t₁, t₂, h1, h2, h3⟩ := hpre.2.2 i v hv)
    exact ⟨a, T, _, _, h1, h2, h3, t₁, t₂, rfl, rfl⟩
  · w_strict ((try dsimp only); k_steps)
  · clear F N
    (first | (intro a _ _ I oI C oC D m₂ ys h tk E' ha; (first | (intro zt319; (first | refine Exists.elim zt319 ?_ | refine Mine.and_el zt319 ?_); intro t₁ zt320; (try clear zt319); (first | refine Exists.elim zt320 ?_ | refine Mine.and_el zt320 ?_); intro t₂ zt321; (try clear zt320); (first | refine Exists.elim zt321 ?_ | refine Mine.and_el zt321 ?_); intro zt322 zt323; (try clear zt321); subst zt322; subst zt323) | rintro ⟨t₁, t₂, rfl, rfl⟩); intro hC h1 h2 F N off hne) | rintro a _ _ I oI C oC D m₂ ys h tk E' ha ⟨t₁, t₂, rfl, rfl⟩ hC h1 h2 F N off hne)
    have hqa := hq a ha
    simp only [LCg.Off3, and_true] at off
    w_strict ((try dsimp only); k_steps)
    all_goals (refine congrArg (fun z => Value.str z _) ?_)
    all_goals (rw [nameC])
    · rw [if_pos (by assumption)]; exact low_name _
    · rw [if_neg (by assumption), if_pos (by assumption)]; exact dot_name _
    · rw [if_neg (by assumption), if_neg (by assumption)]; exact cap_name _
  · clear F N
    intro ys D h tk hyl hys F N off
    have hS : StrsAre ys (row.map fun a => S [nameC a.1 a.2]) := strsAre_of (by simp [hyl]) (by
      intro j y hy
      (first | ((first | refine Exists.elim (hys j y hy) ?_ | refine Mine.and_el (hys j y hy) ?_); intro a zt324; (first | refine Exists.elim zt324 ?_ | refine Mine.and_el zt324 ?_); intro ha zt325; (try clear zt324); (first | refine Exists.elim zt325 ?_ | refine Mine.and_el zt325 ?_); intro t zt326; (try clear zt325); subst zt326) | obtain ⟨a, ha, t, rfl⟩ := hys j y hy)
      exact ⟨t, by simp [ha]⟩)
    w_strict ((try dsimp only); k_steps)
    refine Hold.mk ?_
    dsimp only [List.append_eq, List.cons_append, List.nil_append]
    refine join_listW (items := ys.toArray) (isListOf N (List.Mem.head _)) hS (by decide) (by rw [List.map_map, weigh_named, List.length_map]; omega) ?_
    intro t' k
    with_unfolding_all refine done_ret (by assumption) ?_
    exact ⟨t', congrArg (fun z => Value.str z t') (by rw [← join_named row]; exact eq_of_beq (join_plain_closes _ _))⟩
end Mine
end
section
open PySem PySem.W PyProof.Rows
set_option maxRecDepth 100000
set_option maxHeartbeats 8000000
namespace Mine
noncomputable def ltF (x y : UInt64) : Bool := Float64.cmp x y == some Ordering.lt
noncomputable def eqF (x y : UInt64) : Bool := Float64.cmp x y == some Ordering.eq
noncomputable def vF (m1 m2 hue : UInt64) : UInt64 :=
  if ltF (Float64.divmod hue 4607182418800017408).2 4595172819793696085 then Float64.add m1 (Float64.mul (Float64.mul (Float64.sub m2 m1) (Float64.divmod hue 4607182418800017408).2) 4618441417868443648)
  else if ltF (Float64.divmod hue 4607182418800017408).2 4602678819172646912 then m2
  else if ltF (Float64.divmod hue 4607182418800017408).2 4604180019048437077 then Float64.add m1 (Float64.mul (Float64.mul (Float64.sub m2 m1) (Float64.sub 4604180019048437077 (Float64.divmod hue 4607182418800017408).2)) 4618441417868443648)
  else m1
theorem vee {w mean mg mb m1 t1 m2 t2 hue t3} : Claim w mean mg mb 1 35 [.float m1 t1, .float m2 t2, .float hue t3] (fun _ => True) (fun _ _ r => ∃ t, r = .float (vF m1 m2 hue) t) := by
  (have hz : (rwm, kz.heap_1) = (rwm, kz.heap_1) := rfl; revert hz; k_fill; intro hz; clear hz; w_on)
  w_strict (k_dflt (refine' enter ?ko ?kc ?kb ?kl ?_ ?c1 ?c2 ?c3 ?c4; (case ko => k_is); (case kc => k_is); (case kb => exact rfl); (case kl => exact locs rfl); (case c1 => exact rfl); (case c2 => exact rfl); (case c3 => exact rfl); (case c4 => decide); k_whole; intro dp un fr gd s L h₁ tk hpre F N X T hdp hun; (simp only [List.map, List.zip, List.zipWith, List.reverse, List.reverseAux] at F); (try dsimp only); (try k_fold)); k_steps)
  all_goals with_unfolding_all refine done_ret (by assumption) ?_
  all_goals (refine ⟨_, congrArg (fun i => Value.float i _) ?_⟩)
  all_goals (unfold vF ltF)
  · rw [if_pos (by assumption)]
  · rw [if_neg (Bool.eq_false_iff.mp (by assumption)), if_pos (by assumption)]
  · rw [if_neg (Bool.eq_false_iff.mp (by assumption)), if_neg (Bool.eq_false_iff.mp (by assumption)), if_pos (by assumption)]
  · rw [if_neg (Bool.eq_false_iff.mp (by assumption)), if_neg (Bool.eq_false_iff.mp (by assumption)), if_neg (Bool.eq_false_iff.mp (by assumption))]
local macro_rules | `(tactic| walk_at "call ref") => `(tactic| refine Hold.out ?_)
noncomputable def leF (x y : UInt64) : Bool := Float64.cmp x y == some Ordering.lt || Float64.cmp x y == some Ordering.eq
noncomputable def m2F (l sa : UInt64) : UInt64 := if leF l 4602678819172646912 then Float64.mul l (Float64.add 4607182418800017408 sa) else Float64.sub (Float64.add l sa) (Float64.mul l sa)
noncomputable def m1F (l sa : UInt64) : UInt64 := Float64.sub (Float64.mul 4611686018427387904 l) (m2F l sa)
noncomputable def hlsF (h l sa : UInt64) : UInt64 × UInt64 × UInt64 :=
  if eqF sa 0 then (l, l, l) else (vF (m1F l sa) (m2F l sa) (Float64.add h 4599676419421066581), vF (m1F l sa) (m2F l sa) h, vF (m1F l sa) (m2F l sa) (Float64.sub h 4599676419421066581))
noncomputable def Tup3 (h h' : Heap) (r : Value) (x : UInt64 × UInt64 × UInt64) : Prop :=
  ∃ T t₁ t₂ t₃, r = .ref T ∧ h.get? T = none ∧ h'.get? T = some { cls := Value.type "tuple", data := Data.seq #[.float x.1 t₁, .float x.2.1 t₂, .float x.2.2 t₃] }
theorem hls {w mean mg mb h t1 l t2 sa t3} : Claim w mean mg mb 10 28 [.float h t1, .float l t2, .float sa t3] (fun _ => True) (fun h₀ h₁ r => Tup3 h₀ h₁ r (hlsF h l sa)) := by
  (have hz : (rwm, kz.heap_1) = (rwm, kz.heap_1) := rfl; revert hz; k_fill; intro hz; clear hz; w_on)
  w_strict (k_dflt (refine' enter ?ko ?kc ?kb ?kl ?_ ?c1 ?c2 ?c3 ?c4; (case ko => k_is); (case kc => k_is); (case kb => exact rfl); (case kl => exact locs rfl); (case c1 => exact rfl); (case c2 => exact rfl); (case c3 => exact rfl); (case c4 => decide); k_whole; intro dp un fr gd s L h₁ tk hpre F N X T hdp hun; (simp only [List.map, List.zip, List.zipWith, List.reverse, List.reverseAux] at F); (try dsimp only); (try k_fold)); k_steps)
  · rename News _ _ _ _ => N
    with_unfolding_all refine done_ret (by assumption) ?_
    rw [hlsF, eqF, if_pos (by assumption)]
    exact ⟨_, _, _, _, rfl, (N _ (List.Mem.head _)).2.2, (N _ (List.Mem.head _)).1⟩
  all_goals (
    refine Hold.mk ?_
    rename Fr _ _ _ _ => F; rename News _ _ _ _ => N
    refine use_claim vee F N X T (by omega) (by omega) trivial ?_
    clear F N
    rintro _ h tk - F N ⟨tc, rfl⟩
    w_strict ((try dsimp only); k_steps)
    refine Hold.mk ?_
    refine use_claim vee F N X T (by omega) (by omega) trivial ?_
    clear F N
    rintro _ h tk - F N ⟨tc, rfl⟩
    w_strict ((try dsimp only); k_steps)
    refine Hold.mk ?_
    refine use_claim vee F N X T (by omega) (by omega) trivial ?_
    clear F N
    rintro _ h tk - F N ⟨tc, rfl⟩
    w_strict ((try dsimp only); k_steps)
    rename News _ _ _ _ => N
    with_unfolding_all refine done_ret (by assumption) ?_
    rw [hlsF, eqF, if_neg (Bool.eq_false_iff.mp (by assumption))]
    unfold m1F m2F leF
    first | rw [if_pos (by assumption)] | rw [if_neg (Bool.eq_false_iff.mp (by assumption))]
    exact ⟨_, _, _, _, rfl, (N _ (List.Mem.head _)).2.2, (N _ (List.Mem.head _)).1⟩)
end Mine
end
section
open PySem PySem.W PySem.Calls PyProof.Rows PySem.Flt
set_option maxRecDepth 100000
set_option maxHeartbeats 8000000
namespace Mine
section
variable {prog : Program} {w : World} {A : Around} {E : Value → Shared → Prop} {s : Shared} {Q : Value → Shared → Prop} {h₀ : Heap} {L : Addr} {m : Str → Option Value} {news : List (Addr × Obj)} {a b c : UInt64} {t u x : Tok}
theorem max3_F (hh : A.handled = none) (F : Fr h₀ L s.heap m) (N : News h₀ L s.heap news)
    (h : ∀ h' tk t, Fr h₀ L h' m → News h₀ L h' news → Q (.float (maxOfBits [a, b, c]) t) { s with heap := h', toks := tk }) : wpAny (model prog w) A (call (.builtin "max") [.float a t, .float b u, .float c x]) Q E s := by
  have hf : FloatsAre [.float a t, .float b u, .float c x] [a, b, c] := .cons _ _ (.cons _ _ (.cons _ _ .nil))
  have hT : (s.heap.push { cls := .type "tuple", data := .seq #[.float a t, .float b u, .float c x] }).IsTuple s.heap.objs.size [Value.float a t, .float b u, .float c x].toArray := ⟨_, Heap.get?_push_size _ rfl, rfl, 0, by simp⟩
  refine call_max_three (wpAny_pyIter_tuple hT ?_)
  have hsz : (s.heap.push { cls := .type "tuple", data := .seq #[.float a t, .float b u, .float c x] }).objs.size = s.heap.objs.size + 1 := Heap.size_push ..
  refine ⟨_, [_, s.heap.objs.size], [_], _, _, _, fun i j => gtB ([a, b, c].getD i 0) ([a, b, c].getD j 0), rfl, Walks.tuple (A := A.in1) hh _ s.heap.objs.size (by rw [hsz]; exact Nat.ne_of_lt (Nat.lt_succ_self _)) [Value.float a t, .float b u, .float c x].toArray,
    ⟨⟨_, Heap.get?_push_size _ rfl, rfl, rfl⟩, hT.push _⟩, fun d hd => ?_, by simp, fun i j vi vj s Q E hi hj h => ?_, fun v h' tk hP hk => ?_⟩
  · show d < ((s.heap.push _).push _).objs.size
    rw [Heap.size_push, hsz]
    rcases List.mem_cons.mp hd with rfl | hd
    · rw [hsz]; exact Nat.lt_succ_self _
    · rcases List.mem_cons.mp hd with rfl | hd
      · exact Nat.lt_succ_of_lt (Nat.lt_succ_self _)
      · cases hd
  · (first | ((first | refine Exists.elim (hf.at i vi (by simpa using hi)) ?_ | refine Mine.and_el (hf.at i vi (by simpa using hi)) ?_); intro b zt327; (first | refine Exists.elim zt327 ?_ | refine Mine.and_el zt327 ?_); intro t zt328; (try clear zt327); (first | refine Exists.elim zt328 ?_ | refine Mine.and_el zt328 ?_); intro zt329 e1; (try clear zt328); subst zt329) | obtain ⟨b, t, rfl, e1⟩ := hf.at i vi (by simpa using hi))
    (first | ((first | refine Exists.elim (hf.at j vj (by simpa using hj)) ?_ | refine Mine.and_el (hf.at j vj (by simpa using hj)) ?_); intro c zt330; (first | refine Exists.elim zt330 ?_ | refine Mine.and_el zt330 ?_); intro u zt331; (try clear zt330); (first | refine Exists.elim zt331 ?_ | refine Mine.and_el zt331 ?_); intro zt332 e2; (try clear zt331); subst zt332) | obtain ⟨c, u, rfl, e2⟩ := hf.at j vj (by simpa using hj))
    simp only [List.getD_eq_getElem?_getD, e1, e2, Option.getD_some] at h
    exact AutoFloatOps.gt_0 (by rw [cmp_gt]; exact h)
  · have hold : ∀ d o, s.heap.get? d = some o → h'.get? d = some o := fun d o e => by
      refine hk d o (fun hm => ?_) (Heap.get?_push_of_some _ (Heap.get?_push_of_some _ e))
      rcases List.mem_cons.mp hm with e1 | hm
      · have := Heap.lt_size e; rw [e1, hsz] at this; exact Nat.lt_irrefl _ (Nat.lt_of_succ_lt this)
      · cases hm
    rw [size_floats hf] at hP
    (first | ((first | refine Exists.elim (hf.at _ v ((List.getElem?_toArray).symm.trans hP)) ?_ | refine Mine.and_el (hf.at _ v ((List.getElem?_toArray).symm.trans hP)) ?_); intro b' zt333; (first | refine Exists.elim zt333 ?_ | refine Mine.and_el zt333 ?_); intro t zt334; (try clear zt333); (first | refine Exists.elim zt334 ?_ | refine Mine.and_el zt334 ?_); intro zt335 e1; (try clear zt334); subst zt335) | obtain ⟨b', t, rfl, e1⟩ := hf.at _ v ((List.getElem?_toArray).symm.trans hP))
    have e2 := argBest_bits gtB [a, b, c] ([a, b, c].length - 1) (by simp)
    rw [List.take_of_length_le (by simp)] at e2
    rw [List.getD_eq_getElem?_getD, e1, Option.getD_some] at e2
    rw [e2]; exact h h' tk t (F.keeps hold) (N.grown hold)
theorem min3_F (hh : A.handled = none) (F : Fr h₀ L s.heap m) (N : News h₀ L s.heap news)
    (h : ∀ h' tk t, Fr h₀ L h' m → News h₀ L h' news → Q (.float (minOfBits [a, b, c]) t) { s with heap := h', toks := tk }) : wpAny (model prog w) A (call (.builtin "min") [.float a t, .float b u, .float c x]) Q E s := by
  have hf : FloatsAre [.float a t, .float b u, .float c x] [a, b, c] := .cons _ _ (.cons _ _ (.cons _ _ .nil))
  have hT : (s.heap.push { cls := .type "tuple", data := .seq #[.float a t, .float b u, .float c x] }).IsTuple s.heap.objs.size [Value.float a t, .float b u, .float c x].toArray := ⟨_, Heap.get?_push_size _ rfl, rfl, 0, by simp⟩
  refine call_min_three (wpAny_pyIter_tuple hT ?_)
  have hsz : (s.heap.push { cls := .type "tuple", data := .seq #[.float a t, .float b u, .float c x] }).objs.size = s.heap.objs.size + 1 := Heap.size_push ..
  refine ⟨_, [_, s.heap.objs.size], [_], _, _, _, fun i j => ltB ([a, b, c].getD i 0) ([a, b, c].getD j 0), rfl, Walks.tuple (A := A.in1) hh _ s.heap.objs.size (by rw [hsz]; exact Nat.ne_of_lt (Nat.lt_succ_self _)) [Value.float a t, .float b u, .float c x].toArray,
    ⟨⟨_, Heap.get?_push_size _ rfl, rfl, rfl⟩, hT.push _⟩, fun d hd => ?_, by simp, fun i j vi vj s Q E hi hj h => ?_, fun v h' tk hP hk => ?_⟩
  · show d < ((s.heap.push _).push _).objs.size
    rw [Heap.size_push, hsz]
    rcases List.mem_cons.mp hd with rfl | hd
    · rw [hsz]; exact Nat.lt_succ_self _
    · rcases List.mem_cons.mp hd with rfl | hd
      · exact Nat.lt_succ_of_lt (Nat.lt_succ_self _)
      · cases hd
  · (first | ((first | refine Exists.elim (hf.at i vi (by simpa using hi)) ?_ | refine Mine.and_el (hf.at i vi (by simpa using hi)) ?_); intro b zt336; (first | refine Exists.elim zt336 ?_ | refine Mine.and_el zt336 ?_); intro t zt337; (try clear zt336); (first | refine Exists.elim zt337 ?_ | refine Mine.and_el zt337 ?_); intro zt338 e1; (try clear zt337); subst zt338) | obtain ⟨b, t, rfl, e1⟩ := hf.at i vi (by simpa using hi))
    (first | ((first | refine Exists.elim (hf.at j vj (by simpa using hj)) ?_ | refine Mine.and_el (hf.at j vj (by simpa using hj)) ?_); intro c zt339; (first | refine Exists.elim zt339 ?_ | refine Mine.and_el zt339 ?_); intro u zt340; (try clear zt339); (first | refine Exists.elim zt340 ?_ | refine Mine.and_el zt340 ?_); intro zt341 e2; (try clear zt340); subst zt341) | obtain ⟨c, u, rfl, e2⟩ := hf.at j vj (by simpa using hj))
    simp only [List.getD_eq_getElem?_getD, e1, e2, Option.getD_some] at h
    exact AutoFloatOps.lt_0 h
  · have hold : ∀ d o, s.heap.get? d = some o → h'.get? d = some o := fun d o e => by
      refine hk d o (fun hm => ?_) (Heap.get?_push_of_some _ (Heap.get?_push_of_some _ e))
      rcases List.mem_cons.mp hm with e1 | hm
      · have := Heap.lt_size e; rw [e1, hsz] at this; exact Nat.lt_irrefl _ (Nat.lt_of_succ_lt this)
      · cases hm
    rw [size_floats hf] at hP
    (first | ((first | refine Exists.elim (hf.at _ v ((List.getElem?_toArray).symm.trans hP)) ?_ | refine Mine.and_el (hf.at _ v ((List.getElem?_toArray).symm.trans hP)) ?_); intro b' zt342; (first | refine Exists.elim zt342 ?_ | refine Mine.and_el zt342 ?_); intro t zt343; (try clear zt342); (first | refine Exists.elim zt343 ?_ | refine Mine.and_el zt343 ?_); intro zt344 e1; (try clear zt343); subst zt344) | obtain ⟨b', t, rfl, e1⟩ := hf.at _ v ((List.getElem?_toArray).symm.trans hP))
    have e2 := argBest_bits ltB [a, b, c] ([a, b, c].length - 1) (by simp)
    rw [List.take_of_length_le (by simp)] at e2
    rw [List.getD_eq_getElem?_getD, e1, Option.getD_some] at e2
    rw [e2]; exact h h' tk t (F.keeps hold) (N.grown hold)
end
set_option hygiene false
local macro_rules | `(tactic| walk_at "mx3") => `(tactic| (with_reducible (rename Fr _ _ _ _ => F'; rename News _ _ _ _ => N')))
local macro_rules | `(tactic| walk_at "call builtin:max") => `(tactic| (walk_at "mx3"; refine max3_F rfl F' N' ?_; clear F' N'; intro _ _ _ _ _))
local macro_rules | `(tactic| walk_at "call builtin:min") => `(tactic| (walk_at "mx3"; refine min3_F rfl F' N' ?_; clear F' N'; intro _ _ _ _ _))
set_option hygiene true
noncomputable def mxF (r g b : UInt64) : UInt64 := maxOfBits [r, g, b]
noncomputable def rgF (r g b : UInt64) : UInt64 := Float64.sub (maxOfBits [r, g, b]) (minOfBits [r, g, b])
noncomputable def cF (x r g b : UInt64) : UInt64 := Float64.div (Float64.sub (maxOfBits [r, g, b]) x) (rgF r g b)
noncomputable def hueF (r g b : UInt64) : UInt64 :=
  if eqF r (mxF r g b) then Float64.sub (cF b r g b) (cF g r g b)
  else if eqF g (mxF r g b) then Float64.sub (Float64.add 4611686018427387904 (cF r r g b)) (cF b r g b)
  else Float64.sub (Float64.add 4616189618054758400 (cF g r g b)) (cF r r g b)
noncomputable def hsvF (r g b : UInt64) : UInt64 × UInt64 × UInt64 :=
  if eqF (minOfBits [r, g, b]) (mxF r g b) then (0, 0, mxF r g b)
  else ((Float64.divmod (Float64.div (hueF r g b) 4618441417868443648) 4607182418800017408).2, Float64.div (rgF r g b) (mxF r g b), mxF r g b)
noncomputable def hsvOk (r g b : UInt64) : Bool := eqF (minOfBits [r, g, b]) (mxF r g b) || (!Float64.isZero (mxF r g b) && !Float64.isZero (rgF r g b))
theorem hsv {w mean mg mb r t1 g t2 b t3} (hok : hsvOk r g b = true) : Claim w mean mg mb 10 42 [.float r t1, .float g t2, .float b t3] (fun _ => True) (fun h₀ h₁ x => Tup3 h₀ h₁ x (hsvF r g b)) := by
  unfold hsvOk eqF mxF rgF at hok
  (have hz : (rwm, kz.heap_1) = (rwm, kz.heap_1) := rfl; revert hz; k_fill; intro hz; clear hz; w_on)
  w_strict (k_dflt (refine' enter ?ko ?kc ?kb ?kl ?_ ?c1 ?c2 ?c3 ?c4; (case ko => k_is); (case kc => k_is); (case kb => exact rfl); (case kl => exact locs rfl); (case c1 => exact rfl); (case c2 => exact rfl); (case c3 => exact rfl); (case c4 => decide); k_whole; intro dp un fr gd s L h₁ tk hpre F N X T hdp hun; (simp only [List.map, List.zip, List.zipWith, List.reverse, List.reverseAux] at F); (try dsimp only); (try k_fold)); k_steps)
  · rename News _ _ _ _ => N
    with_unfolding_all refine done_ret (by assumption) ?_
    unfold hsvF eqF mxF
    rw [if_pos (by assumption)]
    exact ⟨_, _, _, _, rfl, (N _ (List.Mem.head _)).2.2, (N _ (List.Mem.head _)).1⟩
  all_goals (
    rename News _ _ _ _ => N
    with_unfolding_all refine done_ret (by assumption) ?_
    unfold hsvF hueF cF rgF mxF eqF
    rw [if_neg (Bool.eq_false_iff.mp (by assumption))]
    first | rw [if_pos (by assumption)] | rw [if_neg (Bool.eq_false_iff.mp (by assumption)), if_pos (by assumption)] | rw [if_neg (Bool.eq_false_iff.mp (by assumption)), if_neg (Bool.eq_false_iff.mp (by assumption))]
    exact ⟨_, _, _, _, rfl, (N _ (List.Mem.head _)).2.2, (N _ (List.Mem.head _)).1⟩)
end Mine
end
section
open PySem PySem.W PySem.Calls PyProof.Rows PySem.Spec
set_option maxRecDepth 100000
set_option maxHeartbeats 8000000
namespace Mine
section
variable {prog : Program} {w : World} {A : Around} {E : Value → Shared → Prop} {s : Shared} {env : Env} {h₀ : Heap} {x₁ x₂ : Str} {p₁ p₂ tp : Pos} {kk : Nat} {body : List Stmt} {Q : Flow → Shared → Prop}
/-- a list of pairs of the base heap, two names -/
theorem for_pairsB {σ ι : Type} {l : Addr} {vs : List Value} {m₀ : Str → Option Value} (items : List ι) (IsItem : ι → Value → Value → Prop)
    (Led : σ → List (Addr × Obj)) (ps : σ → List (Str × Value)) (stored : List Str) (P : List ι → σ → Prop) (c₀ : σ)
    (hx₁ : env.kindOf x₁ = some .local) (hx₂ : env.kindOf x₂ = some .local) (hkind : (env.scope.kind == .class || (env.scope.kind == .module && env.locals != env.globals)) = false)
    (hps : ∀ c, ∀ p ∈ ps c, p.1 ≠ x₁ ∧ p.1 ≠ x₂)
    (hh : A.handled = none) (hl : h₀.IsList l vs.toArray) (hlen : vs.length = items.length)
    (hit : ∀ (i : Nat) v, vs[i]? = some v → ∃ a T v₁ v₂, items[i]? = some a ∧ v = .ref T ∧ IsTup h₀ T #[v₁, v₂] ∧ IsItem a v₁ v₂)
    (F : Fr h₀ env.locals s.heap m₀) (N : News h₀ env.locals s.heap (Led c₀)) (hk : ∀ p ∈ ps c₀, m₀ p.1 = some p.2) (hp : P [] c₀)
    (turn : ∀ (c : σ) (pre post : List ι) (a : ι) v₁ v₂ (u : Str → Option Value) (s' : Shared) h tk I oI, items = pre ++ a :: post → IsItem a v₁ v₂ → P pre c → (∀ p ∈ Led c, p.1 ≠ I) →
      Fr h₀ env.locals h (fun y => if y = x₂ then some v₂ else if y = x₁ then some v₁ else kstB (fun z => if stored.contains z then u z else m₀ z) (ps c) y) → News h₀ env.locals h (Led c ++ [(I, oI)]) →
      wpAny (model prog w) A (execs body env) (NextAt fun s₂ => TurnP h₀ env.locals I oI Led ps x₂ (x₁ :: stored) m₀ P s' Q (pre ++ [a]) .next s₂) E { s' with heap := h, toks := tk })
    (done : ∀ (c : σ) (u : Str → Option Value) h tk, P items c → Fr h₀ env.locals h (fun y => if y = x₂ then u y else kstB (fun z => if (x₁ :: stored).contains z then u z else m₀ z) (ps c) y) → News h₀ env.locals h (Led c) → Q .next { s with heap := h, toks := tk }) :
    wpAny (model prog w) A (pyIter (.ref l)) (fun it s₂ => LoopAtT prog w A h₀ env (.Tuple [.Name x₁ p₁, .Name x₂ p₂] kk tp) body Q E it s₂) E s := by
  have hls : s.heap.IsList l vs.toArray := hl.at fun o e => F.keep l o e
  (first | ((first | refine Exists.elim (id hl) ?_ | refine Mine.and_el (id hl) ?_); intro ol zt345; (first | refine Exists.elim zt345 ?_ | refine Mine.and_el zt345 ?_); intro hol zt346; (try clear zt345)) | obtain ⟨ol, hol, _⟩ := id hl)
  have hlt : l < h₀.objs.size := Heap.lt_size hol
  have hne : l ≠ s.heap.objs.size := Nat.ne_of_lt (Nat.lt_trans (Nat.lt_of_lt_of_le hlt F.above) F.ns.lt)
  refine wpAny_pyIter_list hls ?_
  have W := Walks.list (prog := prog) (w := w) hh s.heap.objs.size l hne vs.toArray
  have hlen' : vs.toArray.size = items.length := by simp [hlen]
  rw [hlen'] at W
  (first | ((first | refine Exists.elim (show ∃ I, s.heap.objs.size = I from ⟨_, rfl⟩) ?_ | refine Mine.and_el (show ∃ I, s.heap.objs.size = I from ⟨_, rfl⟩) ?_); intro I hI) | obtain ⟨I, hI⟩ : ∃ I, s.heap.objs.size = I := ⟨_, rfl⟩)
  have hI₀ : h₀.get? I = none := hI ▸ next_is_new F
  have hLI : env.locals ≠ I := hI ▸ Nat.ne_of_lt F.ns.lt
  rw [hI] at W
  let J : Nat → (Str → Option Value) → List (Addr × Obj) → Prop := fun i m nx => ∃ c : σ, nx = Led c ∧ (∀ p ∈ Led c, p.1 ≠ I) ∧ (∀ p ∈ ps c, m p.1 = some p.2) ∧ (∀ z, z ≠ x₂ → (∀ p ∈ ps c, z ≠ p.1) → (x₁ :: stored).contains z = false → m z = m₀ z) ∧ P (items.take i) c
  have hoff₀ : ∀ p ∈ Led c₀, p.1 ≠ I := fun p hp' e => absurd (Heap.lt_size (N p hp').1) (e ▸ hI ▸ Nat.lt_irrefl _)
  refine ⟨I, [I, l], [I], items.length, _, _, m₀, Led c₀, J, congrArg Value.ref hI, W, ?_, ?_, ?_, ⟨⟨_, hI ▸ Heap.get?_push_size _ rfl, rfl, rfl⟩, hls.at fun o e => Heap.get?_push_of_some _ e⟩, F.push _, fun p hp => ⟨Heap.get?_push_of_some _ (N p hp).1, (N p hp).2⟩,
    fun i s' v Q' st hQ' => letGo_listiter st.1 hQ', ⟨c₀, rfl, hoff₀, hk, fun _ _ _ _ => rfl, by simpa using hp⟩, ?_, ?_⟩
  · intro hm
    rcases List.mem_cons.mp hm with e | hm
    · exact hLI e
    · exact absurd (Nat.lt_of_lt_of_le hlt F.above) ((List.mem_singleton.mp hm) ▸ Nat.lt_irrefl _)
  · intro b hb; rw [List.mem_singleton.mp hb]; exact hI₀
  · intro p hp' hI'; exact hoff₀ p hp' (List.mem_singleton.mp hI')
  · (first | (intro i v m₁ news₁ s₁ own hin hPv; (first | (intro zt347; (first | refine Exists.elim zt347 ?_ | refine Mine.and_el zt347 ?_); intro c zt348; (try clear zt347); (first | refine Exists.elim zt348 ?_ | refine Mine.and_el zt348 ?_); intro zt349 zt350; (try clear zt348); subst zt349; (first | refine Exists.elim zt350 ?_ | refine Mine.and_el zt350 ?_); intro hoffc zt351; (try clear zt350); (first | refine Exists.elim zt351 ?_ | refine Mine.and_el zt351 ?_); intro h1 zt352; (try clear zt351); (first | refine Exists.elim zt352 ?_ | refine Mine.and_el zt352 ?_); intro h2 hp'; (try clear zt352)) | rintro ⟨c, rfl, hoffc, h1, h2, hp'⟩); intro hoff' hown hget hall hs F₁ N₁) | rintro i v m₁ news₁ s₁ own hin hPv ⟨c, rfl, hoffc, h1, h2, hp'⟩ hoff' hown hget hall hs F₁ N₁)
    (first | ((first | refine Exists.elim (hit i v (by simpa using hPv)) ?_ | refine Mine.and_el (hit i v (by simpa using hPv)) ?_); intro a zt353; (first | refine Exists.elim zt353 ?_ | refine Mine.and_el zt353 ?_); intro T zt354; (try clear zt353); (first | refine Exists.elim zt354 ?_ | refine Mine.and_el zt354 ?_); intro v₁ zt355; (try clear zt354); (first | refine Exists.elim zt355 ?_ | refine Mine.and_el zt355 ?_); intro v₂ zt356; (try clear zt355); (first | refine Exists.elim zt356 ?_ | refine Mine.and_el zt356 ?_); intro ha zt357; (try clear zt356); (first | refine Exists.elim zt357 ?_ | refine Mine.and_el zt357 ?_); intro zt358 zt359; (try clear zt357); subst zt358; (first | refine Exists.elim zt359 ?_ | refine Mine.and_el zt359 ?_); intro hT hIa; (try clear zt359)) | obtain ⟨a, T, v₁, v₂, ha, rfl, hT, hIa⟩ := hit i v (by simpa using hPv))
    have hs' : items.take (i + 1) = items.take i ++ [a] := by simp [List.take_add_one, ha]
    have e : items = items.take i ++ a :: items.drop (i + 1) := by
      have ht := List.take_append_drop (i + 1) items
      rw [hs', List.append_assoc] at ht
      exact ht.symm
    (first | ((first | refine Exists.elim (id hs.1) ?_ | refine Mine.and_el (id hs.1) ?_); intro oI zt360; (first | refine Exists.elim zt360 ?_ | refine Mine.and_el zt360 ?_); intro hoI zt361; (try clear zt360)) | obtain ⟨oI, hoI, _⟩ := id hs.1)
    have hmem : (I, oI) ∈ own := hall I (by simp) hI₀ oI hoI
    have N₂ : News h₀ env.locals s₁.heap (Led c ++ [(I, oI)]) := fun p hp => by
      rcases List.mem_append.mp hp with hp | hp
      · exact N₁ p (List.mem_append.mpr (.inr hp))
      · rw [List.mem_singleton.mp hp]; exact N₁ _ (List.mem_append.mpr (.inl hmem))
    have ht : IsTup s₁.heap T #[v₁, v₂] := by
      (first | ((first | refine Exists.elim hT ?_ | refine Mine.and_el hT ?_); intro ot zt362; (try clear hT); (first | refine Exists.elim zt362 ?_ | refine Mine.and_el zt362 ?_); intro e r; (try clear zt362)) | obtain ⟨ot, e, r⟩ := hT)
      exact ⟨ot, F₁.keep _ _ e, r⟩
    have hLnew : h₀.get? env.locals = none := by
      cases hq : h₀.get? env.locals with
      | none => rfl
      | some o' => exact absurd (Heap.lt_size hq) (Nat.not_lt.mpr F.above)
    refine assign_Tuple_tuple hh ht rfl rfl fun h₅ he => ?_
    have he' : ∀ b o, s₁.heap.get? b = some o → h₅.get? b = some o := fun b o e => he b o (Nat.ne_of_lt (Heap.lt_size e)) e
    refine assignInOrder_cons (wpAny_assign_Name (wpAny_storeName_local hx₁ (F₁.ns.at' fun o e => he' _ o e) (fun h₆ hn₆ hs₆ => ?_) hkind))
    refine assignInOrder_cons (wpAny_assign_Name (wpAny_storeName_local hx₂ hn₆ (fun h₇ hn₇ hs₇ => ?_) hkind))
    refine assignInOrder_nil ?_
    have old : ∀ b o, b ≠ env.locals → s₁.heap.get? b = some o → h₇.get? b = some o := fun b o hb e => hs₇.extBut b o hb (hs₆.extBut b o hb (he' b o e))
    have F₇ : Fr h₀ env.locals h₇ (fun y => if y = x₂ then some v₂ else if y = x₁ then some v₁ else m₁ y) :=
      ⟨hn₇, fun b o e => old b o (fun q => by rw [q, hLnew] at e; cases e) (F₁.keep b o e), F₁.above⟩
    have N₇ : News h₀ env.locals h₇ (Led c ++ [(I, oI)]) := fun p hp => ⟨old _ _ (N₂ p hp).2.1 (N₂ p hp).1, (N₂ p hp).2⟩
    have F₈ : Fr h₀ env.locals h₇ (fun y => if y = x₂ then some v₂ else if y = x₁ then some v₁ else kstB (fun z => if stored.contains z then m₁ z else m₀ z) (ps c) y) := by
      have em : (fun y => if y = x₂ then some v₂ else if y = x₁ then some v₁ else kstB (fun z => if stored.contains z then m₁ z else m₀ z) (ps c) y) = (fun y => if y = x₂ then some v₂ else if y = x₁ then some v₁ else m₁ y) := by
        funext y
        by_cases hy2 : y = x₂
        · rw [if_pos hy2, if_pos hy2]
        · rw [if_neg hy2, if_neg hy2]
          by_cases hy1 : y = x₁
          · rw [if_pos hy1, if_pos hy1]
          · rw [if_neg hy1, if_neg hy1]
            refine kstB_eq h1 fun hr => ?_
            by_cases hst : stored.contains y = true
            · rw [if_pos hst]
            · rw [if_neg hst]
              refine (h2 y hy2 hr ?_).symm
              rw [List.contains_cons, beq_eq_false_iff_ne.mpr hy1, Bool.false_or]
              exact Bool.eq_false_iff.mpr hst
      rw [em]; exact F₇
    refine wpAny_mono (turn c _ _ a v₁ v₂ m₁ s₁ h₇ (s₁.toks + 1 + 1) I oI e hIa hp' hoffc F₈ N₇) (fun f s₂ hq => ?_) fun _ _ e => e
    (first | ((first | refine Exists.elim hq ?_ | refine Mine.and_el hq ?_); intro zt363 zt364; (try clear hq); subst zt363; (first | refine Exists.elim zt364 ?_ | refine Mine.and_el zt364 ?_); intro c' zt365; (try clear zt364); (first | refine Exists.elim zt365 ?_ | refine Mine.and_el zt365 ?_); intro h' zt366; (try clear zt365); (first | refine Exists.elim zt366 ?_ | refine Mine.and_el zt366 ?_); intro tk' zt367; (try clear zt366); (first | refine Exists.elim zt367 ?_ | refine Mine.and_el zt367 ?_); intro m' zt368; (try clear zt367); (first | refine Exists.elim zt368 ?_ | refine Mine.and_el zt368 ?_); intro news' zt369; (try clear zt368); (first | refine Exists.elim zt369 ?_ | refine Mine.and_el zt369 ?_); intro zt370 zt371; (try clear zt369); subst zt370; (first | refine Exists.elim zt371 ?_ | refine Mine.and_el zt371 ?_); intro F' zt372; (try clear zt371); (first | refine Exists.elim zt372 ?_ | refine Mine.and_el zt372 ?_); intro N' zt373; (try clear zt372); (first | refine Exists.elim zt373 ?_ | refine Mine.and_el zt373 ?_); intro hn zt374; (try clear zt373); (first | (refine Mine.at_el zt374 ?_; clear zt374; intro hI' ho' hk' zt378 hr' hP'; subst zt378) | ((first | refine Exists.elim zt374 ?_ | refine Mine.and_el zt374 ?_); intro hI' zt375; (try clear zt374); (first | refine Exists.elim zt375 ?_ | refine Mine.and_el zt375 ?_); intro ho' zt376; (try clear zt375); (first | refine Exists.elim zt376 ?_ | refine Mine.and_el zt376 ?_); intro hk' zt377; (try clear zt376); (first | refine Exists.elim zt377 ?_ | refine Mine.and_el zt377 ?_); intro hr' hP'; (try clear zt377)))) | obtain ⟨rfl, c', h', tk', m', news', rfl, F', N', hn, hI', ho', hk', hr', hP'⟩ := hq)
    refine ⟨rfl, h', tk', m', Led c', rfl, F', fun p hp => ?_, fun p hp hq => ho' p hp (List.mem_singleton.mp hq), c', rfl, ho', hk', hr', by rw [hs']; exact hP'⟩
    rcases List.mem_append.mp hp with hp | hp
    · have a1 := N₁ p (List.mem_append.mpr (.inl hp))
      have a2 : p.1 = I := by
        rcases List.mem_cons.mp (hown p hp) with e | e
        · exact e
        · rw [List.mem_singleton.mp e, hol] at a1; cases a1.2.2
      have : p = (I, oI) := by
        have a3 := a1.1
        rw [a2] at a3
        exact Prod.ext a2 (Option.some.inj (a3.symm.trans hoI))
      rw [this]; exact N' _ hI'
    · exact N' p (hn p hp)
  · (first | (intro h' tk m' news' F' N' _; (first | (intro zt379; (first | refine Exists.elim zt379 ?_ | refine Mine.and_el zt379 ?_); intro c zt380; (try clear zt379); (first | refine Exists.elim zt380 ?_ | refine Mine.and_el zt380 ?_); intro zt381 zt382; (try clear zt380); subst zt381; (first | refine Exists.elim zt382 ?_ | refine Mine.and_el zt382 ?_); intro zt383 zt384; (try clear zt382); (first | refine Exists.elim zt384 ?_ | refine Mine.and_el zt384 ?_); intro h1 zt385; (try clear zt384); (first | refine Exists.elim zt385 ?_ | refine Mine.and_el zt385 ?_); intro h2 hp'; (try clear zt385)) | rintro ⟨c, rfl, _, h1, h2, hp'⟩)) | rintro h' tk m' news' F' N' _ ⟨c, rfl, _, h1, h2, hp'⟩)
    rw [List.take_length] at hp'
    exact done c m' h' tk hp' (kst_frOut h1 h2 F') N'
end
end Mine
end
section
open PySem
set_option maxRecDepth 100000
set_option maxHeartbeats 8000000
namespace Mine
noncomputable def divI (a b : Int) : UInt64 := Float64.ofFrac (decide (a < 0) != decide (b < 0)) a.natAbs b.natAbs
noncomputable def rgbOf (hue q : Int) : UInt64 × UInt64 × UInt64 := if q = 2 then hlsF (divI hue 12) 4602678819172646912 0 else hlsF (divI hue 12) (divI q 4) 4607182418800017408
noncomputable def hsvOf (hue q : Int) : UInt64 × UInt64 × UInt64 := hsvF (rgbOf hue q).1 (rgbOf hue q).2.1 (rgbOf hue q).2.2
noncomputable def okOf (hue q : Int) : Bool := hsvOk (rgbOf hue q).1 (rgbOf hue q).2.1 (rgbOf hue q).2.2
noncomputable def placeOf (x : UInt64) : UInt64 := Float64.add (Float64.mul x (Float64.ofInt 12)) 4602678819172646912
noncomputable def deep (hue : Int) (x : UInt64 × UInt64 × UInt64) : Bool := (Float64.cmp x.2.1 0 == some Ordering.eq) == false && Float64.isNaN (placeOf x.1) == false && Float64.isInf (placeOf x.1) == false && decide ((Flt.toInt Float64.truncOf (placeOf x.1)).fmod 12 = hue.fmod 12)
theorem tab1 : ∀ i : Fin 47, (okOf ((i.val : Int) - 12) 1 && deep ((i.val : Int) - 12) (hsvOf ((i.val : Int) - 12) 1) && Float64.cmp (hsvOf ((i.val : Int) - 12) 1).2.2 4604930618986332160 == some Ordering.lt) = true := by decide +kernel
theorem tab3 : ∀ i : Fin 47, (okOf ((i.val : Int) - 12) 3 && deep ((i.val : Int) - 12) (hsvOf ((i.val : Int) - 12) 3) && !(Float64.cmp (hsvOf ((i.val : Int) - 12) 3).2.2 4604930618986332160 == some Ordering.lt)) = true := by decide +kernel
theorem tab2 : ∀ i : Fin 7, (okOf (i.val : Int) 2 && Float64.cmp (hsvOf (i.val : Int) 2).2.1 0 == some Ordering.eq) = true := by decide +kernel
theorem Deep.facts {hue : Int} {x : UInt64 × UInt64 × UInt64} (h : deep hue x = true) : (Float64.cmp x.2.1 0 == some Ordering.eq) = false ∧ Float64.isNaN (placeOf x.1) = false ∧ Float64.isInf (placeOf x.1) = false ∧ (Flt.toInt Float64.truncOf (placeOf x.1)).fmod 12 = hue.fmod 12 := by
  unfold deep at h
  simp only [Bool.and_eq_true, beq_iff_eq, decide_eq_true_eq] at h
  exact ⟨h.1.1.1, h.1.1.2, h.1.2, h.2⟩
theorem facts1 {hue : Int} (h1 : -12 ≤ hue) (h2 : hue ≤ 34) : okOf hue 1 = true ∧ deep hue (hsvOf hue 1) = true ∧ (Float64.cmp (hsvOf hue 1).2.2 4604930618986332160 == some Ordering.lt) = true := by
  have h := tab1 ⟨(hue + 12).toNat, by omega⟩
  have e : (((hue + 12).toNat : Nat) : Int) - 12 = hue := by omega
  dsimp only at h
  rw [e, Bool.and_eq_true, Bool.and_eq_true] at h
  exact ⟨h.1.1, h.1.2, h.2⟩
theorem facts3 {hue : Int} (h1 : -12 ≤ hue) (h2 : hue ≤ 34) : okOf hue 3 = true ∧ deep hue (hsvOf hue 3) = true ∧ (Float64.cmp (hsvOf hue 3).2.2 4604930618986332160 == some Ordering.lt) = false := by
  have h := tab3 ⟨(hue + 12).toNat, by omega⟩
  have e : (((hue + 12).toNat : Nat) : Int) - 12 = hue := by omega
  dsimp only at h
  rw [e, Bool.and_eq_true, Bool.and_eq_true] at h
  exact ⟨h.1.1, h.1.2, by simpa using h.2⟩
theorem facts2 {hue : Int} (h1 : 0 ≤ hue) (h2 : hue ≤ 6) : okOf hue 2 = true ∧ (Float64.cmp (hsvOf hue 2).2.1 0 == some Ordering.eq) = true := by
  have h := tab2 ⟨hue.toNat, by omega⟩
  have e : ((hue.toNat : Nat) : Int) = hue := by omega
  dsimp only at h
  rw [e, Bool.and_eq_true] at h
  exact ⟨h.1, h.2⟩
end Mine
end
section
open PySem PySem.W PyProof.Rows
set_option maxRecDepth 100000
set_option maxHeartbeats 8000000
namespace Mine
local macro_rules | `(tactic| walk_at "pyIter ref") => `(tactic| refine Hold.out ?_)
local macro_rules | `(tactic| walk_at "exec For Tuple Name cons nil") => `(tactic| refine Hold.out ?_)
local macro_rules | `(tactic| walk_at "call ref") => `(tactic| refine Hold.out ?_)
local macro_rules | `(tactic| walk_at "execs cons") => `(tactic| walk_at "mxq")
local macro_rules | `(tactic| walk_at "execs nil") => `(tactic| walk_at "mxn")
theorem str_ne {a b : Str} (h : (a == b) = false) : a ≠ b := by intro e; subst e; simp at h
theorem news_add {h₀ h h' : Heap} {L T : Addr} {m : Str → Option Value} {o : Obj} {news : List (Addr × Obj)} (F : Fr h₀ L h m) (hn : h.get? T = none) (hT : h'.get? T = some o) (N : News h₀ L h' news) : News h₀ L h' ((T, o) :: news) := by
  intro p hp
  rcases List.mem_cons.mp hp with rfl | hp
  · refine ⟨hT, ?_, ?_⟩
    · intro e
      (first | ((first | refine Exists.elim (F.ns) ?_ | refine Mine.and_el (F.ns) ?_); intro oL zt386; (first | refine Exists.elim zt386 ?_ | refine Mine.and_el zt386 ?_); intro zt387 zt388; (try clear zt386); (first | refine Exists.elim zt388 ?_ | refine Mine.and_el zt388 ?_); intro zt389 zt390; (try clear zt388); (first | refine Exists.elim zt390 ?_ | refine Mine.and_el zt390 ?_); intro hL zt391; (try clear zt390)) | obtain ⟨oL, _, _, hL, _⟩ := F.ns)
      rw [← e, hn] at hL; cases hL
    · cases hq : h₀.get? T with
      | none => rfl
      | some o' => have := F.keep _ _ hq; rw [hn] at this; cases this
  · exact N p hp
theorem new_ne {h₀ h : Heap} {L T : Addr} {news : List (Addr × Obj)} (hn : h.get? T = none) (N : News h₀ L h news) : ∀ p ∈ news, p.1 ≠ T := by
  intro p hp e
  have := (N p hp).1
  rw [e, hn] at this; cases this
theorem read {w mean mg mb sa} {vs0 : List Value} {n0 : Nat} {row : List (Int × Int)} (hrow : row.length ≤ 20) (hq : ∀ a ∈ row, ((a.2 = 1 ∨ a.2 = 3) ∧ -12 ≤ a.1 ∧ a.1 ≤ 34) ∨ (a.2 = 2 ∧ 0 ≤ a.1 ∧ a.1 ≤ 6)) : Claim w mean mg mb 20 63 [.ref sa]
    (fun h => h.get? sa = some (listOf vs0.toArray n0) ∧ RowIs h vs0 row)
    (fun h h' r => ∃ t, r = .str (S (row.map fun a => nameC a.1 a.2)) t) := by
  (have hz : (rwm, kz.heap_1) = (rwm, kz.heap_1) := rfl; revert hz; k_fill; intro hz; clear hz; w_on)
  w_strict (k_dflt (refine' enter ?ko ?kc ?kb ?kl ?_ ?c1 ?c2 ?c3 ?c4; (case ko => k_is); (case kc => k_is); (case kb => exact rfl); (case kl => exact locs rfl); (case c1 => exact rfl); (case c2 => exact rfl); (case c3 => exact rfl); (case c4 => decide); k_whole; intro dp un fr gd s L h₁ tk hpre F N X T hdp hun; (simp only [List.map, List.zip, List.zipWith, List.reverse, List.reverseAux] at F); (try dsimp only); (try k_fold)))
  refine opq ?_; intro Q0 hQ0
  w_strict ((try dsimp only); k_steps)
  refine Hold.mk ?_
  rename Fr _ _ _ _ => F; rename News _ _ _ _ => N
  have hil : s.heap.IsList sa vs0.toArray := ⟨_, hpre.1, rfl, _, rfl⟩
  refine For_invTF F ?_ (by intro _; rfl) PassesOwn.never
  w_strict ((try dsimp only); k_steps)
  refine Hold.mk ?_
  refine for_pairsB (σ := List Nat × Tok) row (fun a v₁ v₂ => ∃ t₁ t₂, v₁ = .int a.1 t₁ ∧ v₂ = .int a.2 t₂) (fun _ => []) (fun c => [(Str.ofString "text", .str (S c.1) c.2)]) [Str.ofString "red", Str.ofString "green", Str.ofString "blue", Str.ofString "place", Str.ofString "depth", Str.ofString "most"]
    (fun pre c => c.1 = pre.map fun a => nameC a.1 a.2) ([], _) rfl rfl rfl (by intro c p hp; cases List.mem_singleton.mp hp; exact ⟨str_ne (a := Str.ofString "text") (by decide), str_ne (a := Str.ofString "text") (by decide)⟩) rfl hil hpre.2.1 ?_ F N (by kst_all) rfl ?_ ?_
  · intro i v hv
    (first | ((first | refine Exists.elim (hpre.2.2 i v hv) ?_ | refine Mine.and_el (hpre.2.2 i v hv) ?_); intro a zt392; (first | refine Exists.elim zt392 ?_ | refine Mine.and_el zt392 ?_); intro T zt393; (try clear zt392); (first | (refine Mine.at_el zt393 ?_; clear zt393; intro t₁ t₂ h1 zt397 h2 h3; subst zt397) | ((first | refine Exists.elim zt393 ?_ | refine Mine.and_el zt393 ?_); intro t₁ zt394; (try clear zt393); (first | refine Exists.elim zt394 ?_ | refine Mine.and_el zt394 ?_); intro t₂ zt395; (try clear zt394); (first | refine Exists.elim zt395 ?_ | refine Mine.and_el zt395 ?_); intro h1 zt396; (try clear zt395); (first | refine Exists.elim zt396 ?_ | refine Mine.and_el zt396 ?_); intro h2 h3; (try clear zt396)))) | obtain ⟨a, T, t₁, t₂, h1, h2, h3⟩ := hpre.2.2 i v hv)
    exact ⟨a, T, _, _, h1, h2, h3, t₁, t₂, rfl, rfl⟩
  · clear F N
    (first | ((first | (intro zt398; (first | refine Exists.elim zt398 ?_ | refine Mine.and_el zt398 ?_); intro tx tt; (try clear zt398)) | rintro ⟨tx, tt⟩); intro pre post; (first | (intro zt399; (first | refine Exists.elim zt399 ?_ | refine Mine.and_el zt399 ?_); intro hue q; (try clear zt399)) | rintro ⟨hue, q⟩); intro _ _ u s' h tk I oI hsp; (first | (intro zt400; (first | refine Exists.elim zt400 ?_ | refine Mine.and_el zt400 ?_); intro t₁ zt401; (try clear zt400); (first | refine Exists.elim zt401 ?_ | refine Mine.and_el zt401 ?_); intro t₂ zt402; (try clear zt401); (first | refine Exists.elim zt402 ?_ | refine Mine.and_el zt402 ?_); intro zt403 zt404; (try clear zt402); subst zt403; subst zt404) | rintro ⟨t₁, t₂, rfl, rfl⟩); intro hP hoff F N) | rintro ⟨tx, tt⟩ pre post ⟨hue, q⟩ _ _ u s' h tk I oI hsp ⟨t₁, t₂, rfl, rfl⟩ hP hoff F N)
    refine opq ?_; intro Q1 hQ1
    dsimp only at F N hP
    have hqa := hq (hue, q) (by rw [hsp]; simp)
    dsimp only at hqa
    simp only [List.nil_append] at N
    have htl : (S tx).length ≤ 20 := by
      rw [S_length, hP, List.length_map]
      have := congrArg List.length hsp
      simp at this; omega
    dsimp only [kstB] at F
    have hlast : ∀ c, tx ++ [c] = (pre ++ [(hue, q)]).map (fun a => nameC a.1 a.2) ↔ c = nameC hue q := by
      intro c
      rw [hP, List.map_append]
      simp
    have hcall : ∀ rgb, rgbOf hue q = rgb → ∀ t₁ t₂ t₃, Claim w mean mg mb 10 28 [.float (divI hue 12) t₁, .float (if q = 2 then 4602678819172646912 else divI q 4) t₂, .float (if q = 2 then 0 else 4607182418800017408) t₃] (fun _ => True) (fun h₀ h₁ r => Tup3 h₀ h₁ r rgb) := by
      intro rgb hrgb t₁ t₂ t₃
      rw [← hrgb, rgbOf]
      by_cases hq2 : q = 2
      · rw [if_pos hq2, if_pos hq2, if_pos hq2]; exact hls
      · rw [if_neg hq2, if_neg hq2, if_neg hq2]; exact hls
    have hthree : (q = 2 ∧ okOf hue q = true ∧ (Float64.cmp (hsvOf hue q).2.1 0 == some Ordering.eq) = true) ∨ (q ≠ 2 ∧ okOf hue q = true ∧ deep hue (hsvOf hue q) = true ∧ ((q = 1 ∧ (Float64.cmp (hsvOf hue q).2.2 4604930618986332160 == some Ordering.lt) = true) ∨
        (q = 3 ∧ (Float64.cmp (hsvOf hue q).2.2 4604930618986332160 == some Ordering.lt) = false))) := by
      rcases hqa with ⟨rfl | rfl, h1, h2⟩ | ⟨rfl, h1, h2⟩
      · (first | ((first | refine Exists.elim (facts1 h1 h2) ?_ | refine Mine.and_el (facts1 h1 h2) ?_); intro a1 zt405; (first | refine Exists.elim zt405 ?_ | refine Mine.and_el zt405 ?_); intro a2 a3; (try clear zt405)) | obtain ⟨a1, a2, a3⟩ := facts1 h1 h2)
        exact .inr ⟨by decide, a1, a2, .inl ⟨rfl, a3⟩⟩
      · (first | ((first | refine Exists.elim (facts3 h1 h2) ?_ | refine Mine.and_el (facts3 h1 h2) ?_); intro a1 zt406; (first | refine Exists.elim zt406 ?_ | refine Mine.and_el zt406 ?_); intro a2 a3; (try clear zt406)) | obtain ⟨a1, a2, a3⟩ := facts3 h1 h2)
        exact .inr ⟨by decide, a1, a2, .inr ⟨rfl, a3⟩⟩
      · exact .inl ⟨rfl, facts2 h1 h2⟩
    (first | ((first | refine Exists.elim (show ∃ rgb, rgbOf hue q = rgb from ⟨_, rfl⟩) ?_ | refine Mine.and_el (show ∃ rgb, rgbOf hue q = rgb from ⟨_, rfl⟩) ?_); intro rgb hrgb) | obtain ⟨rgb, hrgb⟩ : ∃ rgb, rgbOf hue q = rgb := ⟨_, rfl⟩)
    replace hcall := hcall rgb hrgb
    rw [okOf, hsvOf, hrgb] at hthree
    (first | ((first | refine Exists.elim (show ∃ hs3, hsvF rgb.1 rgb.2.1 rgb.2.2 = hs3 from ⟨_, rfl⟩) ?_ | refine Mine.and_el (show ∃ hs3, hsvF rgb.1 rgb.2.1 rgb.2.2 = hs3 from ⟨_, rfl⟩) ?_); intro hs3 hhs3) | obtain ⟨hs3, hhs3⟩ : ∃ hs3, hsvF rgb.1 rgb.2.1 rgb.2.2 = hs3 := ⟨_, rfl⟩)
    rw [hhs3] at hthree
    have hbnd : -12 ≤ hue ∧ hue ≤ 34 := by omega
    clear hqa
    rcases hthree with ⟨rfl, hok, hd⟩ | ⟨hq2, hok, hd, hm⟩
    · simp only [if_true] at hcall
      w_strict ((try dsimp only); k_steps)
      refine Hold.mk ?_
      refine use_claim (hcall _ _ _) F N X T (by omega) (by omega) trivial ?_
      (first | (intro _ h tk zt407; clear zt407; intro F2 N2; (first | (intro zt408; (first | refine Exists.elim zt408 ?_ | refine Mine.and_el zt408 ?_); intro Ta zt409; (try clear zt408); (first | refine Exists.elim zt409 ?_ | refine Mine.and_el zt409 ?_); intro t₃ zt410; (try clear zt409); (first | refine Exists.elim zt410 ?_ | refine Mine.and_el zt410 ?_); intro t₄ zt411; (try clear zt410); (first | refine Exists.elim zt411 ?_ | refine Mine.and_el zt411 ?_); intro t₅ zt412; (try clear zt411); (first | refine Exists.elim zt412 ?_ | refine Mine.and_el zt412 ?_); intro zt413 zt414; (try clear zt412); subst zt413; (first | refine Exists.elim zt414 ?_ | refine Mine.and_el zt414 ?_); intro hn hT; (try clear zt414)) | rintro ⟨Ta, t₃, t₄, t₅, rfl, hn, hT⟩)) | rintro _ h tk - F2 N2 ⟨Ta, t₃, t₄, t₅, rfl, hn, hT⟩)
      have N3 := news_add F hn hT N2
      have hne1 : @Ne Nat I Ta := new_ne hn N _ (List.Mem.head _)
      clear F N N2 hn hT hcall
      rename Fr _ _ _ _ => F; rename News _ _ _ _ => N
      w_strict ((try dsimp only); k_steps)
      refine Hold.mk ?_
      (try clear F N)
      rename Fr _ _ _ _ => F; rename News _ _ _ _ => N
      refine use_claim (hsv hok) F N X T (by omega) (by omega) trivial ?_
      rw [hhs3]
      (first | (intro _ h tk zt415; clear zt415; intro F2 N2; (first | (intro zt416; (first | refine Exists.elim zt416 ?_ | refine Mine.and_el zt416 ?_); intro Tb zt417; (try clear zt416); (first | refine Exists.elim zt417 ?_ | refine Mine.and_el zt417 ?_); intro t₆ zt418; (try clear zt417); (first | refine Exists.elim zt418 ?_ | refine Mine.and_el zt418 ?_); intro t₇ zt419; (try clear zt418); (first | refine Exists.elim zt419 ?_ | refine Mine.and_el zt419 ?_); intro t₈ zt420; (try clear zt419); (first | refine Exists.elim zt420 ?_ | refine Mine.and_el zt420 ?_); intro zt421 zt422; (try clear zt420); subst zt421; (first | refine Exists.elim zt422 ?_ | refine Mine.and_el zt422 ?_); intro hn hT; (try clear zt422)) | rintro ⟨Tb, t₆, t₇, t₈, rfl, hn, hT⟩)) | rintro _ h tk - F2 N2 ⟨Tb, t₆, t₇, t₈, rfl, hn, hT⟩)
      have N3 := news_add F hn hT N2
      have hne2 : @Ne Nat Ta Tb := new_ne hn N _ (List.Mem.head _)
      have hne3 : @Ne Nat I Tb := new_ne hn N _ (List.Mem.tail _ (List.Mem.head _))
      clear F N N2 hn hT
      rename Fr _ _ _ _ => F; rename News _ _ _ _ => N
      w_strict ((try dsimp only); k_steps)
      (try clear F N)
      rename Fr _ _ _ _ => F; rename News _ _ _ _ => N
      rw [show Str.ofString "." = S [46] by decide +kernel, S_append] at F
      refine hQ1 _ _ ?_; refine NextAt.mk (turn_end (_, _) F N (fun _ h => nomatch h) (by k_mem) (fun _ h => nomatch h) (by kst_all) (by (intro z h1 h2 h3; first | ((repeat (first | (with_reducible rfl) | refine Mine.sm_if (by first | exact h1 | exact Mine.sm_to (h2 _ (List.Mem.head _)) (by with_unfolding_all rfl) | exact Mine.sm_to (h2 _ (List.Mem.tail _ (List.Mem.head _))) (by with_unfolding_all rfl) | exact Mine.sm_to (h2 _ (List.Mem.tail _ (List.Mem.tail _ (List.Mem.head _)))) (by with_unfolding_all rfl) | exact Mine.sm_to (h2 _ (List.Mem.tail _ (List.Mem.tail _ (List.Mem.tail _ (List.Mem.head _))))) (by with_unfolding_all rfl) | exact Mine.sm_to (h2 _ (List.Mem.tail _ (List.Mem.tail _ (List.Mem.tail _ (List.Mem.tail _ (List.Mem.head _)))))) (by with_unfolding_all rfl) | exact Mine.sm_to (h2 _ (List.Mem.tail _ (List.Mem.tail _ (List.Mem.tail _ (List.Mem.tail _ (List.Mem.tail _ (List.Mem.head _))))))) (by with_unfolding_all rfl) | exact Mine.sm_to (h2 _ (List.Mem.tail _ (List.Mem.tail _ (List.Mem.tail _ (List.Mem.tail _ (List.Mem.tail _ (List.Mem.tail _ (List.Mem.head _)))))))) (by with_unfolding_all rfl) | exact Mine.sm_to (h2 _ (List.Mem.tail _ (List.Mem.tail _ (List.Mem.tail _ (List.Mem.tail _ (List.Mem.tail _ (List.Mem.tail _ (List.Mem.tail _ (List.Mem.head _))))))))) (by with_unfolding_all rfl) | exact Mine.sm_ne h3 (by with_unfolding_all rfl)) ?_ | refine Mine.sm_ifc h3 ?_ | refine Mine.sm_ifc (Mine.sm_sub h3 (by with_unfolding_all rfl)) ?_ | exact rfl)); done) | ((try simp only [List.forall_mem_cons, List.not_mem_nil, false_implies, implies_true, and_true, ne_eq] at h2); (try simp only [List.contains_cons, List.contains_nil, Bool.or_false, Bool.or_eq_false_iff, beq_eq_false_iff_ne, ne_eq] at h3); simp +zetaDelta [kstB, h1, h2, h3]))) ?_)
      exact (hlast _).mpr (by rw [nameC]; rw [if_neg (by decide), if_pos rfl])
    · (first | ((first | refine Exists.elim (Deep.facts hd) ?_ | refine Mine.and_el (Deep.facts hd) ?_); intro hd1 zt423; (first | refine Exists.elim zt423 ?_ | refine Mine.and_el zt423 ?_); intro hd2 zt424; (try clear zt423); (first | refine Exists.elim zt424 ?_ | refine Mine.and_el zt424 ?_); intro hd3 hd4; (try clear zt424)) | obtain ⟨hd1, hd2, hd3, hd4⟩ := Deep.facts hd)
      unfold placeOf at hd2 hd3 hd4
      simp only [if_neg hq2] at hcall
      have hq13 : q = 1 ∨ q = 3 := hm.elim (fun h => .inl h.1) fun h => .inr h.1
      w_strict ((try dsimp only); k_steps)
      all_goals try exact absurd (by assumption : q = 2) hq2
      refine Hold.mk ?_
      refine use_claim (hcall _ _ _) F N X T (by omega) (by omega) trivial ?_
      (first | (intro _ h tk zt425; clear zt425; intro F2 N2; (first | (intro zt426; (first | refine Exists.elim zt426 ?_ | refine Mine.and_el zt426 ?_); intro Ta zt427; (try clear zt426); (first | refine Exists.elim zt427 ?_ | refine Mine.and_el zt427 ?_); intro t₃ zt428; (try clear zt427); (first | refine Exists.elim zt428 ?_ | refine Mine.and_el zt428 ?_); intro t₄ zt429; (try clear zt428); (first | refine Exists.elim zt429 ?_ | refine Mine.and_el zt429 ?_); intro t₅ zt430; (try clear zt429); (first | refine Exists.elim zt430 ?_ | refine Mine.and_el zt430 ?_); intro zt431 zt432; (try clear zt430); subst zt431; (first | refine Exists.elim zt432 ?_ | refine Mine.and_el zt432 ?_); intro hn hT; (try clear zt432)) | rintro ⟨Ta, t₃, t₄, t₅, rfl, hn, hT⟩)) | rintro _ h tk - F2 N2 ⟨Ta, t₃, t₄, t₅, rfl, hn, hT⟩)
      have N3 := news_add F hn hT N2
      have hne1 : @Ne Nat I Ta := new_ne hn N _ (List.Mem.head _)
      clear F N N2 hn hT hcall
      rename Fr _ _ _ _ => F; rename News _ _ _ _ => N
      w_strict ((try dsimp only); k_steps)
      refine Hold.mk ?_
      (try clear F N)
      rename Fr _ _ _ _ => F; rename News _ _ _ _ => N
      refine use_claim (hsv hok) F N X T (by omega) (by omega) trivial ?_
      rw [hhs3]
      (first | (intro _ h tk zt433; clear zt433; intro F2 N2; (first | (intro zt434; (first | refine Exists.elim zt434 ?_ | refine Mine.and_el zt434 ?_); intro Tb zt435; (try clear zt434); (first | refine Exists.elim zt435 ?_ | refine Mine.and_el zt435 ?_); intro t₆ zt436; (try clear zt435); (first | refine Exists.elim zt436 ?_ | refine Mine.and_el zt436 ?_); intro t₇ zt437; (try clear zt436); (first | refine Exists.elim zt437 ?_ | refine Mine.and_el zt437 ?_); intro t₈ zt438; (try clear zt437); (first | refine Exists.elim zt438 ?_ | refine Mine.and_el zt438 ?_); intro zt439 zt440; (try clear zt438); subst zt439; (first | refine Exists.elim zt440 ?_ | refine Mine.and_el zt440 ?_); intro hn hT; (try clear zt440)) | rintro ⟨Tb, t₆, t₇, t₈, rfl, hn, hT⟩)) | rintro _ h tk - F2 N2 ⟨Tb, t₆, t₇, t₈, rfl, hn, hT⟩)
      have N3 := news_add F hn hT N2
      have hne2 : @Ne Nat Ta Tb := new_ne hn N _ (List.Mem.head _)
      have hne3 : @Ne Nat I Tb := new_ne hn N _ (List.Mem.tail _ (List.Mem.head _))
      clear F N N2 hn hT
      rename Fr _ _ _ _ => F; rename News _ _ _ _ => N
      w_strict ((try dsimp only); k_steps)
      · rename (Float64.cmp _ _ == some Ordering.lt) = true => e9
        rcases hm with ⟨rfl, hm⟩ | ⟨rfl, hm⟩
        rotate_left
        · rw [hm] at e9; cases e9
        (try clear F N)
        rename Fr _ _ _ _ => F; rename News _ _ _ _ => N
        rw [hd4, low_name, S_append] at F
        refine hQ1 _ _ ?_; refine NextAt.mk (turn_end (_, _) F N (fun _ h => nomatch h) (by k_mem) (fun _ h => nomatch h) (by kst_all) (by (intro z h1 h2 h3; first | ((repeat (first | (with_reducible rfl) | refine Mine.sm_if (by first | exact h1 | exact Mine.sm_to (h2 _ (List.Mem.head _)) (by with_unfolding_all rfl) | exact Mine.sm_to (h2 _ (List.Mem.tail _ (List.Mem.head _))) (by with_unfolding_all rfl) | exact Mine.sm_to (h2 _ (List.Mem.tail _ (List.Mem.tail _ (List.Mem.head _)))) (by with_unfolding_all rfl) | exact Mine.sm_to (h2 _ (List.Mem.tail _ (List.Mem.tail _ (List.Mem.tail _ (List.Mem.head _))))) (by with_unfolding_all rfl) | exact Mine.sm_to (h2 _ (List.Mem.tail _ (List.Mem.tail _ (List.Mem.tail _ (List.Mem.tail _ (List.Mem.head _)))))) (by with_unfolding_all rfl) | exact Mine.sm_to (h2 _ (List.Mem.tail _ (List.Mem.tail _ (List.Mem.tail _ (List.Mem.tail _ (List.Mem.tail _ (List.Mem.head _))))))) (by with_unfolding_all rfl) | exact Mine.sm_to (h2 _ (List.Mem.tail _ (List.Mem.tail _ (List.Mem.tail _ (List.Mem.tail _ (List.Mem.tail _ (List.Mem.tail _ (List.Mem.head _)))))))) (by with_unfolding_all rfl) | exact Mine.sm_to (h2 _ (List.Mem.tail _ (List.Mem.tail _ (List.Mem.tail _ (List.Mem.tail _ (List.Mem.tail _ (List.Mem.tail _ (List.Mem.tail _ (List.Mem.head _))))))))) (by with_unfolding_all rfl) | exact Mine.sm_ne h3 (by with_unfolding_all rfl)) ?_ | refine Mine.sm_ifc h3 ?_ | refine Mine.sm_ifc (Mine.sm_sub h3 (by with_unfolding_all rfl)) ?_ | exact rfl)); done) | ((try simp only [List.forall_mem_cons, List.not_mem_nil, false_implies, implies_true, and_true, ne_eq] at h2); (try simp only [List.contains_cons, List.contains_nil, Bool.or_false, Bool.or_eq_false_iff, beq_eq_false_iff_ne, ne_eq] at h3); simp +zetaDelta [kstB, h1, h2, h3]))) ?_)
        exact (hlast _).mpr (by rw [nameC]; rw [if_pos rfl])
      · rename (Float64.cmp _ _ == some Ordering.lt) = false => e9
        rcases hm with ⟨rfl, hm⟩ | ⟨rfl, hm⟩
        · rw [hm] at e9; cases e9
        (try clear F N)
        rename Fr _ _ _ _ => F; rename News _ _ _ _ => N
        rw [hd4, cap_name, S_append] at F
        refine hQ1 _ _ ?_; refine NextAt.mk (turn_end (_, _) F N (fun _ h => nomatch h) (by k_mem) (fun _ h => nomatch h) (by kst_all) (by (intro z h1 h2 h3; first | ((repeat (first | (with_reducible rfl) | refine Mine.sm_if (by first | exact h1 | exact Mine.sm_to (h2 _ (List.Mem.head _)) (by with_unfolding_all rfl) | exact Mine.sm_to (h2 _ (List.Mem.tail _ (List.Mem.head _))) (by with_unfolding_all rfl) | exact Mine.sm_to (h2 _ (List.Mem.tail _ (List.Mem.tail _ (List.Mem.head _)))) (by with_unfolding_all rfl) | exact Mine.sm_to (h2 _ (List.Mem.tail _ (List.Mem.tail _ (List.Mem.tail _ (List.Mem.head _))))) (by with_unfolding_all rfl) | exact Mine.sm_to (h2 _ (List.Mem.tail _ (List.Mem.tail _ (List.Mem.tail _ (List.Mem.tail _ (List.Mem.head _)))))) (by with_unfolding_all rfl) | exact Mine.sm_to (h2 _ (List.Mem.tail _ (List.Mem.tail _ (List.Mem.tail _ (List.Mem.tail _ (List.Mem.tail _ (List.Mem.head _))))))) (by with_unfolding_all rfl) | exact Mine.sm_to (h2 _ (List.Mem.tail _ (List.Mem.tail _ (List.Mem.tail _ (List.Mem.tail _ (List.Mem.tail _ (List.Mem.tail _ (List.Mem.head _)))))))) (by with_unfolding_all rfl) | exact Mine.sm_to (h2 _ (List.Mem.tail _ (List.Mem.tail _ (List.Mem.tail _ (List.Mem.tail _ (List.Mem.tail _ (List.Mem.tail _ (List.Mem.tail _ (List.Mem.head _))))))))) (by with_unfolding_all rfl) | exact Mine.sm_ne h3 (by with_unfolding_all rfl)) ?_ | refine Mine.sm_ifc h3 ?_ | refine Mine.sm_ifc (Mine.sm_sub h3 (by with_unfolding_all rfl)) ?_ | exact rfl)); done) | ((try simp only [List.forall_mem_cons, List.not_mem_nil, false_implies, implies_true, and_true, ne_eq] at h2); (try simp only [List.contains_cons, List.contains_nil, Bool.or_false, Bool.or_eq_false_iff, beq_eq_false_iff_ne, ne_eq] at h3); simp +zetaDelta [kstB, h1, h2, h3]))) ?_)
        exact (hlast _).mpr (by rw [nameC]; rw [if_neg (by decide), if_neg (by decide)])
  · clear F N
    (first | ((first | (intro zt441; (first | refine Exists.elim zt441 ?_ | refine Mine.and_el zt441 ?_); intro tx tt; (try clear zt441)) | rintro ⟨tx, tt⟩); intro u h tk hP F N) | rintro ⟨tx, tt⟩ u h tk hP F N)
    dsimp only at F N hP
    subst hP
    w_strict ((try dsimp only); k_steps)
    refine hQ0 _ _ ?_; with_unfolding_all refine done_ret (by assumption) ?_
    exact ⟨_, rfl⟩
end Mine
end
section
open PySem PySem.W PySem.Spec PyProof.Rows
set_option maxRecDepth 100000
set_option maxHeartbeats 8000000
namespace Mine
/-- a set of texts: what it holds, how many, and that a set that holds a text is not plain -/
noncomputable def SetP (prog : Program) (w : World) (o : Obj) (X : Str → Bool) (n : Nat) : Prop :=
  o.ExactSet ∧ ∃ es ep t, o.data = .set es ep t ∧ ElemsOf (PySem.strKind prog w) es.toList ∧ (∀ k, X k = true ↔ ∃ e ∈ es.toList, (PySem.strKind prog w).is k e.2 = true) ∧ es.size < scanBound ∧ t.fits es.size = true ∧ es.size = n ∧ (0 < es.size → t.plain = false)
theorem relayAll_plain {t : SetTable} {es : Array (Int × Value)} {k : Nat} (h : t.plain = false) : (relayAll t es k).2.1.plain = false := by
  unfold relayAll
  split
  · rename_i t' order he
    dsimp only
    split
    · unfold SetTable.relaid SetTable.laid at he
      cases hc : SetTable.layClean (SetTable.sizeAbove k - 1) (es.map (·.1)) with
      | none => rw [hc] at he; cases he
      | some ow =>
        rw [hc] at he
        have := (Prod.mk.inj (Option.some.inj he)).1
        rw [← this]; exact h
    · rfl
  · rfl
section
variable {prog : Program} {w : World} {A : Around} {E : Value → Shared → Prop} {s : Shared}
theorem SetP.store {h : Heap} {a : Addr} {o : Obj} {es es' : Array (Int × Value)} {ep : Nat} {t t' : SetTable} {X : Str → Bool} (ho : h.get? a = some o) (hex : o.ExactSet) (hd : o.data = .set es ep t)
    (hel : ElemsOf (PySem.strKind prog w) es'.toList) (hmem : ∀ k, X k = true ↔ ∃ e ∈ es'.toList, (PySem.strKind prog w).is k e.2 = true) (hb : es'.size < scanBound) (hf : t'.fits es'.size = true) (hp : t'.plain = false) :
    (h.update a (Obj.putSet es' t')).get? a = some { o with data := .set es' (ep + 1) t' } ∧ SetP prog w { o with data := .set es' (ep + 1) t' } X es'.size :=
  ⟨(SetOf_store (knd := PySem.strKind prog w) ho hex hd hel hmem hb hf).1, hex, es', ep + 1, t', rfl, hel, hmem, hb, hf, rfl, fun _ => hp⟩
theorem setAdd_P {a : Addr} {o : Obj} {X : Str → Bool} {n : Nat} {k : Str} {tk : Tok} {Q : Bool → Shared → Prop} (ho : s.heap.get? a = some o) (hP : SetP prog w o X n) (hroom : n + 1 < scanBound)
    (h : ∀ h' o', Heap.SameBut a s.heap h' → h'.get? a = some o' → SetP prog w o' (fun k' => X k' || decide (k' = k)) (if X k then n else n + 1) → Q (!X k) { s with heap := h' }) :
    wpAny (model prog w) A (setAddHashed a (.str k tk) ((PySem.strKind prog w).hash k)) Q E s := by
  (first | ((first | refine Exists.elim hP ?_ | refine Mine.and_el hP ?_); intro hex zt442; (try clear hP); (first | refine Exists.elim zt442 ?_ | refine Mine.and_el zt442 ?_); intro es zt443; (try clear zt442); (first | refine Exists.elim zt443 ?_ | refine Mine.and_el zt443 ?_); intro ep zt444; (try clear zt443); (first | refine Exists.elim zt444 ?_ | refine Mine.and_el zt444 ?_); intro t zt445; (try clear zt444); (first | refine Exists.elim zt445 ?_ | refine Mine.and_el zt445 ?_); intro hd zt446; (try clear zt445); (first | refine Exists.elim zt446 ?_ | refine Mine.and_el zt446 ?_); intro hel zt447; (try clear zt446); (first | (refine Mine.at_el zt447 ?_; clear zt447; intro hmem hb hf zt451 hn hpl; subst zt451) | ((first | refine Exists.elim zt447 ?_ | refine Mine.and_el zt447 ?_); intro hmem zt448; (try clear zt447); (first | refine Exists.elim zt448 ?_ | refine Mine.and_el zt448 ?_); intro hb zt449; (try clear zt448); (first | refine Exists.elim zt449 ?_ | refine Mine.and_el zt449 ?_); intro hf zt450; (try clear zt449); (first | refine Exists.elim zt450 ?_ | refine Mine.and_el zt450 ?_); intro hn hpl; (try clear zt450)))) | obtain ⟨hex, es, ep, t, hd, hel, hmem, hb, hf, hn, hpl⟩ := hP)
  have hkey : (PySem.strKind prog w).is k (.str k tk) = true := strKind_is _ _ _ _
  have hsc : (Value.str k tk).scannable = true := rfl
  have hb1 : es.size + 1 < scanBound := by rw [hn]; exact hroom
  unfold setAddHashed setAddHashedIn
  refine wpAny_holding (wpAny_bind (wpAny_setState_of ho hd hf ?_))
  dsimp only
  rw [byScan_of hsc hb hel]
  simp only [↓reduceIte]
  unfold setAddByScan
  refine wpAny_bind (wpAny_bind (wpAny_rule (wpAny_bind (wpAny_setScan_of hkey ho hd hf hel ?_))))
  cases hr : List.findIdx? (fun e => (PySem.strKind prog w).is k e.2) es.toList with
  | some j =>
    dsimp only
    (first | ((first | refine Exists.elim (List.findIdx?_eq_some_iff_getElem.mp hr) ?_ | refine Mine.and_el (List.findIdx?_eq_some_iff_getElem.mp hr) ?_); intro hj zt452; (first | refine Exists.elim zt452 ?_ | refine Mine.and_el zt452 ?_); intro hpj zt453; (try clear zt452)) | obtain ⟨hj, hpj, _⟩ := List.findIdx?_eq_some_iff_getElem.mp hr)
    have hXk : X k = true := (hmem k).mpr ⟨es.toList[j], List.getElem_mem hj, hpj⟩
    refine wpAny_pure (wpAny_pure ?_)
    have := h s.heap o (Heap.SameBut.refl a s.heap) ho ⟨hex, es, ep, t, hd, hel, fun k' => by
      rw [Bool.or_eq_true, decide_eq_true_eq, ← hmem k']
      exact ⟨fun hk => hk.elim id (fun e => e ▸ hXk), .inl⟩, hb, hf, by rw [hXk]; exact hn, hpl⟩
    rw [hXk] at this
    exact this
  | none =>
    dsimp only
    have hXk : X k = false := by
      cases hk : X k with
      | false => rfl
      | true =>
        (first | ((first | refine Exists.elim ((hmem k).mp hk) ?_ | refine Mine.and_el ((hmem k).mp hk) ?_); intro e zt454; (first | refine Exists.elim zt454 ?_ | refine Mine.and_el zt454 ?_); intro he hp; (try clear zt454)) | obtain ⟨e, he, hp⟩ := (hmem k).mp hk)
        have := List.findIdx?_eq_none_iff.mp hr e he
        rw [hp] at this; exact Bool.noConfusion this
    have hgw : ∀ (b : Bool) {s₁ : Shared} {Q' : Unit → Shared → Prop}, Q' () s₁ → wpAny (model prog w) A (match b with | true => rule "set.scan.the-table-gave-way" | false => pure ()) Q' E s₁ :=
      fun b s₁ Q' hq => by cases b <;> first | exact wpAny_pure hq | exact wpAny_rule hq
    have hperm := layNew_perm t es ((PySem.strKind prog w).hash k) (.str k tk)
    have hfits := layNew_fits t es ((PySem.strKind prog w).hash k) (.str k tk)
    generalize layNew t es ((PySem.strKind prog w).hash k) (.str k tk) = Ly at hperm hfits ⊢
    (first | ((first | refine Exists.elim Ly ?_ | refine Mine.and_el Ly ?_); intro es1 zt455; (try clear Ly); (first | refine Exists.elim zt455 ?_ | refine Mine.and_el zt455 ?_); intro t1 zt456; (try clear zt455); (first | refine Exists.elim zt456 ?_ | refine Mine.and_el zt456 ?_); intro was gave; (try clear zt456)) | obtain ⟨es1, t1, was, gave⟩ := Ly)
    dsimp only at hperm hfits ⊢
    rw [Array.toList_push] at hperm
    have hel1 : ElemsOf (PySem.strKind prog w) es1.toList := (hel.push hkey hsc).perm hperm
    have hmem1 : ∀ k', (X k' || decide (k' = k)) = true ↔ ∃ e ∈ es1.toList, (PySem.strKind prog w).is k' e.2 = true := mem_push_iff hkey hmem hperm
    have hsz1 : es1.size = n + 1 := by rw [← Array.length_toList, hperm.length_eq, List.length_append, Array.length_toList, hn]; rfl
    have hb1' : es1.size < scanBound := by rw [hsz1]; exact hroom
    refine wpAny_bind (hgw _ ?_)
    -- behind it the table is not plain
    have tail : ∀ t2 : SetTable, t2.fits es1.size = true → t2.plain = false → wpAny (model prog w) A (do
        storeSet a es1 t2
        if (!was && t2.tooFull) = true then do
            (match (relayAll t2 es1 (SetTable.grown es1.size)).2.2 with | true => rule "set.scan.the-table-gave-way" | false => pure ())
            storeSet a (relayAll t2 es1 (SetTable.grown es1.size)).1 (relayAll t2 es1 (SetTable.grown es1.size)).2.1
            pure (some true)
          else pure (some true)) (fun r s' => r = some true ∧ ∃ h' o', s' = { s with heap := h' } ∧ Heap.SameBut a s.heap h' ∧ h'.get? a = some o' ∧ SetP prog w o' (fun k' => X k' || decide (k' = k)) (n + 1)) E s := by
      intro t2 hf2 hp2
      refine wpAny_bind (wpAny_storeSet_of ho hd ?_ (fits_of_scanBound hb1'))
      (first | ((first | refine Exists.elim (SetP.store (prog := prog) (w := w) ho hex hd hel1 hmem1 hb1' hf2 hp2) ?_ | refine Mine.and_el (SetP.store (prog := prog) (w := w) ho hex hd hel1 hmem1 hb1' hf2 hp2) ?_); intro ho1 hS1) | obtain ⟨ho1, hS1⟩ := SetP.store (prog := prog) (w := w) ho hex hd hel1 hmem1 hb1' hf2 hp2)
      have hsb1 := Heap.SameBut.update s.heap a (Obj.putSet es1 t2)
      split
      · have hp := relayAll_perm t2 es1 (SetTable.grown es1.size)
        have hfr := relayAll_fits t2 es1 (SetTable.grown es1.size)
        have hpr := relayAll_plain (es := es1) (k := SetTable.grown es1.size) hp2
        generalize relayAll t2 es1 (SetTable.grown es1.size) = Rl at hp hfr hpr ⊢
        (first | ((first | refine Exists.elim Rl ?_ | refine Mine.and_el Rl ?_); intro es2 zt457; (try clear Rl); (first | refine Exists.elim zt457 ?_ | refine Mine.and_el zt457 ?_); intro t3 gave2; (try clear zt457)) | obtain ⟨es2, t3, gave2⟩ := Rl)
        dsimp only at hp hfr hpr ⊢
        have hmem2 : ∀ k', (X k' || decide (k' = k)) = true ↔ ∃ e ∈ es2.toList, (PySem.strKind prog w).is k' e.2 = true := fun k' => (hmem1 k').trans ⟨fun ⟨e, he, q⟩ => ⟨e, hp.mem_iff.mpr he, q⟩, fun ⟨e, he, q⟩ => ⟨e, hp.mem_iff.mp he, q⟩⟩
        have hsz : es2.size = es1.size := by rw [← Array.length_toList, hp.length_eq, Array.length_toList]
        have hb2 : es2.size < scanBound := by rw [hsz]; exact hb1'
        refine wpAny_bind (hgw _ ?_)
        refine wpAny_bind (wpAny_storeSet_of ho1 rfl ?_ (fits_of_scanBound hb2))
        (first | ((first | refine Exists.elim (SetP.store (prog := prog) (w := w) ho1 hex rfl (hel1.perm hp) hmem2 hb2 hfr hpr) ?_ | refine Mine.and_el (SetP.store (prog := prog) (w := w) ho1 hex rfl (hel1.perm hp) hmem2 hb2 hfr hpr) ?_); intro ho2 hS2) | obtain ⟨ho2, hS2⟩ := SetP.store (prog := prog) (w := w) ho1 hex rfl (hel1.perm hp) hmem2 hb2 hfr hpr)
        rw [hsz, hsz1] at hS2
        exact wpAny_pure ⟨rfl, _, _, rfl, hsb1.trans (Heap.SameBut.update _ a _), ho2, hS2⟩
      · rw [hsz1] at hS1
        exact wpAny_pure ⟨rfl, _, _, rfl, hsb1, ho1, hS1⟩
    have fin : ∀ (r : Option Bool) (s' : Shared), (r = some true ∧ ∃ h' o', s' = { s with heap := h' } ∧ Heap.SameBut a s.heap h' ∧ h'.get? a = some o' ∧ SetP prog w o' (fun k' => X k' || decide (k' = k)) (n + 1)) →
        wpAny (model prog w) A (match r with | some added => pure added | none => setAddHashedIn a (.str k tk) ((PySem.strKind prog w).hash k) 99999) Q E s' := by
      (first | (intro r s'; (first | (intro zt458; (first | refine Exists.elim zt458 ?_ | refine Mine.and_el zt458 ?_); intro zt459 zt460; (try clear zt458); subst zt459; (first | refine Exists.elim zt460 ?_ | refine Mine.and_el zt460 ?_); intro h' zt461; (try clear zt460); (first | refine Exists.elim zt461 ?_ | refine Mine.and_el zt461 ?_); intro o' zt462; (try clear zt461); (first | refine Exists.elim zt462 ?_ | refine Mine.and_el zt462 ?_); intro zt463 zt464; (try clear zt462); subst zt463; (first | refine Exists.elim zt464 ?_ | refine Mine.and_el zt464 ?_); intro h1 zt465; (try clear zt464); (first | refine Exists.elim zt465 ?_ | refine Mine.and_el zt465 ?_); intro h2 h3; (try clear zt465)) | rintro ⟨rfl, h', o', rfl, h1, h2, h3⟩)) | rintro r s' ⟨rfl, h', o', rfl, h1, h2, h3⟩)
      have := h h' o' h1 h2
      rw [hXk] at this
      exact wpAny_pure (this h3)
    split
    · refine wpAny_bind ?_
      rw [hashByValue_scannable 8 hsc]
      refine wpAny_pure ?_
      exact wpAny_mono (tail { t1 with plain := false } (SetTable.fits_plain_off hfits) rfl) fin fun _ _ e => e
    · rename ¬ (t1.plain = true) => hpt
      refine wpAny_bind (wpAny_pure ?_)
      exact wpAny_mono (tail t1 hfits (by simpa using hpt)) fin fun _ _ e => e
theorem dedA (σ : List Str) (v k : Str) : (step_dedup σ v).any (· == k) = (σ.any (· == k) || decide (k = v)) := by
  unfold step_dedup
  by_cases h : σ.any (· == v) = true
  · rw [if_pos h]
    by_cases e : k = v
    · subst e; rw [h]; simp
    · simp [e]
  · rw [if_neg h, List.any_append]
    by_cases e : k = v
    · subst e; simp
    · have hb : (v == k) = false := by simpa [beq_iff_eq] using (fun h' : v = k => e h'.symm)
      simp [hb, e]
theorem dedL (σ : List Str) (v : Str) : (step_dedup σ v).length = if σ.any (· == v) then σ.length else σ.length + 1 := by
  unfold step_dedup; split <;> simp
noncomputable def ded (val : Nat → Str) (i : Nat) : List Str := ((List.range i).map val).foldl step_dedup []
theorem ded_succ (val : Nat → Str) (i : Nat) : ded val (i + 1) = step_dedup (ded val i) (val i) := by
  unfold ded; rw [List.range_succ, List.map_append, List.foldl_append]; rfl
theorem ded_le (val : Nat → Str) : ∀ i, (ded val i).length ≤ i
  | 0 => Nat.le_refl _
  | i + 1 => by
    rw [ded_succ, dedL]
    have := ded_le val i
    split <;> omega
theorem SetP.congr {o : Obj} {X Y : Str → Bool} {n k : Nat} (h : SetP prog w o X n) (e : ∀ k, X k = Y k) (en : n = k) : SetP prog w o Y k := by
  have : X = Y := funext e
  subst this; subst en; exact h
noncomputable def SetAt (prog : Program) (w : World) (h : Heap) (a : Addr) (σ : List Str) : Prop := ∃ o, h.get? a = some o ∧ SetP prog w o (fun k => σ.any (· == k)) σ.length
section
variable {R : Result → Shared → Prop} {I : Addr} {fp wr : List Addr} {G : Array GenState → Array GenState → Prop} {n : Nat} {P : Nat → Value → Prop} {St : Nat → Shared → Prop}
theorem upd_loop (W : WalksS prog w A.in1 I fp wr G n P St) (D : Addr) (hDf : D ∉ fp) (val : Nat → Str) (hval : ∀ i v, P i v → ∃ t, v = .str (val i) t) (hb : n + 1 < scanBound) :
    ∀ (k i : Nat) (s : Shared), n - i = k → i ≤ n → St i s → SetAt prog w s.heap D (ded val i) →
      (∀ s', Moved (D :: wr) G s s' → SetAt prog w s'.heap D (ded val n) → R (.ok (.ret .none)) s') →
      codeAny (model prog w) A (.builtin "set.update.loop" ⟨[.ref D, .ref I], []⟩) R s := by
  have hDw : D ∉ wr := fun h => hDf (W.sub _ h)
  have hsub : ∀ b ∈ wr, b ∈ D :: wr := fun b hb => List.mem_cons_of_mem _ hb
  intro k
  induction k with
  | zero =>
    intro i s hk hi hst hD hR
    have hin : i = n := by omega
    subst hin
    refine codeAny_builtin PyProof.Rows.F.entry_set_update_loop ?_
    rw [Around.under_plainId PyProof.Rows.F.plain_set_update_loop _]
    show wpAny _ A.in1 (pyNext (.ref I) >>= _) _ _ s
    refine wpAny_bind (W.done s _ _ hst fun s' hm => ?_)
    show wpAny _ A.in1 (ret Value.none) _ _ s'
    (first | ((first | refine Exists.elim hD ?_ | refine Mine.and_el hD ?_); intro o zt466; (try clear hD); (first | refine Exists.elim zt466 ?_ | refine Mine.and_el zt466 ?_); intro ho hp; (try clear zt466)) | obtain ⟨o, ho, hp⟩ := hD)
    exact wpAny_pure (hR s' (hm.mono hsub) ⟨o, hm.heap D _ hDw ho, hp⟩)
  | succ k ih =>
    intro i s hk hi hst hD hR
    have hlt : i < n := by omega
    refine codeAny_builtin PyProof.Rows.F.entry_set_update_loop ?_
    rw [Around.under_plainId PyProof.Rows.F.plain_set_update_loop _]
    show wpAny _ A.in1 (pyNext (.ref I) >>= _) _ _ s
    refine wpAny_bind (W.item i s _ _ hlt hst fun v s' hP hst' hm => ?_)
    (first | ((first | refine Exists.elim (hval i v hP) ?_ | refine Mine.and_el (hval i v hP) ?_); intro t zt467; subst zt467) | obtain ⟨t, rfl⟩ := hval i v hP)
    (first | ((first | refine Exists.elim hD ?_ | refine Mine.and_el hD ?_); intro o zt468; (try clear hD); (first | refine Exists.elim zt468 ?_ | refine Mine.and_el zt468 ?_); intro ho hp; (try clear zt468)) | obtain ⟨o, ho, hp⟩ := hD)
    show wpAny _ A.in1 (holding [Value.str (val i) t] (setAdd D (.str (val i) t)) >>= _) _ _ s'
    refine wpAny_bind (wpAny_holding ?_)
    unfold setAdd
    refine wpAny_holding ?_
    refine wpAny_bind ((PySem.strKind prog w).pyHash (k := val i) (strKind_is _ _ _ _) ?_)
    have hroom : (ded val i).length + 1 < scanBound := by have := ded_le val i; omega
    refine setAdd_P (s := { s' with toks := s'.toks + 1 }) (hm.heap D _ hDw ho) hp hroom fun h' o' hsb ho' hp' => ?_
    have hDi : SetAt prog w h' D (ded val (i + 1)) := ⟨o', ho', hp'.congr (fun k' => by rw [ded_succ, dedA]) (by rw [ded_succ, dedL])⟩
    refine wpAny_pure ⟨plainId_quiet PyProof.Rows.F.plain_set_update_loop _, ih (i + 1) _ (by omega) hlt (W.frame _ s' _ _ hst' (Nat.le_succ _) fun b hb o e => ?_) hDi fun s'' hm'' hD'' => ?_⟩
    · rw [hsb.2 b (fun h : b = D => hDf (by rw [← h]; exact hb))]; exact e
    · refine hR s'' (Moved.trans W.gtrans ((hm.mono hsub).then_heap (Nat.le_succ _) fun b o hb e => ?_) hm'') hD''
      rw [hsb.2 b (fun h : b = D => hb (by rw [h]; exact List.mem_cons_self))]; exact e
end
theorem typeCall_set (a : Value) : checkTypeCall "set" ⟨[a], []⟩ = pure () := by kernel_rfl
theorem call_set_text {l : List Nat} {tx : Tok} {Q : Value → Shared → Prop} (hh : A.handled = none) (hx : ∀ c ∈ l, c < 128) (hb : l.length + 1 < scanBound)
    (h : ∀ (h' : Heap) (tk : Nat), SetAt prog w h' s.heap.objs.size (ded (fun i => S [l.getD i 0]) l.length) → (∀ b o, b < s.heap.objs.size → s.heap.get? b = some o → h'.get? b = some o) → Q (.ref s.heap.objs.size) { s with heap := h', toks := tk }) :
    wpAny (model prog w) A (call (.type "set") [.str (S l) tx]) Q E s := by
  have hasc : (S l).cps.all (· < 128) = true := by
    rw [Array.all_eq_true]
    intro i hi
    have : (S l).cps[i] ∈ (S l).cps.toList := by simp
    rw [S_cps] at this
    simpa using hx _ this
  have hsz : (S l).cps.size = l.length := by simp [S]
  (first | ((first | refine Exists.elim (PySem.F.called_set.mro) ?_ | refine Mine.and_el (PySem.F.called_set.mro) ?_); intro c zt469; (first | refine Exists.elim zt469 ?_ | refine Mine.and_el zt469 ?_); intro tl hmro; (try clear zt469)) | obtain ⟨c, tl, hmro⟩ := PySem.F.called_set.mro)
  have hmade := PySem.F.called_set.made
  have hsub := PySem.F.called_set.sub
  refine wpAny_call (codeAny_of_tree ?_)
  show wpAny _ _ (callAny (.type "set") _) _ _ _
  refine wpAny_pure ⟨Code.quiet_builtin _ (by decide +kernel), codeAny_builtin PySem.F.entry_type_call ?_⟩
  rw [Around.under_plain (weight_type_call_type "set" [.str (S l) tx] []) rfl]
  have h1 := PySem.F.called_set.notType
  have h2 := PySem.F.called_set.canCreate
  have hct := typeCall_set (.str (S l) tx)
  repeat (any_goals (first | assumption | wp_step))
  clear h1 h2 hct hmro hmade
  refine codeAny_mono (code_set_new_1 (.str (S l) tx) (E := E) (Q₁ := fun obj s₁ => ∃ led : Bool, obj = .ref s.heap.objs.size ∧ s₁ = { s with heap := s.heap.push { cls := .type "set", dict := none, data := .set #[] 0 (.fresh 0 0 led) } }) fun led => ⟨led, rfl, rfl⟩) fun r s₁ hr => ?_
  cases r with
  | error e => exact hr
  | ok fl =>
    cases fl with
    | ret obj =>
      (first | ((first | refine Exists.elim hr ?_ | refine Mine.and_el hr ?_); intro led zt470; (try clear hr); (first | refine Exists.elim zt470 ?_ | refine Mine.and_el zt470 ?_); intro zt471 zt472; (try clear zt470); subst zt471; subst zt472) | obtain ⟨led, rfl, rfl⟩ := hr)
      have hS : (s.heap.push { cls := .type "set", dict := none, data := .set #[] 0 (.fresh 0 0 led) }).get? s.heap.objs.size = some { cls := .type "set", dict := none, data := .set #[] 0 (.fresh 0 0 led) } := Heap.get?_push_size _ rfl
      have hT : Shared.TypeIs { s with heap := s.heap.push { cls := .type "set", dict := none, data := .set #[] 0 (.fresh 0 0 led) } } (.ref s.heap.objs.size) "set" := ⟨_, hS, rfl⟩
      have hli := PySem.F.called_set.init.lookup
      have hbi := PySem.F.called_set.init.bind (.ref s.heap.objs.size)
      repeat (any_goals (first | assumption | wp_step))
      refine codeAny_mono (codeAny_call_builtin (R := wants (fun r s₂ => r = .none ∧ ∃ h' tk, s₂ = { s with heap := h', toks := tk } ∧
          SetAt prog w h' s.heap.objs.size (ded (fun i => S [l.getD i 0]) l.length) ∧
          (∀ b o, b < s.heap.objs.size → s.heap.get? b = some o → h'.get? b = some o)) E) PySem.F.called_set.init.plain PySem.F.entry_set_init (check_set_init_1 hT ?_)) fun r₂ s₂ hr₂ => ?_
      · have hsls := PySem.F.sub_str_set
        have hslf := PySem.F.sub_str_frozenset
        have hne : (Value.type "str" == Value.type "dict") = false := by decide
        unfold Builtin.«set.__init__» noKeywords Builtin.Frozenset.updateFrom
        generalize hPI : pyIter = PI
        wp_walk
        subst hPI
        refine wpAny_pyIter_ascii hasc ?_
        refine wpAny_bind (wpAny_runValue ?_)
        have hh3 : A.in1.in1.in1.handled = none := by simp [hh]
        have hDf : s.heap.objs.size ∉ [(s.heap.push { cls := .type "set", dict := none, data := .set #[] 0 (.fresh 0 0 led) }).objs.size] := by
          rw [Heap.size_push]; simp
        have hval : ∀ (i : Nat) (v : Value), SignAt (S l) i v → ∃ t, v = .str ((fun i => S [l.getD i 0]) i) t := by
          (first | (intro i v; (first | (intro zt473; (first | refine Exists.elim zt473 ?_ | refine Mine.and_el zt473 ?_); intro c zt474; (try clear zt473); (first | refine Exists.elim zt474 ?_ | refine Mine.and_el zt474 ?_); intro t zt475; (try clear zt474); (first | refine Exists.elim zt475 ?_ | refine Mine.and_el zt475 ?_); intro h1 zt476; (try clear zt475); subst zt476) | rintro ⟨c, t, h1, rfl⟩)) | rintro i v ⟨c, t, h1, rfl⟩)
          have h2 : l[i]? = some c := by rw [← S_cps l, Array.getElem?_toList]; exact h1
          refine ⟨t, ?_⟩
          show _ = Value.str (S [l.getD i 0]) t
          rw [List.getD_eq_getElem?_getD, h2]
          rfl
        refine upd_loop ((Walks.strAscii hh3 _ (S l) tx).toS) s.heap.objs.size hDf (fun i => S [l.getD i 0]) hval (by rw [hsz]; exact hb) ((S l).cps.size - 0) 0 _ (by omega) (Nat.zero_le _) ⟨_, Heap.get?_push_size _ rfl, rfl, rfl⟩ ?_ ?_
        · exact ⟨_, Heap.get?_push_of_some _ hS, ⟨rfl, rfl, rfl⟩, #[], 0, _, rfl, fun e he => by simp at he, fun k => by simp [ded], by unfold scanBound; simp, by rfl, rfl, fun h => by simp at h⟩
        · intro s' hm hS'
          (first | ((first | (refine Mine.at_el s' ?_; clear s'; intro h' g' d' zt480 tk' os'; subst zt480) | ((first | refine Exists.elim s' ?_ | refine Mine.and_el s' ?_); intro h' zt477; (try clear s'); (first | refine Exists.elim zt477 ?_ | refine Mine.and_el zt477 ?_); intro g' zt478; (try clear zt477); (first | refine Exists.elim zt478 ?_ | refine Mine.and_el zt478 ?_); intro d' zt479; (try clear zt478); (first | refine Exists.elim zt479 ?_ | refine Mine.and_el zt479 ?_); intro tk' os'; (try clear zt479)))) | obtain ⟨h', g', d', tk', os'⟩ := s')
          have eg : g' = s.gens := hm.gens
          have ed : d' = s.drawn := hm.drawn
          have eo : os' = s.os := hm.os
          subst eg; subst ed; subst eo
          show wpAny _ _ _ _ _ _
          refine wpAny_pure ?_
          show wpAny _ _ (ret Value.none) _ _ _
          rw [hsz] at hS'
          refine wpAny_pure ⟨rfl, h', tk', rfl, hS', fun b o hb e => ?_⟩
          have hb1 : b ≠ s.heap.objs.size := Nat.ne_of_lt hb
          have hb2 : b ≠ (s.heap.push { cls := .type "set", dict := none, data := .set #[] 0 (.fresh 0 0 led) }).objs.size := by
            rw [Heap.size_push]; exact Nat.ne_of_lt (Nat.lt_succ_of_lt hb)
          exact hm.heap b o (by simp only [List.mem_cons, List.mem_singleton, List.not_mem_nil, or_false, not_or]; exact ⟨hb1, hb2⟩) (Heap.get?_push_of_some _ (Heap.get?_push_of_some _ e))
      · cases r₂ with
        | error e => exact hr₂
        | ok fl₂ =>
          cases fl₂ with
          | ret r =>
            (first | ((first | refine Exists.elim hr₂ ?_ | refine Mine.and_el hr₂ ?_); intro zt481 zt482; (try clear hr₂); subst zt481; (first | refine Exists.elim zt482 ?_ | refine Mine.and_el zt482 ?_); intro h' zt483; (try clear zt482); (first | refine Exists.elim zt483 ?_ | refine Mine.and_el zt483 ?_); intro tk zt484; (try clear zt483); (first | refine Exists.elim zt484 ?_ | refine Mine.and_el zt484 ?_); intro zt485 zt486; (try clear zt484); subst zt485; (first | refine Exists.elim zt486 ?_ | refine Mine.and_el zt486 ?_); intro hS' hk'; (try clear zt486)) | obtain ⟨rfl, h', tk, rfl, hS', hk'⟩ := hr₂)
            repeat (any_goals (first | assumption | wp_step))
            exact h _ _ hS' hk'
          | _ => exact hr₂.elim
    | _ => exact hr.elim
end
end Mine
end
section
open PySem PySem.W PySem.Spec PyProof.Rows
set_option maxRecDepth 100000
set_option maxHeartbeats 8000000
namespace Mine
theorem entry_set_iter : entryFor PySem.table "set.__iter__" = some Builtin.«frozenset.__iter__» := entryFor_alias (id' := "frozenset.__iter__") (by kernel_rfl) rfl (by decide +kernel) (by kernel_rfl)
theorem slot_si_next : Slot "set_iterator" "__next__" "set_iterator.__next__" :=
  .of (owner := "set_iterator") (n := "__next__") (by rw [typeLookup_type, builtinLookup_eq_fast]; kernel_rfl) (by decide +kernel) (by decide +kernel) (by decide +kernel)
    (by first | exact .inl (by decide +kernel) | exact .inr (by decide +kernel)) (by rw [isSubtype_type]; kernel_rfl)
theorem slot_si_iter : Slot "set_iterator" "__iter__" "set_iterator.__iter__" :=
  .of (owner := "set_iterator") (n := "__iter__") (by rw [typeLookup_type, builtinLookup_eq_fast]; kernel_rfl) (by decide +kernel) (by decide +kernel) (by decide +kernel)
    (by first | exact .inl (by decide +kernel) | exact .inr (by decide +kernel)) (by rw [isSubtype_type]; kernel_rfl)
theorem entry_si_next : entryFor PySem.table "set_iterator.__next__" = some Builtin.«set_iterator.__next__» := entryFor_of_tree (by kernel_rfl)
theorem entry_si_iter : entryFor PySem.table "set_iterator.__iter__" = some Builtin.«dict_keyiterator.__iter__» := entryFor_alias (id' := "dict_keyiterator.__iter__") (by kernel_rfl) rfl (by decide +kernel) (by kernel_rfl)
theorem owner_si : Manifest.owners.lookup (String.ofList ['r', 'o', 't', 'a', 'r', 'e', 't', 'i', '_', 't', 'e', 's'].reverse) = some Manifest.sig_set_iterator := by kernel_rfl
theorem args_si_next (a : Value) : argsOk "set_iterator.__next__" ⟨[a], []⟩ := by
  unfold argsOk; rw [signature?_of (id := "set_iterator.__next__") (n := ['_', '_', 't', 'x', 'e', 'n', '_', '_']) (o := ['r', 'o', 't', 'a', 'r', 'e', 't', 'i', '_', 't', 'e', 's']) (by kernel_rfl) owner_si]; kernel_rfl
theorem args_si_iter (a : Value) : argsOk "set_iterator.__iter__" ⟨[a], []⟩ := by
  unfold argsOk; rw [signature?_of (id := "set_iterator.__iter__") (n := ['_', '_', 'r', 'e', 't', 'i', '_', '_']) (o := ['r', 'o', 't', 'a', 'r', 'e', 't', 'i', '_', 't', 'e', 's']) (by kernel_rfl) owner_si]; kernel_rfl
noncomputable abbrev itO (first : Value) (i : Nat) (D : Addr) (n ep : Nat) : Obj := { cls := .type "set_iterator", data := .fields #[first, .int i 0, .ref D, .int n 0, .int ep 0] }
section
variable {prog : Program} {w : World} {A : Around} {E : Value → Shared → Prop} {s : Shared}
theorem wpAny_choose {src : Source} {n : Nat} {Q : Nat → Shared → Prop} (hn : n ≠ 0) (h : Q (w.draws src (s.drawn.get src) % n) { s with drawn := s.drawn.bump src }) : wpAny (model prog w) A (choose src n) Q E s :=
  fun _ _ _ => ⟨hn, h⟩
theorem erase_perm {α : Type} {xs : List α} {i : Nat} (hi : i < xs.length) : (xs[i] :: xs.eraseIdx i).Perm xs := by
  have e : xs.take i ++ xs[i] :: xs.drop (i + 1) = xs := by rw [← List.drop_eq_getElem_cons hi, List.take_append_drop]
  rw [List.eraseIdx_eq_take_drop_succ]
  have := (List.perm_middle (a := xs[i]) (l₁ := xs.take i) (l₂ := xs.drop (i + 1))).symm
  rw [e] at this
  exact this
theorem wpAny_drawOrder {α : Type} : ∀ (n : Nat) (xs : List α) (s : Shared) (Q : List α → Shared → Prop), xs.length = n → (∀ ys dr, ys.Perm xs → Q ys { s with drawn := dr }) → wpAny (model prog w) A (drawOrder n xs) Q E s := by
  intro n
  induction n with
  | zero =>
    intro xs s Q hl h
    have : xs = [] := List.length_eq_zero_iff.mp hl
    subst this
    exact wpAny_pure (h [] s.drawn (.refl _))
  | succ n ih =>
    intro xs s Q hl h
    cases xs with
    | nil => simp at hl
    | cons x xs =>
    show wpAny (model prog w) A (choose .order (x :: xs).length >>= fun i => match (x :: xs)[i]? with | some y => (do return y :: (← drawOrder n ((x :: xs).eraseIdx i))) | none => unsupported "internal:drawOrder") Q E s
    refine wpAny_bind (wpAny_choose (by simp) ?_)
    have hi : w.draws .order (s.drawn.get .order) % (x :: xs).length < (x :: xs).length := Nat.mod_lt _ (by simp)
    generalize w.draws .order (s.drawn.get .order) % (x :: xs).length = i at hi ⊢
    rw [List.getElem?_eq_getElem hi]
    dsimp only
    refine wpAny_bind (ih _ _ _ (by rw [List.length_eraseIdx, if_pos hi]; simp at hl ⊢; omega) fun ys dr hp => ?_)
    refine wpAny_pure (h _ _ ?_)
    exact (hp.cons _).trans (erase_perm hi)
theorem pick_perm {α : Type} (next : Nat → Nat) : ∀ (fuel k : Nat) (left : List α) (out : Array α), left.length ≤ fuel → (pickOrder.go next fuel k left out).toList.Perm (out.toList ++ left)
  | 0, k, left, out, h => by
    have : left = [] := List.length_eq_zero_iff.mp (by omega)
    subst this; simp [pickOrder.go]
  | fuel + 1, k, left, out, h => by
    unfold pickOrder.go
    by_cases hl : left = []
    · subst hl; simp
    · have hi : next k % left.length < left.length := Nat.mod_lt _ (List.length_pos_iff.mpr hl)
      rw [List.getElem?_eq_getElem hi]
      dsimp only
      have h0 : (left.eraseIdx (next k % left.length)).length ≤ fuel := by rw [List.length_eraseIdx]; split <;> omega
      refine (pick_perm next fuel (k + 1) _ _ h0).trans ?_
      rw [Array.toList_push, List.append_assoc]
      refine List.Perm.append_left _ ?_
      exact erase_perm hi
theorem pickOrder_perm {α : Type} (next : Nat → Nat) (xs : Array α) : (pickOrder next xs).toList.Perm xs.toList := by
  have := pick_perm next xs.size 0 xs.toList #[] (by simp)
  simpa [pickOrder] using this
theorem mroOf_si : mroOf (.type "set_iterator") = pure [.type "set_iterator", .type "object"] := by rw [mroOf_type]; kernel_rfl
/-- the end of an iterator: StopIteration is made and taken -/
theorem si_stop {h : Heap} {Q : Option Value → Shared → Prop} (hh : A.handled = none) (hQ : ∀ h', (∀ b o, h.get? b = some o → h'.get? b = some o) → Q none { s with heap := h' }) :
    wpAny (model prog w) A.in1 (newExc (.type "StopIteration") [] >>= fun e => (raiseNew e : Sem Fin)) (fun _ _ => False) (fun e s' => wpAny (model prog w) A (do if ← isInstance e (.type "StopIteration") then pure none else throw e) Q E s') { s with heap := h } := by
  refine wpAny_bind ?_
  simp only [newExc, newTuple]
  refine wpAny_bind (wpAny_newObj_type ?_ (by size_fits))
  refine wpAny_bind (m := firstArgMember _ _) (wpAny_of_eq (a := Value.none) (by first | rfl | (simp only [firstArgMember]; rfl)) ?_)
  refine wpAny_newObj_type ?_ (by size_fits)
  simp only [raiseNew]
  refine wpAny_bind (wpAny_handled ?_)
  rw [show A.in1.handled = none from hh]
  refine wpAny_bind (wpAny_pure (wpAny_throw ?_))
  refine wpAny_bind (wpAny_isInstance (T := "StopIteration") (b := true) ⟨_, Heap.get?_push_size _ rfl, rfl⟩ isSubtype_stop ?_)
  exact wpAny_pure (hQ _ fun b o e => Heap.get?_push_of_some _ (Heap.get?_push_of_some _ e))
theorem entries_of {D : Addr} {o : Obj} {es : Array (Int × Value)} {ep : Nat} {t : SetTable} {Q : Array (Int × Value) → Shared → Prop} (ho : s.heap.get? D = some o) (hd : o.data = .set es ep t) (hf : t.fits es.size = true) (h : Q es s) : wpAny (model prog w) A (setEntries D) Q E s := by
  unfold setEntries
  exact wpAny_bind (wpAny_setState_of ho hd hf (wpAny_pure h))
theorem byText_of {Q : Bool → Shared → Prop} (h : Q (w.params.followText "set-order") s) : wpAny (model prog w) A setsByText Q E s := by
  unfold setsByText
  exact wpAny_bind (wpAny_askSetting (wpAny_pure h))
theorem next_text {D : Addr} {o : Obj} {es : Array (Int × Value)} {ep k i : Nat} {t : SetTable} {Q : Option (Value × Nat) → Shared → Prop} (ho : s.heap.get? D = some o) (hd : o.data = .set es ep t) (hf : t.fits es.size = true) (hw : w.params.followText "set-order" = true)
    (h : Q (((pickOrder (w.params.setOrder D ep) es)[i]?).map fun e => (e.2, k)) s) : wpAny (model prog w) A (setNext D k i ep) Q E s := by
  unfold setNext
  refine wpAny_bind (wpAny_setState_of ho hd hf ?_)
  dsimp only
  refine wpAny_bind (byText_of ?_)
  rw [hw, if_pos rfl, if_neg (by simp)]
  refine wpAny_bind ?_
  unfold setWalk
  refine wpAny_bind (wpAny_setState_of ho hd hf ?_)
  dsimp only
  refine wpAny_bind (byText_of ?_)
  rw [hw, if_pos rfl]
  refine wpAny_bind (wpAny_askSetting (wpAny_pure ?_))
  exact wpAny_pure h
theorem next_drawn {D : Addr} {o : Obj} {es : Array (Int × Value)} {ep k : Nat} {t : SetTable} {e : Int × Value} {Q : Value → Shared → Prop} (ho : s.heap.get? D = some o) (hd : o.data = .set es ep t) (hf : t.fits es.size = true)
    (he : es[k]? = some e) (h : Q e.2 s) : wpAny (model prog w) A (setNextDrawn D k ep) Q E s := by
  unfold setNextDrawn
  refine wpAny_bind (wpAny_setState_of ho hd hf ?_)
  dsimp only
  rw [if_neg (by simp), he]
  exact wpAny_pure h
theorem si_item {it D : Addr} {i n ep : Nat} {first v : Value} {o : Obj} {es : Array (Int × Value)} {t : SetTable} {Q : Option Value → Shared → Prop} (hit : s.heap.get? it = some (itO first i D n ep)) (ho : s.heap.get? D = some o) (hd : o.data = .set es ep t) (hf : t.fits es.size = true) (hn : es.size = n)
    (hw : w.params.followText "set-order" = true) (hfi : first = .int 0 0) (hv : ((pickOrder (w.params.setOrder D ep) es)[i]?).map (·.2) = some v)
    (hQ : ∀ h', h'.get? it = some (itO (.int 0 0) (i + 1) D n ep) → Heap.SameBut it s.heap h' → Q (some v) { s with heap := h' }) :
    wpAny (model prog w) A (pyNext (.ref it)) Q E s := by
  subst hfi
  have hT : s.TypeIs (.ref it) "set_iterator" := ⟨_, hit, rfl⟩
  unfold pyNext
  refine wpAny_bind (wpAny_attempt (wpAny_callSpecial?_slot (name := Str.ofString "__next__") hT slot_si_next
    (wpAny_call_entry slot_si_next hT entry_si_next ?_ (args_si_next _))))
  unfold Builtin.«set_iterator.__next__»
  refine wpAny_bind (wpAny_pure ?_)
  refine wpAny_bind (wpAny_fieldsOf hit rfl ?_)
  dsimp only
  refine wpAny_bind (entries_of ho hd hf ?_)
  rw [if_neg (by rw [hn]; simp)]
  refine wpAny_bind (next_text (i := i) (k := 0) (ep := ep) ho hd hf hw ?_)
  cases hp : (pickOrder (w.params.setOrder D ep) es)[i]? with
  | none => rw [hp] at hv; cases hv
  | some e =>
    rw [hp] at hv
    have hv' : e.2 = v := by simpa using hv
    subst hv'
    dsimp only [Option.map]
    refine wpAny_bind (wpAny_setField_rec hit (by simp) fun h₁ he₁ hs₁ => ?_)
    refine wpAny_bind (wpAny_setField_rec he₁ (by simp) fun h₂ he₂ hs₂ => ?_)
    refine wpAny_pure ⟨_, rfl, wpAny_pure (hQ _ ?_ (hs₁.trans hs₂))⟩
    rw [he₂]
    simp [rawInt]
theorem si_end {it D : Addr} {i n ep : Nat} {o : Obj} {es : Array (Int × Value)} {t : SetTable} {Q : Option Value → Shared → Prop} (hh : A.handled = none) (hit : s.heap.get? it = some (itO (.int 0 0) i D n ep)) (ho : s.heap.get? D = some o) (hd : o.data = .set es ep t) (hf : t.fits es.size = true) (hn : es.size = n)
    (hw : w.params.followText "set-order" = true) (hv : (pickOrder (w.params.setOrder D ep) es)[i]? = none)
    (hQ : ∀ h', Heap.ExtBut it s.heap h' → Q none { s with heap := h' }) :
    wpAny (model prog w) A (pyNext (.ref it)) Q E s := by
  have hT : s.TypeIs (.ref it) "set_iterator" := ⟨_, hit, rfl⟩
  unfold pyNext
  refine wpAny_bind (wpAny_attempt (wpAny_callSpecial?_slot (name := Str.ofString "__next__") hT slot_si_next
    (wpAny_call_entry slot_si_next hT entry_si_next ?_ (args_si_next _))))
  unfold Builtin.«set_iterator.__next__»
  refine wpAny_bind (wpAny_pure ?_)
  refine wpAny_bind (wpAny_fieldsOf hit rfl ?_)
  dsimp only
  refine wpAny_bind (entries_of ho hd hf ?_)
  rw [if_neg (by rw [hn]; simp)]
  refine wpAny_bind (next_text (i := i) (k := 0) (ep := ep) ho hd hf hw ?_)
  rw [hv]
  dsimp only [Option.map]
  refine wpAny_bind (wpAny_setField_rec hit (by simp) fun h₁ he₁ hs₁ => ?_)
  refine wpAny_mono (si_stop (A := A) (E := E) (Q := Q) (s := s) (h := h₁) hh fun h' hk => hQ h' fun b o hb e => hk b o (hs₁.extBut b o hb e)) (fun _ _ x => x.elim) fun _ _ x => x
/-- the drawn order's tuple -/
noncomputable def placesT (ps : List Nat) : Obj := { cls := .type "tuple", data := .seq (ps.map fun (i : Nat) => rawInt i).toArray }
theorem sd_item {it D Tp : Addr} {i n ep : Nat} {v : Value} {o : Obj} {es : Array (Int × Value)} {t : SetTable} {ps : List Nat} {Q : Option Value → Shared → Prop} (hit : s.heap.get? it = some (itO (.ref Tp) i D n ep)) (ho : s.heap.get? D = some o) (hd : o.data = .set es ep t) (hf : t.fits es.size = true) (hn : es.size = n)
    (hTp : s.heap.get? Tp = some (placesT ps)) {k : Nat} {e : Int × Value} (hk : ps[i]? = some k) (he : es[k]? = some e)
    (hQ : ∀ h', h'.get? it = some (itO (.ref Tp) (i + 1) D n ep) → Heap.SameBut it s.heap h' → Q (some e.2) { s with heap := h' }) :
    wpAny (model prog w) A (pyNext (.ref it)) Q E s := by
  have hT : s.TypeIs (.ref it) "set_iterator" := ⟨_, hit, rfl⟩
  unfold pyNext
  refine wpAny_bind (wpAny_attempt (wpAny_callSpecial?_slot (name := Str.ofString "__next__") hT slot_si_next
    (wpAny_call_entry slot_si_next hT entry_si_next ?_ (args_si_next _))))
  unfold Builtin.«set_iterator.__next__»
  refine wpAny_bind (wpAny_pure ?_)
  refine wpAny_bind (wpAny_fieldsOf hit rfl ?_)
  dsimp only
  refine wpAny_bind (entries_of ho hd hf ?_)
  rw [if_neg (by rw [hn]; simp)]
  refine wpAny_bind (m := seqItems? (.ref Tp)) ?_
  unfold seqItems?
  refine wpAny_bind (wpAny_load hTp ?_)
  refine wpAny_pure ?_
  have ei : ((i : Int)).toNat = i := Int.toNat_natCast i
  have hp : ((ps.map fun (i : Nat) => rawInt i).toArray)[((i : Int)).toNat]? = some (.int (k : Int) 0) := by
    rw [ei]; simp [hk, rawInt]
  dsimp only [placesT]
  rw [hp]
  dsimp only
  refine wpAny_bind (next_drawn (k := k) (e := e) ho hd hf he ?_)
  refine wpAny_bind (wpAny_setField_rec hit (by simp) fun h₁ he₁ hs₁ => ?_)
  refine wpAny_pure ⟨_, rfl, wpAny_pure (hQ _ ?_ hs₁)⟩
  rw [he₁]
  simp [rawInt]
theorem sd_end {it D Tp : Addr} {i n ep : Nat} {o : Obj} {es : Array (Int × Value)} {t : SetTable} {ps : List Nat} {Q : Option Value → Shared → Prop} (hh : A.handled = none) (hit : s.heap.get? it = some (itO (.ref Tp) i D n ep)) (ho : s.heap.get? D = some o) (hd : o.data = .set es ep t) (hf : t.fits es.size = true) (hn : es.size = n)
    (hTp : s.heap.get? Tp = some (placesT ps)) (hk : ps[i]? = none)
    (hQ : ∀ h', Heap.ExtBut it s.heap h' → Q none { s with heap := h' }) :
    wpAny (model prog w) A (pyNext (.ref it)) Q E s := by
  have hT : s.TypeIs (.ref it) "set_iterator" := ⟨_, hit, rfl⟩
  unfold pyNext
  refine wpAny_bind (wpAny_attempt (wpAny_callSpecial?_slot (name := Str.ofString "__next__") hT slot_si_next
    (wpAny_call_entry slot_si_next hT entry_si_next ?_ (args_si_next _))))
  unfold Builtin.«set_iterator.__next__»
  refine wpAny_bind (wpAny_pure ?_)
  refine wpAny_bind (wpAny_fieldsOf hit rfl ?_)
  dsimp only
  refine wpAny_bind (entries_of ho hd hf ?_)
  rw [if_neg (by rw [hn]; simp)]
  refine wpAny_bind (m := seqItems? (.ref Tp)) ?_
  unfold seqItems?
  refine wpAny_bind (wpAny_load hTp ?_)
  refine wpAny_pure ?_
  have ei : ((i : Int)).toNat = i := Int.toNat_natCast i
  have hp : ((ps.map fun (i : Nat) => rawInt i).toArray)[((i : Int)).toNat]? = none := by
    rw [ei]
    have := List.getElem?_eq_none_iff.mp hk
    simpa using this
  dsimp only [placesT]
  rw [hp]
  dsimp only
  refine wpAny_bind (wpAny_setField_rec hit (by simp) fun h₁ he₁ hs₁ => ?_)
  refine wpAny_bind (wpAny_setField_rec he₁ (by simp) fun h₂ he₂ hs₂ => ?_)
  refine wpAny_mono (si_stop (A := A) (E := E) (Q := Q) (s := s) (h := h₂) hh fun h' hk => hQ h' fun b o hb e => hk b o (hs₂.extBut b o hb (hs₁.extBut b o hb e))) (fun _ _ x => x.elim) fun _ _ x => x
end
end Mine
end
section
open PySem PySem.W PySem.Spec PyProof.Rows
set_option maxRecDepth 100000
set_option maxHeartbeats 8000000
namespace Mine
section
variable {prog : Program} {w : World} {A : Around} {E : Value → Shared → Prop} {s : Shared}
/-- what a walk over a set yields -/
noncomputable def OrdIs (ord : List Value) (X : Str → Bool) (n : Nat) : Prop := ord.length = n ∧ (∀ v ∈ ord, ∃ x t, v = .str x t ∧ X x = true) ∧ ∀ x, X x = true → ∃ t, Value.str x t ∈ ord
theorem ordIs_of {X : Str → Bool} {n : Nat} {es : Array (Int × Value)} {ord : List Value} (hn : es.size = n) (hel : ElemsOf (PySem.strKind prog w) es.toList) (hmem : ∀ k, X k = true ↔ ∃ e ∈ es.toList, (PySem.strKind prog w).is k e.2 = true)
    (hp : ord.Perm (es.toList.map (·.2))) : OrdIs ord X n := by
  refine ⟨by rw [hp.length_eq, List.length_map, Array.length_toList, hn], fun v hv => ?_, fun x hx => ?_⟩
  · (first | ((first | refine Exists.elim (List.mem_map.mp (hp.mem_iff.mp hv)) ?_ | refine Mine.and_el (List.mem_map.mp (hp.mem_iff.mp hv)) ?_); intro e zt487; (first | refine Exists.elim zt487 ?_ | refine Mine.and_el zt487 ?_); intro he zt488; (try clear zt487); subst zt488) | obtain ⟨e, he, rfl⟩ := List.mem_map.mp (hp.mem_iff.mp hv))
    (first | ((first | refine Exists.elim (hel e he) ?_ | refine Mine.and_el (hel e he) ?_); intro zt489 zt490; (first | refine Exists.elim zt489 ?_ | refine Mine.and_el zt489 ?_); intro k zt491; (try clear zt489); (first | refine Exists.elim zt491 ?_ | refine Mine.and_el zt491 ?_); intro hk zt492; (try clear zt491)) | obtain ⟨⟨k, hk, _⟩, _⟩ := hel e he)
    (first | ((first | refine Exists.elim (Value.isStrOf_shape hk) ?_ | refine Mine.and_el (Value.isStrOf_shape hk) ?_); intro t ht) | obtain ⟨t, ht⟩ := Value.isStrOf_shape hk)
    exact ⟨k, t, ht, (hmem k).mpr ⟨e, he, hk⟩⟩
  · (first | ((first | refine Exists.elim ((hmem x).mp hx) ?_ | refine Mine.and_el ((hmem x).mp hx) ?_); intro e zt493; (first | refine Exists.elim zt493 ?_ | refine Mine.and_el zt493 ?_); intro he hk; (try clear zt493)) | obtain ⟨e, he, hk⟩ := (hmem x).mp hx)
    (first | ((first | refine Exists.elim (Value.isStrOf_shape hk) ?_ | refine Mine.and_el (Value.isStrOf_shape hk) ?_); intro t ht) | obtain ⟨t, ht⟩ := Value.isStrOf_shape hk)
    exact ⟨t, hp.mem_iff.mpr (List.mem_map.mpr ⟨e, he, ht⟩)⟩
theorem pyIter_si {it : Addr} {first : Value} {i D n ep : Nat} {Q : Value → Shared → Prop} (hit : s.heap.get? it = some (itO first i D n ep)) (h : Q (.ref it) s) : wpAny (model prog w) A (pyIter (.ref it)) Q E s := by
  have hT : s.TypeIs (.ref it) "set_iterator" := ⟨_, hit, rfl⟩
  refine wpAny_pyIter_slot hT slot_si_iter (wpAny_call_entry slot_si_iter hT entry_si_iter ?_ (args_si_iter _))
  show wpAny _ _ (ret (.ref it)) _ _ s
  exact wpAny_pure ⟨_, rfl, "set_iterator", _, hT, slot_si_next.lookup, h⟩
theorem walks_text (hh : A.handled = none) (I D : Addr) (hne : D ≠ I) {o : Obj} {es : Array (Int × Value)} {ep : Nat} {t : SetTable} (hd : o.data = .set es ep t) (hf : t.fits es.size = true) (hw : w.params.followText "set-order" = true) :
    Walks prog w A I [I, D] [I] es.size (fun i v => ((pickOrder (w.params.setOrder D ep) es).toList.map (·.2))[i]? = some v) (fun i h => h.get? I = some (itO (.int 0 0) i D es.size ep) ∧ h.get? D = some o) where
  sub := fun b hb => by simp at hb; simp [hb]
  frame := fun _ _ _ st hk => ⟨hk I (by simp) _ st.1, hk D (by simp) _ st.2⟩
  item := fun i s Q E hi st hQ => by
    have hl : (pickOrder (w.params.setOrder D ep) es).toList.length = es.size := by rw [(pickOrder_perm _ es).length_eq]; simp
    have hi' : i < (pickOrder (w.params.setOrder D ep) es).size := by rw [← Array.length_toList, hl]; exact hi
    refine si_item (v := (pickOrder (w.params.setOrder D ep) es)[i].2) st.1 st.2 hd hf rfl hw rfl (by rw [Array.getElem?_eq_getElem hi']; rfl) fun h' hit' hs' => ?_
    refine hQ _ h' s.toks ?_ ⟨hit', hs'.extBut D _ hne st.2⟩ fun b o hb e => hs'.extBut b o (fun h => hb (by simp [h])) e
    rw [List.getElem?_map, Array.getElem?_toList, Array.getElem?_eq_getElem hi']; rfl
  done := fun s Q E st hQ => by
    have hl : (pickOrder (w.params.setOrder D ep) es).toList.length = es.size := by rw [(pickOrder_perm _ es).length_eq]; simp
    refine si_end hh st.1 st.2 hd hf rfl hw (Array.getElem?_eq_none (by rw [← Array.length_toList, hl]; exact Nat.le_refl _)) fun h' he' => hQ h' s.toks fun b o hb e => he' b o (fun h => hb (by simp [h])) e
  self := fun _ _ _ _ st hQ => pyIter_si st.1 hQ
theorem walks_drawn (hh : A.handled = none) (I D Tp : Addr) (hne : D ≠ I) (hTI : Tp ≠ I) {o : Obj} {es : Array (Int × Value)} {ep : Nat} {t : SetTable} {ps : List Nat} (hd : o.data = .set es ep t) (hf : t.fits es.size = true) (hps : ps.Perm (List.range es.size)) :
    Walks prog w A I [I, D, Tp] [I] es.size (fun i v => (ps.map fun k => (es.toList.getD k (0, .none)).2)[i]? = some v) (fun i h => h.get? I = some (itO (.ref Tp) i D es.size ep) ∧ h.get? D = some o ∧ h.get? Tp = some (placesT ps)) where
  sub := fun b hb => by simp at hb; simp [hb]
  frame := fun _ _ _ st hk => ⟨hk I (by simp) _ st.1, hk D (by simp) _ st.2.1, hk Tp (by simp) _ st.2.2⟩
  item := fun i s Q E hi st hQ => by
    have hl : ps.length = es.size := by rw [hps.length_eq]; simp
    have hi' : i < ps.length := by rw [hl]; exact hi
    have hk : ps[i] < es.size := List.mem_range.mp (hps.mem_iff.mp (List.getElem_mem hi'))
    refine sd_item (k := ps[i]) (e := es[ps[i]]) (v := .none) st.1 st.2.1 hd hf rfl st.2.2 (List.getElem?_eq_getElem hi') (Array.getElem?_eq_getElem hk) fun h' hit' hs' => ?_
    refine hQ _ h' s.toks ?_ ⟨hit', hs'.extBut D _ hne st.2.1, hs'.extBut Tp _ hTI st.2.2⟩ fun b o hb e => hs'.extBut b o (fun h => hb (by simp [h])) e
    rw [List.getElem?_map, List.getElem?_eq_getElem hi']
    simp [List.getD_eq_getElem?_getD, hk]
  done := fun s Q E st hQ => by
    have hl : ps.length = es.size := by rw [hps.length_eq]; simp
    refine sd_end hh st.1 st.2.1 hd hf rfl st.2.2 (List.getElem?_eq_none (by rw [hl]; exact Nat.le_refl _)) fun h' he' => hQ h' s.toks fun b o hb e => he' b o (fun h => hb (by simp [h])) e
  self := fun _ _ _ _ st hQ => pyIter_si st.1 hQ
theorem pyIter_set {D : Addr} {o : Obj} {X : Str → Bool} {n : Nat} {Q : Value → Shared → Prop} (ho : s.heap.get? D = some o) (hP : SetP prog w o X n) (h2 : 1 < n)
    (h : ∀ (ord : List Value) (I : Addr) (fp : List Addr) (St : Nat → Heap → Prop) (H : Heap) (dr : Drawn), OrdIs ord X n → (∀ A' : Around, A'.handled = none → Walks prog w A' I fp [I] n (fun i v => ord[i]? = some v) St) → St 0 H →
      (∀ b o, s.heap.get? b = some o → H.get? b = some o) → s.heap.get? I = none → (∀ b ∈ fp, s.heap.get? b = none ∨ b = D) → Q (.ref I) { s with heap := H, drawn := dr }) :
    wpAny (model prog w) A (pyIter (.ref D)) Q E s := by
  (first | ((first | refine Exists.elim hP ?_ | refine Mine.and_el hP ?_); intro hex zt494; (try clear hP); (first | refine Exists.elim zt494 ?_ | refine Mine.and_el zt494 ?_); intro es zt495; (try clear zt494); (first | refine Exists.elim zt495 ?_ | refine Mine.and_el zt495 ?_); intro ep zt496; (try clear zt495); (first | refine Exists.elim zt496 ?_ | refine Mine.and_el zt496 ?_); intro t zt497; (try clear zt496); (first | refine Exists.elim zt497 ?_ | refine Mine.and_el zt497 ?_); intro hd zt498; (try clear zt497); (first | refine Exists.elim zt498 ?_ | refine Mine.and_el zt498 ?_); intro hel zt499; (try clear zt498); (first | (refine Mine.at_el zt499 ?_; clear zt499; intro hmem hb hf zt503 hn hpl; subst zt503) | ((first | refine Exists.elim zt499 ?_ | refine Mine.and_el zt499 ?_); intro hmem zt500; (try clear zt499); (first | refine Exists.elim zt500 ?_ | refine Mine.and_el zt500 ?_); intro hb zt501; (try clear zt500); (first | refine Exists.elim zt501 ?_ | refine Mine.and_el zt501 ?_); intro hf zt502; (try clear zt501); (first | refine Exists.elim zt502 ?_ | refine Mine.and_el zt502 ?_); intro hn hpl; (try clear zt502)))) | obtain ⟨hex, es, ep, t, hd, hel, hmem, hb, hf, hn, hpl⟩ := hP)
  have hT : s.TypeIs (.ref D) "set" := ⟨_, ho, hex.1⟩
  have fresh : ∀ a, s.heap.objs.size ≤ a → s.heap.get? a = none := fun a ha => by
    cases e : s.heap.get? a with
    | none => rfl
    | some o' => exact absurd (Heap.lt_size e) (Nat.not_lt.mpr ha)
  have hDlt : D < s.heap.objs.size := Heap.lt_size ho
  refine wpAny_pyIter_slot hT PySem.F.slot_set_iter (wpAny_call_entry PySem.F.slot_set_iter hT entry_set_iter ?_ (PySem.F.args_set_iter_1 _))
  unfold Builtin.«frozenset.__iter__»
  refine wpAny_bind (m := Builtin.Frozenset.slot0 "__iter__" ⟨[.ref D], []⟩) (wpAny_bind (wpAny_pure (wpAny_pure ?_)))
  refine wpAny_bind (m := Builtin.Frozenset.sizeOf D) (wpAny_bind (entries_of ho hd hf (wpAny_pure ?_)))
  refine wpAny_bind (m := setDrawn D) ?_
  unfold setDrawn
  refine wpAny_bind (wpAny_setState_of ho hd hf ?_)
  dsimp only
  refine wpAny_bind (byText_of ?_)
  refine wpAny_pure ?_
  have hdr : ((!t.plain && decide (es.size > 1)) : Bool) = true := by
    rw [hpl (by omega)]; simp; omega
  subst hn
  cases hw : w.params.followText "set-order" with
  | true =>
    rw [if_neg (by simp)]
    refine wpAny_bind (wpAny_pure ?_)
    refine wpAny_bind (wpAny_setEpoch_of ho hd hf ?_)
    refine wpAny_bind (wpAny_newObj_type (wpAny_pure ⟨_, rfl, "set_iterator", _, ⟨_, Heap.get?_push_size _ rfl, rfl⟩, slot_si_next.lookup, ?_⟩))
    refine h _ s.heap.objs.size [s.heap.objs.size, D] _ _ s.drawn (ordIs_of rfl hel hmem ((pickOrder_perm (w.params.setOrder D ep) es).map _)) (fun A' hh' => walks_text hh' _ D (Nat.ne_of_lt hDlt) hd hf hw) ⟨Heap.get?_push_size _ rfl, Heap.get?_push_of_some _ ho⟩
      (fun b o e => Heap.get?_push_of_some _ e) (fresh _ (Nat.le_refl _)) (fun b hb => ?_)
    rcases List.mem_cons.mp hb with e | e
    · exact .inl (e ▸ fresh _ (Nat.le_refl _))
    · exact .inr (List.mem_singleton.mp e)
  | false =>
    rw [if_pos (by exact hdr)]
    refine wpAny_bind (wpAny_drawOrder es.size (List.range es.size) _ _ (by simp) fun ps dr hps => ?_)
    have hpl' : ps.length = es.size := by rw [hps.length_eq]; simp
    have hfit := fits_of_scanBound hb
    refine wpAny_bind (wpAny_newTuple ?_ (by simp [hpl']; exact hfit))
    have hT1 : (s.heap.push (placesT ps)).get? s.heap.objs.size = some (placesT ps) := Heap.get?_push_size _ rfl
    have hD1 : (s.heap.push (placesT ps)).get? D = some o := Heap.get?_push_of_some _ ho
    refine wpAny_bind (wpAny_setEpoch_of (s := { s with heap := s.heap.push (placesT ps), drawn := dr }) hD1 hd hf ?_)
    refine wpAny_bind (wpAny_newObj_type (wpAny_pure ⟨_, rfl, "set_iterator", _, ⟨_, Heap.get?_push_size _ rfl, rfl⟩, slot_si_next.lookup, ?_⟩))
    have hsz : (s.heap.push (placesT ps)).objs.size = s.heap.objs.size + 1 := Heap.size_push _ _
    have hperm : (ps.map fun k => (es.toList.getD k (0, .none)).2).Perm (es.toList.map (·.2)) := by
      have h1 := hps.map fun k => (es.toList.getD k (0, Value.none)).2
      refine h1.trans (List.Perm.of_eq ?_)
      apply List.ext_getElem?
      intro i
      rw [List.getElem?_map, List.getElem?_map]
      rcases Nat.lt_or_ge i es.size with hi | hi
      · rw [List.getElem?_range hi]
        have : es.toList[i]? = some es.toList[i] := List.getElem?_eq_getElem (by simpa using hi)
        simp [List.getD_eq_getElem?_getD, hi]
      · rw [List.getElem?_eq_none (by simpa using hi), List.getElem?_eq_none (by simpa using hi)]
        rfl
    refine h _ (s.heap.push (placesT ps)).objs.size [(s.heap.push (placesT ps)).objs.size, D, s.heap.objs.size] _ _ dr (ordIs_of rfl hel hmem hperm) (fun A' hh' => walks_drawn hh' _ D s.heap.objs.size ?_ ?_ hd hf hps) ⟨Heap.get?_push_size _ rfl, Heap.get?_push_of_some _ hD1, Heap.get?_push_of_some _ hT1⟩
      (fun b o e => Heap.get?_push_of_some _ (Heap.get?_push_of_some _ e)) (fresh _ (by rw [hsz]; exact Nat.le_succ _)) (fun b hb => ?_)
    · rw [hsz]; exact Nat.ne_of_lt (Nat.lt_succ_of_lt hDlt)
    · rw [hsz]; exact Nat.ne_of_lt (Nat.lt_succ_self _)
    · rcases List.mem_cons.mp hb with e | hb
      · exact .inl (e ▸ fresh _ (by rw [hsz]; exact Nat.le_succ _))
      · rcases List.mem_cons.mp hb with e | e
        · exact .inr e
        · exact .inl ((List.mem_singleton.mp e) ▸ fresh _ (Nat.le_refl _))
theorem hint_set {r : Addr} {Q : Bool → Shared → Prop} (hT : s.TypeIs (.ref r) "set") (h : Q false s) : wpAny (model prog w) A (Builtin.List.listLengthHint (.ref r)) Q E s := by
  unfold Builtin.List.listLengthHint
  refine wpAny_bind (wpAny_specialOf hT PySem.F.slot_set_len.lookup ?_)
  generalize hid : ("set.__len__" : String) = id0
  wp_delta
  rw [show splitId id0 = some ("set", "__len__") from by subst hid; decide +kernel]
  subst hid
  refine wpAny_bind (wpAny_isInstance (T := "set") (b := true) hT (by rw [isSubtype_type]; kernel_rfl) ?_)
  refine wpAny_ite_split (fun hab => absurd hab (by decide)) (fun _ => ?_)
  refine wpAny_ite_split (fun _ => ?_) (fun hab => absurd (by decide +kernel) hab)
  refine wpAny_bind (wpAny_typeOf hT ?_)
  exact wpAny_pure h
theorem collect_set {R : List Value → Shared → Prop} {D : Addr} {o : Obj} {X : Str → Bool} {n : Nat} (hh : A.handled = none) (ho : s.heap.get? D = some o) (hP : SetP prog w o X n) (h2 : 1 < n)
    (h : ∀ (ord : List Value) (h' : Heap) (tk : Nat) (dr : Drawn), OrdIs ord X n → (∀ b o, s.heap.get? b = some o → h'.get? b = some o) → R ord { s with heap := h', toks := tk, drawn := dr }) :
    wpAny (model prog w) A (collect (.ref D)) R E s := by
  have hDlt : D < s.heap.objs.size := Heap.lt_size ho
  have hn : n ≤ sizeLine := by
    (first | ((first | refine Exists.elim hP ?_ | refine Mine.and_el hP ?_); intro zt504 zt505; (try clear hP); (first | refine Exists.elim zt505 ?_ | refine Mine.and_el zt505 ?_); intro es zt506; (try clear zt505); (first | refine Exists.elim zt506 ?_ | refine Mine.and_el zt506 ?_); intro ep zt507; (try clear zt506); (first | refine Exists.elim zt507 ?_ | refine Mine.and_el zt507 ?_); intro t zt508; (try clear zt507); (first | refine Exists.elim zt508 ?_ | refine Mine.and_el zt508 ?_); intro zt509 zt510; (try clear zt508); (first | refine Exists.elim zt510 ?_ | refine Mine.and_el zt510 ?_); intro zt511 zt512; (try clear zt510); (first | refine Exists.elim zt512 ?_ | refine Mine.and_el zt512 ?_); intro zt513 zt514; (try clear zt512); (first | refine Exists.elim zt514 ?_ | refine Mine.and_el zt514 ?_); intro hb zt515; (try clear zt514); (first | refine Exists.elim zt515 ?_ | refine Mine.and_el zt515 ?_); intro zt516 zt517; (try clear zt515); (first | refine Exists.elim zt517 ?_ | refine Mine.and_el zt517 ?_); intro e zt518; (try clear zt517)) | obtain ⟨_, es, ep, t, _, _, _, hb, _, e, _⟩ := hP)
    rw [← e]; exact fits_of_scanBound hb
  unfold collect
  refine wpAny_bind (wpAny_runValue (codeAny_builtin entry_proto_collect' ?_))
  rw [Around.under_plainId PySem.F.plain_proto_collect _]
  show wpAny _ A.in1 (newList [] >>= fun l => again (.builtin "list.__iadd__" ⟨[l, .ref D], []⟩)) _ _ s
  refine wpAny_bind (wpAny_newObj_type ?_)
  refine wpAny_pure ⟨plainId_quiet PySem.F.plain_list_iadd _, codeAny_builtin entry_list_iadd' ?_⟩
  rw [Around.under_plainId PySem.F.plain_list_iadd _]
  (first | ((first | refine Exists.elim (show ∃ B, s.heap.objs.size = B from ⟨_, rfl⟩) ?_ | refine Mine.and_el (show ∃ B, s.heap.objs.size = B from ⟨_, rfl⟩) ?_); intro B hB) | obtain ⟨B, hB⟩ : ∃ B, s.heap.objs.size = B := ⟨_, rfl⟩)
  (first | ((first | refine Exists.elim (show ∃ H, s.heap.push { cls := .type "list", data := .seq ([] : List Value).toArray } = H from ⟨_, rfl⟩) ?_ | refine Mine.and_el (show ∃ H, s.heap.push { cls := .type "list", data := .seq ([] : List Value).toArray } = H from ⟨_, rfl⟩) ?_); intro H0 hH0) | obtain ⟨H0, hH0⟩ : ∃ H, s.heap.push { cls := .type "list", data := .seq ([] : List Value).toArray } = H := ⟨_, rfl⟩)
  have hS₁ : H0.get? B = some { cls := .type "list", data := .seq #[] } := by rw [← hH0, ← hB]; exact Heap.get?_push_size _ rfl
  have up0 : ∀ b o, s.heap.get? b = some o → H0.get? b = some o := fun b o e => hH0 ▸ Heap.get?_push_of_some _ e
  have hBD : B ≠ D := hB ▸ Nat.ne_of_gt hDlt
  show wpAny _ A.in1 (Builtin.List.listExtendWith (.ref s.heap.objs.size) (.ref D) (.ref s.heap.objs.size)) _ _ { s with heap := s.heap.push { cls := .type "list", data := .seq ([] : List Value).toArray } }
  rw [hB, hH0]
  have hT : Shared.TypeIs { s with heap := H0 } (.ref D) "set" := ⟨_, up0 _ _ ho, hP.1.1⟩
  unfold Builtin.List.listExtendWith
  refine wpAny_bind (wpAny_typeOf (T := "set") hT ?_)
  have h1 : Builtin.List.listSameRef (.ref B) (.ref D) = false := by simp [Builtin.List.listSameRef, hBD]
  have h3 : (Value.type "set" == Value.type "list") = false := by decide
  have h4 : (Value.type "set" == Value.type "tuple") = false := by decide
  simp only [h1, h3, h4, Bool.or_false, Bool.false_eq_true, if_false]
  refine wpAny_bind (pyIter_set (s := { s with heap := H0 }) (up0 _ _ ho) hP h2 fun ord I fp St H dr hord W st hk hI hfp => ?_)
  have hBf : B ∉ fp := by
    intro hm
    rcases hfp B hm with e | e
    · rw [hS₁] at e; cases e
    · exact hBD e
  have hIB : I ≠ B := by rintro rfl; rw [hS₁] at hI; cases hI
  have key : ∀ (h₁ : Heap) (c₁ : Nat), St 0 h₁ → (∀ b o, b ≠ B → H.get? b = some o → h₁.get? b = some o) → h₁.get? B = some { cls := .type "list", data := .seq #[] c₁ } →
      codeAny (model prog w) A (.builtin "list.extend.loop" ⟨[.ref B, .ref I, .ref B], []⟩) (fun (q : Result) (s' : Shared) => ∃ (h' : Heap) (tk : Nat) (acc' : Array Value) (c' : Nat), q = .ok (.ret (.ref B)) ∧ s' = { s with heap := h', toks := tk, drawn := dr } ∧
        (∀ b o, s.heap.get? b = some o → h'.get? b = some o) ∧ h'.get? B = some { cls := .type "list", dict := none, data := .seq acc' c', slots := #[] } ∧ ItemsOf (fun i v => ord[i]? = some v) acc' n) { s with heap := h₁, drawn := dr } := by
    intro h₁ c₁ hst hk₁ hS
    refine codeAny_extend_loopS (W A.in1 (by exact hh)).toS hn B hBf (.ref B) n 0 _ #[] c₁ rfl (Nat.zero_le _) hst hS (ItemsOf.nil _) fun s' acc' c' hm hS' hacc => ?_
    refine ⟨s'.heap, s'.toks, acc', c', rfl, ?_, fun b o e => ?_, hS', hacc⟩
    · (first | ((first | (refine Mine.at_el s' ?_; clear s'; intro h' g' d' zt522 tk' os'; subst zt522) | ((first | refine Exists.elim s' ?_ | refine Mine.and_el s' ?_); intro h' zt519; (try clear s'); (first | refine Exists.elim zt519 ?_ | refine Mine.and_el zt519 ?_); intro g' zt520; (try clear zt519); (first | refine Exists.elim zt520 ?_ | refine Mine.and_el zt520 ?_); intro d' zt521; (try clear zt520); (first | refine Exists.elim zt521 ?_ | refine Mine.and_el zt521 ?_); intro tk' os'; (try clear zt521)))) | obtain ⟨h', g', d', tk', os'⟩ := s')
      have eg : g' = s.gens := hm.gens
      have ed : d' = dr := hm.drawn
      have eo : os' = s.os := hm.os
      subst eg; subst ed; subst eo; rfl
    · have hbB : b ≠ B := by rw [← hB]; exact Nat.ne_of_lt (Heap.lt_size e)
      refine hm.heap b o (fun hmem => ?_) (hk₁ b o hbB (hk b o (up0 b o e)))
      rcases List.mem_cons.mp hmem with e' | hmem
      · exact hbB e'
      · have : s.heap.get? I = none := by
          cases q : s.heap.get? I with
          | none => rfl
          | some o' => rw [up0 _ _ q] at hI; cases hI
        rw [List.mem_singleton.mp hmem, this] at e; cases e
  have hS₂ := hk _ _ hS₁
  refine wpAny_bind (wpAny_holding (hint_set ⟨_, hk _ _ (up0 _ _ ho), hP.1.1⟩ ?_))
  have last : ∀ (h₁ : Heap) (c₁ : Nat), St 0 h₁ → (∀ b o, b ≠ B → H.get? b = some o → h₁.get? b = some o) → h₁.get? B = some { cls := .type "list", data := .seq #[] c₁ } →
      codeAny (model prog w) A (.builtin "list.extend.loop" ⟨[.ref B, .ref I, .ref B], []⟩) (wants (fun v s' => wpAny (model prog w) A (match v with | .ref a => (do match (← load a).data with | .seq xs _ => pure xs.toList | _ => unsupported "internal:collect") | _ => unsupported "internal:collect") R E s') E) { s with heap := h₁, drawn := dr } := by
    intro h₁ c₁ hst hk₁ hS
    refine codeAny_mono (key h₁ c₁ hst hk₁ hS) fun q s₂ y => ?_
    (first | ((first | refine Exists.elim y ?_ | refine Mine.and_el y ?_); intro h' zt523; (try clear y); (first | refine Exists.elim zt523 ?_ | refine Mine.and_el zt523 ?_); intro tk zt524; (try clear zt523); (first | refine Exists.elim zt524 ?_ | refine Mine.and_el zt524 ?_); intro acc' zt525; (try clear zt524); (first | refine Exists.elim zt525 ?_ | refine Mine.and_el zt525 ?_); intro c' zt526; (try clear zt525); (first | refine Exists.elim zt526 ?_ | refine Mine.and_el zt526 ?_); intro zt527 zt528; (try clear zt526); subst zt527; (first | refine Exists.elim zt528 ?_ | refine Mine.and_el zt528 ?_); intro zt529 zt530; (try clear zt528); subst zt529; (first | refine Exists.elim zt530 ?_ | refine Mine.and_el zt530 ?_); intro hk' zt531; (try clear zt530); (first | refine Exists.elim zt531 ?_ | refine Mine.and_el zt531 ?_); intro hS' hacc; (try clear zt531)) | obtain ⟨h', tk, acc', c', rfl, rfl, hk', hS', hacc⟩ := y)
    show wpAny _ A (load B >>= _) _ _ _
    refine wpAny_bind (wpAny_load hS' ?_)
    have e : acc'.toList = ord := by
      apply List.ext_getElem?
      intro j
      rcases Nat.lt_or_ge j acc'.size with hj | hj
      · have h5 : acc'[j]? = some acc'[j] := Array.getElem?_eq_getElem hj
        rw [Array.getElem?_toList, h5, hacc.2 j _ h5]
      · rw [List.getElem?_eq_none (by simpa using hj), List.getElem?_eq_none (by rw [hord.1, ← hacc.1]; exact hj)]
    show wpAny _ A (pure acc'.toList) _ _ _
    rw [e]
    exact wpAny_pure (h ord h' tk dr hord hk')
  refine wpAny_ite_split (fun _ => ?_) (fun _ => wpAny_pure ⟨plainId_quiet PySem.F.plain_extend_loop _, last _ _ st (fun b o _ e => e) hS₂⟩)
  refine wpAny_bind (wpAny_rule ?_)
  refine wpAny_bind ?_
  show wpAny _ _ (updateSeq B (·.push .none) >>= fun _ => updateSeq B (·.pop)) _ _ _
  refine wpAny_bind (wpAny_updateSeq hS₂ rfl ?_)
  have hS₃ := Heap.get?_update_self (Obj.mapSeq (·.push Value.none)) hS₂ rfl
  refine wpAny_updateSeq (hz := by seq_fits) hS₃ rfl ?_
  have hS₄ := Heap.get?_update_self (Obj.mapSeq (·.pop)) hS₃ rfl
  refine wpAny_pure ⟨plainId_quiet PySem.F.plain_extend_loop _, last _ _ ?_ (fun b o hb e => ?_) hS₄⟩
  · refine (W A hh).frame 0 _ _ st fun b hb o e => ?_
    have hbB : b ≠ B := fun h => hBf (h ▸ hb)
    exact (Heap.get?_update_other _ _ (Ne.symm hbB)).trans ((Heap.get?_update_other _ _ (Ne.symm hbB)).trans e)
  · exact (Heap.get?_update_other _ _ (Ne.symm hb)).trans ((Heap.get?_update_other _ _ (Ne.symm hb)).trans e)
end
end Mine
end
section
open PySem PySem.W PySem.Spec PyProof.Rows
set_option maxRecDepth 100000
set_option maxHeartbeats 8000000
namespace Mine
section
variable {prog : Program} {w : World} {A : Around} {E : Value → Shared → Prop} {s : Shared}
theorem sortedHeap_old {h : Heap} {a : Addr} {vs : List Value} {out : Array Value} {b : Addr} {o : Obj} (hb : b ≠ a) (e : h.get? b = some o) : (sortedHeap h a vs out).get? b = some o := by
  unfold sortedHeap
  exact (Heap.get?_update_other _ _ (Ne.symm hb)).trans (Heap.get?_push_of_some _ (Heap.get?_push_of_some _ ((Heap.get?_update_other _ _ (Ne.symm hb)).trans e)))
theorem sortedHeap_at {h : Heap} {a : Addr} {vs : List Value} {n : Nat} {out : Array Value} (e : h.get? a = some (seqObj "list" vs.toArray n)) : ∃ k, (sortedHeap h a vs out).get? a = some (seqObj "list" out k) := by
  unfold sortedHeap
  have h1 := get?_update_seq e (fun _ => #[])
  have h2 := Heap.get?_push_of_some (seqObj "list" #[] 0) (Heap.get?_push_of_some (seqObj "tuple" vs.toArray 0) h1)
  exact ⟨_, get?_update_seq h2 (fun _ => out)⟩
theorem sorted_set {h₀ : Heap} {L D : Addr} {m : Str → Option Value} {news : List (Addr × Obj)} {o : Obj} {X : Str → Bool} {n : Nat} {Q : Value → Shared → Prop} (hh : A.handled = none) (F : Fr h₀ L s.heap m) (N : News h₀ L s.heap news)
    (ho : s.heap.get? D = some o) (hP : SetP prog w o X n) (h2 : 1 < n) (h64 : n < 64)
    (h : ∀ (B : Addr) (h' : Heap) (tk : Nat) (dr : Drawn) (vs : List Value) (ss : List Str) (e : Nat), Fr h₀ L h' m → News h₀ L h' ((B, listOf vs.toArray e) :: news) → StrsAre vs ss → ss.length = n → (∀ x, x ∈ ss ↔ X x = true) → Q (.ref B) { s with heap := h', toks := tk, drawn := dr }) :
    wpAny (model prog w) A (call (.builtin "sorted") [.ref D]) Q E s := by
  refine PySem.Calls.call_function_entry kind_sorted plain_sorted entry_sorted (args_sorted1 _) ?_
  unfold Builtin.«sorted»
  refine wpAny_bind (m := checkCount "sorted" 1 1 _) (wpAny_pure ?_)
  refine wpAny_bind (collect_set (A := A.in1) hh ho hP h2 fun ord h' tk dr hord hk => ?_)
  have hS : StrsAre ord (ord.map strOf) := strsAre_map ord fun v hv => by
    (first | ((first | refine Exists.elim (hord.2.1 v hv) ?_ | refine Mine.and_el (hord.2.1 v hv) ?_); intro x zt532; (first | refine Exists.elim zt532 ?_ | refine Mine.and_el zt532 ?_); intro t zt533; (try clear zt532); (first | refine Exists.elim zt533 ?_ | refine Mine.and_el zt533 ?_); intro e zt534; (try clear zt533)) | obtain ⟨x, t, e, _⟩ := hord.2.1 v hv)
    exact ⟨x, t, e⟩
  have hol : ord.length < 64 := by rw [hord.1]; exact h64
  refine wpAny_bind (wpAny_newList ?_ (by rw [sizeLine_eq]; omega))
  have hoL : (h'.push (seqObj "list" ord.toArray 0)).get? h'.objs.size = some (seqObj "list" ord.toArray 0) := Heap.get?_push_size _ rfl
  refine wpAny_bind (wpAny_holding (wpAny_call_entry slot_list_sort ⟨_, hoL, rfl⟩ entry_list_sort (list_sort_treeK strKind_oneLt hoL hS.keysOf (fun v₁ v₂ rest e => keyKind_strs (ss := (v₁ :: v₂ :: rest).map strOf) (by rw [← e]; exact hS)) hol fun st' a1 a2 => ⟨_, rfl, ?_⟩) (args_list_sort _)))
  (first | ((first | refine Exists.elim (sorted_out_str hS a1 a2) ?_ | refine Mine.and_el (sorted_out_str hS a1 a2) ?_); intro ss' zt535; (first | refine Exists.elim zt535 ?_ | refine Mine.and_el zt535 ?_); intro b1 zt536; (try clear zt535); (first | refine Exists.elim zt536 ?_ | refine Mine.and_el zt536 ?_); intro b2 b3; (try clear zt536)) | obtain ⟨ss', b1, b2, b3⟩ := sorted_out_str hS a1 a2)
  (first | ((first | refine Exists.elim (sortedHeap_at (vs := ord) (out := (arrOf st').map (·.2)) hoL) ?_ | refine Mine.and_el (sortedHeap_at (vs := ord) (out := (arrOf st').map (·.2)) hoL) ?_); intro k hk2) | obtain ⟨k, hk2⟩ := sortedHeap_at (vs := ord) (out := (arrOf st').map (·.2)) hoL)
  have old : ∀ b o, s.heap.get? b = some o → (sortedHeap (h'.push (seqObj "list" ord.toArray 0)) h'.objs.size ord ((arrOf st').map (·.2))).get? b = some o := fun b o e =>
    sortedHeap_old (Nat.ne_of_lt (Heap.lt_size (hk b o e))) (Heap.get?_push_of_some _ (hk b o e))
  refine wpAny_pure ⟨_, rfl, h h'.objs.size _ _ _ ((arrOf st').map (·.2)).toList ss' k (F.keeps old) (fun p hp => ?_) b1 (by rw [b2.length_eq, List.length_map, hord.1]) fun x => ?_⟩
  · rcases List.mem_cons.mp hp with rfl | hp
    · refine ⟨by rw [Array.toArray_toList]; exact hk2, ?_, ?_⟩
      · (first | ((first | refine Exists.elim (F.ns) ?_ | refine Mine.and_el (F.ns) ?_); intro oL zt537; (first | refine Exists.elim zt537 ?_ | refine Mine.and_el zt537 ?_); intro zt538 zt539; (try clear zt537); (first | refine Exists.elim zt539 ?_ | refine Mine.and_el zt539 ?_); intro zt540 zt541; (try clear zt539); (first | refine Exists.elim zt541 ?_ | refine Mine.and_el zt541 ?_); intro hL zt542; (try clear zt541)) | obtain ⟨oL, _, _, hL, _⟩ := F.ns)
        exact Nat.ne_of_gt (Heap.lt_size (hk _ _ hL))
      · cases q : h₀.get? h'.objs.size with
        | none => rfl
        | some o' => exact absurd (Heap.lt_size (hk _ _ (F.keep _ _ q))) (Nat.lt_irrefl _)
    · exact ⟨old _ _ (N p hp).1, (N p hp).2⟩
  · rw [b2.mem_iff]
    constructor
    · intro hx
      (first | ((first | refine Exists.elim (List.mem_map.mp hx) ?_ | refine Mine.and_el (List.mem_map.mp hx) ?_); intro v zt543; (first | refine Exists.elim zt543 ?_ | refine Mine.and_el zt543 ?_); intro hv zt544; (try clear zt543); subst zt544) | obtain ⟨v, hv, rfl⟩ := List.mem_map.mp hx)
      (first | ((first | refine Exists.elim (hord.2.1 v hv) ?_ | refine Mine.and_el (hord.2.1 v hv) ?_); intro x zt545; (first | refine Exists.elim zt545 ?_ | refine Mine.and_el zt545 ?_); intro t zt546; (try clear zt545); (first | refine Exists.elim zt546 ?_ | refine Mine.and_el zt546 ?_); intro zt547 hX; (try clear zt546); subst zt547) | obtain ⟨x, t, rfl, hX⟩ := hord.2.1 v hv)
      exact hX
    · intro hX
      (first | ((first | refine Exists.elim (hord.2.2 x hX) ?_ | refine Mine.and_el (hord.2.2 x hX) ?_); intro t ht) | obtain ⟨t, ht⟩ := hord.2.2 x hX)
      exact List.mem_map.mpr ⟨_, ht, rfl⟩
theorem set_N {h₀ : Heap} {L : Addr} {m : Str → Option Value} {news : List (Addr × Obj)} {l : List Nat} {tx : Tok} {Q : Value → Shared → Prop} (hh : A.handled = none) (F : Fr h₀ L s.heap m) (N : News h₀ L s.heap news) (hx : ∀ c ∈ l, c < 128) (hb : l.length ≤ 1000)
    (h : ∀ (D : Addr) (h' : Heap) (tk : Nat) (o : Obj), Fr h₀ L h' m → News h₀ L h' ((D, o) :: news) → (∀ p ∈ news, p.1 < D) → SetP prog w o (fun k => (ded (fun i => S [l.getD i 0]) l.length).any (· == k)) (ded (fun i => S [l.getD i 0]) l.length).length → Q (.ref D) { s with heap := h', toks := tk }) :
    wpAny (model prog w) A (call (.type "set") [.str (S l) tx]) Q E s := by
  refine call_set_text hh hx (by unfold scanBound; omega) fun h' tk hS hk => ?_
  (first | ((first | refine Exists.elim hS ?_ | refine Mine.and_el hS ?_); intro o zt548; (try clear hS); (first | refine Exists.elim zt548 ?_ | refine Mine.and_el zt548 ?_); intro ho hp; (try clear zt548)) | obtain ⟨o, ho, hp⟩ := hS)
  have up : ∀ b o, s.heap.get? b = some o → h'.get? b = some o := fun b o e => hk b o (Heap.lt_size e) e
  refine h _ h' tk o (F.keeps up) (fun p hp => ?_) (fun p hp => Heap.lt_size (N p hp).1) hp
  rcases List.mem_cons.mp hp with rfl | hp
  · refine ⟨ho, ?_, ?_⟩
    · (first | ((first | refine Exists.elim (F.ns) ?_ | refine Mine.and_el (F.ns) ?_); intro oL zt549; (first | refine Exists.elim zt549 ?_ | refine Mine.and_el zt549 ?_); intro zt550 zt551; (try clear zt549); (first | refine Exists.elim zt551 ?_ | refine Mine.and_el zt551 ?_); intro zt552 zt553; (try clear zt551); (first | refine Exists.elim zt553 ?_ | refine Mine.and_el zt553 ?_); intro hL zt554; (try clear zt553)) | obtain ⟨oL, _, _, hL, _⟩ := F.ns)
      exact Nat.ne_of_gt (Heap.lt_size hL)
    · cases q : h₀.get? s.heap.objs.size with
      | none => rfl
      | some o' => exact absurd (Heap.lt_size (F.keep _ _ q)) (Nat.lt_irrefl _)
  · exact ⟨up _ _ (N p hp).1, (N p hp).2⟩
theorem ded_any (val : Nat → Str) : ∀ (i : Nat) (k : Str), (ded val i).any (· == k) = ((List.range i).map val).any (· == k)
  | 0, k => rfl
  | i + 1, k => by
    rw [ded_succ, dedA, ded_any val i k, List.range_succ, List.map_append, List.any_append]
    by_cases e : k = val i
    · subst e; simp
    · have : (val i == k) = false := by simpa [beq_iff_eq] using (fun h : val i = k => e h.symm)
      simp [e, this]
theorem ded_nodup (val : Nat → Str) : ∀ i : Nat, (ded val i).Nodup
  | 0 => List.nodup_nil
  | i + 1 => by
    rw [ded_succ]
    unfold step_dedup
    split
    · exact ded_nodup val i
    · rename_i h
      refine List.nodup_append.mpr ⟨ded_nodup val i, by simp, fun x hx y hy e => h ?_⟩
      rw [List.mem_singleton.mp hy] at e
      exact List.any_eq_true.mpr ⟨x, hx, by simp [e]⟩
theorem ded_mem {l : List Nat} {x : Str} : (ded (fun i => S [l.getD i 0]) l.length).any (· == x) = true ↔ ∃ c ∈ l, x = S [c] := by
  rw [ded_any]
  simp only [List.any_eq_true, List.mem_map, List.mem_range, beq_iff_eq]
  constructor
  · (first | ((first | (intro zt555; (first | refine Exists.elim zt555 ?_ | refine Mine.and_el zt555 ?_); intro y zt556; (try clear zt555); (first | refine Exists.elim zt556 ?_ | refine Mine.and_el zt556 ?_); intro zt557 zt558; (try clear zt556); (first | refine Exists.elim zt557 ?_ | refine Mine.and_el zt557 ?_); intro i zt559; (try clear zt557); (first | refine Exists.elim zt559 ?_ | refine Mine.and_el zt559 ?_); intro hi zt560; (try clear zt559); subst zt560; subst zt558) | rintro ⟨y, ⟨i, hi, rfl⟩, rfl⟩)) | rintro ⟨y, ⟨i, hi, rfl⟩, rfl⟩)
    exact ⟨l.getD i 0, by rw [List.getD_eq_getElem?_getD, List.getElem?_eq_getElem hi]; exact List.getElem_mem hi, rfl⟩
  · (first | ((first | (intro zt561; (first | refine Exists.elim zt561 ?_ | refine Mine.and_el zt561 ?_); intro c zt562; (try clear zt561); (first | refine Exists.elim zt562 ?_ | refine Mine.and_el zt562 ?_); intro hc zt563; (try clear zt562); subst zt563) | rintro ⟨c, hc, rfl⟩)) | rintro ⟨c, hc, rfl⟩)
    (first | ((first | refine Exists.elim (List.getElem_of_mem hc) ?_ | refine Mine.and_el (List.getElem_of_mem hc) ?_); intro i zt564; (first | refine Exists.elim zt564 ?_ | refine Mine.and_el zt564 ?_); intro hi zt565; (try clear zt564); subst zt565) | obtain ⟨i, hi, rfl⟩ := List.getElem_of_mem hc)
    exact ⟨_, ⟨i, hi, rfl⟩, by rw [List.getD_eq_getElem?_getD, List.getElem?_eq_getElem hi]; rfl⟩
theorem ded_bounds {l k : List Nat} {a b : Nat} (ha : a ∈ l) (hb : b ∈ l) (hab : a ≠ b) (hk : ∀ c ∈ l, c ∈ k) : 1 < (ded (fun i => S [l.getD i 0]) l.length).length ∧ (ded (fun i => S [l.getD i 0]) l.length).length ≤ k.length := by
  have mem : ∀ x : Str, x ∈ ded (fun i => S [l.getD i 0]) l.length ↔ ∃ c ∈ l, x = S [c] := fun x => by
    rw [← ded_mem, List.any_eq_true]
    constructor
    · intro h; exact ⟨x, h, by simp⟩
    · rintro ⟨y, hy, e⟩; rw [beq_iff_eq.mp e] at hy; exact hy
  have nd := ded_nodup (fun i => S [l.getD i 0]) l.length
  generalize ded (fun i => S [l.getD i 0]) l.length = d at mem nd
  constructor
  · have h1 := (mem (S [a])).mpr ⟨a, ha, rfl⟩
    have h2 := (mem (S [b])).mpr ⟨b, hb, rfl⟩
    have hne : S [a] ≠ S [b] := fun e => hab (by have := S_inj e; simpa using this)
    match d, h1, h2 with
    | [x], h1, h2 =>
      exact absurd ((List.mem_singleton.mp h1).trans (List.mem_singleton.mp h2).symm) hne
    | x :: y :: r, _, _ => simp
  · have : d ⊆ k.map fun c => S [c] := by
      intro x hx
      (first | ((first | refine Exists.elim ((mem x).mp hx) ?_ | refine Mine.and_el ((mem x).mp hx) ?_); intro c zt566; (first | refine Exists.elim zt566 ?_ | refine Mine.and_el zt566 ?_); intro hc zt567; (try clear zt566); subst zt567) | obtain ⟨c, hc, rfl⟩ := (mem x).mp hx)
      exact List.mem_map.mpr ⟨c, hk c hc, rfl⟩
    have := List.Nodup.length_le_of_subset nd this
    simpa using this
theorem sg_of {l : List Nat} {ss : List Str} (h : ∀ x, x ∈ ss ↔ (ded (fun i => S [l.getD i 0]) l.length).any (· == x) = true) : ∃ sg : List Nat, ss = sg.map (fun c => S [c]) ∧ sg.length = ss.length ∧ ∀ c, c ∈ sg ↔ c ∈ l := by
  have hh : ∀ x ∈ ss, S [x.cps.toList.headD 0] = x := by
    intro x hx
    (first | ((first | refine Exists.elim (ded_mem.mp ((h x).mp hx)) ?_ | refine Mine.and_el (ded_mem.mp ((h x).mp hx)) ?_); intro c zt568; (first | refine Exists.elim zt568 ?_ | refine Mine.and_el zt568 ?_); intro zt569 zt570; (try clear zt568); subst zt570) | obtain ⟨c, _, rfl⟩ := ded_mem.mp ((h x).mp hx))
    rw [S_cps]; rfl
  refine ⟨ss.map fun x => x.cps.toList.headD 0, ?_, by simp, fun c => ?_⟩
  · rw [List.map_map]
    conv => lhs; rw [← List.map_id ss]
    exact List.map_congr_left fun x hx => (hh x hx).symm
  · rw [List.mem_map]
    constructor
    · (first | ((first | (intro zt571; (first | refine Exists.elim zt571 ?_ | refine Mine.and_el zt571 ?_); intro x zt572; (try clear zt571); (first | refine Exists.elim zt572 ?_ | refine Mine.and_el zt572 ?_); intro hx zt573; (try clear zt572); subst zt573) | rintro ⟨x, hx, rfl⟩)) | rintro ⟨x, hx, rfl⟩)
      (first | ((first | refine Exists.elim (ded_mem.mp ((h x).mp hx)) ?_ | refine Mine.and_el (ded_mem.mp ((h x).mp hx)) ?_); intro c zt574; (first | refine Exists.elim zt574 ?_ | refine Mine.and_el zt574 ?_); intro hc zt575; (try clear zt574); subst zt575) | obtain ⟨c, hc, rfl⟩ := ded_mem.mp ((h x).mp hx))
      rw [S_cps]; exact hc
    · intro hc
      refine ⟨S [c], (h _).mpr (ded_mem.mpr ⟨c, hc, rfl⟩), ?_⟩
      rw [S_cps]; rfl
end
end Mine
end
section
set_option maxRecDepth 100000
set_option maxHeartbeats 8000000
namespace Mine
/-- the five signs: the grey, the first colour, its other depth, the second, its other depth -/
inductive Sg where
  | g | a | a' | b | b'
namespace Sg
noncomputable def beq : Sg → Sg → Bool
  | g, g => true | a, a => true | a', a' => true | b, b => true | b', b' => true
  | _, _ => false
theorem beq_iff : ∀ x y : Sg, beq x y = true ↔ x = y := by
  intro x y; cases x <;> cases y <;> simp [beq]
noncomputable instance : DecidableEq Sg := fun x y => decidable_of_iff _ (beq_iff x y)
noncomputable def sw : Sg → Sg
  | g => g | a => a' | a' => a | b => b' | b' => b
noncomputable def cost (x y : Sg) : Int := if beq x y then 0 else if beq x (sw y) then 1 else 2
noncomputable def all : List Sg := [g, a, a', b, b']
theorem mem_all : ∀ x : Sg, x ∈ all := by intro x; cases x <;> simp [all]
end Sg
open Sg
noncomputable def insA (t sg : List Sg) (j : Nat) : List (List Sg × Int) := sg.map fun c => (t.take j ++ c :: t.drop j, 2)
noncomputable def subA (t sg : List Sg) (j : Nat) : List (List Sg × Int) := (sg ++ [sw (t.getD j g)]).map fun c => (t.take j ++ c :: t.drop (j + 1), cost (t.getD j g) c)
noncomputable def lettersA (t : List Sg) : List Nat := (List.range t.length).filter fun j => !(beq (t.getD j g) g)
noncomputable def dblA (t : List Sg) (one : Nat) (l : List Nat) : List (List Sg × Int) := (l.filter fun two => decide (one < two)).map fun two => (t.take one ++ sw (t.getD one g) :: ((t.drop (one + 1)).take (two - (one + 1)) ++ sw (t.getD two g) :: t.drop (two + 1)), 2)
noncomputable def nearA (t sg : List Sg) : List (List Sg × Int) :=
  (([(t, 0)] ++ (List.range (t.length + 1)).flatMap (insA t sg)) ++ (List.range t.length).flatMap fun i => (t.take i ++ t.drop (i + 1), 2) :: subA t sg i) ++ (lettersA t).flatMap fun one => dblA t one (lettersA t)
noncomputable def stripsA : List (List Sg) := [[a]] ++ (all.map fun x => [a, x]) ++ (all.flatMap fun x => all.map fun y => [a, x, y]) ++ (all.flatMap fun x => all.flatMap fun y => all.map fun z => [a, x, y, z])
-- the pattern's match over lists
section
variable {α : Type} [DecidableEq α]
noncomputable def subAtG : List α → List α → Bool
  | _, [] => true
  | x :: s, y :: w => if x = y then subAtG s w else false
  | [], _ :: _ => false
/-- the first place from st on, at most n tries -/
noncomputable def findG (s w : List α) : Nat → Nat → Option Nat
  | 0, _ => none
  | n + 1, i => if subAtG (s.drop i) w then some i else findG s w n (i + 1)
noncomputable def matchLG (g : List α) (e : Nat) : List (List α) → Nat → Bool
  | [], _ => true
  | w :: r, st => match findG g w (e + 1 - w.length - st) st with | none => false | some i => matchLG g e r (i + w.length)
noncomputable def matchRG (g : List α) (st e : Nat) (parts : List (List α)) : Bool := if e < st then false else matchLG g e parts st
noncomputable def matchQG (g : List α) (st : Nat) (parts : List (List α)) : Bool :=
  match parts.getLastD [] with
  | [] => matchRG g st g.length parts
  | w => if w.length ≤ g.length ∧ g.drop (g.length - w.length) = w then matchRG g st (g.length - w.length) parts.dropLast else false
noncomputable def matchPG (g : List α) (parts : List (List α)) : Bool :=
  match parts.headD [] with
  | [] => matchQG g 0 parts
  | w => if subAtG g w then matchQG g w.length parts.tail else false
end
/-- the pattern's items, cut at the greys by threes -/
noncomputable def splitA : List Sg → List Sg → List (List Sg)
  | g :: g :: g :: r, cur => cur.reverse :: splitA r []
  | x :: r, cur => splitA r (x :: cur)
  | [], cur => [cur.reverse]
noncomputable def chunkA : Nat → List Sg
  | 0 => [g, g, g] | 1 => [a] | 2 => [b] | 3 => [g] | _ => [a']
noncomputable def patsA : List (List Sg) := [[a, g, g, g]] ++ ((List.range 5).map fun i => chunkA i ++ [a, g, g, g]) ++ ((List.range 5).flatMap fun i => (List.range 5).map fun j => chunkA i ++ [a, g, g, g] ++ chunkA j)
noncomputable def itemStepA (acc : List (Option Sg)) (c : Sg) : List (Option Sg) :=
  if (acc ++ [some c]).drop ((acc ++ [some c]).length - 3) = [some g, some g, some g] then (acc ++ [some c]).take ((acc ++ [some c]).length - 3) ++ [none] else acc ++ [some c]
noncomputable def itemsA (p : List Sg) : List (Option Sg) := p.foldl itemStepA []
noncomputable def itCostA : Option Sg → Int
  | none => 0
  | some _ => 2
noncomputable def initRowA (its : List (Option Sg)) : List Int := its.foldl (fun row it => row ++ [row.getLastD 0 + itCostA it]) [0]
noncomputable def cellA (sign : Sg) (its : List (Option Sg)) (row news : List Int) (place : Nat) : Int :=
  match its.getD place none with
  | none => min (news.getD place 0) (row.getD (place + 1) 0)
  | some c => min (min (news.getD place 0 + 2) (row.getD (place + 1) 0 + 2)) (row.getD place 0 + cost sign c)
noncomputable def newsA (sign : Sg) (its : List (Option Sg)) (row : List Int) : List Int :=
  (List.range its.length).foldl (fun news place => news ++ [cellA sign its row news place]) [row.getD 0 0 + 2]
noncomputable def farA (its : List (Option Sg)) (text : List Sg) : Int := (text.foldl (fun row sign => newsA sign its row) (initRowA its)).getLastD 0
noncomputable def ownA (p : List Sg) : List Sg := all.filter fun x => p.any (beq x)
noncomputable def okFar (p : List Sg) (parts : List (List Sg)) (its : List (Option Sg)) (own t : List Sg) : Bool :=
  let r := min 3 (farA its t)
  let n := nearA t own
  (n.all fun q => decide (r ≤ q.2) || !(matchPG q.1 parts)) && (decide (r = 3) || n.any fun q => decide (q.2 = r) && matchPG q.1 parts)
noncomputable def okPat (ts : List (List Sg)) (p : List Sg) : Bool := ts.all (okFar p (splitA p []) (itemsA p) (ownA p))
end Mine
end
section
open PySem PySem.W PyProof.Rows
set_option maxRecDepth 100000
set_option maxHeartbeats 8000000
namespace Mine
open PySem.Builtin.Str (occurrences subAt partsBetween strSub)
/-- a text with its signs renamed -/
noncomputable def mapS (f : Nat → Nat) (x : Str) : Str := ⟨x.cps.map f⟩
theorem mapS_S (f : Nat → Nat) (l : List Nat) : mapS f (S l) = S (l.map f) := by simp [mapS, S]
theorem mapS_len (f : Nat → Nat) (x : Str) : (mapS f x).length = x.length := by simp [mapS, Str.length]
theorem subAt_map {f : Nat → Nat} (hf : ∀ x y, f x = f y → x = y) (s sub : Str) (i : Nat) : subAt (mapS f s) (mapS f sub) i = subAt s sub i := by
  unfold subAt
  rw [mapS_len]
  have h1 : (mapS f s).cps.extract i (i + sub.length) = (s.cps.extract i (i + sub.length)).map f := by simp [mapS]
  rw [h1]
  show ((s.cps.extract i (i + sub.length)).map f == sub.cps.map f) = _
  generalize s.cps.extract i (i + sub.length) = u
  generalize sub.cps = v
  rw [Bool.eq_iff_iff, beq_iff_eq, beq_iff_eq]
  constructor
  · intro h
    have := congrArg Array.toList h
    rw [Array.toList_map, Array.toList_map] at this
    have h2 : u.toList = v.toList := (List.map_inj_right (fun x y e => hf x y e)).mp this
    exact Array.toList_inj.mp h2
  · intro h; rw [h]
theorem occ_map {f : Nat → Nat} (hf : ∀ x y, f x = f y → x = y) (s sub : Str) (lo hi limit : Nat) : occurrences (mapS f s) (mapS f sub) lo hi limit = occurrences s sub lo hi limit := by
  rw [StrLaws.occ_eq, StrLaws.occ_eq]
  have : StrLaws.occBody (mapS f s) (mapS f sub) hi limit = StrLaws.occBody s sub hi limit := by
    funext i st
    unfold StrLaws.occBody
    rw [subAt_map hf, mapS_len]
  rw [this]
theorem kind_dots (x : Str) : ¬ Builtin.Str.strKind x < Builtin.Str.strKind dots := by
  have h1 : Builtin.Str.strKind dots = 1 := by decide +kernel
  rw [h1]
  unfold Builtin.Str.strKind
  split
  · omega
  · split <;> omega
theorem parts_map (f : Nat → Nat) (x : Str) (cuts : List Nat) (w : Nat) : partsBetween (mapS f x) cuts w = (partsBetween x cuts w).map (mapS f) := by
  unfold partsBetween
  simp only [mapS_len, List.map_map]
  refine List.map_congr_left fun p _ => ?_
  simp [strSub, mapS]
theorem split_map {f : Nat → Nat} (hf : ∀ x y, f x = f y → x = y) (hd : mapS f dots = dots) (x : Str) : Txt.split (mapS f x) dots = (Txt.split x dots).map (mapS f) := by
  unfold Txt.split
  have ho : ∀ k, occurrences (mapS f x) dots 0 x.length k = occurrences x dots 0 x.length k := fun k => by
    conv => lhs; rw [← hd]
    exact occ_map hf x dots 0 x.length k
  have hl : (mapS f x).length = x.length := mapS_len f x
  simp only [kind_dots, ho, hl, decide_false, Bool.or_false]
  by_cases h1 : decide (x.length < dots.length) = true
  · rw [if_pos h1, if_pos h1]; rfl
  · rw [if_neg h1, if_neg h1]
    by_cases h2 : (occurrences x dots 0 x.length (x.length + 1)).isEmpty = true
    · rw [if_pos h2, if_pos h2]; rfl
    · rw [if_neg h2, if_neg h2, parts_map]
-- the text functions over lists
theorem subAtG_iff {α : Type} [DecidableEq α] : ∀ (s w : List α), subAtG s w = true ↔ s.take w.length = w
  | _, [] => by simp [subAtG]
  | [], _ :: _ => by simp [subAtG]
  | x :: s, y :: w => by
    unfold subAtG
    by_cases h : x = y
    · subst h; simp [subAtG_iff s w]
    · simp [h]
theorem subAt_S (s w : List Nat) (i : Nat) : subAt (S s) (S w) i = subAtG (s.drop i) w := by
  rw [Bool.eq_iff_iff, subAtG_iff]
  unfold subAt
  rw [beq_iff_eq]
  have e : (S w).length = w.length := S_length w
  rw [e]
  constructor
  · intro h
    have := congrArg Array.toList h
    simpa [S, List.extract_eq_take_drop] using this
  · intro h
    apply Array.toList_inj.mp
    simpa [S, List.extract_eq_take_drop] using h
theorem starts_S (g w : List Nat) : Txt.startswith (S g) (S w) = subAtG g w := by
  unfold Txt.startswith
  rw [subAt_S, S_length, S_length, List.drop_zero]
  by_cases h : subAtG g w = true
  · have h1 := (subAtG_iff g w).mp h
    have h2 : w.length ≤ g.length := by have := congrArg List.length h1; simp at this; omega
    simp [h, h2]
  · simp [Bool.eq_false_iff.mpr h]
theorem ends_S (g w : List Nat) : Txt.endswith (S g) (S w) = decide (w.length ≤ g.length ∧ g.drop (g.length - w.length) = w) := by
  unfold Txt.endswith
  rw [subAt_S, S_length, S_length, Bool.eq_iff_iff]
  simp only [Nat.zero_add, Bool.and_eq_true, decide_eq_true_eq, subAtG_iff]
  refine and_congr_right fun h => ?_
  rw [List.take_of_length_le]
  simp; omega
theorem find_S (g w : List Nat) : ∀ (n i : Nat), (findG g w n i = none ∧ ∀ k, i ≤ k → k < i + n → subAtG (g.drop k) w = false) ∨ ∃ k, findG g w n i = some k ∧ i ≤ k ∧ k < i + n ∧ subAtG (g.drop k) w = true ∧ ∀ j, i ≤ j → j < k → subAtG (g.drop j) w = false
  | 0, i => .inl ⟨rfl, fun k h1 h2 => by omega⟩
  | n + 1, i => by
    unfold findG
    by_cases h : subAtG (g.drop i) w = true
    · rw [if_pos h]
      exact .inr ⟨i, rfl, Nat.le_refl _, by omega, h, fun j h1 h2 => by omega⟩
    · rw [if_neg h]
      rcases find_S g w n (i + 1) with ⟨h0, hn⟩ | ⟨k, h0, h1, h2, h3, h4⟩
      · refine .inl ⟨h0, fun k h1 h2 => ?_⟩
        rcases Nat.eq_or_lt_of_le h1 with e | e
        · rw [← e]; simpa using h
        · exact hn k (by omega) (by omega)
      · refine .inr ⟨k, h0, by omega, by omega, h3, fun j h5 h6 => ?_⟩
        rcases Nat.eq_or_lt_of_le h5 with e | e
        · rw [← e]; simpa using h
        · exact h4 j (by omega) h6
theorem find4_S {g w : List Nat} {st e : Nat} (he : e ≤ g.length) : find4 (S g) (S w) (st : Int) (e : Int) = match findG g w (e + 1 - w.length - st) st with | some i => (i : Int) | none => -1 := by
  have f1 : fromIndex (S g).length (st : Int) = st := by unfold fromIndex; rw [if_neg (by omega)]; omega
  have f2 : min (fromIndex (S g).length (e : Int)) (S g).length = e := by
    have : fromIndex (S g).length (e : Int) = e := by unfold fromIndex; rw [if_neg (by omega)]; omega
    rw [this, S_length]; omega
  unfold find4
  rw [f1, f2, StrLaws.occ_eq]
  have at_iff : ∀ i, StrLaws.At (S g) (S w) e i ↔ i + w.length ≤ e ∧ subAtG (g.drop i) w = true := fun i => by
    unfold StrLaws.At; rw [subAt_S, S_length]
  rcases StrLaws.occ_first (S g) (S w) e 1 (Nat.le_refl _) (List.range' st (e + 1 - st)) st (fun i hi => by simp [List.mem_range'] at hi; omega) with ⟨h0, hn⟩ | ⟨pre, a, post, es, h0, ha, hn⟩
  · rw [h0]
    have hnone : ∀ k, st ≤ k → k < st + (e + 1 - w.length - st) → subAtG (g.drop k) w = false := by
      intro k h1 h2
      have := hn k (List.mem_range'_1.mpr ⟨h1, by omega⟩)
      rw [at_iff] at this
      cases hq : subAtG (g.drop k) w with
      | false => rfl
      | true => exact absurd ⟨by omega, hq⟩ this
    rcases find_S g w (e + 1 - w.length - st) st with ⟨h3, _⟩ | ⟨k, _, h4, h5, h6, _⟩
    · rw [h3]
    · rw [hnone k h4 h5] at h6; cases h6
  · have hL : (forIn (List.range' st (e + 1 - st)) ((#[] : Array Nat), st) (StrLaws.occBody (S g) (S w) e 1)).run.fst.toList[0]? = some a := by simpa using h0
    have hmem : a ∈ List.range' st (e + 1 - st) := by rw [es]; simp
    have hast : st ≤ a ∧ a < st + (e + 1 - st) := List.mem_range'_1.mp hmem
    have hbelow : ∀ j, st ≤ j → j < a → subAtG (g.drop j) w = false := by
      intro j h1 h2
      have hj : j ∈ pre := by
        have hlen : pre.length = a - st := by
          have h3 : (List.range' st (e + 1 - st))[pre.length]? = some a := by rw [es]; simp
          have h5 : pre.length < e + 1 - st := by
            have := congrArg List.length es
            simp at this; omega
          rw [List.getElem?_range' h5] at h3
          have := Option.some.inj h3
          omega
        have h6 : (List.range' st (e + 1 - st))[j - st]? = some j := by
          rw [List.getElem?_range' (by omega)]; congr 1; omega
        rw [es, List.getElem?_append_left (by omega)] at h6
        exact List.mem_of_getElem? h6
      have := hn j hj
      rw [at_iff] at this
      have h7 := (at_iff a).mp ha
      cases hq : subAtG (g.drop j) w with
      | false => rfl
      | true => exact absurd ⟨by omega, hq⟩ this
    have h7 := (at_iff a).mp ha
    have hk : findG g w (e + 1 - w.length - st) st = some a := by
      rcases find_S g w (e + 1 - w.length - st) st with ⟨h3, h4⟩ | ⟨k, h3, h4, h5, h6, h8⟩
      · rw [h4 a hast.1 (by omega)] at h7; exact absurd h7.2 (by simp)
      · rcases Nat.lt_trichotomy k a with h9 | h9 | h9
        · rw [hbelow k h4 h9] at h6; cases h6
        · rw [h3, h9]
        · rw [h8 a hast.1 h9] at h7; exact absurd h7.2 (by simp)
    rw [hk]
    generalize (forIn (List.range' st (e + 1 - st)) ((#[] : Array Nat), st) (StrLaws.occBody (S g) (S w) e 1)).run.fst.toList = L at hL ⊢
    cases L with
    | nil => simp at hL
    | cons b t => simp at hL; rw [hL]
theorem matchL_S {g : List Nat} {e : Nat} (he : e ≤ g.length) : ∀ (parts : List (List Nat)) (st : Nat), matchL (S g) (e : Int) (parts.map S) (st : Int) = matchLG g e parts st
  | [], st => rfl
  | w :: r, st => by
    rw [List.map_cons, matchL, matchLG, find4_S he]
    cases hf : findG g w (e + 1 - w.length - st) st with
    | none => rfl
    | some i =>
      dsimp only
      rw [if_neg (Int.not_lt.mpr (Int.natCast_nonneg i)), S_length]
      have := matchL_S he r (i + w.length)
      rw [Int.natCast_add] at this
      exact this
theorem matchR_S {g : List Nat} {st e : Nat} (he : e ≤ g.length) (parts : List (List Nat)) : matchR (S g) (st : Int) (e : Int) (parts.map S) = matchRG g st e parts := by
  unfold matchR matchRG
  by_cases h : e < st
  · rw [if_pos (by omega), if_pos h]
  · rw [if_neg (by omega), if_neg h, matchL_S he]
theorem lastD_S (parts : List (List Nat)) : (parts.map S).getLastD Str.empty = S (parts.getLastD []) := by
  have h0 : Str.empty = S [] := by decide +kernel
  rw [h0]
  rw [List.getLastD_eq_getLast?, List.getLast?_map, List.getLastD_eq_getLast?]
  cases parts.getLast? <;> rfl
theorem headD_S (parts : List (List Nat)) : (parts.map S).headD Str.empty = S (parts.headD []) := by
  have h0 : Str.empty = S [] := by decide +kernel
  rw [h0]
  cases parts <;> rfl
theorem matchQ_S {g : List Nat} {st : Nat} (parts : List (List Nat)) : matchQ (S g) (st : Int) (parts.map S) = matchQG g st parts := by
  unfold matchQ matchQG
  rw [lastD_S, S_length, S_length, ends_S]
  cases hl : parts.getLastD [] with
  | nil => rw [if_neg (by simp)]; exact matchR_S (Nat.le_refl _) parts
  | cons c w =>
    rw [if_pos (by simp)]
    dsimp only
    by_cases h : (c :: w).length ≤ g.length ∧ g.drop (g.length - (c :: w).length) = c :: w
    · rw [if_pos (decide_eq_true h), if_pos h]
      have e1 : ((g.length : Int) - ((c :: w).length : Int)) = ((g.length - (c :: w).length : Nat) : Int) := by have := h.1; omega
      rw [e1, ← List.map_dropLast]
      exact matchR_S (Nat.sub_le _ _) _
    · rw [if_neg (by rw [decide_eq_false h]; decide), if_neg h]
theorem matchP_S {g : List Nat} (parts : List (List Nat)) : matchP (S g) (parts.map S) = matchPG g parts := by
  unfold matchP matchPG
  rw [headD_S, S_length, starts_S]
  cases hl : parts.headD [] with
  | nil =>
    rw [if_neg (by simp)]
    have := matchQ_S (g := g) (st := 0) parts
    exact this
  | cons c w =>
    rw [if_pos (by simp)]
    dsimp only
    cases hs : subAtG g (c :: w) with
    | false => rfl
    | true =>
      rw [if_pos rfl, if_pos rfl, ← List.map_tail]
      exact matchQ_S _
end Mine
end
section
open PySem PySem.W PyProof.Rows
set_option maxRecDepth 100000
set_option maxHeartbeats 8000000
namespace Mine
section
variable {α β : Type} [DecidableEq α] [DecidableEq β] {f : α → β}
theorem subAtG_map (hf : ∀ x y, f x = f y → x = y) : ∀ s w : List α, subAtG (s.map f) (w.map f) = subAtG s w
  | [], [] => rfl
  | _ :: _, [] => rfl
  | [], _ :: _ => rfl
  | x :: s, y :: w => by
    simp only [List.map_cons, subAtG]
    by_cases h : x = y
    · subst h; simp [subAtG_map hf s w]
    · have : f x ≠ f y := fun e => h (hf _ _ e)
      simp [h, this]
theorem findG_map (hf : ∀ x y, f x = f y → x = y) (s w : List α) : ∀ n i : Nat, findG (s.map f) (w.map f) n i = findG s w n i
  | 0, _ => rfl
  | n + 1, i => by
    simp only [findG]
    rw [← List.map_drop, subAtG_map hf, findG_map hf s w n (i + 1)]
theorem matchLG_map (hf : ∀ x y, f x = f y → x = y) (g : List α) (e : Nat) : ∀ (parts : List (List α)) (st : Nat), matchLG (g.map f) e (parts.map (List.map f)) st = matchLG g e parts st
  | [], _ => rfl
  | w :: r, st => by
    simp only [List.map_cons, matchLG, List.length_map, findG_map hf]
    cases findG g w (e + 1 - w.length - st) st with
    | none => rfl
    | some i => exact matchLG_map hf g e r (i + w.length)
theorem matchRG_map (hf : ∀ x y, f x = f y → x = y) (g : List α) (st e : Nat) (parts : List (List α)) : matchRG (g.map f) st e (parts.map (List.map f)) = matchRG g st e parts := by
  unfold matchRG; rw [matchLG_map hf]
theorem matchQG_map (hf : ∀ x y, f x = f y → x = y) (g : List α) (st : Nat) (parts : List (List α)) : matchQG (g.map f) st (parts.map (List.map f)) = matchQG g st parts := by
  unfold matchQG
  have hl : (parts.map (List.map f)).getLastD [] = (parts.getLastD []).map f := by
    rw [List.getLastD_eq_getLast?, List.getLast?_map, List.getLastD_eq_getLast?]
    cases parts.getLast? <;> rfl
  rw [hl]
  cases parts.getLastD [] with
  | nil => simp only [List.map_nil, List.length_map]; exact matchRG_map hf _ _ _ _
  | cons c w =>
    simp only [List.map_cons, List.length_map, List.length_cons]
    have hd : (List.drop (g.length - (w.length + 1)) (List.map f g) = f c :: List.map f w) ↔ (List.drop (g.length - (w.length + 1)) g = c :: w) := by
      rw [← List.map_drop, ← List.map_cons]
      exact List.map_inj_right (fun x y e => hf x y e)
    by_cases h : w.length + 1 ≤ g.length ∧ List.drop (g.length - (w.length + 1)) g = c :: w
    · rw [if_pos h, if_pos ⟨h.1, hd.mpr h.2⟩, ← List.map_dropLast]
      exact matchRG_map hf _ _ _ _
    · rw [if_neg h, if_neg fun q => h ⟨q.1, hd.mp q.2⟩]
theorem matchPG_map (hf : ∀ x y, f x = f y → x = y) (g : List α) (parts : List (List α)) : matchPG (g.map f) (parts.map (List.map f)) = matchPG g parts := by
  unfold matchPG
  have hl : (parts.map (List.map f)).headD [] = (parts.headD []).map f := by cases parts <;> rfl
  rw [hl]
  cases parts.headD [] with
  | nil => simp only [List.map_nil]; exact matchQG_map hf _ _ _
  | cons c w =>
    have := subAtG_map hf g (c :: w)
    simp only [List.map_cons] at this ⊢
    rw [this]
    simp only [List.length_cons, List.length_map]
    rw [← List.map_tail, matchQG_map hf]
theorem lcp_map (hf : ∀ x y, f x = f y → x = y) : ∀ a b : List α, lcp (a.map f) (b.map f) = lcp a b
  | [], _ => by simp [lcp]
  | _ :: _, [] => by simp [lcp]
  | x :: a, y :: b => by
    simp only [List.map_cons, lcp]
    by_cases h : x = y
    · subst h; simp [lcp_map hf a b]
    · have : f x ≠ f y := fun e => h (hf _ _ e)
      simp [h, this]
theorem inner_map {c : β → β → Int} {c' : α → α → Int} (hc : ∀ x y, c (f x) (f y) = c' x y) (bc : α) : ∀ (as : List α) (rs : List Int) (d res mn : Int), inner c (f bc) (as.map f) rs d res mn = inner c' bc as rs d res mn
  | [], rs, d, res, mn => by cases rs <;> rfl
  | a :: as, [], d, res, mn => rfl
  | a :: as, r :: rs, d, res, mn => by
    simp only [List.map_cons, inner, hc, inner_map hc bc as]
theorem outer_map {c : β → β → Int} {c' : α → α → Int} (hc : ∀ x y, c (f x) (f y) = c' x y) (a : List α) (mc : Int) : ∀ (bs : List α) (i : Nat) (row : List Int) (res : Int), outer c (a.map f) mc (bs.map f) i row res = outer c' a mc bs i row res
  | [], _, _, _ => rfl
  | b :: bs, i, row, res => by
    simp only [List.map_cons, outer, inner_map hc, outer_map hc a mc bs]
theorem levF_map (hf : ∀ x y, f x = f y → x = y) {c : β → β → Int} {c' : α → α → Int} (hc : ∀ x y, c (f x) (f y) = c' x y) (a b : List α) (mc : Int) : levF c (a.map f) (b.map f) mc = levF c' a b mc := by
  have hpre : ∀ a b : List α, cutPre (a.map f) (b.map f) = (cutPre a b).map f := fun a b => by simp [cutPre, lcp_map hf, List.map_drop]
  have hpost : ∀ a b : List α, cutPost (a.map f) (b.map f) = (cutPost a b).map f := fun a b => by
    unfold cutPost
    rw [← List.map_reverse, ← List.map_reverse, lcp_map hf, List.length_map, List.map_take]
  have htab : ∀ a b : List α, table c (a.map f) (b.map f) mc = table c' a b mc := fun a b => by simp [table, outer_map hc]
  have hab : (a.map f = b.map f) ↔ a = b := List.map_inj_right (fun x y e => hf x y e)
  unfold levF
  simp only [hpre, hpost, htab, hab, List.map_eq_nil_iff, List.length_map]
end
section
variable {φ : Sg → Nat} (hφ : ∀ x y, φ x = φ y → x = y)
theorem far_map (hp : ∀ x y, priceS (φ x) (φ y) = Sg.cost x y) (its : List (Option Sg)) (t : List Sg) : farF priceS (its.map (Option.map φ)) (t.map φ) = farA its t := by
  have h1 : ∀ its : List (Option Sg), initRow (its.map (Option.map φ)) = initRowA its := fun its => by
    unfold initRow initRowA
    rw [List.foldl_map]
    congr 1
    funext row it
    cases it <;> rfl
  have h2 : ∀ (s : Sg) row news place, cellF priceS (φ s) (its.map (Option.map φ)) row news place = cellA s its row news place := fun s row news place => by
    unfold cellF cellA
    have : (its.map (Option.map φ)).getD place none = (its.getD place none).map φ := by
      rw [List.getD_eq_getElem?_getD, List.getD_eq_getElem?_getD, List.getElem?_map]
      cases its[place]? <;> rfl
    rw [this]
    cases its.getD place none with
    | none => rfl
    | some c => simp only [Option.map_some, hp]
  have h3 : ∀ (s : Sg) row, newsF priceS (φ s) (its.map (Option.map φ)) row = newsA s its row := fun s row => by
    unfold newsF newsA
    rw [List.length_map]
    congr 1
    funext news place
    rw [h2]
  unfold farF farA
  rw [List.foldl_map, h1]
  congr 2
  funext row s
  exact h3 s row
theorem items_map (hf : ∀ x y, φ x = φ y → x = y) (hg : φ .g = 46) (p : List Sg) : itemsF (p.map φ) = (itemsA p).map (Option.map φ) := by
  have hstep : ∀ (acc : List (Option Sg)) (c : Sg), itemStep (acc.map (Option.map φ)) (φ c) = (itemStepA acc c).map (Option.map φ) := fun acc c => by
    unfold itemStep itemStepA
    have e1 : acc.map (Option.map φ) ++ [some (φ c)] = (acc ++ [some c]).map (Option.map φ) := by simp
    rw [e1, List.length_map, ← List.map_drop, ← List.map_take]
    have hinj : ∀ x y : Option Sg, Option.map φ x = Option.map φ y → x = y := by
      intro x y h
      cases x <;> cases y <;> simp at h ⊢
      exact hf _ _ h
    have e2 : ([some 46, some 46, some 46] : List (Option Nat)) = [some Sg.g, some Sg.g, some Sg.g].map (Option.map φ) := by simp [hg]
    rw [e2]
    have e3 := List.map_inj_right (l := (acc ++ [some c]).drop ((acc ++ [some c]).length - 3)) (l' := [some Sg.g, some Sg.g, some Sg.g]) (fun x y e => hinj x y e)
    by_cases h : (acc ++ [some c]).drop ((acc ++ [some c]).length - 3) = [some Sg.g, some Sg.g, some Sg.g]
    · rw [if_pos h, if_pos (e3.mpr h)]; simp
    · rw [if_neg h, if_neg fun q => h (e3.mp q)]
  have : ∀ (p : List Sg) (acc : List (Option Sg)), (p.map φ).foldl itemStep (acc.map (Option.map φ)) = (p.foldl itemStepA acc).map (Option.map φ) := by
    intro p
    induction p with
    | nil => intro acc; rfl
    | cons c r ih => intro acc; rw [List.map_cons, List.foldl_cons, List.foldl_cons, hstep, ih]
  exact this p []
theorem flatMap_congr_map {ι A B : Type} {F : ι → List B} {G : ι → List A} {h : A → B} : ∀ l : List ι, (∀ j ∈ l, F j = (G j).map h) → l.flatMap F = (l.flatMap G).map h
  | [], _ => rfl
  | j :: l, hj => by
    rw [List.flatMap_cons, List.flatMap_cons, List.map_append, hj j (List.Mem.head _), flatMap_congr_map l fun k hk => hj k (List.Mem.tail _ hk)]
theorem near_map (hf : ∀ x y, φ x = φ y → x = y) (hg : φ .g = 46) (hs : ∀ x, swp (φ x) = φ (Sg.sw x)) (hp : ∀ x y, priceS (φ x) (φ y) = Sg.cost x y) (t sg : List Sg) :
    nearW (t.map φ) (sg.map φ) = (nearA t sg).map fun y => (y.1.map φ, y.2) := by
  have hgd : ∀ j, j < t.length → (t.map φ).getD j 0 = φ (t.getD j .g) := fun j hj => by
    simp [List.getD_eq_getElem?_getD, hj]
  have hlet : letters (t.map φ) = lettersA t := by
    unfold letters lettersA
    rw [List.length_map]
    refine List.filter_congr fun j hj => ?_
    have hj' := List.mem_range.mp hj
    rw [hgd j hj']
    generalize t.getD j .g = z
    cases hb : Sg.beq z .g with
    | true => rw [(Sg.beq_iff _ _).mp hb, hg]; rfl
    | false =>
      have : φ z ≠ 46 := fun e => by
        have := hf _ .g (e.trans hg.symm)
        rw [(Sg.beq_iff _ _).mpr this] at hb; cases hb
      simp [this]
  unfold nearW nearA
  rw [List.map_append, List.map_append, List.map_append, hlet]
  unfold subAll insAll
  rw [List.length_map]
  congr 1
  · congr 1
    · congr 1
      refine flatMap_congr_map _ fun j _ => ?_
      simp [insW, insA, List.map_take, List.map_drop]
    · refine flatMap_congr_map _ fun j hj => ?_
      have hj' := List.mem_range.mp hj
      unfold subW subA
      rw [hgd j hj']
      generalize t.getD j .g = z
      have hpr : ∀ c, priceF (S [φ z]) (S [φ c]) = Sg.cost z c := fun c => hp _ c
      simp only [hs, List.map_cons, List.map_append, List.map_map, List.map_take, List.map_drop, List.map_nil]
      congr 1
      congr 1
      · refine List.map_congr_left fun c _ => ?_
        simp [hpr, List.map_take, List.map_drop]
      · simp [hpr, List.map_take, List.map_drop]
  · refine flatMap_congr_map _ fun one ho => ?_
    have ho' : one < t.length := List.mem_range.mp (List.mem_filter.mp ho).1
    unfold dblW dblA
    rw [List.map_map]
    refine List.map_congr_left fun two ht => ?_
    have ht' : two < t.length := List.mem_range.mp (List.mem_filter.mp (List.mem_filter.mp ht).1).1
    simp only [hgd one ho', hgd two ht', hs, Function.comp, List.map_append, List.map_cons, List.map_take, List.map_drop]
theorem nearW_mem {t sg sg' : List Nat} (h : ∀ c, c ∈ sg → c ∈ sg') : ∀ x ∈ nearW t sg, x ∈ nearW t sg' := by
  intro x hx
  unfold nearW subAll insAll at hx ⊢
  rcases List.mem_append.mp hx with hx | hx
  · refine List.mem_append_left _ ?_
    rcases List.mem_append.mp hx with hx | hx
    · refine List.mem_append_left _ ?_
      rcases List.mem_append.mp hx with hx | hx
      · exact List.mem_append_left _ hx
      · refine List.mem_append_right _ ?_
        obtain ⟨j, hj, hx⟩ := List.mem_flatMap.mp hx
        obtain ⟨c, hc, rfl⟩ := List.mem_map.mp hx
        exact List.mem_flatMap.mpr ⟨j, hj, List.mem_map.mpr ⟨c, h c hc, rfl⟩⟩
    · refine List.mem_append_right _ ?_
      obtain ⟨j, hj, hx⟩ := List.mem_flatMap.mp hx
      refine List.mem_flatMap.mpr ⟨j, hj, ?_⟩
      rcases List.mem_cons.mp hx with rfl | hx
      · exact List.Mem.head _
      · refine List.Mem.tail _ ?_
        obtain ⟨c, hc, rfl⟩ := List.mem_map.mp hx
        refine List.mem_map.mpr ⟨c, ?_, rfl⟩
        rcases List.mem_append.mp hc with hc | hc
        · exact List.mem_append_left _ (h c hc)
        · exact List.mem_append_right _ hc
  · exact List.mem_append_right _ hx
end
end Mine
end
section
open PySem PySem.W PyProof.Rows
set_option maxRecDepth 100000
set_option maxHeartbeats 8000000
namespace Mine
noncomputable def psi : Sg → Nat
  | .g => 46 | .a => 97 | .a' => 65 | .b => 98 | .b' => 66
theorem splitAll : (patsA.all fun p => !(Builtin.Str.occurrences (S (p.map psi)) dots 0 (S (p.map psi)).length 1).isEmpty && decide (Txt.split (S (p.map psi)) dots = ((splitA p []).map (List.map psi)).map S)) = true := by decide +kernel
end Mine
end
section
open PySem PySem.W PyProof.Rows
set_option maxRecDepth 100000
set_option maxHeartbeats 8000000
namespace Mine
noncomputable def chunk (g hue q h2 q2 : Int) (x : Int) : List (Int × Int) :=
  if x.fmod 5 = 0 then [(g, 2), (g, 2), (g, 2)] else if x.fmod 5 = 1 then [(hue, q)] else if x.fmod 5 = 2 then [(h2, q2)] else if x.fmod 5 = 3 then [(g, 2)] else [(hue, 4 - q)]
noncomputable def cell (g hue q h2 q2 : Int) (x : Int) : Int × Int :=
  if x.fmod 5 = 0 then (hue, 4 - q) else if x.fmod 5 = 1 then (hue, q) else if x.fmod 5 = 2 then (h2, q2) else if x.fmod 5 = 3 then (g, 2) else (h2, 4 - q2)
noncomputable def cellSg : Nat → Sg
  | 0 => .a' | 1 => .a | 2 => .b | 3 => .g | _ => .b'
/-- what a sign stands for -/
noncomputable def phi (hue q h2 q2 : Int) : Sg → Nat
  | .g => 46 | .a => nameC hue q | .a' => nameC hue (4 - q) | .b => nameC h2 q2 | .b' => nameC h2 (4 - q2)
theorem five (x : Int) : x.fmod 5 = 0 ∨ x.fmod 5 = 1 ∨ x.fmod 5 = 2 ∨ x.fmod 5 = 3 ∨ x.fmod 5 = 4 := by
  have h1 := Int.fmod_nonneg_of_pos x (b := 5) (by omega)
  have h2 := Int.fmod_lt_of_pos x (b := 5) (by omega)
  omega
theorem chunk_map (g hue q h2 q2 x : Int) : (chunk g hue q h2 q2 x).map (fun a : Int × Int => nameC a.1 a.2) = (chunkA (x.fmod 5).toNat).map (phi hue q h2 q2) := by
  have hg : nameC g 2 = 46 := by unfold nameC; rw [if_neg (by decide), if_pos rfl]
  rcases five x with e | e | e | e | e <;> simp [chunk, e, chunkA, phi, hg]
theorem cell_map (g hue q h2 q2 x : Int) : nameC (cell g hue q h2 q2 x).1 (cell g hue q h2 q2 x).2 = phi hue q h2 q2 (cellSg (x.fmod 5).toNat) := by
  have hg : nameC g 2 = 46 := by unfold nameC; rw [if_neg (by decide), if_pos rfl]
  rcases five x with e | e | e | e | e <;> simp [cell, e, cellSg, phi, hg]
/-- the two colours: their hues part, their depths are one or three -/
structure Two (hue q h2 q2 : Int) : Prop where
  part : hue % 12 ≠ h2 % 12
  q : q = 1 ∨ q = 3
  q2 : q2 = 1 ∨ q2 = 3
section
variable {hue q h2 q2 : Int} (H : Two hue q h2 q2)
/-- the sign's small letter -/
noncomputable def lowP (hue h2 : Int) : Sg → Nat
  | .g => 46 | .a => 97 + (hue % 12).toNat | .a' => 97 + (hue % 12).toNat | .b => 97 + (h2 % 12).toNat | .b' => 97 + (h2 % 12).toNat
theorem nameC_two (h q : Int) (hq : q = 1 ∨ q = 3) : (nameC h q = 97 + (h % 12).toNat ∧ nameC h (4 - q) = 65 + (h % 12).toNat) ∨ (nameC h q = 65 + (h % 12).toNat ∧ nameC h (4 - q) = 97 + (h % 12).toNat) := by
  rcases hq with rfl | rfl
  · left; exact ⟨by unfold nameC; rw [if_pos rfl], by unfold nameC; rw [if_neg (by decide), if_neg (by decide)]⟩
  · right; exact ⟨by unfold nameC; rw [if_neg (by decide), if_neg (by decide)], by unfold nameC; rw [if_pos (by decide)]⟩
/-- the same over naturals: the hues' letters, whether the given depth is small -/
noncomputable def codeN (k : Nat) (small : Bool) : Nat := if small then 97 + k else 65 + k
noncomputable def phiN (k l : Nat) (b c : Bool) : Sg → Nat
  | .g => 46 | .a => codeN k b | .a' => codeN k !b | .b => codeN l c | .b' => codeN l !c
noncomputable def lowN (k l : Nat) : Sg → Nat
  | .g => 46 | .a => 97 + k | .a' => 97 + k | .b => 97 + l | .b' => 97 + l
noncomputable def phiOne (k l : Nat) (b c : Bool) (x : Sg) : Bool :=
  Sg.all.all (fun y => x.beq y || !(phiN k l b c x).beq (phiN k l b c y)) && (swp (phiN k l b c x)).beq (phiN k l b c x.sw) && (loC (phiN k l b c x)).beq (lowN k l x) && (phiN k l b c x).blt 128 &&
    Sg.all.all fun y => ((lowN k l x).beq (lowN k l y)) == (x.beq y || x.beq y.sw)
noncomputable def phiAll : Bool := (List.range 12).all fun k => (List.range 12).all fun l => k.beq l || [true, false].all fun b => [true, false].all fun c => Sg.all.all (phiOne k l b c)
theorem phiAll_ok : phiAll = true := by decide +kernel
theorem phiN_one {k l : Nat} (hk : k < 12) (hl : l < 12) (h : k ≠ l) (b c : Bool) (x : Sg) : phiOne k l b c x = true := by
  have h1 := List.all_eq_true.mp (List.all_eq_true.mp phiAll_ok k (List.mem_range.mpr hk)) l (List.mem_range.mpr hl)
  rw [Bool.or_eq_true] at h1
  rcases h1 with h1 | h1
  · exact absurd (Nat.eq_of_beq_eq_true h1) h
  · exact List.all_eq_true.mp (List.all_eq_true.mp (List.all_eq_true.mp h1 b (by cases b <;> simp)) c (by cases c <;> simp)) x (Sg.mem_all x)
theorem phi_N (H : Two hue q h2 q2) : ∃ b c, ∀ x, phi hue q h2 q2 x = phiN (hue % 12).toNat (h2 % 12).toNat b c x := by
  have ha : ∃ b, nameC hue q = codeN (hue % 12).toNat b ∧ nameC hue (4 - q) = codeN (hue % 12).toNat !b := (nameC_two hue q H.q).elim (fun h => ⟨true, h⟩) fun h => ⟨false, h⟩
  have hb : ∃ c, nameC h2 q2 = codeN (h2 % 12).toNat c ∧ nameC h2 (4 - q2) = codeN (h2 % 12).toNat !c := (nameC_two h2 q2 H.q2).elim (fun h => ⟨true, h⟩) fun h => ⟨false, h⟩
  obtain ⟨b, h1, h2'⟩ := ha
  obtain ⟨c, h3, h4⟩ := hb
  refine ⟨b, c, fun x => ?_⟩
  cases x
  · rfl
  · exact h1
  · exact h2'
  · exact h3
  · exact h4
theorem phi_one (H : Two hue q h2 q2) : ∃ b c, (∀ x, phi hue q h2 q2 x = phiN (hue % 12).toNat (h2 % 12).toNat b c x) ∧ ∀ x, phiOne (hue % 12).toNat (h2 % 12).toNat b c x = true := by
  obtain ⟨b, c, h⟩ := phi_N H
  refine ⟨b, c, h, fun x => phiN_one ?_ ?_ ?_ b c x⟩
  · clear h H; omega
  · clear h H; omega
  · have := H.part; clear h H; omega
theorem low_N (x : Sg) : lowP hue h2 x = lowN (hue % 12).toNat (h2 % 12).toNat x := by cases x <;> rfl
theorem phi_facts (H : Two hue q h2 q2) : (∀ x y, phi hue q h2 q2 x = phi hue q h2 q2 y → x = y) ∧ (∀ x, swp (phi hue q h2 q2 x) = phi hue q h2 q2 x.sw) ∧ (∀ x, loC (phi hue q h2 q2 x) = lowP hue h2 x) ∧ ∀ x, phi hue q h2 q2 x < 128 := by
  obtain ⟨b, c, h, h1⟩ := phi_one H
  simp only [phiOne, Bool.and_eq_true] at h1
  refine ⟨fun x y e => ?_, fun x => ?_, fun x => ?_, fun x => ?_⟩
  · rw [h, h] at e
    have := List.all_eq_true.mp (h1 x).1.1.1.1 y (Sg.mem_all y)
    rw [e, Nat.beq_refl, Bool.not_true, Bool.or_false] at this
    exact (Sg.beq_iff x y).mp this
  · rw [h, h]; exact Nat.eq_of_beq_eq_true (h1 x).1.1.1.2
  · rw [h, low_N]; exact Nat.eq_of_beq_eq_true (h1 x).1.1.2
  · rw [h]; exact Nat.le_of_ble_eq_true (h1 x).1.2
theorem low_iff (H : Two hue q h2 q2) (x y : Sg) : lowP hue h2 x = lowP hue h2 y ↔ x = y ∨ x = y.sw := by
  obtain ⟨b, c, h, h1⟩ := phi_one H
  simp only [phiOne, Bool.and_eq_true] at h1
  have := List.all_eq_true.mp (h1 x).2 y (Sg.mem_all y)
  rw [beq_iff_eq] at this
  rw [low_N, low_N, ← Sg.beq_iff x y, ← Sg.beq_iff x y.sw, ← Bool.or_eq_true, ← this]
  exact ⟨fun e => by rw [e]; exact Nat.beq_refl _, Nat.eq_of_beq_eq_true⟩
theorem phi_cost (H : Two hue q h2 q2) (x y : Sg) : costS (phi hue q h2 q2 x) (phi hue q h2 q2 y) = Sg.cost x y := by
  obtain ⟨h1, h2', h3, h4⟩ := phi_facts H
  unfold costS substF Sg.cost
  rw [lower_S (h4 x), lower_S (h4 y)]
  simp only [S_eq, h3]
  by_cases e : x = y
  · subst e; rw [if_pos rfl, if_pos ((Sg.beq_iff _ _).mpr rfl)]
  · rw [if_neg (by simp; exact fun q => e (h1 _ _ q)), if_neg (fun q => e ((Sg.beq_iff _ _).mp q))]
    have hl := low_iff H x y
    by_cases e2 : x = y.sw
    · rw [if_pos (by simp; exact hl.mpr (.inr e2)), if_pos ((Sg.beq_iff _ _).mpr e2)]
    · rw [if_neg (by simp; exact fun q => (hl.mp q).elim e e2), if_neg (fun q => e2 ((Sg.beq_iff _ _).mp q))]
theorem phi_price (H : Two hue q h2 q2) (x y : Sg) : priceS (phi hue q h2 q2 x) (phi hue q h2 q2 y) = Sg.cost x y := by
  obtain ⟨h1, h2', h3, h4⟩ := phi_facts H
  unfold priceS priceF Sg.cost
  rw [swapcase_S (h4 y)]
  simp only [S_eq, h2']
  by_cases e : x = y
  · subst e; rw [if_pos rfl, if_pos ((Sg.beq_iff _ _).mpr rfl)]
  · rw [if_neg (by simp; exact fun q => e (h1 _ _ q)), if_neg (fun q => e ((Sg.beq_iff _ _).mp q))]
    by_cases e2 : x = y.sw
    · rw [if_pos (by rw [e2]), if_pos ((Sg.beq_iff _ _).mpr e2)]
    · rw [if_neg (by simp; exact fun q => e2 (h1 _ _ q)), if_neg (fun q => e2 ((Sg.beq_iff _ _).mp q))]
end
end Mine
end
section
set_option maxRecDepth 100000
set_option maxHeartbeats 8000000
namespace Mine
section
variable {α : Type} [DecidableEq α]
theorem lcp_app : ∀ (p x y : List α), lcp (p ++ x) (p ++ y) = p.length + lcp x y
  | [], _, _ => by simp
  | a :: p, x, y => by simp [lcp, lcp_app p x y]; omega
theorem lcp_grow (r : List α) (c : α) : lcp r (r ++ [c]) = r.length := by
  have := lcp_app r [] [c]
  simpa [lcp] using this
theorem lcp_shift (c : α) : ∀ s : List α, (c :: s).drop (lcp s (c :: s)) = c :: s.drop (lcp s (c :: s))
  | [] => by simp [lcp]
  | d :: s => by
    by_cases h : d = c
    · subst h
      have e : lcp (d :: s) (d :: d :: s) = lcp s (d :: s) + 1 := by simp [lcp]
      rw [e, List.drop_succ_cons, List.drop_succ_cons]
      exact lcp_shift d s
    · simp [lcp, h]
theorem cutPre_app (p x y : List α) : cutPre (p ++ x) (p ++ y) = cutPre x y := by
  unfold cutPre; rw [lcp_app, List.drop_append]
  have : p.drop (p.length + lcp x y) = [] := List.drop_eq_nil_of_le (by omega)
  rw [this, Nat.add_sub_cancel_left]; rfl
theorem lev_ins (cost : α → α → Int) (p s : List α) (c : α) (mc : Int) : levF cost (p ++ s) (p ++ c :: s) mc = 2 := by
  have hne : p ++ s ≠ p ++ c :: s := fun e => by have := congrArg List.length e; simp at this
  have h1 : cutPre (p ++ s) (p ++ c :: s) = s.drop (lcp s (c :: s)) := by rw [cutPre_app]; rfl
  have h2 : cutPre (p ++ c :: s) (p ++ s) = c :: s.drop (lcp s (c :: s)) := by
    rw [cutPre_app]; unfold cutPre; rw [lcp_comm]; exact lcp_shift c s
  unfold levF
  rw [if_neg hne]
  dsimp only
  rw [h1, h2]
  generalize s.drop (lcp s (c :: s)) = r
  have h3 : cutPost r (c :: r) = [] := by
    unfold cutPost; rw [List.reverse_cons, lcp_grow]; simp
  have h4 : cutPost (c :: r) r = [c] := by
    unfold cutPost; rw [List.reverse_cons, lcp_comm, lcp_grow]; simp
  rw [h3, h4, if_pos (.inl rfl)]; rfl
theorem lev_del (cost : α → α → Int) (p s : List α) (c : α) (mc : Int) : levF cost (p ++ c :: s) (p ++ s) mc = 2 := by
  have hne : p ++ c :: s ≠ p ++ s := fun e => by have := congrArg List.length e; simp at this
  have h1 : cutPre (p ++ s) (p ++ c :: s) = s.drop (lcp s (c :: s)) := by rw [cutPre_app]; rfl
  have h2 : cutPre (p ++ c :: s) (p ++ s) = c :: s.drop (lcp s (c :: s)) := by
    rw [cutPre_app]; unfold cutPre; rw [lcp_comm]; exact lcp_shift c s
  unfold levF
  rw [if_neg hne]
  dsimp only
  rw [h1, h2]
  generalize s.drop (lcp s (c :: s)) = r
  have h3 : cutPost r (c :: r) = [] := by
    unfold cutPost; rw [List.reverse_cons, lcp_grow]; simp
  have h4 : cutPost (c :: r) r = [c] := by
    unfold cutPost; rw [List.reverse_cons, lcp_comm, lcp_grow]; simp
  rw [h3, h4, if_pos (.inr rfl)]; rfl
theorem lev_self (cost : α → α → Int) (a : List α) (mc : Int) : levF cost a a mc = 0 := by unfold levF; rw [if_pos rfl]
theorem lev_sub (cost : α → α → Int) (p s : List α) (x c : α) (mc : Int) (h : x ≠ c) : levF cost (p ++ x :: s) (p ++ c :: s) mc = table cost [x] [c] mc := by
  have hne : p ++ x :: s ≠ p ++ c :: s := fun e => by
    have := List.append_cancel_left e
    exact h (List.cons.inj this).1
  have cut : ∀ x c : α, x ≠ c → cutPre (p ++ x :: s) (p ++ c :: s) = x :: s := fun x c h => by
    rw [cutPre_app]; unfold cutPre; simp [lcp, h]
  have post : ∀ x c : α, x ≠ c → cutPost (x :: s) (c :: s) = [x] := fun x c h => by
    unfold cutPost
    rw [List.reverse_cons, List.reverse_cons, lcp_app]
    simp [lcp, h]
  unfold levF
  rw [if_neg hne]
  dsimp only
  rw [cut x c h, cut c x (Ne.symm h), post x c h, post c x (Ne.symm h), if_neg (by simp), if_neg (by simp)]
end
open Sg
theorem qtab1 : ∀ x c : Sg, table cost [x] [c] 1 = if x = c then (if 1 < 0 then 0 else 0) else cost x c := by
  intro x c; cases x <;> cases c <;> decide
theorem qtab2 : ∀ x c : Sg, table cost [x] [c] 2 = if x = c then 0 else cost x c := by
  intro x c; cases x <;> cases c <;> decide
theorem cost_self : ∀ x : Sg, cost x x = 0 := by intro x; cases x <;> rfl
theorem dblAll : (stripsA.all fun t => (lettersA t).all fun one => (dblA t one (lettersA t)).all fun q => levF cost t q.1 1 == q.2 && levF cost t q.1 2 == q.2) = true := by decide +kernel
theorem lev_near {t sg : List Sg} (ht : t ∈ stripsA) {mc : Int} (hmc : mc = 1 ∨ mc = 2) : ∀ q ∈ nearA t sg, levF cost t q.1 mc = q.2 := by
  have cut : ∀ j, j < t.length → t = t.take j ++ t.getD j g :: t.drop (j + 1) := fun j hj => by
    have : t.drop j = t.getD j g :: t.drop (j + 1) := by
      rw [List.drop_eq_getElem_cons hj]
      congr 1
      simp [hj]
    rw [← this, List.take_append_drop]
  intro q hq
  unfold nearA at hq
  rcases List.mem_append.mp hq with hq | hq
  · rcases List.mem_append.mp hq with hq | hq
    · rcases List.mem_append.mp hq with hq | hq
      · rw [List.mem_singleton.mp hq]; exact lev_self _ _ _
      · obtain ⟨j, hj, hq⟩ := List.mem_flatMap.mp hq
        obtain ⟨c, _, rfl⟩ := List.mem_map.mp hq
        have := lev_ins cost (t.take j) (t.drop j) c mc
        rw [List.take_append_drop] at this
        exact this
    · obtain ⟨j, hj, hq⟩ := List.mem_flatMap.mp hq
      have hj' := List.mem_range.mp hj
      rcases List.mem_cons.mp hq with rfl | hq
      · have := lev_del cost (t.take j) (t.drop (j + 1)) (t.getD j g) mc
        rw [← cut j hj'] at this
        exact this
      · obtain ⟨c, _, rfl⟩ := List.mem_map.mp hq
        dsimp only
        by_cases h : t.getD j g = c
        · rw [← h, ← cut j hj', lev_self, cost_self]
        · have := lev_sub cost (t.take j) (t.drop (j + 1)) (t.getD j g) c mc h
          rw [← cut j hj'] at this
          rw [this]
          rcases hmc with rfl | rfl
          · rw [qtab1, if_neg h]
          · rw [qtab2, if_neg h]
  · obtain ⟨one, ho, hq⟩ := List.mem_flatMap.mp hq
    have h := List.all_eq_true.mp (List.all_eq_true.mp (List.all_eq_true.mp dblAll t ht) one ho) q hq
    rw [Bool.and_eq_true] at h
    rcases hmc with rfl | rfl
    · exact eq_of_beq h.1
    · exact eq_of_beq h.2
end Mine
end
section
set_option maxRecDepth 100000
set_option maxHeartbeats 8000000
namespace Mine
open Sg
noncomputable def costN (x y : Sg) : Nat := match beq x y with | true => 0 | false => match beq x (sw y) with | true => 1 | false => 2
noncomputable def minN (a b : Nat) : Nat := match Nat.ble a b with | true => a | false => b
noncomputable def goN (sign : Sg) : List (Option Sg) → List Nat → Nat → List Nat
  | none :: its, _ :: r' :: rest, left => minN left r' :: goN sign its (r' :: rest) (minN left r')
  | some c :: its, r :: r' :: rest, left => minN (minN (Nat.add left 2) (Nat.add r' 2)) (Nat.add r (costN sign c)) :: goN sign its (r' :: rest) (minN (minN (Nat.add left 2) (Nat.add r' 2)) (Nat.add r (costN sign c)))
  | _, _, _ => []
noncomputable def newsN (sign : Sg) (its : List (Option Sg)) (row : List Nat) : List Nat := Nat.add (row.headD 0) 2 :: goN sign its row (Nat.add (row.headD 0) 2)
noncomputable def initN : List (Option Sg) → Nat → List Nat
  | [], n => [n]
  | none :: r, n => n :: initN r n
  | some _ :: r, n => n :: initN r (Nat.add n 2)
noncomputable def farN (its : List (Option Sg)) (text : List Sg) : Nat := (text.foldl (fun row sign => newsN sign its row) (initN its 0)).getLastD 0
theorem costN_eq (x y : Sg) : ((costN x y : Nat) : Int) = cost x y := by
  unfold costN cost
  cases h : beq x y
  · cases h' : beq x (sw y) <;> simp [h']
  · simp
theorem minN_eq (a b : Nat) : ((minN a b : Nat) : Int) = min (a : Int) (b : Int) := by
  unfold minN
  cases h : Nat.ble a b
  · have : ¬ a ≤ b := fun hh => by rw [Nat.ble_eq_true_of_le hh] at h; cases h
    show (b : Int) = _
    omega
  · have := Nat.le_of_ble_eq_true h
    show (a : Int) = _
    omega
noncomputable def toI (l : List Nat) : List Int := l.map Int.ofNat
theorem getD_at (l1 l2 : List Int) (x d : Int) : (l1 ++ x :: l2).getD l1.length d = x := by
  simp [List.getD]
theorem getD_at1 (l1 l2 : List Int) (x y d : Int) : (l1 ++ x :: y :: l2).getD (l1.length + 1) d = y := by
  have := getD_at (l1 ++ [x]) l2 y d
  simpa using this
theorem go_eq (sign : Sg) : ∀ (its2 its1 : List (Option Sg)) (row1 : List Int) (row2 : List Nat) (news1 : List Int) (left : Nat), row1.length = its1.length → news1.length = its1.length → row2.length = its2.length + 1 →
    (List.range' its1.length its2.length).foldl (fun news place => news ++ [cellA sign (its1 ++ its2) (row1 ++ toI row2) news place]) (news1 ++ [(left : Int)]) = news1 ++ [(left : Int)] ++ toI (goN sign its2 row2 left) := by
  intro its2
  induction its2 with
  | nil => intro its1 row1 row2 news1 left h1 h2 h3; simp [goN, toI]
  | cons it its2 ih =>
    intro its1 row1 row2 news1 left h1 h2 h3
    match row2, h3 with
    | [], h3 => simp at h3
    | [_], h3 => simp at h3
    | r :: r' :: rest, h3 =>
      rw [List.length_cons, List.range'_succ, List.foldl_cons]
      have hi : (its1 ++ it :: its2).getD its1.length none = it := by simp [List.getD]
      have hn : (news1 ++ [(left : Int)]).getD its1.length 0 = left := by rw [← h2]; exact getD_at news1 [] _ 0
      have hr : (row1 ++ toI (r :: r' :: rest)).getD its1.length 0 = r := by rw [← h1]; exact getD_at row1 (toI (r' :: rest)) r 0
      have hr1 : (row1 ++ toI (r :: r' :: rest)).getD (its1.length + 1) 0 = r' := by rw [← h1]; exact getD_at1 row1 (toI rest) r r' 0
      have e1 : its1 ++ it :: its2 = (its1 ++ [it]) ++ its2 := by simp
      have e2 : row1 ++ toI (r :: r' :: rest) = (row1 ++ [(r : Int)]) ++ toI (r' :: rest) := by simp [toI]
      have go : ∀ v : Nat, cellA sign (its1 ++ it :: its2) (row1 ++ toI (r :: r' :: rest)) (news1 ++ [(left : Int)]) its1.length = v → goN sign (it :: its2) (r :: r' :: rest) left = v :: goN sign its2 (r' :: rest) v →
          (List.range' (its1.length + 1) its2.length).foldl (fun news place => news ++ [cellA sign (its1 ++ it :: its2) (row1 ++ toI (r :: r' :: rest)) news place]) (news1 ++ [(left : Int)] ++ [cellA sign (its1 ++ it :: its2) (row1 ++ toI (r :: r' :: rest)) (news1 ++ [(left : Int)]) its1.length]) = news1 ++ [(left : Int)] ++ toI (goN sign (it :: its2) (r :: r' :: rest) left) := by
        intro v hv hg
        rw [hv, hg, e1, e2]
        have := ih (its1 ++ [it]) (row1 ++ [(r : Int)]) (r' :: rest) (news1 ++ [(left : Int)]) v (by simp [h1]) (by simp [h2]) (by simpa using h3)
        rw [List.length_append, List.length_singleton] at this
        rw [this]
        simp [toI]
      cases it with
      | none =>
        refine go (minN left r') ?_ rfl
        unfold cellA
        rw [hi]
        dsimp only
        rw [hn, hr1, minN_eq]
      | some c =>
        refine go (minN (minN (Nat.add left 2) (Nat.add r' 2)) (Nat.add r (costN sign c))) ?_ rfl
        unfold cellA
        rw [hi]
        dsimp only
        rw [hn, hr1, hr, minN_eq, minN_eq]
        have := costN_eq sign c
        show _ = min (min ((left + 2 : Nat) : Int) ((r' + 2 : Nat) : Int)) ((r + costN sign c : Nat) : Int)
        push_cast
        rw [this]
        omega
theorem news_eq (sign : Sg) (its : List (Option Sg)) (row : List Nat) (h : row.length = its.length + 1) : newsA sign its (toI row) = toI (newsN sign its row) := by
  match row, h with
  | r :: rest, h =>
    have := go_eq sign its [] [] (r :: rest) [] (r + 2) rfl rfl h
    unfold newsA newsN
    rw [List.range_eq_range']
    have e : [(toI (r :: rest)).getD 0 0 + 2] = [] ++ [((r + 2 : Nat) : Int)] := by simp [toI]
    rw [e]
    refine this.trans ?_
    simp [toI]
theorem goN_len (sign : Sg) : ∀ (its : List (Option Sg)) (row : List Nat) (left : Nat), row.length = its.length + 1 → (goN sign its row left).length = its.length := by
  intro its
  induction its with
  | nil => intro row left _; simp [goN]
  | cons it its ih =>
    intro row left h
    match row, h with
    | [], h => simp at h
    | [_], h => simp at h
    | r :: r' :: rest, h =>
      cases it <;> (unfold goN; rw [List.length_cons, ih _ _ (by simpa using h)]; rfl)
theorem init_eq : ∀ (its : List (Option Sg)) (acc : List Int) (n : Nat), its.foldl (fun row it => row ++ [row.getLastD 0 + itCostA it]) (acc ++ [(n : Int)]) = acc ++ toI (initN its n) := by
  intro its
  induction its with
  | nil => intro acc n; simp [initN, toI]
  | cons it its ih =>
    intro acc n
    rw [List.foldl_cons]
    have hl : (acc ++ [(n : Int)]).getLastD 0 = n := by simp [List.getLastD_eq_getLast?]
    rw [hl]
    cases it with
    | none =>
      have := ih (acc ++ [(n : Int)]) n
      rw [show itCostA none = 0 from rfl, Int.add_zero, this]; simp [initN, toI]
    | some c =>
      have := ih (acc ++ [(n : Int)]) (n + 2)
      rw [show itCostA (some c) = 2 from rfl, show (n : Int) + 2 = ((n + 2 : Nat) : Int) by push_cast; rfl, this]
      simp [initN, toI]
theorem initN_len : ∀ (its : List (Option Sg)) (n : Nat), (initN its n).length = its.length + 1
  | [], _ => rfl
  | none :: r, n => by simp [initN, initN_len r]
  | some _ :: r, n => by simp [initN, initN_len r]
theorem far_eq (its : List (Option Sg)) (t : List Sg) : farA its t = (farN its t : Nat) := by
  unfold farA farN
  have h0 : initRowA its = toI (initN its 0) := by
    have := init_eq its [] 0
    simpa [initRowA] using this
  rw [h0]
  have hl := initN_len its 0
  generalize initN its 0 = row at hl
  clear h0
  have last : ∀ row : List Nat, (toI row).getLastD 0 = ((row.getLastD 0 : Nat) : Int) := by
    intro row
    simp only [List.getLastD_eq_getLast?, toI, List.getLast?_map]
    cases row.getLast? <;> simp
  induction t generalizing row with
  | nil => exact last row
  | cons x t ih =>
    rw [List.foldl_cons, List.foldl_cons, news_eq x its row hl]
    refine ih _ ?_
    unfold newsN
    rw [List.length_cons, goN_len _ _ _ _ hl]
end Mine
end
section
set_option maxRecDepth 100000
set_option maxHeartbeats 8000000
namespace Mine
open Sg
noncomputable def forceK : List Sg → (List Sg → Bool) → Bool
  | [], k => k []
  | x :: xs, k => forceK xs fun ys => match x with
    | g => k (g :: ys) | a => k (a :: ys) | a' => k (a' :: ys) | b => k (b :: ys) | b' => k (b' :: ys)
theorem forceK_eq : ∀ (l : List Sg) (k : List Sg → Bool), forceK l k = k l
  | [], _ => rfl
  | x :: xs, k => by
    unfold forceK
    rw [forceK_eq xs]
    cases x <;> rfl
noncomputable def forceV (v : Int) (k : Int → Bool) : Bool := if v = 0 then k 0 else if v = 1 then k 1 else if v = 2 then k 2 else k v
theorem forceV_eq (v : Int) (k : Int → Bool) : forceV v k = k v := by
  unfold forceV
  split
  · rename_i h; rw [h]
  · split
    · rename_i h; rw [h]
    · split
      · rename_i h; rw [h]
      · rfl
noncomputable def forceL : List (List Sg × Int × Option Sg) → (List (List Sg × Int × Option Sg) → Bool) → Bool
  | [], k => k []
  | (key, v, o) :: r, k => forceK key fun key' => forceV v fun v' => forceL r fun r' => k ((key', v', o) :: r')
theorem forceL_eq : ∀ (l : List (List Sg × Int × Option Sg)) (k : List (List Sg × Int × Option Sg) → Bool), forceL l k = k l
  | [], _ => rfl
  | (key, v, o) :: r, k => by
    unfold forceL
    rw [forceK_eq, forceV_eq, forceL_eq r]
/-- the near texts, each with the sign that it wants -/
noncomputable def nearT (t : List Sg) : List (List Sg × Int × Option Sg) :=
  (([(t, 0, none)] ++ (List.range (t.length + 1)).flatMap fun j => all.map fun c => (t.take j ++ c :: t.drop j, 2, some c)) ++
    (List.range t.length).flatMap fun i => (t.take i ++ t.drop (i + 1), 2, none) :: (t.take i ++ sw (t.getD i g) :: t.drop (i + 1), cost (t.getD i g) (sw (t.getD i g)), none) :: all.map fun c => (t.take i ++ c :: t.drop (i + 1), cost (t.getD i g) c, some c)) ++
    (lettersA t).flatMap fun one => (dblA t one (lettersA t)).map fun q => (q.1, q.2, none)
theorem nearT_of {t sg : List Sg} : ∀ q ∈ nearA t sg, ∃ o, (q.1, q.2, o) ∈ nearT t := by
  intro q hq
  unfold nearA at hq
  unfold nearT
  rcases List.mem_append.mp hq with hq | hq
  · rcases List.mem_append.mp hq with hq | hq
    · rcases List.mem_append.mp hq with hq | hq
      · rw [List.mem_singleton.mp hq]
        exact ⟨none, List.mem_append_left _ (List.mem_append_left _ (List.mem_append_left _ (List.Mem.head _)))⟩
      · obtain ⟨j, hj, hq⟩ := List.mem_flatMap.mp hq
        obtain ⟨c, _, rfl⟩ := List.mem_map.mp hq
        exact ⟨some c, List.mem_append_left _ (List.mem_append_left _ (List.mem_append_right _ (List.mem_flatMap.mpr ⟨j, hj, List.mem_map.mpr ⟨c, mem_all c, rfl⟩⟩)))⟩
    · obtain ⟨j, hj, hq⟩ := List.mem_flatMap.mp hq
      rcases List.mem_cons.mp hq with rfl | hq
      · exact ⟨none, List.mem_append_left _ (List.mem_append_right _ (List.mem_flatMap.mpr ⟨j, hj, List.Mem.head _⟩))⟩
      · obtain ⟨c, _, rfl⟩ := List.mem_map.mp hq
        exact ⟨some c, List.mem_append_left _ (List.mem_append_right _ (List.mem_flatMap.mpr ⟨j, hj, List.Mem.tail _ (List.Mem.tail _ (List.mem_map.mpr ⟨c, mem_all c, rfl⟩))⟩))⟩
  · obtain ⟨one, ho, hq⟩ := List.mem_flatMap.mp hq
    exact ⟨none, List.mem_append_right _ (List.mem_flatMap.mpr ⟨one, ho, List.mem_map.mpr ⟨q, hq, rfl⟩⟩)⟩
noncomputable def wants1 (own : List Sg) : Option Sg → Bool
  | none => true
  | some c => own.any (beq c)
theorem nearT_to {t own : List Sg} {k : List Sg} {v : Int} {o : Option Sg} (h : (k, v, o) ∈ nearT t) (hw : wants1 own o = true) : (k, v) ∈ nearA t own := by
  have hc : ∀ c, wants1 own (some c) = true → c ∈ own := fun c hc => by
    obtain ⟨x, hx, e⟩ := List.any_eq_true.mp hc
    rw [(beq_iff _ _).mp e]; exact hx
  unfold nearT at h
  unfold nearA
  rcases List.mem_append.mp h with h | h
  · rcases List.mem_append.mp h with h | h
    · rcases List.mem_append.mp h with h | h
      · have := List.mem_singleton.mp h
        cases this
        exact List.mem_append_left _ (List.mem_append_left _ (List.mem_append_left _ (List.Mem.head _)))
      · obtain ⟨j, hj, h⟩ := List.mem_flatMap.mp h
        obtain ⟨c, _, e⟩ := List.mem_map.mp h
        cases e
        exact List.mem_append_left _ (List.mem_append_left _ (List.mem_append_right _ (List.mem_flatMap.mpr ⟨j, hj, List.mem_map.mpr ⟨c, hc c hw, rfl⟩⟩)))
    · obtain ⟨j, hj, h⟩ := List.mem_flatMap.mp h
      refine List.mem_append_left _ (List.mem_append_right _ (List.mem_flatMap.mpr ⟨j, hj, ?_⟩))
      rcases List.mem_cons.mp h with e | h
      · cases e; exact List.Mem.head _
      · rcases List.mem_cons.mp h with e | h
        · cases e
          exact List.Mem.tail _ (List.mem_map.mpr ⟨sw (t.getD j g), List.mem_append_right _ (List.Mem.head _), rfl⟩)
        · obtain ⟨c, _, e⟩ := List.mem_map.mp h
          cases e
          exact List.Mem.tail _ (List.mem_map.mpr ⟨c, List.mem_append_left _ (hc c hw), rfl⟩)
  · obtain ⟨one, ho, h⟩ := List.mem_flatMap.mp h
    obtain ⟨q, hq, e⟩ := List.mem_map.mp h
    cases e
    exact List.mem_append_right _ (List.mem_flatMap.mpr ⟨one, ho, hq⟩)
noncomputable def okOne (L : List (List Sg × Int × Option Sg)) (parts : List (List Sg)) (own : List Sg) (r : Int) : Bool :=
  (L.all fun q => decide (r ≤ q.2.1) || !(matchPG q.1 parts)) && (decide (r = 3) || L.any fun q => decide (q.2.1 = r) && (matchPG q.1 parts && wants1 own q.2.2))
noncomputable def forceR (r : Int) (k : Int → Bool) : Bool := if r = 3 then k 3 else forceV r k
theorem forceR_eq (v : Int) (k : Int → Bool) : forceR v k = k v := by
  unfold forceR
  split
  · rename_i h; rw [h]
  · exact forceV_eq v k
noncomputable def okT (t : List Sg) : Bool := forceL (nearT t) fun L => patsA.all fun p => forceR (Int.ofNat (minN 3 (farN (itemsA p) t))) fun r => okOne L (splitA p []) (ownA p) r
theorem chk0 : ((stripsA.drop 0).take 13).all okT = true := by decide +kernel
theorem chk1 : ((stripsA.drop 13).take 13).all okT = true := by decide +kernel
theorem chk2 : ((stripsA.drop 26).take 13).all okT = true := by decide +kernel
theorem chk3 : ((stripsA.drop 39).take 13).all okT = true := by decide +kernel
theorem chk4 : ((stripsA.drop 52).take 13).all okT = true := by decide +kernel
theorem chk5 : ((stripsA.drop 65).take 13).all okT = true := by decide +kernel
theorem chk6 : ((stripsA.drop 78).take 13).all okT = true := by decide +kernel
theorem chk7 : ((stripsA.drop 91).take 13).all okT = true := by decide +kernel
theorem chk8 : ((stripsA.drop 104).take 13).all okT = true := by decide +kernel
theorem chk9 : ((stripsA.drop 117).take 13).all okT = true := by decide +kernel
theorem chk10 : ((stripsA.drop 130).take 13).all okT = true := by decide +kernel
theorem chk11 : ((stripsA.drop 143).take 13).all okT = true := by decide +kernel
theorem chkE : (stripsA.drop 156).all okT = true := by decide +kernel
theorem chk_cut {l : List (List Sg)} {n : Nat} (h1 : ((l.drop n).take 13).all okT = true) (h2 : (l.drop (n + 13)).all okT = true) : (l.drop n).all okT = true := by
  have e : l.drop n = (l.drop n).take 13 ++ (l.drop n).drop 13 := (List.take_append_drop 13 (l.drop n)).symm
  rw [e, List.all_append, List.drop_drop, h1, h2]
  rfl
theorem checkAll : stripsA.all okT = true := by
  have h : (stripsA.drop 0).all okT = true := chk_cut chk0 (chk_cut chk1 (chk_cut chk2 (chk_cut chk3 (chk_cut chk4 (chk_cut chk5 (chk_cut chk6 (chk_cut chk7 (chk_cut chk8 (chk_cut chk9 (chk_cut chk10 (chk_cut chk11 (chkE))))))))))))
  exact h
theorem okFar_of {p t : List Sg} (hp : p ∈ patsA) (ht : t ∈ stripsA) : (∀ q ∈ nearA t (ownA p), min 3 (farA (itemsA p) t) ≤ q.2 ∨ matchPG q.1 (splitA p []) = false) ∧
    (min 3 (farA (itemsA p) t) = 3 ∨ ∃ q ∈ nearA t (ownA p), q.2 = min 3 (farA (itemsA p) t) ∧ matchPG q.1 (splitA p []) = true) := by
  have h := List.all_eq_true.mp checkAll t ht
  unfold okT at h
  rw [forceL_eq] at h
  have h := List.all_eq_true.mp h p hp
  have e : Int.ofNat (minN 3 (farN (itemsA p) t)) = min 3 (farA (itemsA p) t) := by rw [far_eq]; exact minN_eq 3 _
  rw [forceR_eq, e] at h
  unfold okOne at h
  rw [Bool.and_eq_true] at h
  refine ⟨fun q hq => ?_, ?_⟩
  · obtain ⟨o, ho⟩ := nearT_of q hq
    have h1 := List.all_eq_true.mp h.1 _ ho
    rw [Bool.or_eq_true, decide_eq_true_eq] at h1
    rcases h1 with h1 | h1
    · exact .inl h1
    · exact .inr (by simpa using h1)
  · have h2 := h.2
    rw [Bool.or_eq_true, decide_eq_true_eq] at h2
    rcases h2 with h2 | h2
    · exact .inl h2
    · obtain ⟨⟨k, v, o⟩, hq, h3⟩ := List.any_eq_true.mp h2
      rw [Bool.and_eq_true, Bool.and_eq_true, decide_eq_true_eq] at h3
      exact .inr ⟨(k, v), nearT_to hq h3.2.2, h3.1, h3.2.1⟩
end Mine
end
section
open PySem PySem.W PyProof.Rows
set_option maxRecDepth 100000
set_option maxHeartbeats 8000000
namespace Mine
theorem itemsF_len (p : List Nat) : (itemsF p).length ≤ p.length := by
  have : ∀ (p : List Nat) (acc : List (Option Nat)), (p.foldl itemStep acc).length ≤ acc.length + p.length := by
    intro p
    induction p with
    | nil => intro acc; exact Nat.le_refl _
    | cons c r ih =>
      intro acc
      have h1 := ih (itemStep acc c)
      have h2 := itemStep_length (acc := acc) (c := c)
      simp only [List.foldl_cons, List.length_cons]
      omega
  have h := this p []
  simpa [itemsF] using h
noncomputable def leastL (P : List Nat) (l : List (Str × Int)) : Int := l.foldl (fun a p => if matchS (S P) p.1 then min a p.2 else a) 3
theorem leastL_snoc (P : List Nat) (l : List (Str × Int)) (k : Str) (n : Int) : leastL P (l ++ [(k, n)]) = if matchS (S P) k then min (leastL P l) n else leastL P l := by
  simp [leastL]
theorem leastL_eq {P : List Nat} {R : Int} : ∀ {c : List (Str × Int)}, (∀ p ∈ c, matchS (S P) p.1 = true → R ≤ p.2) → R ≤ 3 → (R = 3 ∨ ∃ p ∈ c, matchS (S P) p.1 = true ∧ p.2 = R) → leastL P c = R := by
  have key : ∀ (c : List (Str × Int)) (a : Int), (∀ p ∈ c, matchS (S P) p.1 = true → R ≤ p.2) → R ≤ a → (R = a ∨ ∃ p ∈ c, matchS (S P) p.1 = true ∧ p.2 = R) → c.foldl (fun a p => if matchS (S P) p.1 then min a p.2 else a) a = R := by
    intro c
    induction c with
    | nil =>
      intro a _ _ h
      rcases h with h | ⟨p, hp, _⟩
      · exact h.symm
      · exact absurd hp List.not_mem_nil
    | cons x r ih =>
      intro a h1 h2 h3
      rw [List.foldl_cons]
      refine ih _ (fun p hp => h1 p (List.Mem.tail _ hp)) ?_ ?_
      · split
        · rename_i hm
          have := h1 x (List.Mem.head _) hm
          omega
        · exact h2
      · rcases h3 with h3 | ⟨p, hp, hm, he⟩
        · split
          · rename_i hm
            have := h1 x (List.Mem.head _) hm
            left; omega
          · exact .inl h3
        · rcases List.mem_cons.mp hp with rfl | hp
          · rw [if_pos hm]; left; omega
          · exact .inr ⟨p, hp, hm, he⟩
  intro c h1 h2 h3
  exact key c 3 h1 h2 h3
theorem kdpD_len (c : List (Str × Int)) : (kdpD c).length = c.length := by simp [kdpD]
theorem near_len (t sg : List Nat) : ∀ q ∈ nearW t sg, q.1.length ≤ t.length + 1 := by
  intro x hx
  unfold nearW subAll insAll at hx
  rcases List.mem_append.mp hx with hx | hx
  · rcases List.mem_append.mp hx with hx | hx
    · rcases List.mem_append.mp hx with hx | hx
      · rw [List.mem_singleton.mp hx]; exact Nat.le_succ _
      · obtain ⟨j, hj, hx⟩ := List.mem_flatMap.mp hx
        obtain ⟨c, hc, rfl⟩ := List.mem_map.mp hx
        have := List.mem_range.mp hj
        simp; omega
    · obtain ⟨j, hj, hx⟩ := List.mem_flatMap.mp hx
      have := List.mem_range.mp hj
      rcases List.mem_cons.mp hx with rfl | hx
      · simp; omega
      · obtain ⟨c, hc, rfl⟩ := List.mem_map.mp hx
        simp; omega
  · obtain ⟨one, ho, hx⟩ := List.mem_flatMap.mp hx
    obtain ⟨two, ht, rfl⟩ := List.mem_map.mp hx
    have h1 := List.mem_range.mp (List.mem_filter.mp ho).1
    have h2 := List.mem_range.mp (List.mem_filter.mp (List.mem_filter.mp ht).1).1
    have h3 : one < two := by simpa using (List.mem_filter.mp ht).2
    simp; omega
noncomputable def sgOf (c : Nat) : Option Sg := if c = 46 then some .g else if c = 97 then some .a else if c = 65 then some .a' else if c = 98 then some .b else if c = 66 then some .b' else none
theorem sgOf_eq {c : Nat} {s : Sg} (h : sgOf c = some s) : psi s = c := by
  unfold sgOf at h
  split at h
  · cases h; symm; assumption
  split at h
  · cases h; symm; assumption
  split at h
  · cases h; symm; assumption
  split at h
  · cases h; symm; assumption
  split at h
  · cases h; symm; assumption
  cases h
theorem match_phi {φ : Sg → Nat} (hf : ∀ x y, φ x = φ y → x = y) (hg : φ .g = 46) (hlt : ∀ x, φ x < 128) {p : List Sg} (hp : p ∈ patsA) (k : List Sg) : matchS (S (p.map φ)) (S (k.map φ)) = matchPG k (splitA p []) := by
  have hsp := List.all_eq_true.mp splitAll p hp
  rw [Bool.and_eq_true, decide_eq_true_eq] at hsp
  -- the renaming
  let f : Nat → Nat := fun c => match sgOf c with | some s => φ s | none => c + 1000
  have hpsi : ∀ x, f (psi x) = φ x := by intro x; cases x <;> rfl
  have hinj : ∀ x y, f x = f y → x = y := by
    intro x y
    show (match sgOf x with | some s => φ s | none => x + 1000) = (match sgOf y with | some s => φ s | none => y + 1000) → x = y
    cases hx : sgOf x with
    | none =>
      cases hy : sgOf y with
      | none => exact fun e => Nat.add_right_cancel e
      | some s => intro e; have e' : x + 1000 = φ s := e; have := hlt s; omega
    | some s =>
      cases hy : sgOf y with
      | none => intro e; have e' : φ s = y + 1000 := e; have := hlt s; omega
      | some r => intro e; rw [← sgOf_eq hx, ← sgOf_eq hy, hf s r e]
  have hmap : ∀ l : List Sg, S (l.map φ) = mapS f (S (l.map psi)) := by
    intro l
    rw [mapS_S, List.map_map]
    congr 1
    exact List.map_congr_left fun x _ => (hpsi x).symm
  have hdd : dots = S [46, 46, 46] := by decide +kernel
  have h46 : f 46 = 46 := (hpsi .g).trans hg
  have hd : mapS f dots = dots := by rw [hdd, mapS_S]; simp only [List.map, h46]
  unfold matchS
  rw [hmap p]
  have hocc : Builtin.Str.occurrences (mapS f (S (p.map psi))) dots 0 (mapS f (S (p.map psi))).length 1 = Builtin.Str.occurrences (S (p.map psi)) dots 0 (S (p.map psi)).length 1 := by
    rw [mapS_len]
    conv => lhs; rw [← hd]
    exact occ_map hinj _ dots 0 _ 1
  have hne : (Builtin.Str.occurrences (S (p.map psi)) dots 0 (S (p.map psi)).length 1).isEmpty = false := by simpa using hsp.1
  rw [hocc, hne, if_neg (by decide), split_map hinj hd, hsp.2]
  have e : (((splitA p []).map (List.map psi)).map S).map (mapS f) = ((splitA p []).map (List.map φ)).map S := by
    rw [List.map_map, List.map_map, List.map_map]
    refine List.map_congr_left fun l _ => ?_
    simp only [Function.comp]
    exact (hmap l).symm
  rw [e, matchP_S, matchPG_map hf]
section
variable {marks : List Int} {g hue q h2 q2 : Int} {P Tx sg : List Nat}
noncomputable def pA (marks : List Int) : List Sg := (marks.take 1 ++ [1, 0] ++ (marks.drop 1).take 1).flatMap fun x : Int => chunkA (x.fmod 5).toNat
noncomputable def tA (marks : List Int) : List Sg := (1 :: marks.drop 2).map fun x : Int => cellSg (x.fmod 5).toNat
theorem P_phi (hP : ((marks.take 1 ++ [1, 0] ++ (marks.drop 1).take 1).flatMap (chunk g hue q h2 q2)).map (fun a : Int × Int => nameC a.1 a.2) = P) : P = (pA marks).map (phi hue q h2 q2) := by
  rw [← hP, List.map_flatMap]
  exact flatMap_congr_map _ fun x _ => chunk_map g hue q h2 q2 x
theorem T_phi (hT : ((1 :: marks.drop 2).map (cell g hue q h2 q2)).map (fun a : Int × Int => nameC a.1 a.2) = Tx) : Tx = (tA marks).map (phi hue q h2 q2) := by
  rw [← hT, tA, List.map_map, List.map_map]
  exact List.map_congr_left fun x _ => cell_map g hue q h2 q2 x
theorem lt5 (x : Int) : (x.fmod 5).toNat < 5 := by rcases five x with e | e | e | e | e <;> rw [e] <;> decide
theorem pA_mem (marks : List Int) : pA marks ∈ patsA := by
  have h1 : chunkA ((1 : Int).fmod 5).toNat = [.a] := by decide +kernel
  have h0 : chunkA ((0 : Int).fmod 5).toNat = [.g, .g, .g] := by decide +kernel
  have h1' : chunkA 1 = [.a] := rfl
  have h0' : chunkA 0 = [.g, .g, .g] := rfl
  unfold patsA
  match marks with
  | [] =>
    refine List.mem_append_left _ (List.mem_append_left _ ?_)
    simp [pA, h1, h0, h1', h0']
  | [x] =>
    refine List.mem_append_left _ (List.mem_append_right _ (List.mem_map.mpr ⟨(x.fmod 5).toNat, List.mem_range.mpr (lt5 x), ?_⟩))
    simp [pA, h1, h0, h1', h0']
  | x :: y :: r =>
    refine List.mem_append_right _ (List.mem_flatMap.mpr ⟨(x.fmod 5).toNat, List.mem_range.mpr (lt5 x), List.mem_map.mpr ⟨(y.fmod 5).toNat, List.mem_range.mpr (lt5 y), ?_⟩⟩)
    simp [pA, h1, h0, h1', h0']
theorem tA_mem {marks : List Int} (hml : marks.length ≤ 5) : tA marks ∈ stripsA := by
  have h1 : cellSg ((1 : Int).fmod 5).toNat = .a := by decide +kernel
  have h1' : cellSg 1 = .a := rfl
  have hr : (marks.drop 2).length ≤ 3 := by simp; omega
  unfold tA stripsA
  generalize marks.drop 2 = r at hr ⊢
  match r, hr with
  | [], _ =>
    refine List.mem_append_left _ (List.mem_append_left _ (List.mem_append_left _ ?_))
    simp [h1, h1']
  | [x], _ =>
    refine List.mem_append_left _ (List.mem_append_left _ (List.mem_append_right _ (List.mem_map.mpr ⟨_, Sg.mem_all (cellSg (x.fmod 5).toNat), ?_⟩)))
    simp [h1, h1']
  | [x, y], _ =>
    refine List.mem_append_left _ (List.mem_append_right _ (List.mem_flatMap.mpr ⟨_, Sg.mem_all (cellSg (x.fmod 5).toNat), List.mem_map.mpr ⟨_, Sg.mem_all (cellSg (y.fmod 5).toNat), ?_⟩⟩))
    simp [h1, h1']
  | [x, y, z], _ =>
    refine List.mem_append_right _ (List.mem_flatMap.mpr ⟨_, Sg.mem_all (cellSg (x.fmod 5).toNat), List.mem_flatMap.mpr ⟨_, Sg.mem_all (cellSg (y.fmod 5).toNat), List.mem_map.mpr ⟨_, Sg.mem_all (cellSg (z.fmod 5).toNat), ?_⟩⟩⟩)
    simp [h1, h1']
theorem two_of (hbh : (-12 ≤ hue ∧ hue ≤ 23) ∧ (-11 ≤ h2 ∧ h2 ≤ 34) ∧ (0 ≤ g ∧ g ≤ 6) ∧ (q = 1 ∨ q = 3) ∧ (q2 = 1 ∨ q2 = 3)) (hk : hue + 1 ≤ h2 ∧ h2 ≤ hue + 11) : Two hue q h2 q2 := ⟨by omega, hbh.2.2.2.1, hbh.2.2.2.2⟩
theorem plain0 (hbh : (-12 ≤ hue ∧ hue ≤ 23) ∧ (-11 ≤ h2 ∧ h2 ≤ 34) ∧ (0 ≤ g ∧ g ≤ 6) ∧ (q = 1 ∨ q = 3) ∧ (q2 = 1 ∨ q2 = 3))
    (hP : ((marks.take 1 ++ [1, 0] ++ (marks.drop 1).take 1).flatMap (chunk g hue q h2 q2)).map (fun a : Int × Int => nameC a.1 a.2) = P) :
    46 ∈ P ∧ nameC hue q ∈ P ∧ 46 ≠ nameC hue q ∧ ∀ c ∈ P, c ∈ [46, nameC hue q, nameC hue (4 - q), nameC h2 q2, nameC h2 (4 - q2)] := by
  rw [P_phi hP]
  have h1 : chunkA ((1 : Int).fmod 5).toNat = [.a] := by decide +kernel
  have h0 : chunkA ((0 : Int).fmod 5).toNat = [.g, .g, .g] := by decide +kernel
  have m1 : Sg.a ∈ pA marks := List.mem_flatMap.mpr ⟨1, by simp, by rw [h1]; simp⟩
  have m0 : Sg.g ∈ pA marks := List.mem_flatMap.mpr ⟨0, by simp, by rw [h0]; simp⟩
  refine ⟨List.mem_map.mpr ⟨_, m0, rfl⟩, List.mem_map.mpr ⟨_, m1, rfl⟩, ?_, fun c hc => ?_⟩
  · have := nameC_two hue q hbh.2.2.2.1
    omega
  · obtain ⟨x, _, rfl⟩ := List.mem_map.mp hc
    cases x <;> simp [phi]
theorem plain1 (hml : marks.length ≤ 5) (hbh : (-12 ≤ hue ∧ hue ≤ 23) ∧ (-11 ≤ h2 ∧ h2 ≤ 34) ∧ (0 ≤ g ∧ g ≤ 6) ∧ (q = 1 ∨ q = 3) ∧ (q2 = 1 ∨ q2 = 3)) (hk : hue + 1 ≤ h2 ∧ h2 ≤ hue + 11)
    (hP : ((marks.take 1 ++ [1, 0] ++ (marks.drop 1).take 1).flatMap (chunk g hue q h2 q2)).map (fun a : Int × Int => nameC a.1 a.2) = P) (hT : ((1 :: marks.drop 2).map (cell g hue q h2 q2)).map (fun a : Int × Int => nameC a.1 a.2) = Tx) (hsg : ∀ c, c ∈ sg ↔ c ∈ P) (tot : Int) :
    ∀ x ∈ nearW Tx sg, levF costS Tx x.1 (tot.fmod 2 + 1) = x.2 := by
  have H := two_of hbh hk
  obtain ⟨hf, hs, _, hlt⟩ := phi_facts H
  have hPp := P_phi hP
  have hTp := T_phi hT
  intro x hx
  have hx2 : x ∈ nearW ((tA marks).map (phi hue q h2 q2)) (Sg.all.map (phi hue q h2 q2)) := by
    rw [← hTp]
    refine nearW_mem (fun c hc => ?_) x hx
    rw [hsg, hPp] at hc
    obtain ⟨y, _, rfl⟩ := List.mem_map.mp hc
    exact List.mem_map.mpr ⟨y, Sg.mem_all y, rfl⟩
  rw [near_map hf rfl hs (phi_price H)] at hx2
  obtain ⟨y, hy, rfl⟩ := List.mem_map.mp hx2
  dsimp only
  rw [hTp, levF_map hf (phi_cost H)]
  have hmem := tA_mem hml
  have h01 : tot.fmod 2 = 0 ∨ tot.fmod 2 = 1 := by
    have h1 := Int.fmod_nonneg_of_pos tot (b := 2) (by omega)
    have h2 := Int.fmod_lt_of_pos tot (b := 2) (by omega)
    omega
  rcases h01 with e | e
  · rw [e]
    exact lev_near hmem (.inl rfl) y hy
  · rw [e]
    exact lev_near hmem (.inr rfl) y hy
theorem plain2 (hml : marks.length ≤ 5) (hbh : (-12 ≤ hue ∧ hue ≤ 23) ∧ (-11 ≤ h2 ∧ h2 ≤ 34) ∧ (0 ≤ g ∧ g ≤ 6) ∧ (q = 1 ∨ q = 3) ∧ (q2 = 1 ∨ q2 = 3)) (hk : hue + 1 ≤ h2 ∧ h2 ≤ hue + 11)
    (hP : ((marks.take 1 ++ [1, 0] ++ (marks.drop 1).take 1).flatMap (chunk g hue q h2 q2)).map (fun a : Int × Int => nameC a.1 a.2) = P) (hT : ((1 :: marks.drop 2).map (cell g hue q h2 q2)).map (fun a : Int × Int => nameC a.1 a.2) = Tx) (hsg : ∀ c, c ∈ sg ↔ c ∈ P) {c : List (Str × Int)} (hn : Near (nearW Tx sg) c) :
    leastL P c = min 3 (farF priceS (itemsF P) Tx) := by
  have hlev := plain1 hml hbh hk hP hT hsg 0
  have H := two_of hbh hk
  obtain ⟨hf, hs, _, hlt⟩ := phi_facts H
  have hPp := P_phi hP
  have hTp := T_phi hT
  have hown : ∀ x, x ∈ sg ↔ x ∈ (ownA (pA marks)).map (phi hue q h2 q2) := by
    intro x
    rw [hsg, hPp]
    constructor
    · intro hx
      obtain ⟨y, hy, rfl⟩ := List.mem_map.mp hx
      refine List.mem_map.mpr ⟨y, List.mem_filter.mpr ⟨Sg.mem_all y, List.any_eq_true.mpr ⟨y, hy, (Sg.beq_iff _ _).mpr rfl⟩⟩, rfl⟩
    · intro hx
      obtain ⟨y, hy, rfl⟩ := List.mem_map.mp hx
      obtain ⟨z, hz, e⟩ := List.any_eq_true.mp (List.mem_filter.mp hy).2
      exact List.mem_map.mpr ⟨y, ((Sg.beq_iff _ _).mp e) ▸ hz, rfl⟩
  have hnear : ∀ x, x ∈ nearW Tx sg ↔ ∃ y ∈ nearA (tA marks) (ownA (pA marks)), x = (y.1.map (phi hue q h2 q2), y.2) := by
    intro x
    have e : x ∈ nearW Tx sg ↔ x ∈ nearW Tx ((ownA (pA marks)).map (phi hue q h2 q2)) := ⟨nearW_mem (fun c hc => (hown c).mp hc) x, nearW_mem (fun c hc => (hown c).mpr hc) x⟩
    rw [e, hTp, near_map hf rfl hs (phi_price H)]
    constructor
    · intro hx
      obtain ⟨y, hy, rfl⟩ := List.mem_map.mp hx
      exact ⟨y, hy, rfl⟩
    · rintro ⟨y, hy, rfl⟩
      exact List.mem_map.mpr ⟨y, hy, rfl⟩
  have hfar : farF priceS (itemsF P) Tx = farA (itemsA (pA marks)) (tA marks) := by
    rw [hPp, hTp, items_map hf rfl, far_map (phi_price H)]
  have hm : ∀ k : List Sg, matchS (S P) (S (k.map (phi hue q h2 q2))) = matchPG k (splitA (pA marks) []) := fun k => by
    rw [hPp]; exact match_phi hf rfl hlt (pA_mem marks) k
  have hchk := okFar_of (pA_mem marks) (tA_mem hml)
  rw [hfar]
  refine leastL_eq (fun p hp hmp => ?_) (Int.min_le_left _ _) ?_
  · obtain ⟨x, hx, rfl⟩ := hn.1 p hp
    obtain ⟨y, hy, rfl⟩ := (hnear x).mp hx
    rcases hchk.1 y hy with h1 | h1
    · exact h1
    · dsimp only at hmp
      rw [hm] at hmp
      rw [hmp] at h1; cases h1
  · rcases hchk.2 with k2 | ⟨y, hy, h3⟩
    · exact .inl k2
    · have hx := (hnear (y.1.map (phi hue q h2 q2), y.2)).mpr ⟨y, hy, rfl⟩
      obtain ⟨v, hv⟩ := hn.2 _ hx
      refine .inr ⟨_, hv, by rw [hm]; exact h3.2, ?_⟩
      obtain ⟨x', hx', e⟩ := hn.1 _ hv
      obtain ⟨e1, e2⟩ := Prod.mk.inj e
      have e3 := S_inj e1
      have l1 := hlev _ hx
      have l2 := hlev _ hx'
      dsimp only at l1
      rw [← e3, l1] at l2
      dsimp only
      rw [e2, ← l2, h3.1]
end
end Mine
end
section
open PySem PySem.W PyProof.Rows
set_option maxRecDepth 100000
set_option maxHeartbeats 8000000
namespace Mine
local macro_rules | `(tactic| walk_at "pyIter ref") => `(tactic| refine Hold.out ?_)
local macro_rules | `(tactic| walk_at "call ref") => `(tactic| refine Hold.out ?_)
local macro_rules | `(tactic| walk_at "exec For Name BinOp cons nil") => `(tactic| refine Hold.out ?_)
local macro_rules | `(tactic| walk_at "exec For Tuple Call cons nil") => `(tactic| refine Hold.out ?_)
local macro_rules | `(tactic| walk_at "call type:set cons nil") => `(tactic| refine Hold.out ?_)
local macro_rules | `(tactic| walk_at "call builtin:sorted") => `(tactic| refine Hold.out ?_)
theorem hold_items {M : Model} {A : Around} {a : Addr} {c : Sem Bool} {Q : Value × List Value → Shared → Prop} {E : Value → Shared → Prop} {s : Shared} (h : Hold (wpAny M A (getMethod (Value.ref a) (Str.ofString "items") c) Q E s)) : wpAny M A (getMethod (Value.ref a) (Str.ofString "items") c) Q E s := h
local macro_rules | `(tactic| walk_at "getMethod ref") => `(tactic| (with_reducible refine hold_items ?_))
local macro_rules | `(tactic| walk_at "LoopStep") => `(tactic| refine Hold.out ?_)
local macro_rules | `(tactic| walk_at "call builtin:dict.items") => `(tactic| refine Hold.out ?_)
local macro_rules | `(tactic| walk_at "call builtin:list.append") => `(tactic| refine Hold.out ?_)
local macro_rules | `(tactic| walk_at "call builtin:list.extend") => `(tactic| refine Hold.out ?_)
local macro_rules | `(tactic| walk_at "subscriptTail List cons BinOp ref int") => `(tactic| refine Hold.out ?_)
local macro_rules | `(tactic| walk_at "execs cons") => `(tactic| walk_at "mxc")
local macro_rules | `(tactic| walk_at "execs cons Assign cons") => `(tactic| walk_at "mxc")
local macro_rules | `(tactic| walk_at "execs nil") => `(tactic| walk_at "mxn")
/-- a law's end -/
noncomputable def LawEnd (s : Shared) (f : Flow) (s' : Shared) : Prop := f = .ret (.bool true) ∧ (∃ L m, Fr s.heap L s'.heap m) ∧ s'.os = s.os ∧ s'.gens = s.gens
noncomputable def tupO (x y : Value) : Obj := { cls := .type "tuple", data := .seq #[x, y] }
noncomputable def TupsOf (base : List (Addr × Obj)) (vs : List Value) (row : List (Int × Int)) : Prop :=
  vs.length = row.length ∧ ∀ (i : Nat) v, vs[i]? = some v → ∃ a T t₁ t₂, row[i]? = some a ∧ v = .ref T ∧ (T, tupO (.int a.1 t₁) (.int a.2 t₂)) ∈ base
theorem flat_len (g hue q h2 q2 : Int) : ∀ l : List Int, (l.flatMap (chunk g hue q h2 q2)).length ≤ 3 * l.length
  | [] => by simp
  | x :: r => by
    have ih := flat_len g hue q h2 q2 r
    have h1 : (chunk g hue q h2 q2 x).length ≤ 3 := by
      unfold chunk
      split
      · simp
      · split
        · simp
        · split
          · simp
          · split <;> simp
    simp only [List.flatMap_cons, List.length_append, List.length_cons]
    omega
theorem news_swap {h₀ h : Heap} {L : Addr} {a b c d e i : Addr × Obj} {l : List (Addr × Obj)} (N : News h₀ L h (a :: b :: c :: d :: e :: (l ++ [i]))) : News h₀ L h (a :: b :: c :: d :: e :: i :: l) := by
  intro p hp
  refine N p ?_
  simp only [List.mem_cons, List.mem_append, List.not_mem_nil, or_false] at hp ⊢
  rcases hp with h | h | h | h | h | h | h <;> simp [h]
theorem neGt {a b : Addr} (h : @LT.lt Nat _ b a) : a ≠ b := Nat.ne_of_gt h
theorem neLt {a b : Addr} (h : @LT.lt Nat _ a b) : a ≠ b := Nat.ne_of_lt h
theorem TupsOf.add {base base' : List (Addr × Obj)} {vs us : List Value} {row rs : List (Int × Int)} (h : TupsOf base vs row) (hb : ∀ p ∈ base, p ∈ base') (h2 : TupsOf base' us rs) : TupsOf base' (vs ++ us) (row ++ rs) := by
  refine ⟨by rw [List.length_append, List.length_append, h.1, h2.1], fun i v hv => ?_⟩
  rcases Nat.lt_or_ge i vs.length with hi | hi
  · rw [List.getElem?_append_left hi] at hv
    (first | ((first | refine Exists.elim (h.2 i v hv) ?_ | refine Mine.and_el (h.2 i v hv) ?_); intro a zt576; (first | refine Exists.elim zt576 ?_ | refine Mine.and_el zt576 ?_); intro T zt577; (try clear zt576); (first | (refine Mine.at_el zt577 ?_; clear zt577; intro t₁ t₂ e1 zt581 e2 e3; subst zt581) | ((first | refine Exists.elim zt577 ?_ | refine Mine.and_el zt577 ?_); intro t₁ zt578; (try clear zt577); (first | refine Exists.elim zt578 ?_ | refine Mine.and_el zt578 ?_); intro t₂ zt579; (try clear zt578); (first | refine Exists.elim zt579 ?_ | refine Mine.and_el zt579 ?_); intro e1 zt580; (try clear zt579); (first | refine Exists.elim zt580 ?_ | refine Mine.and_el zt580 ?_); intro e2 e3; (try clear zt580)))) | obtain ⟨a, T, t₁, t₂, e1, e2, e3⟩ := h.2 i v hv)
    exact ⟨a, T, t₁, t₂, by rw [List.getElem?_append_left (by rw [← h.1]; exact hi)]; exact e1, e2, hb _ e3⟩
  · rw [List.getElem?_append_right hi] at hv
    (first | ((first | refine Exists.elim (h2.2 _ v hv) ?_ | refine Mine.and_el (h2.2 _ v hv) ?_); intro a zt582; (first | refine Exists.elim zt582 ?_ | refine Mine.and_el zt582 ?_); intro T zt583; (try clear zt582); (first | (refine Mine.at_el zt583 ?_; clear zt583; intro t₁ t₂ e1 zt587 e2 e3; subst zt587) | ((first | refine Exists.elim zt583 ?_ | refine Mine.and_el zt583 ?_); intro t₁ zt584; (try clear zt583); (first | refine Exists.elim zt584 ?_ | refine Mine.and_el zt584 ?_); intro t₂ zt585; (try clear zt584); (first | refine Exists.elim zt585 ?_ | refine Mine.and_el zt585 ?_); intro e1 zt586; (try clear zt585); (first | refine Exists.elim zt586 ?_ | refine Mine.and_el zt586 ?_); intro e2 e3; (try clear zt586)))) | obtain ⟨a, T, t₁, t₂, e1, e2, e3⟩ := h2.2 _ v hv)
    exact ⟨a, T, t₁, t₂, by rw [List.getElem?_append_right (by rw [← h.1]; exact hi), ← h.1]; exact e1, e2, e3⟩
theorem TupsOf.one {base : List (Addr × Obj)} {T : Addr} {a b : Int} {t₁ t₂ : Tok} (h : (T, tupO (.int a t₁) (.int b t₂)) ∈ base) : TupsOf base [.ref T] [(a, b)] := by
  refine ⟨rfl, fun i v hv => ?_⟩
  cases i with
  | zero => simp at hv; exact ⟨_, T, t₁, t₂, rfl, hv.symm, h⟩
  | succ i => simp at hv
theorem TupsOf.two {base : List (Addr × Obj)} {v v' : Value} {r r' : Int × Int} (h : TupsOf base [v] [r]) (h' : TupsOf base [v'] [r']) : TupsOf base [v, v'] [r, r'] := h.add (fun _ h => h) h'
theorem TupsOf.three {base : List (Addr × Obj)} {v v' v'' : Value} {r r' r'' : Int × Int} (h : TupsOf base [v] [r]) (h' : TupsOf base [v'] [r']) (h'' : TupsOf base [v''] [r'']) : TupsOf base [v, v', v''] [r, r', r''] := h.add (fun _ h => h) (h'.two h'')
theorem TupsOf.rowIs {base : List (Addr × Obj)} {vs : List Value} {row : List (Int × Int)} (h : TupsOf base vs row) {h₀ hh : Heap} {L : Addr} (N : News h₀ L hh base) : RowIs hh vs row :=
  ⟨h.1, fun i v hv => by
    (first | ((first | refine Exists.elim (h.2 i v hv) ?_ | refine Mine.and_el (h.2 i v hv) ?_); intro a zt588; (first | refine Exists.elim zt588 ?_ | refine Mine.and_el zt588 ?_); intro T zt589; (try clear zt588); (first | (refine Mine.at_el zt589 ?_; clear zt589; intro t₁ t₂ e1 zt593 e2 e3; subst zt593) | ((first | refine Exists.elim zt589 ?_ | refine Mine.and_el zt589 ?_); intro t₁ zt590; (try clear zt589); (first | refine Exists.elim zt590 ?_ | refine Mine.and_el zt590 ?_); intro t₂ zt591; (try clear zt590); (first | refine Exists.elim zt591 ?_ | refine Mine.and_el zt591 ?_); intro e1 zt592; (try clear zt591); (first | refine Exists.elim zt592 ?_ | refine Mine.and_el zt592 ?_); intro e2 e3; (try clear zt592)))) | obtain ⟨a, T, t₁, t₂, e1, e2, e3⟩ := h.2 i v hv)
    exact ⟨a, T, t₁, t₂, e1, e2, _, (N _ e3).1, rfl, _, rfl⟩⟩
theorem sub22 {a b c d : Addr × Obj} {l : List (Addr × Obj)} : ∀ p ∈ a :: b :: l, p ∈ a :: b :: c :: d :: l := by
  intro p hp
  simp only [List.mem_cons] at hp ⊢
  rcases hp with h | h | h <;> simp [h]
theorem news_swap6 {h₀ h : Heap} {L : Addr} {a b c d e f i : Addr × Obj} {l : List (Addr × Obj)} (N : News h₀ L h (a :: b :: c :: d :: e :: f :: (l ++ [i]))) : News h₀ L h (a :: b :: c :: d :: e :: f :: i :: l) := by
  intro p hp
  refine N p ?_
  simp only [List.mem_cons, List.mem_append, List.not_mem_nil, or_false] at hp ⊢
  rcases hp with h | h | h | h | h | h | h | h <;> simp [h]
theorem sub23 {a b c d e : Addr × Obj} {l : List (Addr × Obj)} : ∀ p ∈ a :: b :: l, p ∈ a :: b :: c :: d :: e :: l := by
  intro p hp
  simp only [List.mem_cons] at hp ⊢
  rcases hp with h | h | h <;> simp [h]
theorem sub2 {a b : Addr × Obj} {l l' : List (Addr × Obj)} (h : ∀ p ∈ l, p ∈ l') : ∀ p ∈ a :: b :: l, p ∈ a :: b :: l' := by
  intro p hp
  simp only [List.mem_cons] at hp ⊢
  rcases hp with e | e | e
  · simp [e]
  · simp [e]
  · exact .inr (.inr (h p e))
theorem TupsOf.mono {base base' : List (Addr × Obj)} {vs : List Value} {row : List (Int × Int)} (h : TupsOf base vs row) (hb : ∀ p ∈ base, p ∈ base') : TupsOf base' vs row := by
  have := h.add (us := []) (rs := []) hb ⟨rfl, fun i v hv => by simp at hv⟩
  simpa using this
noncomputable def OkA (a : Int × Int) : Prop := ((a.2 = 1 ∨ a.2 = 3) ∧ -12 ≤ a.1 ∧ a.1 ≤ 34) ∨ (a.2 = 2 ∧ 0 ≤ a.1 ∧ a.1 ≤ 6)
theorem fmod_b (a b : Int) (h : 0 < b) : 0 ≤ a.fmod b ∧ a.fmod b < b := ⟨Int.fmod_nonneg_of_pos _ h, Int.fmod_lt_of_pos _ h⟩
theorem chunk_ok {g hue q h2 q2 x : Int} (h : (-12 ≤ hue ∧ hue ≤ 23) ∧ (-11 ≤ h2 ∧ h2 ≤ 34) ∧ (0 ≤ g ∧ g ≤ 6) ∧ (q = 1 ∨ q = 3) ∧ (q2 = 1 ∨ q2 = 3)) : ∀ a ∈ chunk g hue q h2 q2 x, OkA a := by
  intro a ha
  unfold chunk at ha
  have k1 : OkA (g, 2) := .inr ⟨rfl, h.2.2.1⟩
  have k2 : OkA (hue, q) := .inl ⟨h.2.2.2.1, by dsimp only; omega⟩
  have k3 : OkA (h2, q2) := .inl ⟨h.2.2.2.2, by dsimp only; omega⟩
  have k4 : OkA (hue, 4 - q) := .inl ⟨by dsimp only; omega, by dsimp only; omega⟩
  split at ha
  · simp at ha; exact ha ▸ k1
  · split at ha
    · simp at ha; exact ha ▸ k2
    · split at ha
      · simp at ha; exact ha ▸ k3
      · split at ha
        · simp at ha; exact ha ▸ k1
        · simp at ha; exact ha ▸ k4
theorem cell_ok {g hue q h2 q2 x : Int} (h : (-12 ≤ hue ∧ hue ≤ 23) ∧ (-11 ≤ h2 ∧ h2 ≤ 34) ∧ (0 ≤ g ∧ g ≤ 6) ∧ (q = 1 ∨ q = 3) ∧ (q2 = 1 ∨ q2 = 3)) : OkA (cell g hue q h2 q2 x) := by
  have k1 : OkA (g, 2) := .inr ⟨rfl, h.2.2.1⟩
  have k2 : OkA (hue, q) := .inl ⟨h.2.2.2.1, by dsimp only; omega⟩
  have k3 : OkA (h2, q2) := .inl ⟨h.2.2.2.2, by dsimp only; omega⟩
  have k4 : OkA (hue, 4 - q) := .inl ⟨by dsimp only; omega, by dsimp only; omega⟩
  have k5 : OkA (h2, 4 - q2) := .inl ⟨by dsimp only; omega, by dsimp only; omega⟩
  unfold cell
  split
  · exact k4
  · split
    · exact k2
    · split
      · exact k3
      · split
        · exact k1
        · exact k5
theorem okN {a : Int × Int} (h : OkA a) : (a.2 = 1 ∨ a.2 = 2 ∨ a.2 = 3) ∧ -1000 ≤ a.1 ∧ a.1 ≤ 1000 := by
  unfold OkA at h; omega
theorem nameC_lt (h q : Int) : nameC h q < 128 := by
  unfold nameC
  have : (h % 12).toNat < 12 := by omega
  split
  · omega
  · split <;> omega
theorem two_set {m₁ : Str → Option Value} {a b : Str} {va vb : Value} {l : List (Str × Value)} (hab : b ≠ a) (h : ∀ p ∈ l, p.1 ≠ a ∧ p.1 ≠ b ∧ m₁ p.1 = some p.2) :
    ∀ p ∈ (a, va) :: (b, vb) :: l, (if p.1 = a then some va else if p.1 = b then some vb else m₁ p.1) = some p.2 := by
  intro p hp
  rcases List.mem_cons.mp hp with rfl | hp
  · exact if_pos rfl
  · rcases List.mem_cons.mp hp with rfl | hp
    · rw [if_neg hab, if_pos rfl]
    · (first | ((first | refine Exists.elim (h p hp) ?_ | refine Mine.and_el (h p hp) ?_); intro h1 zt594; (first | refine Exists.elim zt594 ?_ | refine Mine.and_el zt594 ?_); intro h2 h3; (try clear zt594)) | obtain ⟨h1, h2, h3⟩ := h p hp)
      rw [if_neg h1, if_neg h2, h3]
noncomputable def LoopJ (X : Int) (P Tx : List Nat) (tp tt : Tok) (tot : Int) (t5 : Tok) (m : Str → Option Value) : Prop :=
  ∃ tl, m (Str.ofString "least") = some (.int X tl) ∧ m (Str.ofString "pattern") = some (.str (S P) tp) ∧ m (Str.ofString "text") = some (.str (S Tx) tt) ∧ m (Str.ofString "total") = some (.int tot t5)
theorem loopStep_of {h₀ h' : Heap} {L : Addr} {news : List (Addr × Obj)} {s₁ : Shared} {tk : Nat} {m' : Str → Option Value} {X : Int} {P Tx : List Nat} {tp tt : Tok} {tot : Int} {t5 tl : Tok} (F : Fr h₀ L h' m') (N : News h₀ L h' news)
    (hm : ∀ p ∈ [(Str.ofString "least", Value.int X tl), (Str.ofString "pattern", .str (S P) tp), (Str.ofString "text", .str (S Tx) tt), (Str.ofString "total", .int tot t5)], m' p.1 = some p.2) :
    LoopStep h₀ L news (LoopJ X P Tx tp tt tot t5) s₁ .next { s₁ with heap := h', toks := tk } :=
  LoopStep.intro F N ⟨tl, hm _ (List.Mem.head _), hm _ (List.Mem.tail _ (List.Mem.head _)), hm _ (List.Mem.tail _ (List.Mem.tail _ (List.Mem.head _))), hm _ (List.Mem.tail _ (List.Mem.tail _ (List.Mem.tail _ (List.Mem.head _))))⟩
theorem deeper_AA (env : Env) : ∃ fr, callerA.deeper env = AA (1 + claimMargin + 1) 7 fr (some []) := ⟨_, rfl⟩
theorem marks_fact {ns : List Int} : ∀ x ∈ List.map (fun k' => k'.fmod (10 ^ Int.toNat 6)) (List.take 5 ns), 0 ≤ x ∧ x < 1000000 := by
  intro x hx
  (first | ((first | refine Exists.elim (List.mem_map.mp hx) ?_ | refine Mine.and_el (List.mem_map.mp hx) ?_); intro k zt595; (first | refine Exists.elim zt595 ?_ | refine Mine.and_el zt595 ?_); intro zt596 zt597; (try clear zt595); subst zt597) | obtain ⟨k, _, rfl⟩ := List.mem_map.mp hx)
  have : (10 : Int) ^ Int.toNat 6 = 1000000 := by decide
  rw [this]
  exact ⟨Int.fmod_nonneg_of_pos _ (by omega), Int.fmod_lt_of_pos _ (by omega)⟩
theorem wp_menu {α : Type} {M : Model} {A : Around} {c : Sem α} {Q : α → Shared → Prop} {E : Value → Shared → Prop} {s : Shared} (P : α → Prop) (h1 : wpAny M A c (fun v s' => P v ∧ s' = s) E s) (h2 : ∀ v, P v → Q v s) : wpAny M A c Q E s :=
  wpAny_mono h1 (fun v _ h => h.2 ▸ h2 v h.1) fun _ _ e => e
theorem subX {p a b c d e f x y : Addr × Obj} {l : List (Addr × Obj)} (h : p ∈ a :: b :: c :: d :: e :: f :: l) : p ∈ b :: x :: y :: a :: c :: d :: e :: f :: l := by
  simp only [List.mem_cons] at h ⊢
  rcases h with h | h | h | h | h | h | h <;> simp [h]
inductive Mid (h0 h : Heap) (ys : List Value) (sm : Int) : Prop
  | mk (m : Str → Option Value) (W G S2 M : Addr) (nM : Nat) (t1 t2 t3 t4 t5 t6 t7 : Tok) (hue q h2 q2 g tot : Int)
    (hhue : sm.fmod 36 - 12 = hue) (hq : (sm.fdiv 36).fmod 2 * 2 + 1 = q) (hh2 : sm.fmod 36 - 12 + 1 + (sm.fdiv 72).fmod 11 = h2) (hq2 : (sm.fdiv 792).fmod 2 * 2 + 1 = q2) (hg2 : sm.fmod 7 = g) (htot : sm = tot)
    (F : Fr h0 h0.objs.size h (kstB m [(Str.ofString "marks", .ref M), (Str.ofString "total", .int tot t5), (Str.ofString "hue", .int hue t6), (Str.ofString "quarters", .int q t7), (Str.ofString "second", .ref S2), (Str.ofString "grey", .ref G), (Str.ofString "want", .ref W)]))
    (N : News h0 h0.objs.size h [(W, listOf #[] 0), (G, tupO (.int g t1) (.int 2 t2)), (S2, tupO (.int h2 t3) (.int q2 t4)), (M, listOf ys.toArray nM)])
    (hlt : @LT.lt Nat _ G W ∧ @LT.lt Nat _ S2 W ∧ @LT.lt Nat _ M W ∧ @LT.lt Nat _ S2 G ∧ @LT.lt Nat _ M S2) : Mid h0 h ys sm
theorem subD {p a b c d e : Addr × Obj} {l : List (Addr × Obj)} (h : p ∈ a :: c :: d :: e :: l) : p ∈ a :: b :: c :: d :: e :: l := by
  simp only [List.mem_cons] at h ⊢
  rcases h with h | h | h | h | h <;> simp [h]
theorem subDM {p a b c d e f : Addr × Obj} {l : List (Addr × Obj)} (h : p ∈ a :: c :: d :: e :: l) : p ∈ a :: b :: c :: d :: e :: f :: l := by
  simp only [List.mem_cons] at h ⊢
  rcases h with h | h | h | h | h <;> simp [h]
theorem WM : rwm.Holds := by
  refine hd ?_
  w_strict (k_go0; (all_goals try k_fold))
  rename Top _ _ _ _ _ _ => T; rename IntsAre _ _ => hI; rename (kh _).In _ => X; rw [kh_eq] at X; (have hz : (rwm, kz.heap_1) = (rwm, kz.heap_1) := rfl; revert hz; k_fill; intro hz; clear hz); rename _ = (#[] : Array GenState) => hg
  rename Shared => s; rename World => w; rename List Int => ns
  rename Fr _ _ _ _ => F; rename News _ _ _ _ => N
  generalize hA0 : callerA.deeper _ = A0
  (first | ((first | refine Exists.elim (show ∃ fr, A0 = AA (1 + claimMargin + 1) 7 fr (some []) from hA0 ▸ deeper_AA _) ?_ | refine Mine.and_el (show ∃ fr, A0 = AA (1 + claimMargin + 1) 7 fr (some []) from hA0 ▸ deeper_AA _) ?_); intro fr hA) | obtain ⟨fr, hA⟩ : ∃ fr, A0 = AA (1 + claimMargin + 1) 7 fr (some []) := hA0 ▸ deeper_AA _)
  subst hA
  clear hA0
  refine wpAny_mono (Q := LawEnd s) (E := fun _ _ => False) ?_ ?_ ?_
  rotate_left
  · (first | (intro f s'; (first | (intro zt598; (first | refine Exists.elim zt598 ?_ | refine Mine.and_el zt598 ?_); intro zt599 zt600; (try clear zt598); subst zt599; (first | refine Exists.elim zt600 ?_ | refine Mine.and_el zt600 ?_); intro zt601 zt602; (try clear zt600); (first | refine Exists.elim zt601 ?_ | refine Mine.and_el zt601 ?_); intro L9 zt603; (try clear zt601); (first | refine Exists.elim zt603 ?_ | refine Mine.and_el zt603 ?_); intro m9 F9; (try clear zt603); (first | refine Exists.elim zt602 ?_ | refine Mine.and_el zt602 ?_); intro h2 h3; (try clear zt602)) | rintro ⟨rfl, ⟨L9, m9, F9⟩, h2, h3⟩)) | rintro f s' ⟨rfl, ⟨L9, m9, F9⟩, h2, h3⟩)
    clear F N
    (try dsimp only)
    refine goodW_bool F9 (h3.trans hg) (raisesW_false ?_) ?_ h2
    · wrow_none_raised
    · wrow_post
  · intro _ _ h; exact h.elim
  refine opq ?_; intro Q0 hQ0
  w_strict ((try k_fold); k_steps)
  refine Hold.mk ?_
  (try clear F N)
  rename Fr _ _ _ _ => F; rename News _ _ _ _ => N
  rename IntsAre _ (List.map _ (List.take _ _)) => hM
  rename List.length _ = List.length (List.map _ (List.take _ _)) => hMl
  have hmk := marks_fact (ns := ns)
  have hml : (List.map (fun k' => k'.fmod (10 ^ Int.toNat 6)) (List.take 5 ns)).length ≤ 5 := by simp; omega
  generalize (List.map (fun k' => k'.fmod (10 ^ Int.toNat 6)) (List.take 5 ns)) = marks at *
  rename Heap => h
  rename List Value => ys
  have mid : Mid s.heap h ys marks.sum := .mk _ _ _ _ _ _ _ _ _ _ _ _ _ _ _ _ _ _ _ rfl rfl rfl rfl rfl rfl (fr_norm F [(_, _), (_, _), (_, _), (_, _), (_, _), (_, _), (_, _)] (by kst_all)) (fun p hp => N p (List.mem_append_left [_] hp)) (by omega)
  clear F N
  (first | ((first | refine Exists.elim mid ?_ | refine Mine.and_el mid ?_); intro m zt604; (try clear mid); (first | refine Exists.elim zt604 ?_ | refine Mine.and_el zt604 ?_); intro W zt605; (try clear zt604); (first | refine Exists.elim zt605 ?_ | refine Mine.and_el zt605 ?_); intro G zt606; (try clear zt605); (first | refine Exists.elim zt606 ?_ | refine Mine.and_el zt606 ?_); intro S2 zt607; (try clear zt606); (first | refine Exists.elim zt607 ?_ | refine Mine.and_el zt607 ?_); intro M zt608; (try clear zt607); (first | refine Exists.elim zt608 ?_ | refine Mine.and_el zt608 ?_); intro nM zt609; (try clear zt608); (first | refine Exists.elim zt609 ?_ | refine Mine.and_el zt609 ?_); intro t1 zt610; (try clear zt609); (first | refine Exists.elim zt610 ?_ | refine Mine.and_el zt610 ?_); intro t2 zt611; (try clear zt610); (first | refine Exists.elim zt611 ?_ | refine Mine.and_el zt611 ?_); intro t3 zt612; (try clear zt611); (first | refine Exists.elim zt612 ?_ | refine Mine.and_el zt612 ?_); intro t4 zt613; (try clear zt612); (first | refine Exists.elim zt613 ?_ | refine Mine.and_el zt613 ?_); intro t5 zt614; (try clear zt613); (first | refine Exists.elim zt614 ?_ | refine Mine.and_el zt614 ?_); intro t6 zt615; (try clear zt614); (first | refine Exists.elim zt615 ?_ | refine Mine.and_el zt615 ?_); intro t7 zt616; (try clear zt615); (first | refine Exists.elim zt616 ?_ | refine Mine.and_el zt616 ?_); intro hue zt617; (try clear zt616); (first | refine Exists.elim zt617 ?_ | refine Mine.and_el zt617 ?_); intro q zt618; (try clear zt617); (first | refine Exists.elim zt618 ?_ | refine Mine.and_el zt618 ?_); intro h2 zt619; (try clear zt618); (first | refine Exists.elim zt619 ?_ | refine Mine.and_el zt619 ?_); intro q2 zt620; (try clear zt619); (first | refine Exists.elim zt620 ?_ | refine Mine.and_el zt620 ?_); intro g zt621; (try clear zt620); (first | refine Exists.elim zt621 ?_ | refine Mine.and_el zt621 ?_); intro tot zt622; (try clear zt621); (first | refine Exists.elim zt622 ?_ | refine Mine.and_el zt622 ?_); intro hhue zt623; (try clear zt622); (first | refine Exists.elim zt623 ?_ | refine Mine.and_el zt623 ?_); intro hq zt624; (try clear zt623); (first | refine Exists.elim zt624 ?_ | refine Mine.and_el zt624 ?_); intro hh2 zt625; (try clear zt624); (first | refine Exists.elim zt625 ?_ | refine Mine.and_el zt625 ?_); intro hq2 zt626; (try clear zt625); (first | (refine Mine.at_el zt626 ?_; clear zt626; intro hg2 htot F zt630 N hlt; subst zt630) | ((first | refine Exists.elim zt626 ?_ | refine Mine.and_el zt626 ?_); intro hg2 zt627; (try clear zt626); (first | refine Exists.elim zt627 ?_ | refine Mine.and_el zt627 ?_); intro htot zt628; (try clear zt627); (first | refine Exists.elim zt628 ?_ | refine Mine.and_el zt628 ?_); intro F zt629; (try clear zt628); (first | refine Exists.elim zt629 ?_ | refine Mine.and_el zt629 ?_); intro N hlt; (try clear zt629)))) | obtain ⟨m, W, G, S2, M, nM, t1, t2, t3, t4, t5, t6, t7, hue, q, h2, q2, g, tot, hhue, hq, hh2, hq2, hg2, htot, F, N, hlt⟩ := mid)
  refine wpAny_mono (Q := NextAt fun s' => ∃ (vs : List Value) (n : Nat) (tups : List (Addr × Obj)), TupsOf ((G, tupO (.int g t1) (.int 2 t2)) :: (S2, tupO (.int h2 t3) (.int q2 t4)) :: tups) vs ((marks.take 1 ++ [1, 0] ++ (marks.drop 1).take 1).flatMap (chunk g hue q h2 q2)) ∧
      At s s.heap s.heap.objs.size ((W, listOf vs.toArray n) :: (G, tupO (.int g t1) (.int 2 t2)) :: (S2, tupO (.int h2 t3) (.int q2 t4)) :: (M, listOf ys.toArray nM) :: tups) [(Str.ofString "marks", .ref M), (Str.ofString "total", .int tot t5), (Str.ofString "hue", .int hue t6), (Str.ofString "quarters", .int q t7), (Str.ofString "second", .ref S2), (Str.ofString "grey", .ref G), (Str.ofString "want", .ref W)] s') (E := fun _ _ => False) ?_ ?_ (fun _ _ e => e)
  · refine opq ?_; intro Qa hQa
    refine For_invVF F rfl rfl ?_ (by intro _; rfl) PassesOwn.never
    w_strict ((try dsimp only); k_steps)
    refine Hold.mk ?_
    (try dsimp only)
    (try clear F N)
    rename Fr _ _ _ _ => F; rename News _ _ _ _ => N
    rename IntsAre _ (_ ++ _) => hX
    have hcut : marks.take 1 ++ [1, 0] ++ List.take (min 2 marks.length - 1) (List.drop 1 marks) = marks.take 1 ++ [1, 0] ++ (marks.drop 1).take 1 := by
      congr 1
      match marks with
      | [] => rfl
      | [_] => rfl
      | _ :: _ :: r => simp
    rw [hcut] at hX
    (first | ((first | refine Exists.elim (show ∃ xs, marks.take 1 ++ [1, 0] ++ (marks.drop 1).take 1 = xs from ⟨_, rfl⟩) ?_ | refine Mine.and_el (show ∃ xs, marks.take 1 ++ [1, 0] ++ (marks.drop 1).take 1 = xs from ⟨_, rfl⟩) ?_); intro xs hxs) | obtain ⟨xs, hxs⟩ : ∃ xs, marks.take 1 ++ [1, 0] ++ (marks.drop 1).take 1 = xs := ⟨_, rfl⟩)
    have hxl : xs.length ≤ 4 := by rw [← hxs]; simp; omega
    have hxb : ∀ x ∈ xs, 0 ≤ x ∧ x < 1000000 := by
      intro x hx
      rw [← hxs] at hx
      simp only [List.mem_append, List.mem_cons, List.not_mem_nil, or_false] at hx
      rcases hx with (hx | hx | hx) | hx
      · exact hmk x (List.mem_of_mem_take hx)
      · omega
      · omega
      · exact hmk x (List.mem_of_mem_drop (List.mem_of_mem_take hx))
    rw [hxs] at hX hQa
    rename List Value => ws; rename Addr => D
    refine for_listL (σ := List Value × Nat × List (Addr × Obj)) (l := D) xs (fun x v => ∃ t, v = .int x t)
      (fun c => (W, listOf c.1.toArray c.2.1) :: (D, listOf ws.toArray 0) :: (G, tupO (.int g t1) (.int 2 t2)) :: (S2, tupO (.int h2 t3) (.int q2 t4)) :: (M, listOf ys.toArray nM) :: c.2.2) (fun c => []) []
      (fun pre c => TupsOf ((G, tupO (.int g t1) (.int 2 t2)) :: (S2, tupO (.int h2 t3) (.int q2 t4)) :: c.2.2) c.1 (pre.flatMap (chunk g hue q h2 q2)) ∧ ∀ p ∈ c.2.2, @LT.lt Nat _ W p.1) ([], 0, []) rfl (fun c => List.Mem.tail _ (List.Mem.head _)) hX.length ?_ F (kst_newsOf N (by kst_inAny)) (fun _ h => nomatch h) ⟨⟨rfl, fun i v hv => by simp at hv⟩, fun _ h => nomatch h⟩ ?_ ?_
    · intro i v hv
      (first | ((first | refine Exists.elim (ints_item hX i v hv) ?_ | refine Mine.and_el (ints_item hX i v hv) ?_); intro y zt631; (first | refine Exists.elim zt631 ?_ | refine Mine.and_el zt631 ?_); intro t zt632; (try clear zt631); (first | refine Exists.elim zt632 ?_ | refine Mine.and_el zt632 ?_); intro zt633 hy; (try clear zt632); subst zt633) | obtain ⟨y, t, rfl, hy⟩ := ints_item hX i v hv)
      exact ⟨y, hy, t, rfl⟩
    · clear F N
      (first | ((first | (intro zt634; (first | refine Exists.elim zt634 ?_ | refine Mine.and_el zt634 ?_); intro vs zt635; (try clear zt634); (first | refine Exists.elim zt635 ?_ | refine Mine.and_el zt635 ?_); intro n tups; (try clear zt635)) | (refine Mine.pr3 ?_; intro vs n tups) | rintro ⟨vs, n, tups⟩); intro pre post x v u h tk I oI hsp; (first | (intro zt636; (first | refine Exists.elim zt636 ?_ | refine Mine.and_el zt636 ?_); intro tx zt637; (try clear zt636); subst zt637) | rintro ⟨tx, rfl⟩); (first | (intro zt638; (first | refine Exists.elim zt638 ?_ | refine Mine.and_el zt638 ?_); intro hP hPW; (try clear zt638)) | rintro ⟨hP, hPW⟩); intro hoff F N) | rintro ⟨vs, n, tups⟩ pre post x v u h tk I oI hsp ⟨tx, rfl⟩ ⟨hP, hPW⟩ hoff F N)
      refine opq ?_; intro Q1 hQ1
      (try dsimp only at F N hP hPW hoff)
      replace N := news_swap N
      have hx5 := hxb x (by rw [hsp]; simp)
      have hvl : vs.length ≤ 12 := by
        have h1 := flat_len g hue q h2 q2 pre
        have h2 := congrArg List.length hsp
        have h3 := hP.1
        simp at h2
        omega
      have hWD : @LT.lt Nat _ W D := by omega
      have hWI : @Ne Nat W I := hoff _ (List.Mem.head _)
      have h5 : x.fmod 5 = 0 ∨ x.fmod 5 = 1 ∨ x.fmod 5 = 2 ∨ x.fmod 5 = 3 ∨ x.fmod 5 = 4 := by
        have := Int.fmod_eq_emod_of_nonneg x (b := 5) (by omega)
        omega
      w_strict ((try dsimp only); k_steps)
      refine Hold.mk ?_
      (try clear F N)
      rename Fr _ _ _ _ => F; rename News _ _ _ _ => N
      rename_i a5 _ c1 d1 _ c2 a4 _ c3 a3 _ c4 a2 _ c5 d2 _ c6 a1 _ c7 a0 _ c8
      rename Heap => hh
      refine wp_menu (fun v => ∃ (A9 : Addr) (us : List Value) (n9 : Nat), v = Value.ref A9 ∧ hh.get? A9 = some (listOf us.toArray n9) ∧ us.length ≤ 3 ∧ ((us = [.ref G, .ref G, .ref G] ∧ chunk g hue q h2 q2 x = [(g, 2), (g, 2), (g, 2)]) ∨ (us = [.ref d1] ∧ chunk g hue q h2 q2 x = [(hue, q)]) ∨ (us = [.ref S2] ∧ chunk g hue q h2 q2 x = [(h2, q2)]) ∨ (us = [.ref G] ∧ chunk g hue q h2 q2 x = [(g, 2)]) ∨ (us = [.ref d2] ∧ chunk g hue q h2 q2 x = [(hue, 4 - q)]))) ?_ ?_
      · rcases h5 with e | e | e | e | e
        · rw [e]
          refine item_listR ⟨_, (N _ (List.Mem.head _)).1, rfl, _, rfl⟩ (by decide) (by decide) rfl ?_
          exact ⟨⟨_, [.ref G, .ref G, .ref G], _, rfl, (N _ (List.Mem.tail _ (List.Mem.tail _ (List.Mem.tail _ (List.Mem.tail _ (List.Mem.tail _ (List.Mem.tail _ (List.Mem.tail _ (List.Mem.head _))))))))).1, by simp, .inl ⟨rfl, by simp [chunk, e]⟩⟩, rfl⟩
        · rw [e]
          refine item_listR ⟨_, (N _ (List.Mem.head _)).1, rfl, _, rfl⟩ (by decide) (by decide) rfl ?_
          exact ⟨⟨_, [.ref d1], _, rfl, (N _ (List.Mem.tail _ (List.Mem.tail _ (List.Mem.tail _ (List.Mem.tail _ (List.Mem.tail _ (List.Mem.head _))))))).1, by simp, .inr (.inl ⟨rfl, by simp [chunk, e]⟩)⟩, rfl⟩
        · rw [e]
          refine item_listR ⟨_, (N _ (List.Mem.head _)).1, rfl, _, rfl⟩ (by decide) (by decide) rfl ?_
          exact ⟨⟨_, [.ref S2], _, rfl, (N _ (List.Mem.tail _ (List.Mem.tail _ (List.Mem.tail _ (List.Mem.tail _ (List.Mem.head _)))))).1, by simp, .inr (.inr (.inl ⟨rfl, by simp [chunk, e]⟩))⟩, rfl⟩
        · rw [e]
          refine item_listR ⟨_, (N _ (List.Mem.head _)).1, rfl, _, rfl⟩ (by decide) (by decide) rfl ?_
          exact ⟨⟨_, [.ref G], _, rfl, (N _ (List.Mem.tail _ (List.Mem.tail _ (List.Mem.tail _ (List.Mem.head _))))).1, by simp, .inr (.inr (.inr (.inl ⟨rfl, by simp [chunk, e]⟩)))⟩, rfl⟩
        · rw [e]
          refine item_listR ⟨_, (N _ (List.Mem.head _)).1, rfl, _, rfl⟩ (by decide) (by decide) rfl ?_
          exact ⟨⟨_, [.ref d2], _, rfl, (N _ (List.Mem.tail _ (List.Mem.head _))).1, by simp, .inr (.inr (.inr (.inr (⟨rfl, by simp [chunk, e]⟩))))⟩, rfl⟩
      (first | (intro _; (first | (intro zt639; (first | refine Exists.elim zt639 ?_ | refine Mine.and_el zt639 ?_); intro A9 zt640; (try clear zt639); (first | refine Exists.elim zt640 ?_ | refine Mine.and_el zt640 ?_); intro us zt641; (try clear zt640); (first | refine Exists.elim zt641 ?_ | refine Mine.and_el zt641 ?_); intro n9 zt642; (try clear zt641); (first | refine Exists.elim zt642 ?_ | refine Mine.and_el zt642 ?_); intro zt643 zt644; (try clear zt642); subst zt643; (first | refine Exists.elim zt644 ?_ | refine Mine.and_el zt644 ?_); intro hA9 zt645; (try clear zt644); (first | refine Exists.elim zt645 ?_ | refine Mine.and_el zt645 ?_); intro hul hsel; (try clear zt645)) | rintro ⟨A9, us, n9, rfl, hA9, hul, hsel⟩)) | rintro _ ⟨A9, us, n9, rfl, hA9, hul, hsel⟩)
      w_strict ((try dsimp only); k_steps)
      refine Hold.mk ?_
      refine extend_in (own := [_, _, _, _, _, _, _, _]) F N ?_ ?_ hA9 ?_ (by rw [sizeLine_eq]; simp; omega)
      · simp only [List.forall_mem_cons, List.not_mem_nil, false_implies, implies_true, and_true]
        exact ⟨neGt c8.2.2.2.2.2.2.2.1, neGt c7.2.2.2.2.2.2.1, neGt c6.2.2.2.2.2.1, neGt c5.2.2.2.2.1, neGt c4.2.2.2.1, neGt c3.2.2.1, neGt c2.2.1, neGt c1.1⟩
      · simp only [List.forall_mem_cons]
        exact ⟨neGt hWD, neLt hlt.1, neLt hlt.2.1, neLt hlt.2.2.1, hWI.symm, fun p hp => neGt (hPW p hp)⟩
      (try clear F N)
      intro h n' F N
      dsimp only [List.cons_append, List.nil_append] at N
      w_strict ((try dsimp only); k_steps)
      refine hQ1 _ _ ?_; refine turn_end (vs ++ us, n', (d2, _) :: (d1, _) :: tups) F N (List.forall_mem_cons.mpr ⟨(List.Mem.tail _ (List.Mem.tail _ (List.Mem.tail _ (List.Mem.tail _ (List.Mem.tail _ (List.Mem.tail _ (List.Mem.tail _ (List.Mem.tail _ (List.Mem.head _))))))))), List.forall_mem_cons.mpr ⟨(List.Mem.tail _ (List.Mem.tail _ (List.Mem.tail _ (List.Mem.tail _ (List.Mem.tail _ (List.Mem.tail _ (List.Mem.tail _ (List.Mem.tail _ (List.Mem.tail _ (List.Mem.head _)))))))))), List.forall_mem_cons.mpr ⟨(List.Mem.tail _ (List.Mem.tail _ (List.Mem.tail _ (List.Mem.tail _ (List.Mem.tail _ (List.Mem.tail _ (List.Mem.tail _ (List.Mem.tail _ (List.Mem.tail _ (List.Mem.tail _ (List.Mem.head _))))))))))), List.forall_mem_cons.mpr ⟨(List.Mem.tail _ (List.Mem.tail _ (List.Mem.tail _ (List.Mem.tail _ (List.Mem.tail _ (List.Mem.tail _ (List.Mem.tail _ (List.Mem.tail _ (List.Mem.tail _ (List.Mem.tail _ (List.Mem.tail _ (List.Mem.head _)))))))))))), List.forall_mem_cons.mpr ⟨(List.Mem.tail _ (List.Mem.tail _ (List.Mem.tail _ (List.Mem.tail _ (List.Mem.tail _ (List.Mem.tail _ (List.Mem.tail _ (List.Mem.tail _ (List.Mem.tail _ (List.Mem.tail _ (List.Mem.tail _ (List.Mem.tail _ (List.Mem.head _))))))))))))), List.forall_mem_cons.mpr ⟨(List.Mem.tail _ (List.Mem.tail _ (List.Mem.head _))), List.forall_mem_cons.mpr ⟨(List.Mem.tail _ (List.Mem.tail _ (List.Mem.tail _ (List.Mem.tail _ (List.Mem.tail _ (List.Mem.tail _ (List.Mem.head _))))))), fun p hp => (List.Mem.tail _ (List.Mem.tail _ (List.Mem.tail _ (List.Mem.tail _ (List.Mem.tail _ (List.Mem.tail _ (List.Mem.tail _ (List.Mem.tail _ (List.Mem.tail _ (List.Mem.tail _ (List.Mem.tail _ (List.Mem.tail _ (List.Mem.tail _ (List.Mem.tail _ hp))))))))))))))⟩⟩⟩⟩⟩⟩⟩) (List.Mem.tail _ (List.Mem.tail _ (List.Mem.tail _ (List.Mem.tail _ (List.Mem.tail _ (List.Mem.tail _ (List.Mem.tail _ (List.Mem.tail _ (List.Mem.tail _ (List.Mem.tail _ (List.Mem.tail _ (List.Mem.tail _ (List.Mem.tail _ (List.Mem.head _)))))))))))))) ?_ (fun _ h => nomatch h) (by (intro z h1 h2 h3; first | ((repeat (first | (with_reducible rfl) | refine Mine.sm_if (by first | exact h1 | exact Mine.sm_to (h2 _ (List.Mem.head _)) (by with_unfolding_all rfl) | exact Mine.sm_to (h2 _ (List.Mem.tail _ (List.Mem.head _))) (by with_unfolding_all rfl) | exact Mine.sm_to (h2 _ (List.Mem.tail _ (List.Mem.tail _ (List.Mem.head _)))) (by with_unfolding_all rfl) | exact Mine.sm_to (h2 _ (List.Mem.tail _ (List.Mem.tail _ (List.Mem.tail _ (List.Mem.head _))))) (by with_unfolding_all rfl) | exact Mine.sm_to (h2 _ (List.Mem.tail _ (List.Mem.tail _ (List.Mem.tail _ (List.Mem.tail _ (List.Mem.head _)))))) (by with_unfolding_all rfl) | exact Mine.sm_to (h2 _ (List.Mem.tail _ (List.Mem.tail _ (List.Mem.tail _ (List.Mem.tail _ (List.Mem.tail _ (List.Mem.head _))))))) (by with_unfolding_all rfl) | exact Mine.sm_to (h2 _ (List.Mem.tail _ (List.Mem.tail _ (List.Mem.tail _ (List.Mem.tail _ (List.Mem.tail _ (List.Mem.tail _ (List.Mem.head _)))))))) (by with_unfolding_all rfl) | exact Mine.sm_to (h2 _ (List.Mem.tail _ (List.Mem.tail _ (List.Mem.tail _ (List.Mem.tail _ (List.Mem.tail _ (List.Mem.tail _ (List.Mem.tail _ (List.Mem.head _))))))))) (by with_unfolding_all rfl) | exact Mine.sm_ne h3 (by with_unfolding_all rfl)) ?_ | refine Mine.sm_ifc h3 ?_ | refine Mine.sm_ifc (Mine.sm_sub h3 (by with_unfolding_all rfl)) ?_ | exact rfl)); done) | ((try simp only [List.forall_mem_cons, List.not_mem_nil, false_implies, implies_true, and_true, ne_eq] at h2); (try simp only [List.contains_cons, List.contains_nil, Bool.or_false, Bool.or_eq_false_iff, beq_eq_false_iff_ne, ne_eq] at h3); simp +zetaDelta [kstB, h1, h2, h3]))) ?_
      · simp only [List.forall_mem_cons] at hoff ⊢
        exact ⟨hoff.1, hoff.2.1, hoff.2.2.1, hoff.2.2.2.1, hoff.2.2.2.2.1, neGt c6.2.2.2.2.2.2.2.2.2.2.1, neGt c2.2.2.2.2.2.2.1, hoff.2.2.2.2.2⟩
      refine ⟨?_, List.forall_mem_cons.mpr ⟨c6.2.2.2.2.2.1, List.forall_mem_cons.mpr ⟨c2.2.1, hPW⟩⟩⟩
      rw [List.flatMap_append, List.flatMap_singleton]
      rcases hsel with ⟨e9, e⟩ | ⟨e9, e⟩ | ⟨e9, e⟩ | ⟨e9, e⟩ | ⟨e9, e⟩
      · rw [e9, e]; exact hP.add sub22 (TupsOf.three (TupsOf.one (List.Mem.head _)) (TupsOf.one (List.Mem.head _)) (TupsOf.one (List.Mem.head _)))
      · rw [e9, e]; exact hP.add sub22 (TupsOf.one (List.Mem.tail _ (List.Mem.tail _ (List.Mem.tail _ (List.Mem.head _)))))
      · rw [e9, e]; exact hP.add sub22 (TupsOf.one (List.Mem.tail _ (List.Mem.head _)))
      · rw [e9, e]; exact hP.add sub22 (TupsOf.one (List.Mem.head _))
      · rw [e9, e]; exact hP.add sub22 (TupsOf.one (List.Mem.tail _ (List.Mem.tail _ (List.Mem.head _))))
    · clear F N
      (first | ((first | (intro zt646; (first | refine Exists.elim zt646 ?_ | refine Mine.and_el zt646 ?_); intro vs zt647; (try clear zt646); (first | refine Exists.elim zt647 ?_ | refine Mine.and_el zt647 ?_); intro n tups; (try clear zt647)) | (refine Mine.pr3 ?_; intro vs n tups) | rintro ⟨vs, n, tups⟩); intro u h tk; (first | (intro zt648; (first | refine Exists.elim zt648 ?_ | refine Mine.and_el zt648 ?_); intro hP hPW; (try clear zt648)) | rintro ⟨hP, hPW⟩); intro F N) | rintro ⟨vs, n, tups⟩ u h tk ⟨hP, hPW⟩ F N)
      (try dsimp only at F N hP hPW)
      exact hQa _ _ ⟨rfl, vs, n, tups, hP, At.mk F (fun p hp => N p (subD hp)) (by kst_all)⟩
  clear F N
  (first | (intro f s'; (first | (intro zt649; (first | refine Exists.elim zt649 ?_ | refine Mine.and_el zt649 ?_); intro zt650 zt651; (try clear zt649); subst zt650; (first | refine Exists.elim zt651 ?_ | refine Mine.and_el zt651 ?_); intro vsW zt652; (try clear zt651); (first | refine Exists.elim zt652 ?_ | refine Mine.and_el zt652 ?_); intro nW zt653; (try clear zt652); (first | refine Exists.elim zt653 ?_ | refine Mine.and_el zt653 ?_); intro tups zt654; (try clear zt653); (first | refine Exists.elim zt654 ?_ | refine Mine.and_el zt654 ?_); intro hTW zt655; (try clear zt654); (first | (refine Mine.at_el zt655 ?_; clear zt655; intro h tk m' zt659 F N; subst zt659) | ((first | refine Exists.elim zt655 ?_ | refine Mine.and_el zt655 ?_); intro h zt656; (try clear zt655); (first | refine Exists.elim zt656 ?_ | refine Mine.and_el zt656 ?_); intro tk zt657; (try clear zt656); (first | refine Exists.elim zt657 ?_ | refine Mine.and_el zt657 ?_); intro m' zt658; (try clear zt657); (first | refine Exists.elim zt658 ?_ | refine Mine.and_el zt658 ?_); intro F N; (try clear zt658)))) | rintro ⟨rfl, vsW, nW, tups, hTW, h, tk, m', F, N⟩)) | rintro f s' ⟨rfl, vsW, nW, tups, hTW, h, tk, m', F, N⟩)
  (try dsimp only)
  w_strict ((try dsimp only); k_steps)
  refine Hold.mk ?_
  (try clear F N)
  rename Fr _ _ _ _ => F; rename News _ _ _ _ => N
  rename_i R _ hltR h
  refine wpAny_mono (Q := NextAt fun s' => ∃ (vs : List Value) (n : Nat) (tups : List (Addr × Obj)), TupsOf ((G, tupO (.int g t1) (.int 2 t2)) :: (S2, tupO (.int h2 t3) (.int q2 t4)) :: tups) vs ((1 :: marks.drop 2).map (cell g hue q h2 q2)) ∧
      TupsOf ((G, tupO (.int g t1) (.int 2 t2)) :: (S2, tupO (.int h2 t3) (.int q2 t4)) :: tups) vsW ((marks.take 1 ++ [1, 0] ++ (marks.drop 1).take 1).flatMap (chunk g hue q h2 q2)) ∧
      At s s.heap s.heap.objs.size ((R, listOf vs.toArray n) :: (W, listOf vsW.toArray nW) :: (G, tupO (.int g t1) (.int 2 t2)) :: (S2, tupO (.int h2 t3) (.int q2 t4)) :: tups) [(Str.ofString "total", .int tot t5), (Str.ofString "want", .ref W), (Str.ofString "strip", .ref R)] s') (E := fun _ _ => False) ?_ ?_ (fun _ _ e => e)
  · refine opq ?_; intro Qa hQa
    refine For_invVF F rfl rfl ?_ (by intro _; rfl) PassesOwn.never
    w_strict ((try dsimp only); k_steps)
    refine Hold.mk ?_
    (try dsimp only)
    (try clear F N)
    rename Fr _ _ _ _ => F; rename News _ _ _ _ => N
    rename IntsAre _ (_ ++ _) => hX
    (first | ((first | refine Exists.elim (show ∃ xs, [1] ++ marks.drop 2 = xs from ⟨_, rfl⟩) ?_ | refine Mine.and_el (show ∃ xs, [1] ++ marks.drop 2 = xs from ⟨_, rfl⟩) ?_); intro xs hxs) | obtain ⟨xs, hxs⟩ : ∃ xs, [1] ++ marks.drop 2 = xs := ⟨_, rfl⟩)
    have hxl : xs.length ≤ 4 := by rw [← hxs]; simp; omega
    have hxb : ∀ x ∈ xs, 0 ≤ x ∧ x < 1000000 := by
      intro x hx
      rw [← hxs] at hx
      rcases List.mem_append.mp hx with hx | hx
      · have := List.mem_singleton.mp hx; omega
      · exact hmk x (List.mem_of_mem_drop hx)
    have hxs' : 1 :: marks.drop 2 = xs := hxs
    rw [hxs] at hX
    rw [hxs'] at hQa
    rename List Value => ws; rename Addr => D
    rename _ ∧ _ => hltD
    refine for_listL (σ := List Value × Nat × List (Addr × Obj)) (l := D) xs (fun x v => ∃ t, v = .int x t)
      (fun c => (R, listOf c.1.toArray c.2.1) :: (D, listOf ws.toArray 0) :: (W, listOf vsW.toArray nW) :: (G, tupO (.int g t1) (.int 2 t2)) :: (S2, tupO (.int h2 t3) (.int q2 t4)) :: (M, listOf ys.toArray nM) :: c.2.2) (fun c => []) []
      (fun pre c => TupsOf ((G, tupO (.int g t1) (.int 2 t2)) :: (S2, tupO (.int h2 t3) (.int q2 t4)) :: c.2.2) c.1 (pre.map (cell g hue q h2 q2)) ∧ (∀ p ∈ c.2.2, p.1 ≠ R) ∧ (∀ p ∈ tups, p ∈ c.2.2)) ([], 0, tups) rfl (fun c => List.Mem.tail _ (List.Mem.head _)) hX.length ?_ F ?_ (fun _ h => nomatch h) ⟨⟨rfl, fun i v hv => by simp at hv⟩, fun p hp => neLt (kst_ltOf hltR.2.2.2.2 p hp), fun _ h => h⟩ ?_ ?_
    · intro i v hv
      (first | ((first | refine Exists.elim (ints_item hX i v hv) ?_ | refine Mine.and_el (ints_item hX i v hv) ?_); intro y zt660; (first | refine Exists.elim zt660 ?_ | refine Mine.and_el zt660 ?_); intro t zt661; (try clear zt660); (first | refine Exists.elim zt661 ?_ | refine Mine.and_el zt661 ?_); intro zt662 hy; (try clear zt661); subst zt662) | obtain ⟨y, t, rfl, hy⟩ := ints_item hX i v hv)
      exact ⟨y, hy, t, rfl⟩
    · exact fun p hp => N p (subX hp)
    · clear F N
      (first | ((first | (intro zt663; (first | refine Exists.elim zt663 ?_ | refine Mine.and_el zt663 ?_); intro vs zt664; (try clear zt663); (first | refine Exists.elim zt664 ?_ | refine Mine.and_el zt664 ?_); intro n tups'; (try clear zt664)) | (refine Mine.pr3 ?_; intro vs n tups') | rintro ⟨vs, n, tups'⟩); intro pre post x v u h tk I oI hsp; (first | (intro zt665; (first | refine Exists.elim zt665 ?_ | refine Mine.and_el zt665 ?_); intro tx zt666; (try clear zt665); subst zt666) | rintro ⟨tx, rfl⟩); (first | (intro zt667; (first | refine Exists.elim zt667 ?_ | refine Mine.and_el zt667 ?_); intro hP zt668; (try clear zt667); (first | refine Exists.elim zt668 ?_ | refine Mine.and_el zt668 ?_); intro hPR hPt; (try clear zt668)) | (refine Mine.pr3 ?_; intro hP hPR hPt) | rintro ⟨hP, hPR, hPt⟩); intro hoff F N) | rintro ⟨vs, n, tups'⟩ pre post x v u h tk I oI hsp ⟨tx, rfl⟩ ⟨hP, hPR, hPt⟩ hoff F N)
      refine opq ?_; intro Q2 hQ2
      (try dsimp only at F N hP hPR hPt hoff)
      replace N := news_swap6 N
      have hx5 := hxb x (by rw [hsp]; simp)
      have hvl : vs.length ≤ 4 := by
        have h1 := congrArg List.length hsp
        have h2 := hP.1
        simp at h1 h2
        omega
      have hRI : @Ne Nat R I := hoff _ (List.Mem.head _)
      have h5 : x.fmod 5 = 0 ∨ x.fmod 5 = 1 ∨ x.fmod 5 = 2 ∨ x.fmod 5 = 3 ∨ x.fmod 5 = 4 := by
        have := Int.fmod_eq_emod_of_nonneg x (b := 5) (by omega)
        omega
      dsimp only [tupO] at N
      w_strict ((try dsimp only); k_steps)
      refine Hold.mk ?_
      (try clear F N)
      rename Fr _ _ _ _ => F; rename News _ _ _ _ => N
      rename_i d1 _ c1 d2 _ c2 d3 _ c3 a0 _ c4
      refine wp_menu (fun v => (v = Value.ref d1 ∧ cell g hue q h2 q2 x = (hue, 4 - q)) ∨ (v = Value.ref d2 ∧ cell g hue q h2 q2 x = (hue, q)) ∨ (v = Value.ref S2 ∧ cell g hue q h2 q2 x = (h2, q2)) ∨ (v = Value.ref G ∧ cell g hue q h2 q2 x = (g, 2)) ∨ (v = Value.ref d3 ∧ cell g hue q h2 q2 x = (h2, 4 - q2))) ?_ ?_
      · rcases h5 with e | e | e | e | e
        · rw [e]
          refine item_listR ⟨_, (N _ (List.Mem.head _)).1, rfl, _, rfl⟩ (by decide) (by decide) rfl ?_
          exact ⟨.inl ⟨rfl, by simp [cell, e]⟩, rfl⟩
        · rw [e]
          refine item_listR ⟨_, (N _ (List.Mem.head _)).1, rfl, _, rfl⟩ (by decide) (by decide) rfl ?_
          exact ⟨.inr (.inl ⟨rfl, by simp [cell, e]⟩), rfl⟩
        · rw [e]
          refine item_listR ⟨_, (N _ (List.Mem.head _)).1, rfl, _, rfl⟩ (by decide) (by decide) rfl ?_
          exact ⟨.inr (.inr (.inl ⟨rfl, by simp [cell, e]⟩)), rfl⟩
        · rw [e]
          refine item_listR ⟨_, (N _ (List.Mem.head _)).1, rfl, _, rfl⟩ (by decide) (by decide) rfl ?_
          exact ⟨.inr (.inr (.inr (.inl ⟨rfl, by simp [cell, e]⟩))), rfl⟩
        · rw [e]
          refine item_listR ⟨_, (N _ (List.Mem.head _)).1, rfl, _, rfl⟩ (by decide) (by decide) rfl ?_
          exact ⟨.inr (.inr (.inr (.inr (⟨rfl, by simp [cell, e]⟩)))), rfl⟩
      intro v9 hsel
      obtain ⟨T9, rfl⟩ : ∃ T9, v9 = Value.ref T9 := by rcases hsel with ⟨e, _⟩ | ⟨e, _⟩ | ⟨e, _⟩ | ⟨e, _⟩ | ⟨e, _⟩ <;> exact ⟨_, e⟩
      w_strict ((try dsimp only); k_steps)
      refine Hold.mk ?_
      refine append_in (own := [_, _, _, _]) F N ?_ ?_ ?_ (by rw [sizeLine_eq]; omega)
      · simp only [List.forall_mem_cons, List.not_mem_nil, false_implies, implies_true, and_true]
        exact ⟨neGt c4.2.2.2.1, neGt c3.2.2.1, neGt c2.2.1, neGt c1.1⟩
      · simp only [List.forall_mem_cons]
        exact ⟨neGt hltD.2.2.1, neLt hltR.1, neLt hltR.2.1, neLt hltR.2.2.1, neLt hltR.2.2.2.1, hRI.symm, fun p hp => hPR p hp⟩
      (try clear F N)
      intro h F N
      dsimp only [List.cons_append, List.nil_append] at N
      w_strict ((try dsimp only); k_steps)
      refine hQ2 _ _ ?_; refine turn_end (vs ++ [.ref T9], n + 1, (d3, _) :: (d2, _) :: (d1, _) :: tups') F N (List.forall_mem_cons.mpr ⟨(List.Mem.tail _ (List.Mem.tail _ (List.Mem.tail _ (List.Mem.tail _ (List.Mem.head _))))), List.forall_mem_cons.mpr ⟨(List.Mem.tail _ (List.Mem.tail _ (List.Mem.tail _ (List.Mem.tail _ (List.Mem.tail _ (List.Mem.head _)))))), List.forall_mem_cons.mpr ⟨(List.Mem.tail _ (List.Mem.tail _ (List.Mem.tail _ (List.Mem.tail _ (List.Mem.tail _ (List.Mem.tail _ (List.Mem.head _))))))), List.forall_mem_cons.mpr ⟨(List.Mem.tail _ (List.Mem.tail _ (List.Mem.tail _ (List.Mem.tail _ (List.Mem.tail _ (List.Mem.tail _ (List.Mem.tail _ (List.Mem.head _)))))))), List.forall_mem_cons.mpr ⟨(List.Mem.tail _ (List.Mem.tail _ (List.Mem.tail _ (List.Mem.tail _ (List.Mem.tail _ (List.Mem.tail _ (List.Mem.tail _ (List.Mem.tail _ (List.Mem.head _))))))))), List.forall_mem_cons.mpr ⟨(List.Mem.tail _ (List.Mem.tail _ (List.Mem.tail _ (List.Mem.tail _ (List.Mem.tail _ (List.Mem.tail _ (List.Mem.tail _ (List.Mem.tail _ (List.Mem.tail _ (List.Mem.head _)))))))))), List.forall_mem_cons.mpr ⟨(List.Mem.tail _ (List.Mem.head _)), List.forall_mem_cons.mpr ⟨(List.Mem.tail _ (List.Mem.tail _ (List.Mem.head _))), List.forall_mem_cons.mpr ⟨(List.Mem.tail _ (List.Mem.tail _ (List.Mem.tail _ (List.Mem.head _)))), fun p hp => (List.Mem.tail _ (List.Mem.tail _ (List.Mem.tail _ (List.Mem.tail _ (List.Mem.tail _ (List.Mem.tail _ (List.Mem.tail _ (List.Mem.tail _ (List.Mem.tail _ (List.Mem.tail _ (List.Mem.tail _ hp)))))))))))⟩⟩⟩⟩⟩⟩⟩⟩⟩) (List.Mem.tail _ (List.Mem.tail _ (List.Mem.tail _ (List.Mem.tail _ (List.Mem.tail _ (List.Mem.tail _ (List.Mem.tail _ (List.Mem.tail _ (List.Mem.tail _ (List.Mem.tail _ (List.Mem.head _))))))))))) ?_ (fun _ h => nomatch h) (by (intro z h1 h2 h3; first | ((repeat (first | (with_reducible rfl) | refine Mine.sm_if (by first | exact h1 | exact Mine.sm_to (h2 _ (List.Mem.head _)) (by with_unfolding_all rfl) | exact Mine.sm_to (h2 _ (List.Mem.tail _ (List.Mem.head _))) (by with_unfolding_all rfl) | exact Mine.sm_to (h2 _ (List.Mem.tail _ (List.Mem.tail _ (List.Mem.head _)))) (by with_unfolding_all rfl) | exact Mine.sm_to (h2 _ (List.Mem.tail _ (List.Mem.tail _ (List.Mem.tail _ (List.Mem.head _))))) (by with_unfolding_all rfl) | exact Mine.sm_to (h2 _ (List.Mem.tail _ (List.Mem.tail _ (List.Mem.tail _ (List.Mem.tail _ (List.Mem.head _)))))) (by with_unfolding_all rfl) | exact Mine.sm_to (h2 _ (List.Mem.tail _ (List.Mem.tail _ (List.Mem.tail _ (List.Mem.tail _ (List.Mem.tail _ (List.Mem.head _))))))) (by with_unfolding_all rfl) | exact Mine.sm_to (h2 _ (List.Mem.tail _ (List.Mem.tail _ (List.Mem.tail _ (List.Mem.tail _ (List.Mem.tail _ (List.Mem.tail _ (List.Mem.head _)))))))) (by with_unfolding_all rfl) | exact Mine.sm_to (h2 _ (List.Mem.tail _ (List.Mem.tail _ (List.Mem.tail _ (List.Mem.tail _ (List.Mem.tail _ (List.Mem.tail _ (List.Mem.tail _ (List.Mem.head _))))))))) (by with_unfolding_all rfl) | exact Mine.sm_ne h3 (by with_unfolding_all rfl)) ?_ | refine Mine.sm_ifc h3 ?_ | refine Mine.sm_ifc (Mine.sm_sub h3 (by with_unfolding_all rfl)) ?_ | exact rfl)); done) | ((try simp only [List.forall_mem_cons, List.not_mem_nil, false_implies, implies_true, and_true, ne_eq] at h2); (try simp only [List.contains_cons, List.contains_nil, Bool.or_false, Bool.or_eq_false_iff, beq_eq_false_iff_ne, ne_eq] at h3); simp +zetaDelta [kstB, h1, h2, h3]))) ?_
      · simp only [List.forall_mem_cons] at hoff ⊢
        exact ⟨hoff.1, hoff.2.1, hoff.2.2.1, hoff.2.2.2.1, hoff.2.2.2.2.1, hoff.2.2.2.2.2.1, neGt c3.2.2.2.2.2.2.2.2.1, neGt c2.2.2.2.2.2.2.2.1, neGt c1.2.2.2.2.2.2.1, hoff.2.2.2.2.2.2⟩
      refine ⟨?_, List.forall_mem_cons.mpr ⟨neGt c3.2.2.1, List.forall_mem_cons.mpr ⟨neGt c2.2.1, List.forall_mem_cons.mpr ⟨neGt c1.1, hPR⟩⟩⟩, fun p hp => (List.Mem.tail _ (List.Mem.tail _ (List.Mem.tail _ (hPt p hp))))⟩
      rw [List.map_append, List.map_singleton]
      rcases hsel with ⟨e9, e⟩ | ⟨e9, e⟩ | ⟨e9, e⟩ | ⟨e9, e⟩ | ⟨e9, e⟩
      · rw [e9, e]; exact hP.add sub23 (TupsOf.one (List.Mem.tail _ (List.Mem.tail _ (List.Mem.tail _ (List.Mem.tail _ (List.Mem.head _))))))
      · rw [e9, e]; exact hP.add sub23 (TupsOf.one (List.Mem.tail _ (List.Mem.tail _ (List.Mem.tail _ (List.Mem.head _)))))
      · rw [e9, e]; exact hP.add sub23 (TupsOf.one (List.Mem.tail _ (List.Mem.head _)))
      · rw [e9, e]; exact hP.add sub23 (TupsOf.one (List.Mem.head _))
      · rw [e9, e]; exact hP.add sub23 (TupsOf.one (List.Mem.tail _ (List.Mem.tail _ (List.Mem.head _))))
    · clear F N
      (first | ((first | (intro zt669; (first | refine Exists.elim zt669 ?_ | refine Mine.and_el zt669 ?_); intro vs zt670; (try clear zt669); (first | refine Exists.elim zt670 ?_ | refine Mine.and_el zt670 ?_); intro n tups'; (try clear zt670)) | (refine Mine.pr3 ?_; intro vs n tups') | rintro ⟨vs, n, tups'⟩); intro u h tk; (first | (intro zt671; (first | refine Exists.elim zt671 ?_ | refine Mine.and_el zt671 ?_); intro hP zt672; (try clear zt671); (first | refine Exists.elim zt672 ?_ | refine Mine.and_el zt672 ?_); intro hPR hPt; (try clear zt672)) | (refine Mine.pr3 ?_; intro hP hPR hPt) | rintro ⟨hP, hPR, hPt⟩); intro F N) | rintro ⟨vs, n, tups'⟩ u h tk ⟨hP, hPR, hPt⟩ F N)
      (try dsimp only at F N hP hPR hPt)
      exact hQa _ _ ⟨rfl, vs, n, tups', hP, hTW.mono (sub2 hPt), At.mk F (fun p hp => N p (subDM hp)) (by kst_all)⟩
  clear F N
  (first | (intro f s'; (first | (intro zt673; (first | refine Exists.elim zt673 ?_ | refine Mine.and_el zt673 ?_); intro zt674 zt675; (try clear zt673); subst zt674; (first | refine Exists.elim zt675 ?_ | refine Mine.and_el zt675 ?_); intro vsR zt676; (try clear zt675); (first | refine Exists.elim zt676 ?_ | refine Mine.and_el zt676 ?_); intro nR zt677; (try clear zt676); (first | refine Exists.elim zt677 ?_ | refine Mine.and_el zt677 ?_); intro tups' zt678; (try clear zt677); (first | refine Exists.elim zt678 ?_ | refine Mine.and_el zt678 ?_); intro hTR zt679; (try clear zt678); (first | refine Exists.elim zt679 ?_ | refine Mine.and_el zt679 ?_); intro hTW' zt680; (try clear zt679); (first | (refine Mine.at_el zt680 ?_; clear zt680; intro h tk m'' zt684 F N; subst zt684) | ((first | refine Exists.elim zt680 ?_ | refine Mine.and_el zt680 ?_); intro h zt681; (try clear zt680); (first | refine Exists.elim zt681 ?_ | refine Mine.and_el zt681 ?_); intro tk zt682; (try clear zt681); (first | refine Exists.elim zt682 ?_ | refine Mine.and_el zt682 ?_); intro m'' zt683; (try clear zt682); (first | refine Exists.elim zt683 ?_ | refine Mine.and_el zt683 ?_); intro F N; (try clear zt683)))) | rintro ⟨rfl, vsR, nR, tups', hTR, hTW', h, tk, m'', F, N⟩)) | rintro f s' ⟨rfl, vsR, nR, tups', hTR, hTW', h, tk, m'', F, N⟩)
  (try dsimp only)
  have hbh : (-12 ≤ hue ∧ hue ≤ 23) ∧ (-11 ≤ h2 ∧ h2 ≤ 34) ∧ (0 ≤ g ∧ g ≤ 6) ∧ (q = 1 ∨ q = 3) ∧ (q2 = 1 ∨ q2 = 3) := by
    have a1 := fmod_b tot 36 (by omega); have a2 := fmod_b (tot.fdiv 72) 11 (by omega); have a3 := fmod_b tot 7 (by omega)
    have a4 := fmod_b (tot.fdiv 36) 2 (by omega); have a5 := fmod_b (tot.fdiv 792) 2 (by omega)
    rw [htot] at hhue hq hh2 hq2 hg2
    omega
  (first | ((first | refine Exists.elim (show ∃ r, (marks.take 1 ++ [1, 0] ++ (marks.drop 1).take 1).flatMap (chunk g hue q h2 q2) = r from ⟨_, rfl⟩) ?_ | refine Mine.and_el (show ∃ r, (marks.take 1 ++ [1, 0] ++ (marks.drop 1).take 1).flatMap (chunk g hue q h2 q2) = r from ⟨_, rfl⟩) ?_); intro rowW hrW) | obtain ⟨rowW, hrW⟩ : ∃ r, (marks.take 1 ++ [1, 0] ++ (marks.drop 1).take 1).flatMap (chunk g hue q h2 q2) = r := ⟨_, rfl⟩)
  (first | ((first | refine Exists.elim (show ∃ r, (1 :: marks.drop 2).map (cell g hue q h2 q2) = r from ⟨_, rfl⟩) ?_ | refine Mine.and_el (show ∃ r, (1 :: marks.drop 2).map (cell g hue q h2 q2) = r from ⟨_, rfl⟩) ?_); intro rowR hrR) | obtain ⟨rowR, hrR⟩ : ∃ r, (1 :: marks.drop 2).map (cell g hue q h2 q2) = r := ⟨_, rfl⟩)
  have hokW : ∀ a ∈ rowW, OkA a := by
    intro a ha
    rw [← hrW] at ha
    (first | ((first | refine Exists.elim (List.mem_flatMap.mp ha) ?_ | refine Mine.and_el (List.mem_flatMap.mp ha) ?_); intro x zt685; (first | refine Exists.elim zt685 ?_ | refine Mine.and_el zt685 ?_); intro zt686 hx; (try clear zt685)) | obtain ⟨x, _, hx⟩ := List.mem_flatMap.mp ha)
    exact chunk_ok hbh a hx
  have hokR : ∀ a ∈ rowR, OkA a := by
    intro a ha
    rw [← hrR] at ha
    (first | ((first | refine Exists.elim (List.mem_map.mp ha) ?_ | refine Mine.and_el (List.mem_map.mp ha) ?_); intro x zt687; (first | refine Exists.elim zt687 ?_ | refine Mine.and_el zt687 ?_); intro zt688 zt689; (try clear zt687); subst zt689) | obtain ⟨x, _, rfl⟩ := List.mem_map.mp ha)
    exact cell_ok hbh
  have hlW : rowW.length ≤ 12 := by
    have := flat_len g hue q h2 q2 (marks.take 1 ++ [1, 0] ++ (marks.drop 1).take 1)
    rw [hrW] at this
    simp at this
    omega
  have hlR : rowR.length ≤ 4 := by rw [← hrR]; simp; omega
  have hk10 : hue + 1 ≤ h2 ∧ h2 ≤ hue + 11 := by
    have a2 := fmod_b (tot.fdiv 72) 11 (by omega)
    rw [htot] at hhue hh2
    omega
  rw [hrW] at hTW'
  rw [hrR] at hTR
  w_strict ((try dsimp only); k_steps)
  refine Hold.mk ?_
  refine use_claim (read (vs0 := vsW) (n0 := nW) (by omega) hokW) F N X T (by decide) (by decide) ⟨(N _ (List.Mem.tail _ (List.Mem.head _))).1, hTW'.rowIs (kst_newsOf N fun p hp => List.Mem.tail _ (List.Mem.tail _ hp))⟩ ?_
  clear F N
  (first | (intro _ h tk zt690; clear zt690; intro F N; (first | (intro zt691; (first | refine Exists.elim zt691 ?_ | refine Mine.and_el zt691 ?_); intro tp zt692; (try clear zt691); subst zt692) | rintro ⟨tp, rfl⟩)) | rintro _ h tk - F N ⟨tp, rfl⟩)
  w_strict ((try dsimp only); k_steps)
  refine Hold.mk ?_
  (try clear F N)
  rename Fr _ _ _ _ => F; rename News _ _ _ _ => N
  refine use_claim (read (vs0 := vsR) (n0 := nR) (by omega) hokR) F N X T (by decide) (by decide) ⟨(N _ (List.Mem.head _)).1, hTR.rowIs (kst_newsOf N fun p hp => List.Mem.tail _ (List.Mem.tail _ hp))⟩ ?_
  clear F N
  (first | (intro _ h tk zt693; clear zt693; intro F N; (first | (intro zt694; (first | refine Exists.elim zt694 ?_ | refine Mine.and_el zt694 ?_); intro tt zt695; (try clear zt694); subst zt695) | rintro ⟨tt, rfl⟩)) | rintro _ h tk - F N ⟨tt, rfl⟩)
  (first | ((first | refine Exists.elim (show ∃ P, rowW.map (fun a => nameC a.1 a.2) = P from ⟨_, rfl⟩) ?_ | refine Mine.and_el (show ∃ P, rowW.map (fun a => nameC a.1 a.2) = P from ⟨_, rfl⟩) ?_); intro P hP) | obtain ⟨P, hP⟩ : ∃ P, rowW.map (fun a => nameC a.1 a.2) = P := ⟨_, rfl⟩)
  (first | ((first | refine Exists.elim (show ∃ Tx, rowR.map (fun a => nameC a.1 a.2) = Tx from ⟨_, rfl⟩) ?_ | refine Mine.and_el (show ∃ Tx, rowR.map (fun a => nameC a.1 a.2) = Tx from ⟨_, rfl⟩) ?_); intro Tx hTx) | obtain ⟨Tx, hTx⟩ : ∃ Tx, rowR.map (fun a => nameC a.1 a.2) = Tx := ⟨_, rfl⟩)
  rw [hP] at F
  rw [hTx]
  have hPd := hP
  rw [← hrW] at hPd
  have hTd := hTx
  rw [← hrR] at hTd
  have hPa : ∀ c ∈ P, c < 128 := by
    intro c hc
    rw [← hP] at hc
    (first | ((first | refine Exists.elim (List.mem_map.mp hc) ?_ | refine Mine.and_el (List.mem_map.mp hc) ?_); intro a zt696; (first | refine Exists.elim zt696 ?_ | refine Mine.and_el zt696 ?_); intro zt697 zt698; (try clear zt696); subst zt698) | obtain ⟨a, _, rfl⟩ := List.mem_map.mp hc)
    exact nameC_lt _ _
  have hTa : ∀ c ∈ Tx, c < 128 := by
    intro c hc
    rw [← hTx] at hc
    (first | ((first | refine Exists.elim (List.mem_map.mp hc) ?_ | refine Mine.and_el (List.mem_map.mp hc) ?_); intro a zt699; (first | refine Exists.elim zt699 ?_ | refine Mine.and_el zt699 ?_); intro zt700 zt701; (try clear zt699); subst zt701) | obtain ⟨a, _, rfl⟩ := List.mem_map.mp hc)
    exact nameC_lt _ _
  have hPn : 1 < (ded (fun i => S [P.getD i 0]) P.length).length ∧ (ded (fun i => S [P.getD i 0]) P.length).length ≤ 5 := by
    (first | ((first | refine Exists.elim (plain0 hbh hPd) ?_ | refine Mine.and_el (plain0 hbh hPd) ?_); intro p1 zt702; (first | refine Exists.elim zt702 ?_ | refine Mine.and_el zt702 ?_); intro p2 zt703; (try clear zt702); (first | refine Exists.elim zt703 ?_ | refine Mine.and_el zt703 ?_); intro p3 p4; (try clear zt703)) | obtain ⟨p1, p2, p3, p4⟩ := plain0 hbh hPd)
    exact ded_bounds p1 p2 p3 p4
  have hPl : (S P).length ≤ 12 := by rw [S_length, ← hP, List.length_map]; exact hlW
  have hTl : (S Tx).length ≤ 4 := by rw [S_length, ← hTx, List.length_map]; exact hlR
  w_strict ((try dsimp only); k_steps)
  refine Hold.mk ?_
  (first | ((try clear F); (try clear N); rename Fr _ _ _ _ => F; rename News _ _ _ _ => N) | skip)
  refine use_claim (named (vs0 := vsW) (n0 := nW) (by omega) fun a ha => okN (hokW a ha)) F N X T (by decide) (by decide) ⟨(N _ (List.Mem.tail _ (List.Mem.head _))).1, hTW'.rowIs (kst_newsOf N fun p hp => List.Mem.tail _ (List.Mem.tail _ hp))⟩ ?_
  clear F N
  (first | (intro _ h tk zt704; clear zt704; intro F N; (first | (intro zt705; (first | refine Exists.elim zt705 ?_ | refine Mine.and_el zt705 ?_); intro tn zt706; (try clear zt705); subst zt706) | rintro ⟨tn, rfl⟩)) | rintro _ h tk - F N ⟨tn, rfl⟩)
  rw [hP]
  w_strict ((try dsimp only); k_steps)
  all_goals try (rename (S P != S P) = true => e; simp at e)
  refine Hold.mk ?_
  (first | ((try clear F); (try clear N); rename Fr _ _ _ _ => F; rename News _ _ _ _ => N) | skip)
  refine use_claim (named (vs0 := vsR) (n0 := nR) (by omega) fun a ha => okN (hokR a ha)) F N X T (by decide) (by decide) ⟨(N _ (List.Mem.head _)).1, hTR.rowIs (kst_newsOf N fun p hp => List.Mem.tail _ (List.Mem.tail _ hp))⟩ ?_
  clear F N
  (first | (intro _ h tk zt707; clear zt707; intro F N; (first | (intro zt708; (first | refine Exists.elim zt708 ?_ | refine Mine.and_el zt708 ?_); intro tn2 zt709; (try clear zt708); subst zt709) | rintro ⟨tn2, rfl⟩)) | rintro _ h tk - F N ⟨tn2, rfl⟩)
  rw [hTx]
  w_strict ((try dsimp only); k_steps)
  all_goals try (rename (S Tx != S Tx) = true => e; simp at e)
  refine Hold.mk ?_
  (first | ((try clear F); (try clear N); rename Fr _ _ _ _ => F; rename News _ _ _ _ => N) | skip)
  refine wpAny_mono (Q := NextAt fun s' => s'.gens = s.gens ∧ s'.os = s.os ∧ ∃ (m9 : Str → Option Value) (tl : Tok), Fr s.heap s.heap.objs.size s'.heap m9 ∧ m9 (Str.ofString "least") = some (.int (min 3 (farF priceS (itemsF P) Tx)) tl) ∧ m9 (Str.ofString "pattern") = some (.str (S P) tp) ∧ m9 (Str.ofString "text") = some (.str (S Tx) tt)) (E := fun _ _ => False) ?_ ?_ (fun _ _ e => e)
  · refine opq ?_; intro Qa hQa
    refine For_pair_inv s.heap ?_
    w_strict ((try dsimp only); k_steps)
    refine Hold.mk ?_
    (first | ((try clear F); (try clear N); rename Fr _ _ _ _ => F; rename News _ _ _ _ => N) | skip)
    refine set_N rfl F N hPa (by rw [S_length] at hPl; omega) ?_
    clear F N
    intro D h tk o F N hD hp
    w_strict ((try dsimp only); k_steps)
    refine Hold.mk ?_
    (first | ((try clear F); (try clear N); rename Fr _ _ _ _ => F; rename News _ _ _ _ => N) | skip)
    refine sorted_set rfl F N (N _ (List.Mem.head _)).1 hp hPn.1 (by omega) ?_
    clear F N
    intro B h tk dr vsB ss nB F N hSB hsl hsm
    (first | ((first | refine Exists.elim (sg_of hsm) ?_ | refine Mine.and_el (sg_of hsm) ?_); intro sg zt710; (first | refine Exists.elim zt710 ?_ | refine Mine.and_el zt710 ?_); intro zt711 zt712; (try clear zt710); subst zt711; (first | refine Exists.elim zt712 ?_ | refine Mine.and_el zt712 ?_); intro hsgl hsg; (try clear zt712)) | obtain ⟨sg, rfl, hsgl, hsg⟩ := sg_of hsm)
    w_strict ((try dsimp only); k_steps)
    refine Hold.mk ?_
    (first | ((try clear F); (try clear N); rename Fr _ _ _ _ => F; rename News _ _ _ _ => N) | skip)
    refine use_claim (near (sg := sg) (vs0 := vsB) (n0 := nB) (by rw [S_length] at hTl; omega) (by omega) hTa hSB) F N X T (by decide) (by decide) (N _ (List.Mem.head _)).1 ?_
    (first | (intro _ h tk zt713; clear zt713; intro F2 N2; (first | (intro zt714; (first | refine Exists.elim zt714 ?_ | refine Mine.and_el zt714 ?_); intro d zt715; (try clear zt714); (first | refine Exists.elim zt715 ?_ | refine Mine.and_el zt715 ?_); intro od zt716; (try clear zt715); (first | refine Exists.elim zt716 ?_ | refine Mine.and_el zt716 ?_); intro zt717 zt718; (try clear zt716); subst zt717; (first | refine Exists.elim zt718 ?_ | refine Mine.and_el zt718 ?_); intro hod zt719; (try clear zt718); (first | refine Exists.elim zt719 ?_ | refine Mine.and_el zt719 ?_); intro hdn zt720; (try clear zt719); (first | refine Exists.elim zt720 ?_ | refine Mine.and_el zt720 ?_); intro hlo hnear; (try clear zt720)) | rintro ⟨d, od, rfl, hod, hdn, hlo, hnear⟩)) | rintro _ h tk - F2 N2 ⟨d, od, rfl, hod, hdn, hlo, hnear⟩)
    have N3 := news_add F hdn hod N2
    clear F N N2 hod hdn
    (first | ((first | refine Exists.elim hnear ?_ | refine Mine.and_el hnear ?_); intro kvs zt721; (try clear hnear); (first | (refine Mine.at_el zt721 ?_; clear zt721; intro c hd1 hd2 zt725 hnr hcl; subst zt725) | ((first | refine Exists.elim zt721 ?_ | refine Mine.and_el zt721 ?_); intro c zt722; (try clear zt721); (first | refine Exists.elim zt722 ?_ | refine Mine.and_el zt722 ?_); intro hd1 zt723; (try clear zt722); (first | refine Exists.elim zt723 ?_ | refine Mine.and_el zt723 ?_); intro hd2 zt724; (try clear zt723); (first | refine Exists.elim zt724 ?_ | refine Mine.and_el zt724 ?_); intro hnr hcl; (try clear zt724)))) | obtain ⟨kvs, c, hd1, hd2, hnr, hcl⟩ := hnear)
    rename Fr _ _ _ _ => F; rename News _ _ _ _ => N
    w_strict ((try dsimp only); k_steps)
    refine Hold.mk ?_
    (first | ((try clear F); (try clear N); rename Fr _ _ _ _ => F; rename News _ _ _ _ => N) | skip)
    refine kdl_method (knd := PySem.strKind _ _) PySem.F.slot_dict_items PySem.F.type_dict_items N (List.Mem.head _) hd1 ?_
    w_strict ((try dsimp only); k_steps)
    refine Hold.mk ?_
    refine call_items_tab (knd := PySem.strKind _ _) (enc := PyData.str) (D := kdpD c) ⟨hlo, kvs, kda_dict N (List.Mem.head _) hd1, hd2⟩ F N ?_
    rintro h9 vo hvw F9 N9
    clear F N
    rename Fr _ _ _ _ => F; rename News _ _ _ _ => N
    have hlev := plain1 hml hbh hk10 hPd hTd hsg tot
    have hlen := near_len Tx sg
    have hfin := plain2 hml hbh hk10 hPd hTd hsg hnr
    have htx : Tx.length ≤ 4 := by rw [S_length] at hTl; exact hTl
    have hpx : P.length ≤ 12 := by rw [S_length] at hPl; exact hPl
    have hcnt : ∀ k n, (k, n) ∈ c → ∃ key : List Nat, k = S key ∧ key.length ≤ 5 ∧ levF costS Tx key (tot.fmod 2 + 1) = n := by
      intro k n hk
      (first | ((first | refine Exists.elim (hnr.1 _ hk) ?_ | refine Mine.and_el (hnr.1 _ hk) ?_); intro q zt726; (first | refine Exists.elim zt726 ?_ | refine Mine.and_el zt726 ?_); intro hq e; (try clear zt726)) | obtain ⟨q, hq, e⟩ := hnr.1 _ hk)
      (first | ((first | refine Exists.elim (Prod.mk.inj e) ?_ | refine Mine.and_el (Prod.mk.inj e) ?_); intro e1 e2) | obtain ⟨e1, e2⟩ := Prod.mk.inj e)
      exact ⟨q.1, e1, by have := hlen q hq; omega, by rw [hlev q hq, e2]⟩
    have hmc := fmod_b tot 2 (by omega)
    refine Iter_strTabItems (D := kdpD c) (d := d) rfl rfl rfl rfl hvw ⟨hlo, kvs, kda_dict N (List.Mem.tail _ (List.Mem.head _)) hd1, hd2⟩ F N (.inr ⟨od, List.Mem.tail _ (List.Mem.head _)⟩)
      (fun i m => LoopJ (leastL P (c.take i)) P Tx tp tt tot t5 m) ⟨_, rfl, rfl, rfl, rfl⟩ ?_ ?_ PassesOwn.never
    · clear F N
      (first | (intro i k dv t v m₁ s₁ own hDi _ hfl; (first | (intro zt727; (first | (refine Mine.at_el zt727 ?_; clear zt727; intro tl j1 j2 zt731 j3 j4; subst zt731) | ((first | refine Exists.elim zt727 ?_ | refine Mine.and_el zt727 ?_); intro tl zt728; (try clear zt727); (first | refine Exists.elim zt728 ?_ | refine Mine.and_el zt728 ?_); intro j1 zt729; (try clear zt728); (first | refine Exists.elim zt729 ?_ | refine Mine.and_el zt729 ?_); intro j2 zt730; (try clear zt729); (first | refine Exists.elim zt730 ?_ | refine Mine.and_el zt730 ?_); intro j3 j4; (try clear zt730)))) | rintro ⟨tl, j1, j2, j3, j4⟩); intro _ F N) | rintro i k dv t v m₁ s₁ own hDi _ hfl ⟨tl, j1, j2, j3, j4⟩ _ F N)
      rw [kdpD, List.getElem?_map] at hDi
      (first | ((first | refine Exists.elim (Option.map_eq_some_iff.mp hDi) ?_ | refine Mine.and_el (Option.map_eq_some_iff.mp hDi) ?_); intro zt732 zt733; (first | refine Exists.elim zt732 ?_ | refine Mine.and_el zt732 ?_); intro k' n; (try clear zt732); (first | refine Exists.elim zt733 ?_ | refine Mine.and_el zt733 ?_); intro hci hkn; (try clear zt733)) | obtain ⟨⟨k', n⟩, hci, hkn⟩ := Option.map_eq_some_iff.mp hDi)
      (first | ((first | refine Exists.elim (Prod.mk.inj hkn) ?_ | refine Mine.and_el (Prod.mk.inj hkn) ?_); intro e1 e2) | obtain ⟨e1, e2⟩ := Prod.mk.inj hkn)
      cases PyData.str.inj e1
      subst e2
      (first | ((first | refine Exists.elim (PyProof.V.Flat.int_inv hfl) ?_ | refine Mine.and_el (PyProof.V.Flat.int_inv hfl) ?_); intro tv zt734; subst zt734) | obtain ⟨tv, rfl⟩ := PyProof.V.Flat.int_inv hfl)
      (first | ((first | refine Exists.elim (hcnt _ _ (List.mem_of_getElem? hci)) ?_ | refine Mine.and_el (hcnt _ _ (List.mem_of_getElem? hci)) ?_); intro key zt735; (first | refine Exists.elim zt735 ?_ | refine Mine.and_el zt735 ?_); intro zt736 zt737; (try clear zt735); subst zt736; (first | refine Exists.elim zt737 ?_ | refine Mine.and_el zt737 ?_); intro hkl hlv; (try clear zt737)) | obtain ⟨key, rfl, hkl, hlv⟩ := hcnt _ _ (List.mem_of_getElem? hci))
      replace F := fr_norm F [(Str.ofString "cost", .int n tv), (Str.ofString "other", .str (S key) t), (Str.ofString "least", .int (leastL P (c.take i)) tl), (Str.ofString "pattern", .str (S P) tp), (Str.ofString "text", .str (S Tx) tt), (Str.ofString "total", .int tot t5)]
        (two_set (str_ne (a := Str.ofString "other") (b := Str.ofString "cost") (by decide)) (by
          intro p hp
          simp only [List.mem_cons, List.not_mem_nil, or_false] at hp
          rcases hp with rfl | rfl | rfl | rfl
          · exact ⟨str_ne (a := Str.ofString "least") (by decide), str_ne (a := Str.ofString "least") (by decide), j1⟩
          · exact ⟨str_ne (a := Str.ofString "pattern") (by decide), str_ne (a := Str.ofString "pattern") (by decide), j2⟩
          · exact ⟨str_ne (a := Str.ofString "text") (by decide), str_ne (a := Str.ofString "text") (by decide), j3⟩
          · exact ⟨str_ne (a := Str.ofString "total") (by decide), str_ne (a := Str.ofString "total") (by decide), j4⟩))
      have htake : c.take (i + 1) = c.take i ++ [(S key, n)] := by rw [List.take_add_one, hci]; rfl
      have hl9 : leastL P (c.take (i + 1)) = if matchS (S P) (S key) then min (leastL P (c.take i)) n else leastL P (c.take i) := by rw [htake, leastL_snoc]
      rw [hl9]
      generalize leastL P (c.take i) = la at F ⊢
      generalize (_ ++ _ : List (Addr × Obj)) = led at N ⊢
      clear j1 j2 j3 j4
      (first | ((first | (refine Mine.at_el s₁ ?_; clear s₁; intro h g1 d1 zt741 tk1 o1; subst zt741) | ((first | refine Exists.elim s₁ ?_ | refine Mine.and_el s₁ ?_); intro h zt738; (try clear s₁); (first | refine Exists.elim zt738 ?_ | refine Mine.and_el zt738 ?_); intro g1 zt739; (try clear zt738); (first | refine Exists.elim zt739 ?_ | refine Mine.and_el zt739 ?_); intro d1 zt740; (try clear zt739); (first | refine Exists.elim zt740 ?_ | refine Mine.and_el zt740 ?_); intro tk1 o1; (try clear zt740)))) | obtain ⟨h, g1, d1, tk1, o1⟩ := s₁)
      (try dsimp only at F N)
      refine opq ?_; intro Qd hQd
      w_strict ((try dsimp only); k_steps)
      refine Hold.mk ?_
      refine use_claim (lev (by omega) (by omega) (by omega) (by omega)) F N X T (by decide) (by decide) trivial ?_
      clear F N
      (first | (intro _ h tk zt742; clear zt742; intro F N; (first | (intro zt743; (first | refine Exists.elim zt743 ?_ | refine Mine.and_el zt743 ?_); intro tv2 zt744; (try clear zt743); subst zt744) | rintro ⟨tv2, rfl⟩)) | rintro _ h tk - F N ⟨tv2, rfl⟩)
      rw [hlv]
      w_strict ((try dsimp only); k_steps)
      all_goals try (rename n ≠ n => hne; exact absurd rfl hne)
      refine Hold.mk ?_
      refine use_claim (ell (by omega) (by omega)) F N X T (by decide) (by decide) trivial ?_
      clear F N
      (first | (intro _ h tk zt745; clear zt745; intro F N zt746; subst zt746) | rintro _ h tk - F N rfl)
      cases hma : matchS (S P) (S key)
      · w_strict ((try dsimp only); k_steps)
        refine hQd _ _ ?_
        (first | ((try clear F); (try clear N); rename Fr _ _ _ _ => F; rename News _ _ _ _ => N) | skip)
        rw [hma, if_neg (by decide)]
        exact loopStep_of F N (by kst_all)
      · w_strict ((try dsimp only); k_steps)
        refine hQd _ _ ?_
        (first | ((try clear F); (try clear N); rename Fr _ _ _ _ => F; rename News _ _ _ _ => N) | skip)
        have emin : (if n < la then n else la) = min la n := ar_min _ _
        rw [emin] at F
        rw [hma, if_pos rfl]
        exact loopStep_of F N (by kst_all)
    · (first | (intro h' tk' m' F' N'; (first | (intro zt747; (first | (refine Mine.at_el zt747 ?_; clear zt747; intro tl j1 j2 zt751 j3 j4; subst zt751) | ((first | refine Exists.elim zt747 ?_ | refine Mine.and_el zt747 ?_); intro tl zt748; (try clear zt747); (first | refine Exists.elim zt748 ?_ | refine Mine.and_el zt748 ?_); intro j1 zt749; (try clear zt748); (first | refine Exists.elim zt749 ?_ | refine Mine.and_el zt749 ?_); intro j2 zt750; (try clear zt749); (first | refine Exists.elim zt750 ?_ | refine Mine.and_el zt750 ?_); intro j3 j4; (try clear zt750)))) | rintro ⟨tl, j1, j2, j3, j4⟩)) | rintro h' tk' m' F' N' ⟨tl, j1, j2, j3, j4⟩)
      refine hQa _ _ ⟨rfl, rfl, rfl, m', tl, F', ?_, j2, j3⟩
      rw [j1, kdpD_len, List.take_length, hfin]
  clear F N
  (first | (intro f s'; (first | (intro zt752; (first | refine Exists.elim zt752 ?_ | refine Mine.and_el zt752 ?_); intro zt753 zt754; (try clear zt752); subst zt753; (first | refine Exists.elim zt754 ?_ | refine Mine.and_el zt754 ?_); intro hg9 zt755; (try clear zt754); (first | refine Exists.elim zt755 ?_ | refine Mine.and_el zt755 ?_); intro ho9 zt756; (try clear zt755); (first | refine Exists.elim zt756 ?_ | refine Mine.and_el zt756 ?_); intro m9 zt757; (try clear zt756); (first | (refine Mine.at_el zt757 ?_; clear zt757; intro tl F j1 zt761 j2 j3; subst zt761) | ((first | refine Exists.elim zt757 ?_ | refine Mine.and_el zt757 ?_); intro tl zt758; (try clear zt757); (first | refine Exists.elim zt758 ?_ | refine Mine.and_el zt758 ?_); intro F zt759; (try clear zt758); (first | refine Exists.elim zt759 ?_ | refine Mine.and_el zt759 ?_); intro j1 zt760; (try clear zt759); (first | refine Exists.elim zt760 ?_ | refine Mine.and_el zt760 ?_); intro j2 j3; (try clear zt760)))) | rintro ⟨rfl, hg9, ho9, m9, tl, F, j1, j2, j3⟩)) | rintro f s' ⟨rfl, hg9, ho9, m9, tl, F, j1, j2, j3⟩)
  have N : News s.heap s.heap.objs.size s'.heap [] := fun _ h => nomatch h
  replace F := fr_norm F [(Str.ofString "least", .int (min 3 (farF priceS (itemsF P) Tx)) tl), (Str.ofString "pattern", .str (S P) tp), (Str.ofString "text", .str (S Tx) tt)] (fn_cons j1 (fn_cons j2 (fn_cons j3 fn_nil)))
  clear j1 j2 j3
  (first | ((first | (refine Mine.at_el s' ?_; clear s'; intro h g1 d1 zt765 tk1 o1; subst zt765) | ((first | refine Exists.elim s' ?_ | refine Mine.and_el s' ?_); intro h zt762; (try clear s'); (first | refine Exists.elim zt762 ?_ | refine Mine.and_el zt762 ?_); intro g1 zt763; (try clear zt762); (first | refine Exists.elim zt763 ?_ | refine Mine.and_el zt763 ?_); intro d1 zt764; (try clear zt763); (first | refine Exists.elim zt764 ?_ | refine Mine.and_el zt764 ?_); intro tk1 o1; (try clear zt764)))) | obtain ⟨h, g1, d1, tk1, o1⟩ := s')
  dsimp only at F N hg9 ho9 ⊢
  subst hg9 ho9
  w_strict ((try dsimp only); k_steps)
  refine Hold.mk ?_
  have hpx : P.length ≤ 12 := by rw [S_length] at hPl; exact hPl
  have htx : Tx.length ≤ 4 := by rw [S_length] at hTl; exact hTl
  have hil := itemsF_len P
  refine use_claim (items (by omega) hPa) F N X T (by decide) (by decide) trivial ?_
  (first | (intro _ h tk zt766; clear zt766; intro F2 N2; (first | (intro zt767; (first | refine Exists.elim zt767 ?_ | refine Mine.and_el zt767 ?_); intro ia zt768; (try clear zt767); (first | refine Exists.elim zt768 ?_ | refine Mine.and_el zt768 ?_); intro vsI zt769; (try clear zt768); (first | refine Exists.elim zt769 ?_ | refine Mine.and_el zt769 ?_); intro nI zt770; (try clear zt769); (first | refine Exists.elim zt770 ?_ | refine Mine.and_el zt770 ?_); intro zt771 zt772; (try clear zt770); subst zt771; (first | refine Exists.elim zt772 ?_ | refine Mine.and_el zt772 ?_); intro hn zt773; (try clear zt772); (first | refine Exists.elim zt773 ?_ | refine Mine.and_el zt773 ?_); intro ha hvs; (try clear zt773)) | rintro ⟨ia, vsI, nI, rfl, hn, ha, hvs⟩)) | rintro _ h tk - F2 N2 ⟨ia, vsI, nI, rfl, hn, ha, hvs⟩)
  have N3 := news_add F hn ha N2
  clear F N N2 hn ha
  rename Fr _ _ _ _ => F; rename News _ _ _ _ => N
  w_strict ((try dsimp only); k_steps)
  refine Hold.mk ?_
  refine use_claim (far (its := itemsF P) (t := Tx) (by omega) (by omega) hvs) F N X T (by decide) (by decide) (N _ (List.Mem.head _)).1 ?_
  clear F N
  (first | (intro _ h tk zt774; clear zt774; intro F N; (first | (intro zt775; (first | refine Exists.elim zt775 ?_ | refine Mine.and_el zt775 ?_); intro tr zt776; (try clear zt775); subst zt776) | rintro ⟨tr, rfl⟩)) | rintro _ h tk - F N ⟨tr, rfl⟩)
  generalize farF priceS (itemsF P) Tx = fv at F ⊢
  w_strict ((try dsimp only); k_steps)
  have e3 : (min 3 fv == if fv < 3 then fv else 3) = true := by
    have : (if fv < 3 then fv else 3) = min 3 fv := ar_min _ _
    rw [this]; simp
  rw [e3]
  (first | ((try clear F); (try clear N); rename Fr _ _ _ _ => F; rename News _ _ _ _ => N) | skip)
  exact hQ0 _ _ ⟨rfl, ⟨_, _, F⟩, rfl, rfl⟩
theorem WW : PySem.Challenge.rw_pe0154_01.Holds := Eq.mp (congrArg OpenLaw.Holds rw_eq) WM
end Mine
end
theorem PySem.Challenge.cw_pe0154_01_holds : PySem.Challenge.rw_pe0154_01.Holds :=
  Mine.WW
