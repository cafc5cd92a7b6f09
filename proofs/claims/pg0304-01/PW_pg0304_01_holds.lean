import PyProof.Rows.All
import Wide.All
import OpenK.AllK
import Wide.FinOn
import Lean
import PySem.Challenge.RW_pg0304_01
set_option Elab.async false
set_option maxRecDepth 100000
set_option maxHeartbeats 8000000
set_option linter.unusedSimpArgs false
set_option linter.unusedVariables false
namespace Mine
def k9 (k : String) : Lean.Macro := fun _ => do return (← `(tactic| k_extra $(Lean.quote k))).raw
local macro_rules (kind := PySem.W.tacticK_mem) | x => k9 "m:k_mem" x
local macro_rules (kind := PySem.W.tacticK_all) | x => k9 "m:k_all" x
local macro_rules (kind := PySem.W.tacticK_upd) | x => k9 "m:k_upd" x
local macro_rules (kind := PySem.W.tacticTb_lt) | x => k9 "m:tb_lt" x
local macro_rules (kind := Lean.Parser.Tactic.omega) | x => k9 "m:omega" x
local macro_rules (kind := PySem.W.tacticKn_code) | x => k9 "m:kn_code" x
local macro_rules (kind := PySem.W.tacticK_room) | x => k9 "m:k_room" x
local macro_rules (kind := PySem.W.tacticKt_len) | x => k9 "m:kt_len" x
local macro_rules (kind := PySem.W.tacticK_fold) | x => k9 "m:k_fold" x
local macro_rules (kind := tacticSize_fits) | x => k9 "m:size_fits" x
def walkKeys : String := "|exec If|subscriptTail|delItem ref ref|call builtin:dict.get cons nil|getMethod ref|setDisplayStar ref|subscriptTail Attribute Name UnaryOp ref int|subscriptTail Name Name ref str|subscriptTail Name UnaryOp ref int|truthy ref|call ref|callWith builtin:list.append cons nil|callWith ref|eval Name|getAttr ref|joinParts|subscriptTail Subscript Name Name Constant ref int|subscriptTail Name Constant ref int|call builtin:dict.items|call builtin:sorted cons|eval Lambda Call|call builtin:str.join|eval ListComp|execs cons Assign cons|execs cons Expr cons|exec While Compare|subscriptTail List cons BinOp ref int|OneEnd|exec For|pyIter ref|compareOp In str ref|pyIter str|call builtin:len|call builtin:list.pop|execs cons If cons|inplaceOp Add str str|call builtin:str.replace|execs cons|execs nil|forall|And|evalPairs|ite|storeName|call builtin:re.Pattern.sub|eval Set cons|setAdd str|storeName ref|exec Assign cons DictComp|Exists|eval Dict nil nil|call type:list|compareOp NotEq ref ref|call builtin:list.append|truthy str|"
def walkTop : Lean.Macro := fun stx => do
  let some k := stx[1].isStrLit? | Lean.Macro.throwUnsupported
  if (walkKeys.splitOn ("|" ++ k ++ "|")).length < 2 then Lean.Macro.throwUnsupported
  return (← `(tactic| k_extra $(Lean.quote ("w:" ++ k)))).raw
local macro_rules (kind := PyProof.Rows.tacticWalk_at_) | x => walkTop x
section
open PySem PySem.W PyProof.Rows
noncomputable def ep {α : Type} (n : Nonempty α) (P : α → Prop) : α := @Classical.epsilon α n fun x => ¬ P x
theorem tau1 {α : Type} [n : Nonempty α] {P : α → Prop} (h : P (ep n P)) (x : α) : P x :=
  Classical.byContradiction fun hn => (@Classical.epsilon_spec α (fun x => ¬ P x) ⟨x,hn⟩) h
theorem neW : Nonempty World := ⟨⟨fun _ _ => 0,{ strHash := fun _ => 0,shareClass := fun _ => 0,mergeTok := id,idOf := fun _ => 0,idOfShared := fun _ _ => 0,followText := fun _ => true,idOfImm := fun _ => 0 }⟩⟩
theorem nePr {a b : Type} (h : Nonempty a) (k : Nonempty b) : Nonempty (a × b) := h.elim fun x => k.elim fun y => ⟨(x,y)⟩
theorem neA : Nonempty Around := ⟨{}⟩
theorem neSh : Nonempty Shared := ⟨⟨default,#[],{},0,{}⟩⟩
noncomputable def ep16 {a0 a1 a2 a3 a4 a5 a6 a7 a8 a9 a10 a11 a12 a13 a14 a15 : Type} (ne : Nonempty (a0 × a1 × a2 × a3 × a4 × a5 × a6 × a7 × a8 × a9 × a10 × a11 × a12 × a13 × a14 × a15)) (P : a0 → a1 → a2 → a3 → a4 → a5 → a6 → a7 → a8 → a9 → a10 → a11 → a12 → a13 → a14 → a15 → Prop) : a0 × a1 × a2 × a3 × a4 × a5 × a6 × a7 × a8 × a9 × a10 × a11 × a12 × a13 × a14 × a15 := ep ne fun c => P c.1 c.2.1 c.2.2.1 c.2.2.2.1 c.2.2.2.2.1 c.2.2.2.2.2.1 c.2.2.2.2.2.2.1 c.2.2.2.2.2.2.2.1 c.2.2.2.2.2.2.2.2.1 c.2.2.2.2.2.2.2.2.2.1 c.2.2.2.2.2.2.2.2.2.2.1 c.2.2.2.2.2.2.2.2.2.2.2.1 c.2.2.2.2.2.2.2.2.2.2.2.2.1 c.2.2.2.2.2.2.2.2.2.2.2.2.2.1 c.2.2.2.2.2.2.2.2.2.2.2.2.2.2.1 c.2.2.2.2.2.2.2.2.2.2.2.2.2.2.2
theorem tau16 {a0 a1 a2 a3 a4 a5 a6 a7 a8 a9 a10 a11 a12 a13 a14 a15 : Type} (ne : Nonempty (a0 × a1 × a2 × a3 × a4 × a5 × a6 × a7 × a8 × a9 × a10 × a11 × a12 × a13 × a14 × a15)) {P : a0 → a1 → a2 → a3 → a4 → a5 → a6 → a7 → a8 → a9 → a10 → a11 → a12 → a13 → a14 → a15 → Prop} (h : P (ep16 ne P).1 (ep16 ne P).2.1 (ep16 ne P).2.2.1 (ep16 ne P).2.2.2.1 (ep16 ne P).2.2.2.2.1 (ep16 ne P).2.2.2.2.2.1 (ep16 ne P).2.2.2.2.2.2.1 (ep16 ne P).2.2.2.2.2.2.2.1 (ep16 ne P).2.2.2.2.2.2.2.2.1 (ep16 ne P).2.2.2.2.2.2.2.2.2.1 (ep16 ne P).2.2.2.2.2.2.2.2.2.2.1 (ep16 ne P).2.2.2.2.2.2.2.2.2.2.2.1 (ep16 ne P).2.2.2.2.2.2.2.2.2.2.2.2.1 (ep16 ne P).2.2.2.2.2.2.2.2.2.2.2.2.2.1 (ep16 ne P).2.2.2.2.2.2.2.2.2.2.2.2.2.2.1 (ep16 ne P).2.2.2.2.2.2.2.2.2.2.2.2.2.2.2) : ∀ x0 x1 x2 x3 x4 x5 x6 x7 x8 x9 x10 x11 x12 x13 x14 x15,P x0 x1 x2 x3 x4 x5 x6 x7 x8 x9 x10 x11 x12 x13 x14 x15 := fun x0 x1 x2 x3 x4 x5 x6 x7 x8 x9 x10 x11 x12 x13 x14 x15 => @tau1 _ ne (fun c => P c.1 c.2.1 c.2.2.1 c.2.2.2.1 c.2.2.2.2.1 c.2.2.2.2.2.1 c.2.2.2.2.2.2.1 c.2.2.2.2.2.2.2.1 c.2.2.2.2.2.2.2.2.1 c.2.2.2.2.2.2.2.2.2.1 c.2.2.2.2.2.2.2.2.2.2.1 c.2.2.2.2.2.2.2.2.2.2.2.1 c.2.2.2.2.2.2.2.2.2.2.2.2.1 c.2.2.2.2.2.2.2.2.2.2.2.2.2.1 c.2.2.2.2.2.2.2.2.2.2.2.2.2.2.1 c.2.2.2.2.2.2.2.2.2.2.2.2.2.2.2) h (x0,x1,x2,x3,x4,x5,x6,x7,x8,x9,x10,x11,x12,x13,x14,x15)
noncomputable def ep24 {a0 a1 a2 a3 a4 a5 a6 a7 a8 a9 a10 a11 a12 a13 a14 a15 a16 a17 a18 a19 a20 a21 a22 a23 : Type} (ne : Nonempty (a0 × a1 × a2 × a3 × a4 × a5 × a6 × a7 × a8 × a9 × a10 × a11 × a12 × a13 × a14 × a15 × a16 × a17 × a18 × a19 × a20 × a21 × a22 × a23)) (P : a0 → a1 → a2 → a3 → a4 → a5 → a6 → a7 → a8 → a9 → a10 → a11 → a12 → a13 → a14 → a15 → a16 → a17 → a18 → a19 → a20 → a21 → a22 → a23 → Prop) : a0 × a1 × a2 × a3 × a4 × a5 × a6 × a7 × a8 × a9 × a10 × a11 × a12 × a13 × a14 × a15 × a16 × a17 × a18 × a19 × a20 × a21 × a22 × a23 := ep ne fun c => P c.1 c.2.1 c.2.2.1 c.2.2.2.1 c.2.2.2.2.1 c.2.2.2.2.2.1 c.2.2.2.2.2.2.1 c.2.2.2.2.2.2.2.1 c.2.2.2.2.2.2.2.2.1 c.2.2.2.2.2.2.2.2.2.1 c.2.2.2.2.2.2.2.2.2.2.1 c.2.2.2.2.2.2.2.2.2.2.2.1 c.2.2.2.2.2.2.2.2.2.2.2.2.1 c.2.2.2.2.2.2.2.2.2.2.2.2.2.1 c.2.2.2.2.2.2.2.2.2.2.2.2.2.2.1 c.2.2.2.2.2.2.2.2.2.2.2.2.2.2.2.1 c.2.2.2.2.2.2.2.2.2.2.2.2.2.2.2.2.1 c.2.2.2.2.2.2.2.2.2.2.2.2.2.2.2.2.2.1 c.2.2.2.2.2.2.2.2.2.2.2.2.2.2.2.2.2.2.1 c.2.2.2.2.2.2.2.2.2.2.2.2.2.2.2.2.2.2.2.1 c.2.2.2.2.2.2.2.2.2.2.2.2.2.2.2.2.2.2.2.2.1 c.2.2.2.2.2.2.2.2.2.2.2.2.2.2.2.2.2.2.2.2.2.1 c.2.2.2.2.2.2.2.2.2.2.2.2.2.2.2.2.2.2.2.2.2.2.1 c.2.2.2.2.2.2.2.2.2.2.2.2.2.2.2.2.2.2.2.2.2.2.2
theorem tau24 {a0 a1 a2 a3 a4 a5 a6 a7 a8 a9 a10 a11 a12 a13 a14 a15 a16 a17 a18 a19 a20 a21 a22 a23 : Type} (ne : Nonempty (a0 × a1 × a2 × a3 × a4 × a5 × a6 × a7 × a8 × a9 × a10 × a11 × a12 × a13 × a14 × a15 × a16 × a17 × a18 × a19 × a20 × a21 × a22 × a23)) {P : a0 → a1 → a2 → a3 → a4 → a5 → a6 → a7 → a8 → a9 → a10 → a11 → a12 → a13 → a14 → a15 → a16 → a17 → a18 → a19 → a20 → a21 → a22 → a23 → Prop} (h : P (ep24 ne P).1 (ep24 ne P).2.1 (ep24 ne P).2.2.1 (ep24 ne P).2.2.2.1 (ep24 ne P).2.2.2.2.1 (ep24 ne P).2.2.2.2.2.1 (ep24 ne P).2.2.2.2.2.2.1 (ep24 ne P).2.2.2.2.2.2.2.1 (ep24 ne P).2.2.2.2.2.2.2.2.1 (ep24 ne P).2.2.2.2.2.2.2.2.2.1 (ep24 ne P).2.2.2.2.2.2.2.2.2.2.1 (ep24 ne P).2.2.2.2.2.2.2.2.2.2.2.1 (ep24 ne P).2.2.2.2.2.2.2.2.2.2.2.2.1 (ep24 ne P).2.2.2.2.2.2.2.2.2.2.2.2.2.1 (ep24 ne P).2.2.2.2.2.2.2.2.2.2.2.2.2.2.1 (ep24 ne P).2.2.2.2.2.2.2.2.2.2.2.2.2.2.2.1 (ep24 ne P).2.2.2.2.2.2.2.2.2.2.2.2.2.2.2.2.1 (ep24 ne P).2.2.2.2.2.2.2.2.2.2.2.2.2.2.2.2.2.1 (ep24 ne P).2.2.2.2.2.2.2.2.2.2.2.2.2.2.2.2.2.2.1 (ep24 ne P).2.2.2.2.2.2.2.2.2.2.2.2.2.2.2.2.2.2.2.1 (ep24 ne P).2.2.2.2.2.2.2.2.2.2.2.2.2.2.2.2.2.2.2.2.1 (ep24 ne P).2.2.2.2.2.2.2.2.2.2.2.2.2.2.2.2.2.2.2.2.2.1 (ep24 ne P).2.2.2.2.2.2.2.2.2.2.2.2.2.2.2.2.2.2.2.2.2.2.1 (ep24 ne P).2.2.2.2.2.2.2.2.2.2.2.2.2.2.2.2.2.2.2.2.2.2.2) : ∀ x0 x1 x2 x3 x4 x5 x6 x7 x8 x9 x10 x11 x12 x13 x14 x15 x16 x17 x18 x19 x20 x21 x22 x23,P x0 x1 x2 x3 x4 x5 x6 x7 x8 x9 x10 x11 x12 x13 x14 x15 x16 x17 x18 x19 x20 x21 x22 x23 := fun x0 x1 x2 x3 x4 x5 x6 x7 x8 x9 x10 x11 x12 x13 x14 x15 x16 x17 x18 x19 x20 x21 x22 x23 => @tau1 _ ne (fun c => P c.1 c.2.1 c.2.2.1 c.2.2.2.1 c.2.2.2.2.1 c.2.2.2.2.2.1 c.2.2.2.2.2.2.1 c.2.2.2.2.2.2.2.1 c.2.2.2.2.2.2.2.2.1 c.2.2.2.2.2.2.2.2.2.1 c.2.2.2.2.2.2.2.2.2.2.1 c.2.2.2.2.2.2.2.2.2.2.2.1 c.2.2.2.2.2.2.2.2.2.2.2.2.1 c.2.2.2.2.2.2.2.2.2.2.2.2.2.1 c.2.2.2.2.2.2.2.2.2.2.2.2.2.2.1 c.2.2.2.2.2.2.2.2.2.2.2.2.2.2.2.1 c.2.2.2.2.2.2.2.2.2.2.2.2.2.2.2.2.1 c.2.2.2.2.2.2.2.2.2.2.2.2.2.2.2.2.2.1 c.2.2.2.2.2.2.2.2.2.2.2.2.2.2.2.2.2.2.1 c.2.2.2.2.2.2.2.2.2.2.2.2.2.2.2.2.2.2.2.1 c.2.2.2.2.2.2.2.2.2.2.2.2.2.2.2.2.2.2.2.2.1 c.2.2.2.2.2.2.2.2.2.2.2.2.2.2.2.2.2.2.2.2.2.1 c.2.2.2.2.2.2.2.2.2.2.2.2.2.2.2.2.2.2.2.2.2.2.1 c.2.2.2.2.2.2.2.2.2.2.2.2.2.2.2.2.2.2.2.2.2.2.2) h (x0,x1,x2,x3,x4,x5,x6,x7,x8,x9,x10,x11,x12,x13,x14,x15,x16,x17,x18,x19,x20,x21,x22,x23)
noncomputable def ep32 {a0 a1 a2 a3 a4 a5 a6 a7 a8 a9 a10 a11 a12 a13 a14 a15 a16 a17 a18 a19 a20 a21 a22 a23 a24 a25 a26 a27 a28 a29 a30 a31 : Type} (ne : Nonempty (a0 × a1 × a2 × a3 × a4 × a5 × a6 × a7 × a8 × a9 × a10 × a11 × a12 × a13 × a14 × a15 × a16 × a17 × a18 × a19 × a20 × a21 × a22 × a23 × a24 × a25 × a26 × a27 × a28 × a29 × a30 × a31)) (P : a0 → a1 → a2 → a3 → a4 → a5 → a6 → a7 → a8 → a9 → a10 → a11 → a12 → a13 → a14 → a15 → a16 → a17 → a18 → a19 → a20 → a21 → a22 → a23 → a24 → a25 → a26 → a27 → a28 → a29 → a30 → a31 → Prop) : a0 × a1 × a2 × a3 × a4 × a5 × a6 × a7 × a8 × a9 × a10 × a11 × a12 × a13 × a14 × a15 × a16 × a17 × a18 × a19 × a20 × a21 × a22 × a23 × a24 × a25 × a26 × a27 × a28 × a29 × a30 × a31 := ep ne fun c => P c.1 c.2.1 c.2.2.1 c.2.2.2.1 c.2.2.2.2.1 c.2.2.2.2.2.1 c.2.2.2.2.2.2.1 c.2.2.2.2.2.2.2.1 c.2.2.2.2.2.2.2.2.1 c.2.2.2.2.2.2.2.2.2.1 c.2.2.2.2.2.2.2.2.2.2.1 c.2.2.2.2.2.2.2.2.2.2.2.1 c.2.2.2.2.2.2.2.2.2.2.2.2.1 c.2.2.2.2.2.2.2.2.2.2.2.2.2.1 c.2.2.2.2.2.2.2.2.2.2.2.2.2.2.1 c.2.2.2.2.2.2.2.2.2.2.2.2.2.2.2.1 c.2.2.2.2.2.2.2.2.2.2.2.2.2.2.2.2.1 c.2.2.2.2.2.2.2.2.2.2.2.2.2.2.2.2.2.1 c.2.2.2.2.2.2.2.2.2.2.2.2.2.2.2.2.2.2.1 c.2.2.2.2.2.2.2.2.2.2.2.2.2.2.2.2.2.2.2.1 c.2.2.2.2.2.2.2.2.2.2.2.2.2.2.2.2.2.2.2.2.1 c.2.2.2.2.2.2.2.2.2.2.2.2.2.2.2.2.2.2.2.2.2.1 c.2.2.2.2.2.2.2.2.2.2.2.2.2.2.2.2.2.2.2.2.2.2.1 c.2.2.2.2.2.2.2.2.2.2.2.2.2.2.2.2.2.2.2.2.2.2.2.1 c.2.2.2.2.2.2.2.2.2.2.2.2.2.2.2.2.2.2.2.2.2.2.2.2.1 c.2.2.2.2.2.2.2.2.2.2.2.2.2.2.2.2.2.2.2.2.2.2.2.2.2.1 c.2.2.2.2.2.2.2.2.2.2.2.2.2.2.2.2.2.2.2.2.2.2.2.2.2.2.1 c.2.2.2.2.2.2.2.2.2.2.2.2.2.2.2.2.2.2.2.2.2.2.2.2.2.2.2.1 c.2.2.2.2.2.2.2.2.2.2.2.2.2.2.2.2.2.2.2.2.2.2.2.2.2.2.2.2.1 c.2.2.2.2.2.2.2.2.2.2.2.2.2.2.2.2.2.2.2.2.2.2.2.2.2.2.2.2.2.1 c.2.2.2.2.2.2.2.2.2.2.2.2.2.2.2.2.2.2.2.2.2.2.2.2.2.2.2.2.2.2.1 c.2.2.2.2.2.2.2.2.2.2.2.2.2.2.2.2.2.2.2.2.2.2.2.2.2.2.2.2.2.2.2
theorem tau32 {a0 a1 a2 a3 a4 a5 a6 a7 a8 a9 a10 a11 a12 a13 a14 a15 a16 a17 a18 a19 a20 a21 a22 a23 a24 a25 a26 a27 a28 a29 a30 a31 : Type} (ne : Nonempty (a0 × a1 × a2 × a3 × a4 × a5 × a6 × a7 × a8 × a9 × a10 × a11 × a12 × a13 × a14 × a15 × a16 × a17 × a18 × a19 × a20 × a21 × a22 × a23 × a24 × a25 × a26 × a27 × a28 × a29 × a30 × a31)) {P : a0 → a1 → a2 → a3 → a4 → a5 → a6 → a7 → a8 → a9 → a10 → a11 → a12 → a13 → a14 → a15 → a16 → a17 → a18 → a19 → a20 → a21 → a22 → a23 → a24 → a25 → a26 → a27 → a28 → a29 → a30 → a31 → Prop} (h : P (ep32 ne P).1 (ep32 ne P).2.1 (ep32 ne P).2.2.1 (ep32 ne P).2.2.2.1 (ep32 ne P).2.2.2.2.1 (ep32 ne P).2.2.2.2.2.1 (ep32 ne P).2.2.2.2.2.2.1 (ep32 ne P).2.2.2.2.2.2.2.1 (ep32 ne P).2.2.2.2.2.2.2.2.1 (ep32 ne P).2.2.2.2.2.2.2.2.2.1 (ep32 ne P).2.2.2.2.2.2.2.2.2.2.1 (ep32 ne P).2.2.2.2.2.2.2.2.2.2.2.1 (ep32 ne P).2.2.2.2.2.2.2.2.2.2.2.2.1 (ep32 ne P).2.2.2.2.2.2.2.2.2.2.2.2.2.1 (ep32 ne P).2.2.2.2.2.2.2.2.2.2.2.2.2.2.1 (ep32 ne P).2.2.2.2.2.2.2.2.2.2.2.2.2.2.2.1 (ep32 ne P).2.2.2.2.2.2.2.2.2.2.2.2.2.2.2.2.1 (ep32 ne P).2.2.2.2.2.2.2.2.2.2.2.2.2.2.2.2.2.1 (ep32 ne P).2.2.2.2.2.2.2.2.2.2.2.2.2.2.2.2.2.2.1 (ep32 ne P).2.2.2.2.2.2.2.2.2.2.2.2.2.2.2.2.2.2.2.1 (ep32 ne P).2.2.2.2.2.2.2.2.2.2.2.2.2.2.2.2.2.2.2.2.1 (ep32 ne P).2.2.2.2.2.2.2.2.2.2.2.2.2.2.2.2.2.2.2.2.2.1 (ep32 ne P).2.2.2.2.2.2.2.2.2.2.2.2.2.2.2.2.2.2.2.2.2.2.1 (ep32 ne P).2.2.2.2.2.2.2.2.2.2.2.2.2.2.2.2.2.2.2.2.2.2.2.1 (ep32 ne P).2.2.2.2.2.2.2.2.2.2.2.2.2.2.2.2.2.2.2.2.2.2.2.2.1 (ep32 ne P).2.2.2.2.2.2.2.2.2.2.2.2.2.2.2.2.2.2.2.2.2.2.2.2.2.1 (ep32 ne P).2.2.2.2.2.2.2.2.2.2.2.2.2.2.2.2.2.2.2.2.2.2.2.2.2.2.1 (ep32 ne P).2.2.2.2.2.2.2.2.2.2.2.2.2.2.2.2.2.2.2.2.2.2.2.2.2.2.2.1 (ep32 ne P).2.2.2.2.2.2.2.2.2.2.2.2.2.2.2.2.2.2.2.2.2.2.2.2.2.2.2.2.1 (ep32 ne P).2.2.2.2.2.2.2.2.2.2.2.2.2.2.2.2.2.2.2.2.2.2.2.2.2.2.2.2.2.1 (ep32 ne P).2.2.2.2.2.2.2.2.2.2.2.2.2.2.2.2.2.2.2.2.2.2.2.2.2.2.2.2.2.2.1 (ep32 ne P).2.2.2.2.2.2.2.2.2.2.2.2.2.2.2.2.2.2.2.2.2.2.2.2.2.2.2.2.2.2.2) : ∀ x0 x1 x2 x3 x4 x5 x6 x7 x8 x9 x10 x11 x12 x13 x14 x15 x16 x17 x18 x19 x20 x21 x22 x23 x24 x25 x26 x27 x28 x29 x30 x31,P x0 x1 x2 x3 x4 x5 x6 x7 x8 x9 x10 x11 x12 x13 x14 x15 x16 x17 x18 x19 x20 x21 x22 x23 x24 x25 x26 x27 x28 x29 x30 x31 := fun x0 x1 x2 x3 x4 x5 x6 x7 x8 x9 x10 x11 x12 x13 x14 x15 x16 x17 x18 x19 x20 x21 x22 x23 x24 x25 x26 x27 x28 x29 x30 x31 => @tau1 _ ne (fun c => P c.1 c.2.1 c.2.2.1 c.2.2.2.1 c.2.2.2.2.1 c.2.2.2.2.2.1 c.2.2.2.2.2.2.1 c.2.2.2.2.2.2.2.1 c.2.2.2.2.2.2.2.2.1 c.2.2.2.2.2.2.2.2.2.1 c.2.2.2.2.2.2.2.2.2.2.1 c.2.2.2.2.2.2.2.2.2.2.2.1 c.2.2.2.2.2.2.2.2.2.2.2.2.1 c.2.2.2.2.2.2.2.2.2.2.2.2.2.1 c.2.2.2.2.2.2.2.2.2.2.2.2.2.2.1 c.2.2.2.2.2.2.2.2.2.2.2.2.2.2.2.1 c.2.2.2.2.2.2.2.2.2.2.2.2.2.2.2.2.1 c.2.2.2.2.2.2.2.2.2.2.2.2.2.2.2.2.2.1 c.2.2.2.2.2.2.2.2.2.2.2.2.2.2.2.2.2.2.1 c.2.2.2.2.2.2.2.2.2.2.2.2.2.2.2.2.2.2.2.1 c.2.2.2.2.2.2.2.2.2.2.2.2.2.2.2.2.2.2.2.2.1 c.2.2.2.2.2.2.2.2.2.2.2.2.2.2.2.2.2.2.2.2.2.1 c.2.2.2.2.2.2.2.2.2.2.2.2.2.2.2.2.2.2.2.2.2.2.1 c.2.2.2.2.2.2.2.2.2.2.2.2.2.2.2.2.2.2.2.2.2.2.2.1 c.2.2.2.2.2.2.2.2.2.2.2.2.2.2.2.2.2.2.2.2.2.2.2.2.1 c.2.2.2.2.2.2.2.2.2.2.2.2.2.2.2.2.2.2.2.2.2.2.2.2.2.1 c.2.2.2.2.2.2.2.2.2.2.2.2.2.2.2.2.2.2.2.2.2.2.2.2.2.2.1 c.2.2.2.2.2.2.2.2.2.2.2.2.2.2.2.2.2.2.2.2.2.2.2.2.2.2.2.1 c.2.2.2.2.2.2.2.2.2.2.2.2.2.2.2.2.2.2.2.2.2.2.2.2.2.2.2.2.1 c.2.2.2.2.2.2.2.2.2.2.2.2.2.2.2.2.2.2.2.2.2.2.2.2.2.2.2.2.2.1 c.2.2.2.2.2.2.2.2.2.2.2.2.2.2.2.2.2.2.2.2.2.2.2.2.2.2.2.2.2.2.1 c.2.2.2.2.2.2.2.2.2.2.2.2.2.2.2.2.2.2.2.2.2.2.2.2.2.2.2.2.2.2.2) h (x0,x1,x2,x3,x4,x5,x6,x7,x8,x9,x10,x11,x12,x13,x14,x15,x16,x17,x18,x19,x20,x21,x22,x23,x24,x25,x26,x27,x28,x29,x30,x31)
theorem nilLe {α : Type} {n : Nat} : ([] : List α).length ≤ n := Nat.zero_le n
theorem isTok {x : Nat} (h : 1 ≤ x) : 1 ≤ x := h
theorem isT {b : Bool} (h : b = true) : b = true := h
theorem isF {b : Bool} (h : b = false) : b = false := h
theorem neZ9 {a : Nat} (h : 1 ≤ a) : a ≠ 0 := Nat.pos_iff_ne_zero.mp h
theorem om1 {n i : Nat} (h : i < n) : n - i = n - i - 1 + 1 := (Nat.succ_pred_eq_of_pos (Nat.sub_pos_of_lt h)).symm
theorem om2 {n i : Nat} (h : i < n) : n + 1 - (i + 1) < n + 1 - i := by
  rw [Nat.add_sub_add_right,Nat.succ_sub (Nat.le_of_lt h)]
  exact Nat.lt_succ_self _
theorem om3 {n i j : Nat} (h : n - i = j + 1) : n - (i + 1) = j := congrArg Nat.pred h
theorem lenK {α : Type} {l : List α} {n : Nat} (e : Nat.ble l.length n = true) : l.length ≤ n := Nat.le_of_ble_eq_true e
theorem pu1 {α : Type} {a : α} : ((#[] : Array α).push a).toList.length ≤ 16777216 := by simp
theorem pu2 {α : Type} {a : α} : ((#[] : Array α).push a).size ≤ 16777216 := by simp
theorem szLA {a b : PySem.Str} {A B n : Nat} (h : a.length ≤ A) (h' : b.length ≤ B) (e : Nat.ble (A + B) n = true) : a.length + b.length ≤ n := Nat.le_trans (Nat.add_le_add h h') (Nat.le_of_ble_eq_true e)
theorem rows_om_1 : True := by
  (k_with "m:omega" => (((fail_if_success (k_extra "m:has_oo"));first
    | with_reducible assumption
    | (with_reducible first
      | exact Nat.le_refl _
      | exact Nat.lt_succ_self _
      | exact Mine.nilLe
      | exact Nat.le_add_right_of_le (Nat.le_add_left 1 _)
      | exact Nat.two_pow_pos _
      | exact Nat.le_of_lt (by assumption)
      | exact Nat.ne_of_lt (by assumption)
      | exact Nat.ne_of_gt (by assumption)
      | exact Nat.lt_trans (by assumption) (by assumption)
      | exact Nat.le_trans (by assumption) (by assumption)
      | exact Nat.lt_of_lt_of_le (by assumption) (by assumption)
      | exact Nat.lt_of_le_of_lt (by assumption) (by assumption)
      | exact Nat.succ_ne_zero _
      | exact Mine.neZ9 (by assumption)
      | exact Mine.om1 (by assumption)
      | exact Mine.om2 (by assumption)
      | exact Mine.om3 (by assumption))
    | ((fail_if_success (with_reducible first | refine Mine.isTok ?_ | refine Mine.isT ?_ | refine Mine.isF ?_));lia)
    | fail "none")))
  (k_with "m:t16" => ((refine' no_implicit_lambda% (Mine.tau16 ?ne9'1 ?_);(case ne9'1 => ((repeat (refine Mine.nePr (by first | exact Mine.neW | exact Mine.neA | exact Mine.neSh | infer_instance) ?_));first | infer_instance | exact Mine.neSh));generalize Mine.ep16 _ _ = d'1;generalize d'1.1 = l0'1;generalize d'1.2 = d0'1;generalize d0'1.1 = l1'1;generalize d0'1.2 = d1'1;generalize d1'1.1 = l2'1;generalize d1'1.2 = d2'1;generalize d2'1.1 = l3'1;generalize d2'1.2 = d3'1;generalize d3'1.1 = l4'1;generalize d3'1.2 = d4'1;generalize d4'1.1 = l5'1;generalize d4'1.2 = d5'1;generalize d5'1.1 = l6'1;generalize d5'1.2 = d6'1;generalize d6'1.1 = l7'1;generalize d6'1.2 = d7'1;generalize d7'1.1 = l8'1;generalize d7'1.2 = d8'1;generalize d8'1.1 = l9'1;generalize d8'1.2 = d9'1;generalize d9'1.1 = l10'1;generalize d9'1.2 = d10'1;generalize d10'1.1 = l11'1;generalize d10'1.2 = d11'1;generalize d11'1.1 = l12'1;generalize d11'1.2 = d12'1;generalize d12'1.1 = l13'1;generalize d12'1.2 = d13'1;generalize d13'1.1 = l14'1;generalize d13'1.2 = l15'1;revert l0'1 l1'1 l2'1 l3'1 l4'1 l5'1 l6'1 l7'1 l8'1 l9'1 l10'1 l11'1 l12'1 l13'1 l14'1 l15'1;clear d'1 d0'1 d1'1 d2'1 d3'1 d4'1 d5'1 d6'1 d7'1 d8'1 d9'1 d10'1 d11'1 d12'1 d13'1)))
  (k_with "m:t24" => ((refine' no_implicit_lambda% (Mine.tau24 ?ne9'2 ?_);(case ne9'2 => ((repeat (refine Mine.nePr (by first | exact Mine.neW | exact Mine.neA | exact Mine.neSh | infer_instance) ?_));first | infer_instance | exact Mine.neSh));generalize Mine.ep24 _ _ = d'2;generalize d'2.1 = l0'2;generalize d'2.2 = d0'2;generalize d0'2.1 = l1'2;generalize d0'2.2 = d1'2;generalize d1'2.1 = l2'2;generalize d1'2.2 = d2'2;generalize d2'2.1 = l3'2;generalize d2'2.2 = d3'2;generalize d3'2.1 = l4'2;generalize d3'2.2 = d4'2;generalize d4'2.1 = l5'2;generalize d4'2.2 = d5'2;generalize d5'2.1 = l6'2;generalize d5'2.2 = d6'2;generalize d6'2.1 = l7'2;generalize d6'2.2 = d7'2;generalize d7'2.1 = l8'2;generalize d7'2.2 = d8'2;generalize d8'2.1 = l9'2;generalize d8'2.2 = d9'2;generalize d9'2.1 = l10'2;generalize d9'2.2 = d10'2;generalize d10'2.1 = l11'2;generalize d10'2.2 = d11'2;generalize d11'2.1 = l12'2;generalize d11'2.2 = d12'2;generalize d12'2.1 = l13'2;generalize d12'2.2 = d13'2;generalize d13'2.1 = l14'2;generalize d13'2.2 = d14'2;generalize d14'2.1 = l15'2;generalize d14'2.2 = d15'2;generalize d15'2.1 = l16'2;generalize d15'2.2 = d16'2;generalize d16'2.1 = l17'2;generalize d16'2.2 = d17'2;generalize d17'2.1 = l18'2;generalize d17'2.2 = d18'2;generalize d18'2.1 = l19'2;generalize d18'2.2 = d19'2;generalize d19'2.1 = l20'2;generalize d19'2.2 = d20'2;generalize d20'2.1 = l21'2;generalize d20'2.2 = d21'2;generalize d21'2.1 = l22'2;generalize d21'2.2 = l23'2;revert l0'2 l1'2 l2'2 l3'2 l4'2 l5'2 l6'2 l7'2 l8'2 l9'2 l10'2 l11'2 l12'2 l13'2 l14'2 l15'2 l16'2 l17'2 l18'2 l19'2 l20'2 l21'2 l22'2 l23'2;clear d'2 d0'2 d1'2 d2'2 d3'2 d4'2 d5'2 d6'2 d7'2 d8'2 d9'2 d10'2 d11'2 d12'2 d13'2 d14'2 d15'2 d16'2 d17'2 d18'2 d19'2 d20'2 d21'2)))
  (k_with "m:t32" => ((refine' no_implicit_lambda% (Mine.tau32 ?ne9'3 ?_);(case ne9'3 => ((repeat (refine Mine.nePr (by first | exact Mine.neW | exact Mine.neA | exact Mine.neSh | infer_instance) ?_));first | infer_instance | exact Mine.neSh));generalize Mine.ep32 _ _ = d'3;generalize d'3.1 = l0'3;generalize d'3.2 = d0'3;generalize d0'3.1 = l1'3;generalize d0'3.2 = d1'3;generalize d1'3.1 = l2'3;generalize d1'3.2 = d2'3;generalize d2'3.1 = l3'3;generalize d2'3.2 = d3'3;generalize d3'3.1 = l4'3;generalize d3'3.2 = d4'3;generalize d4'3.1 = l5'3;generalize d4'3.2 = d5'3;generalize d5'3.1 = l6'3;generalize d5'3.2 = d6'3;generalize d6'3.1 = l7'3;generalize d6'3.2 = d7'3;generalize d7'3.1 = l8'3;generalize d7'3.2 = d8'3;generalize d8'3.1 = l9'3;generalize d8'3.2 = d9'3;generalize d9'3.1 = l10'3;generalize d9'3.2 = d10'3;generalize d10'3.1 = l11'3;generalize d10'3.2 = d11'3;generalize d11'3.1 = l12'3;generalize d11'3.2 = d12'3;generalize d12'3.1 = l13'3;generalize d12'3.2 = d13'3;generalize d13'3.1 = l14'3;generalize d13'3.2 = d14'3;generalize d14'3.1 = l15'3;generalize d14'3.2 = d15'3;generalize d15'3.1 = l16'3;generalize d15'3.2 = d16'3;generalize d16'3.1 = l17'3;generalize d16'3.2 = d17'3;generalize d17'3.1 = l18'3;generalize d17'3.2 = d18'3;generalize d18'3.1 = l19'3;generalize d18'3.2 = d19'3;generalize d19'3.1 = l20'3;generalize d19'3.2 = d20'3;generalize d20'3.1 = l21'3;generalize d20'3.2 = d21'3;generalize d21'3.1 = l22'3;generalize d21'3.2 = d22'3;generalize d22'3.1 = l23'3;generalize d22'3.2 = d23'3;generalize d23'3.1 = l24'3;generalize d23'3.2 = d24'3;generalize d24'3.1 = l25'3;generalize d24'3.2 = d25'3;generalize d25'3.1 = l26'3;generalize d25'3.2 = d26'3;generalize d26'3.1 = l27'3;generalize d26'3.2 = d27'3;generalize d27'3.1 = l28'3;generalize d27'3.2 = d28'3;generalize d28'3.1 = l29'3;generalize d28'3.2 = d29'3;generalize d29'3.1 = l30'3;generalize d29'3.2 = l31'3;revert l0'3 l1'3 l2'3 l3'3 l4'3 l5'3 l6'3 l7'3 l8'3 l9'3 l10'3 l11'3 l12'3 l13'3 l14'3 l15'3 l16'3 l17'3 l18'3 l19'3 l20'3 l21'3 l22'3 l23'3 l24'3 l25'3 l26'3 l27'3 l28'3 l29'3 l30'3 l31'3;clear d'3 d0'3 d1'3 d2'3 d3'3 d4'3 d5'3 d6'3 d7'3 d8'3 d9'3 d10'3 d11'3 d12'3 d13'3 d14'3 d15'3 d16'3 d17'3 d18'3 d19'3 d20'3 d21'3 d22'3 d23'3 d24'3 d25'3 d26'3 d27'3 d28'3 d29'3)))
  (k_with "m:kt_len" => ((with_reducible assumption)))
  (k_with "m:size_fits" => (first
    | ((with_reducible show PySem.Str.length _ ≤ _);(fail_if_success (with_reducible show PySem.Str.length (PySem.Str.ofString "?!") ≤ _));(refine' Nat.le_trans ?sza'5 ?szb'5;(case sza'5 => k_dflt kt_len);(case szb'5 => k_dflt exact Nat.le_of_ble_eq_true rfl)))
    | ((with_reducible show PySem.Str.length _ + PySem.Str.length _ ≤ _);(fail_if_success (with_reducible show PySem.Str.length (PySem.Str.ofString "?!") + _ ≤ _));(fail_if_success (with_reducible show _ + PySem.Str.length (PySem.Str.ofString "?!") ≤ _));(refine' Mine.szLA ?sza'5 ?szb'5 ?szc'5;(case sza'5 => k_dflt kt_len);(case szb'5 => k_dflt kt_len);(case szc'5 => k_dflt exact rfl)))
    | ((with_reducible show List.length (_ :: _) ≤ _);k_dflt exact Mine.lenK rfl)
    | exact Mine.pu1
    | exact Mine.pu2))
  trivial
end
section
open PySem PySem.W PyProof.Rows
noncomputable def topRunG (ok : Thread → Bool) (st : SharedT → Thread → Option (SharedT × Thread)) : Nat → SharedT → Thread → Option SharedT
  | 0,_,_ => none
  | n + 1,s,t => match through t with
    | true => some s
    | false => match ok t with
      | false => none
      | true => match st s t with
        | some (s',t') => topRunG ok st n s' t'
        | none => none
theorem topRun_of {tb : String → Option Builtin} {p : Program} {w : World} {n₀ : Nat} {ann : Option Value} : ∀ {n : Nat} {s r : SharedT} {t : Thread},
    topRunG (stepOk n₀ ann) (stepT (denote tb) p w) n s t = some r → topRun tb p w n₀ ann n s.abs t = some r.abs
  | 0,_,_,_,h => by simp [topRunG] at h
  | n + 1,s,r,t,h => by
    unfold topRunG at h
    unfold topRun
    cases ht : through t with
    | true => rw [ht] at h;cases h;rfl
    | false =>
      rw [ht] at h
      cases hk : stepOk n₀ ann t with
      | false => rw [hk] at h;cases h
      | true =>
        rw [hk] at h
        cases hs : stepT (denote tb) p w s t with
        | none => rw [hs] at h;cases h
        | some x =>
          obtain ⟨s₂,t₂⟩ := x
          rw [hs] at h
          rw [stepT_spec hs]
          exact topRun_of h
noncomputable def layT : List Obj → BT → Nat → Option (BT × Nat)
  | [],t,n => some (t,n)
  | o :: r,t,n => match ((t.ins n o).get n).isSome with
    | true => layT r (t.ins n o) (n + 1)
    | false => none
theorem layT_spec (life : Life) : ∀ {l : List Obj} {t t' : BT} {n n' : Nat}, layT l t n = some (t', n') →
    absHeap t' n' life = ⟨(absHeap t n life).objs ++ l.toArray,life⟩
  | [],t,t',n,n',h => by
    cases h
    simp [absHeap]
  | o :: r,t,t',n,n',h => by
    unfold layT at h
    cases hg : ((t.ins n o).get n).isSome with
    | false => rw [hg] at h;cases h
    | true =>
      rw [hg] at h
      rw [layT_spec life h,absHeap_ins hg]
      show Heap.mk ((absHeap t n life).objs.push o ++ r.toArray) life = _
      congr 1
      apply Array.ext'
      simp
theorem lay_all {h : Heap} {t : BT} {n : Nat} (e : layT h.objs.toList .nil 0 = some (t,n)) : absHeap t n h.life = h := by
  rw [layT_spec h.life e]
  have : (absHeap BT.nil 0 h.life).objs = #[] := by simp [absHeap,BT.list]
  rw [this]
  obtain ⟨o,l⟩ := h
  simp
noncomputable def allG (ig : (String → Option Builtin) → Program → World → Nat → SharedT → Thread → Option (SharedT × Thread)) (stt : Program → Shared × Thread) (aeb : Thread → Option (List Value)) (fm : Program → Shared → Option Shared)
    (nm : Heap → Addr → Str → Option Value) (im : List Stmt → List Str) (ok : Nat → Option Value → Thread → Bool) (st : (Code → Sem Fin) → Program → World → SharedT → Thread → Option (SharedT × Thread)) (den : (String → Option Builtin) → Code → Sem Fin)
    (tb : String → Option Builtin) (p : Program) (w : World) (M N : Nat) (S0 : SharedT) : Option SharedT :=
  match ig tb (opening p) w M S0 (stt (opening p)).2 with
  | none => none
  | some (sE,tE) => match aeb tE with
    | some [] => match fm p sE.abs with
      | none => none
      | some s₀ => match layT s₀.heap.objs.toList .nil 0 with
        | none => none
        | some (T,n) => match s₀.heap.isNs mainGlobals && s₀.gens.size == 0 with
          | false => none
          | true => match topRunG (ok s₀.heap.objs.size (nm s₀.heap mainGlobals "__annotations__")) (st (den tb) p w) N ⟨T,n,s₀.heap.life,s₀.gens,s₀.drawn,s₀.toks,s₀.os⟩ (topStub p) with
            | none => none
            | some sF => match staticsOk (im p.main.body) s₀.heap sF.abs.heap && namesBound p sF.abs.heap && gensDone sF.abs && laidKept s₀.heap sF.abs.heap with
              | true => some sF
              | false => none
    | _ => none
theorem all_of {p : Program} {w : World} {M N : Nat} {S0 sF : SharedT} (hS : S0.abs = (start (opening p)).1) (hMN : M + 1 ≤ N) (h : allG impGoT start Thread.atExitBegin fenceModules? Heap.nsMap importedModules stepOk stepT denote treeTable p w M N S0 = some sF) : openEnds treeTable p w N = some sF.abs := by
  unfold allG at h
  cases h1 : impGoT treeTable (opening p) w M S0 (start (opening p)).2 with
  | none => rw [h1] at h;cases h
  | some x =>
    obtain ⟨sE,tE⟩ := x
    rw [h1] at h
    cases h2 : tE.atExitBegin with
    | none => simp only [h2] at h;cases h
    | some l =>
      cases l with
      | cons a b => simp only [h2] at h;cases h
      | nil =>
        simp only [h2] at h
        cases h3 : fenceModules? p sE.abs with
        | none => rw [h3] at h;cases h
        | some s₀ =>
          rw [h3] at h
          dsimp only at h
          cases h4 : layT s₀.heap.objs.toList .nil 0 with
          | none => rw [h4] at h;cases h
          | some y =>
            obtain ⟨T,n⟩ := y
            rw [h4] at h
            dsimp only at h
            cases h5 : (s₀.heap.isNs mainGlobals && s₀.gens.size == 0) with
            | false => rw [h5] at h;cases h
            | true =>
              rw [h5] at h
              dsimp only at h
              cases h6 : topRunG (stepOk s₀.heap.objs.size (s₀.heap.nsMap mainGlobals "__annotations__")) (stepT (denote treeTable) p w) N ⟨T,n,s₀.heap.life,s₀.gens,s₀.drawn,s₀.toks,s₀.os⟩ (topStub p) with
              | none => rw [h6] at h;cases h
              | some sF' =>
                rw [h6] at h
                dsimp only at h
                cases h7 : (staticsOk (importedModules p.main.body) s₀.heap sF'.abs.heap && namesBound p sF'.abs.heap && gensDone sF'.abs && laidKept s₀.heap sF'.abs.heap) with
                | false => rw [h7] at h;cases h
                | true =>
                  rw [h7] at h
                  cases h
                  have hs0 : (⟨T,n,s₀.heap.life,s₀.gens,s₀.drawn,s₀.toks,s₀.os⟩ : SharedT).abs = s₀ := by
                    show Shared.mk (absHeap T n s₀.heap.life) _ _ _ _ = s₀
                    rw [lay_all h4]
                  have r := topRun_of h6
                  rw [hs0] at r
                  have i := imp_go (N := 1) (r := sE.abs) (impGo_of h1) (by unfold importEnds;rw [h2])
                  rw [hS] at i
                  have i' := importEnds_mono (N - (M + 1)) _ _ _ _ i
                  rw [show M + 1 + (N - (M + 1)) = N by omega] at i'
                  unfold openEnds fencedOpening
                  rw [i']
                  show (fenceModules? p sE.abs).bind _ = _
                  rw [h3]
                  show topFrom treeTable p w N s₀ = _
                  unfold topFrom
                  rw [h5]
                  dsimp only
                  rw [r]
                  show (match staticsOk (importedModules p.main.body) s₀.heap sF.abs.heap && namesBound p sF.abs.heap && gensDone sF.abs && laidKept s₀.heap sF.abs.heap with
                    | true => some sF.abs
                    | false => none) = _
                  rw [h7]
end
section
open PySem PySem.W PyProof.Rows
noncomputable def fdOf : Stmt → Arguments × List Stmt × Scope
  | .FunctionDef _ a b _ _ _ s _ _ _ => (a,b,s)
  | _ => (⟨[],[],none,[],[],none,[]⟩,[],default)
noncomputable def inCls : Stmt → List Stmt
  | .ClassDef _ _ _ b _ _ _ _ _ _ _ => b
  | _ => []
noncomputable abbrev top (i : Nat) : Stmt := PySem.Challenge.pw_pg0304_01.main.body.getD i (.Pass default)
@[reducible] noncomputable def F38 : Arguments × List Stmt × Scope := (⟨_,by conv => lhs;whnf⟩ : { x // fdOf (top 1) = x }).1
@[reducible] noncomputable def F51 : Arguments × List Stmt × Scope := (⟨_,by conv => lhs;whnf⟩ : { x // fdOf (top 5) = x }).1
@[reducible] noncomputable def F67 : Arguments × List Stmt × Scope := (⟨_,by conv => lhs;whnf⟩ : { x // fdOf ((inCls (top 7)).getD 0 (.Pass default)) = x }).1
@[reducible] noncomputable def F75 : Arguments × List Stmt × Scope := (⟨_,by conv => lhs;whnf⟩ : { x // fdOf ((inCls (top 7)).getD 1 (.Pass default)) = x }).1
@[reducible] noncomputable def F82 : Arguments × List Stmt × Scope := (⟨_,by conv => lhs;whnf⟩ : { x // fdOf ((inCls (top 7)).getD 2 (.Pass default)) = x }).1
@[reducible] noncomputable def F90 : Arguments × List Stmt × Scope := (⟨_,by conv => lhs;whnf⟩ : { x // fdOf ((inCls (top 7)).getD 3 (.Pass default)) = x }).1
@[reducible] noncomputable def F97 : Arguments × List Stmt × Scope := (⟨_,by conv => lhs;whnf⟩ : { x // fdOf ((inCls (top 7)).getD 4 (.Pass default)) = x }).1
@[reducible] noncomputable def F106 : Arguments × List Stmt × Scope := (⟨_,by conv => lhs;whnf⟩ : { x // fdOf ((inCls (top 7)).getD 5 (.Pass default)) = x }).1
@[reducible] noncomputable def F113 : Arguments × List Stmt × Scope := (⟨_,by conv => lhs;whnf⟩ : { x // fdOf ((inCls (top 7)).getD 6 (.Pass default)) = x }).1
@[reducible] noncomputable def F120 : Arguments × List Stmt × Scope := (⟨_,by conv => lhs;whnf⟩ : { x // fdOf ((inCls (top 7)).getD 7 (.Pass default)) = x }).1
@[reducible] noncomputable def F126 : Arguments × List Stmt × Scope := (⟨_,by conv => lhs;whnf⟩ : { x // fdOf ((inCls (top 7)).getD 8 (.Pass default)) = x }).1
@[reducible] noncomputable def F133 : Arguments × List Stmt × Scope := (⟨_,by conv => lhs;whnf⟩ : { x // fdOf ((inCls (top 7)).getD 9 (.Pass default)) = x }).1
@[reducible] noncomputable def F140 : Arguments × List Stmt × Scope := (⟨_,by conv => lhs;whnf⟩ : { x // fdOf ((inCls (top 7)).getD 10 (.Pass default)) = x }).1
@[reducible] noncomputable def F147 : Arguments × List Stmt × Scope := (⟨_,by conv => lhs;whnf⟩ : { x // fdOf ((inCls (top 7)).getD 11 (.Pass default)) = x }).1
@[reducible] noncomputable def F161 : Arguments × List Stmt × Scope := (⟨_,by conv => lhs;whnf⟩ : { x // fdOf (top 8) = x }).1
@[reducible] noncomputable def F168 : Arguments × List Stmt × Scope := (⟨_,by conv => lhs;whnf⟩ : { x // fdOf (top 9) = x }).1
@[reducible] noncomputable def F185 : Arguments × List Stmt × Scope := (⟨_,by conv => lhs;whnf⟩ : { x // fdOf (top 14) = x }).1
@[reducible] noncomputable def F192 : Arguments × List Stmt × Scope := (⟨_,by conv => lhs;whnf⟩ : { x // fdOf (top 16) = x }).1
@[reducible] noncomputable def F199 : Arguments × List Stmt × Scope := (⟨_,by conv => lhs;whnf⟩ : { x // fdOf (top 17) = x }).1
@[reducible] noncomputable def F206 : Arguments × List Stmt × Scope := (⟨_,by conv => lhs;whnf⟩ : { x // fdOf (top 18) = x }).1
@[reducible] noncomputable def F213 : Arguments × List Stmt × Scope := (⟨_,by conv => lhs;whnf⟩ : { x // fdOf (top 19) = x }).1
@[reducible] noncomputable def F220 : Arguments × List Stmt × Scope := (⟨_,by conv => lhs;whnf⟩ : { x // fdOf (top 20) = x }).1
@[reducible] noncomputable def F227 : Arguments × List Stmt × Scope := (⟨_,by conv => lhs;whnf⟩ : { x // fdOf (top 21) = x }).1
@[reducible] noncomputable def F232 : Arguments × List Stmt × Scope := (⟨_,by conv => lhs;whnf⟩ : { x // fdOf (top 22) = x }).1
@[reducible] noncomputable def K (P : Params) : Frag :=
  (nat_lit 2,⟨.none,none,(.dict #[DictEntry.mk (PyData.keyHash P (Str.ofString "\x69mport.loaded._sre")) (.str (Str.ofString "\x69mport.loaded._sre") 183) (.bool true),DictEntry.mk (PyData.keyHash P (Str.ofString "class._frozen_importlib.BuiltinImporter")) (.str (Str.ofString "class._frozen_importlib.BuiltinImporter") 185) (.ref 14),DictEntry.mk (PyData.keyHash P (Str.ofString "watched.\x69mport")) (.str (Str.ofString "watched.\x69mport") 206) (.ref 18),DictEntry.mk (PyData.keyHash P (Str.ofString "class._frozen_importlib.ModuleSpec")) (.str (Str.ofString "class._frozen_importlib.ModuleSpec") 216) (.ref 22),DictEntry.mk (PyData.keyHash P (Str.ofString "sys.modules.booked-epoch")) (.str (Str.ofString "sys.modules.booked-epoch") 245) (.int (3) 0),DictEntry.mk (PyData.keyHash P (Str.ofString "\x69mport.later-laid._sre")) (.str (Str.ofString "\x69mport.later-laid._sre") 270) (.bool true),DictEntry.mk (PyData.keyHash P (Str.ofString "watched.library")) (.str (Str.ofString "watched.library") 272) (.ref 27),DictEntry.mk (PyData.keyHash P (Str.ofString "watched.library-objects")) (.str (Str.ofString "watched.library-objects") 0) (.str (⟨#[12]⟩ : Str) 0),DictEntry.mk (PyData.keyHash P (Str.ofString "watched.library-deep._sre")) (.str (Str.ofString "watched.library-deep._sre") 273) (.str (⟨#[4,0,0,11,4,0,0,11,4,0,0,3,4,0,0,11,8,4,100,105,99,116,2]⟩ : Str) 0)] 9),#[]⟩) ::
  (nat_lit 3,⟨(.type "dict"),none,(.dict #[DictEntry.mk (PyData.keyHash P (Str.ofString "__name__")) (.str (Str.ofString "__name__") 165) (.str (Str.ofString "law_pg0304_01") 608),DictEntry.mk (PyData.keyHash P (Str.ofString "__doc__")) (.str (Str.ofString "__doc__") 166) .none,DictEntry.mk (PyData.keyHash P (Str.ofString "__package__")) (.str (Str.ofString "__package__") 167) .none,DictEntry.mk (PyData.keyHash P (Str.ofString "__loader__")) (.str (Str.ofString "__loader__") 168) (.builtin "__main__.__loader__#opaque"),DictEntry.mk (PyData.keyHash P (Str.ofString "__spec__")) (.str (Str.ofString "__spec__") 169) .none,DictEntry.mk (PyData.keyHash P (Str.ofString "__annotations__")) (.str (Str.ofString "__annotations__") 170) (.ref 6),DictEntry.mk (PyData.keyHash P (Str.ofString "__builtins__")) (.str (Str.ofString "__builtins__") 171) (.ref 4),DictEntry.mk (PyData.keyHash P (Str.ofString "__file__")) (.str (Str.ofString "__file__") 173) (.str (Str.ofString "/claim/cut.py") 172),DictEntry.mk (PyData.keyHash P (Str.ofString "__cached__")) (.str (Str.ofString "__cached__") 174) .none,DictEntry.mk (PyData.keyHash P (Str.ofString "_sre")) (.str (Str.ofString "_sre") 275) (.ref 12),DictEntry.mk (PyData.keyHash P (Str.ofString "_wall")) (.str (Str.ofString "_wall") 288) (.ref 38),DictEntry.mk (PyData.keyHash P (Str.ofString "twin_re_1_ElementTree")) (.str (Str.ofString "twin_re_1_ElementTree") 328) (.ref 43),DictEntry.mk (PyData.keyHash P (Str.ofString "_namespace_map")) (.str (Str.ofString "_namespace_map") 350) (.ref 44),DictEntry.mk (PyData.keyHash P (Str.ofString "_raise_serialization_error")) (.str (Str.ofString "_raise_serialization_error") 357) (.ref 51),DictEntry.mk (PyData.keyHash P (Str.ofString "_looks_like_prefix_name")) (.str (Str.ofString "_looks_like_prefix_name") 359) (.ref 52),DictEntry.mk (PyData.keyHash P (Str.ofString "C14NWriterTarget")) (.str (Str.ofString "C14NWriterTarget") 524) (.ref 150),DictEntry.mk (PyData.keyHash P (Str.ofString "_escape_cdata_c14n")) (.str (Str.ofString "_escape_cdata_c14n") 531) (.ref 161),DictEntry.mk (PyData.keyHash P (Str.ofString "_escape_attrib_c14n")) (.str (Str.ofString "_escape_attrib_c14n") 538) (.ref 168),DictEntry.mk (PyData.keyHash P (Str.ofString "twin_re_1_smtplib")) (.str (Str.ofString "twin_re_1_smtplib") 556) (.ref 173),DictEntry.mk (PyData.keyHash P (Str.ofString "_twin_re_2")) (.str (Str.ofString "_twin_re_2") 598) (.ref 178),DictEntry.mk (PyData.keyHash P (Str.ofString "CRLF")) (.str (Str.ofString "CRLF") 600) (.str (⟨#[13,10]⟩ : Str) 599),DictEntry.mk (PyData.keyHash P (Str.ofString "quotedata")) (.str (Str.ofString "quotedata") 607) (.ref 185),DictEntry.mk (PyData.keyHash P (Str.ofString "_law_text")) (.str (Str.ofString "_law_text") 617) (.ref 192),DictEntry.mk (PyData.keyHash P (Str.ofString "_law_calls")) (.str (Str.ofString "_law_calls") 628) (.ref 199),DictEntry.mk (PyData.keyHash P (Str.ofString "_law_writer")) (.str (Str.ofString "_law_writer") 636) (.ref 206),DictEntry.mk (PyData.keyHash P (Str.ofString "_law_tell")) (.str (Str.ofString "_law_tell") 647) (.ref 213),DictEntry.mk (PyData.keyHash P (Str.ofString "_law_spelled")) (.str (Str.ofString "_law_spelled") 657) (.ref 220),DictEntry.mk (PyData.keyHash P (Str.ofString "_law_told")) (.str (Str.ofString "_law_told") 675) (.ref 227),DictEntry.mk (PyData.keyHash P (Str.ofString "law")) (.str (Str.ofString "law") 681) (.ref 232)] 29),#[]⟩) ::
  (nat_lit 32,⟨(.type "tuple"),none,(.seq #[] 0),#[]⟩) ::
  (nat_lit 34,⟨(.type "tuple"),none,(.seq #[(.str (Str.ofString "k") 285)] 0),#[]⟩) ::
  (nat_lit 35,⟨(.type "tuple"),none,(.seq #[] 0),#[]⟩) ::
  (nat_lit 37,⟨(.type "code"),none,(.fields #[(.str (Str.ofString "_wall") 282),(.str (Str.ofString "_wall") 283),(.str (Str.ofString "/claim/cut.py") 284),(.int (2) 0),(.int (1) 0),(.int (0) 0),(.int (0) 0),(.int (3) 0),(.ref 32),(.bool true),(.int (276) 0),(.ref 33), .none,(.ref 34),(.ref 35),(.ref 36),(.int (286) 0),(.int (2) 0),(.str (Str.ofString "/claim/cut.py") 287)]),#[]⟩) ::
  (nat_lit 38,⟨(.type "function"),none,(.func (fnOf (Str.ofString "_wall") (Str.ofString "_wall") F38.1 F38.2.1 F38.2.2 .none .none .none (.str (Str.ofString "__main__") 164) none (.ref 37) .none)),#[]⟩) ::
  (nat_lit 42,⟨(.type "tuple"),none,(.seq #[(.int (14) 0),(.int (4) 0),(.int (0) 0),(.int (3) 0),(.int (4294967295) 0),(.int (6) 0),(.int (0) 0),(.int (24) 0),(.int (9) 0),(.int (1) 0),(.int (4294967295) 0),(.int (13) 0),(.int (4) 0),(.int (8) 0),(.int (14) 0),(.int (0) 0),(.int (1) 0),(.int (16) 0),(.int (58) 0),(.int (24) 0),(.int (9) 0),(.int (1) 0),(.int (4294967295) 0),(.int (13) 0),(.int (4) 0),(.int (8) 0),(.int (14) 0),(.int (0) 0),(.int (1) 0),(.int (6) 0),(.int (5) 0),(.int (1) 0)] 0),#[]⟩) ::
  (nat_lit 43,⟨(.type "re.Pattern"),none,(.fields #[(.str (Str.ofString "^\\w+:\\w+$") 292),(.int (32) 327),(.int (0) 0), .none, .none,(.ref 42),(.int (0) 0)]),#[]⟩) ::
  (nat_lit 44,⟨(.type "dict"),none,(.dict #[DictEntry.mk (PyData.keyHash P (Str.ofString "http://www.w3.org/XML/1998/namespace")) (.str (Str.ofString "http://www.w3.org/XML/1998/namespace") 329) (.str (Str.ofString "xml") 330),DictEntry.mk (PyData.keyHash P (Str.ofString "http://www.w3.org/1999/xhtml")) (.str (Str.ofString "http://www.w3.org/1999/xhtml") 331) (.str (Str.ofString "html") 332),DictEntry.mk (PyData.keyHash P (Str.ofString "http://www.w3.org/1999/02/22-rdf-syntax-ns#")) (.str (Str.ofString "http://www.w3.org/1999/02/22-rdf-syntax-ns#") 333) (.str (Str.ofString "rdf") 334),DictEntry.mk (PyData.keyHash P (Str.ofString "http://schemas.xmlsoap.org/wsdl/")) (.str (Str.ofString "http://schemas.xmlsoap.org/wsdl/") 335) (.str (Str.ofString "wsdl") 336),DictEntry.mk (PyData.keyHash P (Str.ofString "http://www.w3.org/2001/XMLSchema")) (.str (Str.ofString "http://www.w3.org/2001/XMLSchema") 337) (.str (Str.ofString "xs") 338),DictEntry.mk (PyData.keyHash P (Str.ofString "http://www.w3.org/2001/XMLSchema-\x69nstance")) (.str (Str.ofString "http://www.w3.org/2001/XMLSchema-\x69nstance") 339) (.str (Str.ofString "xsi") 340),DictEntry.mk (PyData.keyHash P (Str.ofString "http://purl.org/dc/elements/1.1/")) (.str (Str.ofString "http://purl.org/dc/elements/1.1/") 341) (.str (Str.ofString "dc") 342)] 7),#[]⟩) ::
  (nat_lit 45,⟨(.type "tuple"),none,(.seq #[] 0),#[]⟩) ::
  (nat_lit 47,⟨(.type "tuple"),none,(.seq #[(.str (Str.ofString "text") 354)] 0),#[]⟩) ::
  (nat_lit 48,⟨(.type "tuple"),none,(.seq #[] 0),#[]⟩) ::
  (nat_lit 50,⟨(.type "code"),none,(.fields #[(.str (Str.ofString "_raise_serialization_error") 351),(.str (Str.ofString "_raise_serialization_error") 352),(.str (Str.ofString "/claim/cut.py") 353),(.int (8) 0),(.int (1) 0),(.int (0) 0),(.int (0) 0),(.int (3) 0),(.ref 45),(.bool true),(.int (276) 0),(.ref 46), .none,(.ref 47),(.ref 48),(.ref 49),(.int (355) 0),(.int (8) 0),(.str (Str.ofString "/claim/cut.py") 356)]),#[]⟩) ::
  (nat_lit 51,⟨(.type "function"),none,(.func (fnOf (Str.ofString "_raise_serialization_error") (Str.ofString "_raise_serialization_error") F51.1 F51.2.1 F51.2.2 .none .none .none (.str (Str.ofString "cpy313.xml.etree.ElementTree") 289) none (.ref 50) .none)),#[]⟩) ::
  (nat_lit 52,⟨(.type "builtin_function_or_method"),none,(.fields #[(.builtin "re.Pattern.match"),(.ref 43)]),#[]⟩) ::
  (nat_lit 60,⟨(.type "dict"),none,(.dict #[DictEntry.mk (PyData.keyHash P (Str.ofString "with_comments")) (.str (Str.ofString "with_comments") 372) (.bool false),DictEntry.mk (PyData.keyHash P (Str.ofString "strip_text")) (.str (Str.ofString "strip_text") 373) (.bool false),DictEntry.mk (PyData.keyHash P (Str.ofString "rewrite_prefixes")) (.str (Str.ofString "rewrite_prefixes") 374) (.bool false),DictEntry.mk (PyData.keyHash P (Str.ofString "qname_aware_tags")) (.str (Str.ofString "qname_aware_tags") 375) .none,DictEntry.mk (PyData.keyHash P (Str.ofString "qname_aware_attrs")) (.str (Str.ofString "qname_aware_attrs") 376) .none,DictEntry.mk (PyData.keyHash P (Str.ofString "exclude_attrs")) (.str (Str.ofString "exclude_attrs") 377) .none,DictEntry.mk (PyData.keyHash P (Str.ofString "exclude_tags")) (.str (Str.ofString "exclude_tags") 378) .none] 7),#[]⟩) ::
  (nat_lit 61,⟨(.type "tuple"),none,(.seq #[] 0),#[]⟩) ::
  (nat_lit 63,⟨(.type "tuple"),none,(.seq #[(.str (Str.ofString "self") 382),(.str (Str.ofString "write") 383),(.str (Str.ofString "with_comments") 384),(.str (Str.ofString "strip_text") 385),(.str (Str.ofString "rewrite_prefixes") 386),(.str (Str.ofString "qname_aware_tags") 387),(.str (Str.ofString "qname_aware_attrs") 388),(.str (Str.ofString "exclude_attrs") 389),(.str (Str.ofString "exclude_tags") 390)] 0),#[]⟩) ::
  (nat_lit 64,⟨(.type "tuple"),none,(.seq #[] 0),#[]⟩) ::
  (nat_lit 66,⟨(.type "code"),none,(.fields #[(.str (Str.ofString "__init__") 379),(.str (Str.ofString "C14NWriterTarget.__init__") 380),(.str (Str.ofString "/claim/cut.py") 381),(.int (13) 0),(.int (2) 0),(.int (0) 0),(.int (7) 0),(.int (3) 0),(.ref 61),(.bool true),(.int (276) 0),(.ref 62), .none,(.ref 63),(.ref 64),(.ref 65),(.int (391) 0),(.int (13) 0),(.str (Str.ofString "/claim/cut.py") 392)]),#[]⟩) ::
  (nat_lit 67,⟨(.type "function"),none,(.func (fnOf (Str.ofString "__init__") (Str.ofString "C14NWriterTarget.__init__") F67.1 F67.2.1 F67.2.2 .none (.ref 60) .none (.str (Str.ofString "cpy313.xml.etree.ElementTree") 289) none (.ref 66) .none)),#[]⟩) ::
  (nat_lit 68,⟨(.type "tuple"),none,(.seq #[(.type "reversed")] 0),#[]⟩) ::
  (nat_lit 69,⟨(.type "tuple"),none,(.seq #[] 0),#[]⟩) ::
  (nat_lit 71,⟨(.type "tuple"),none,(.seq #[(.str (Str.ofString "self") 397),(.str (Str.ofString "ns_stack") 398),(.str (Str.ofString "_reversed") 399),(.str (Str.ofString "namespaces") 400)] 0),#[]⟩) ::
  (nat_lit 72,⟨(.type "tuple"),none,(.seq #[] 0),#[]⟩) ::
  (nat_lit 74,⟨(.type "code"),none,(.fields #[(.str (Str.ofString "_iter_namespaces") 394),(.str (Str.ofString "C14NWriterTarget._iter_namespaces") 395),(.str (Str.ofString "/claim/cut.py") 396),(.int (41) 0),(.int (3) 0),(.int (0) 0),(.int (0) 0),(.int (35) 0),(.ref 69),(.bool true),(.int (276) 0),(.ref 70), .none,(.ref 71),(.ref 72),(.ref 73),(.int (401) 0),(.int (41) 0),(.str (Str.ofString "/claim/cut.py") 402)]),#[]⟩) ::
  (nat_lit 75,⟨(.type "function"),none,(.func (fnOf (Str.ofString "_iter_namespaces") (Str.ofString "C14NWriterTarget._iter_namespaces") F75.1 F75.2.1 F75.2.2 (.ref 68) .none .none (.str (Str.ofString "cpy313.xml.etree.ElementTree") 289) none (.ref 74) .none)),#[]⟩) ::
  (nat_lit 76,⟨(.type "tuple"),none,(.seq #[] 0),#[]⟩) ::
  (nat_lit 78,⟨(.type "tuple"),none,(.seq #[(.str (Str.ofString "self") 407),(.str (Str.ofString "prefixed_name") 408),(.str (Str.ofString "prefix") 409),(.str (Str.ofString "name") 410),(.str (Str.ofString "uri") 411),(.str (Str.ofString "p") 412)] 0),#[]⟩) ::
  (nat_lit 79,⟨(.type "tuple"),none,(.seq #[] 0),#[]⟩) ::
  (nat_lit 81,⟨(.type "code"),none,(.fields #[(.str (Str.ofString "_resolve_prefix_name") 404),(.str (Str.ofString "C14NWriterTarget._resolve_prefix_name") 405),(.str (Str.ofString "/claim/cut.py") 406),(.int (46) 0),(.int (2) 0),(.int (0) 0),(.int (0) 0),(.int (3) 0),(.ref 76),(.bool true),(.int (276) 0),(.ref 77), .none,(.ref 78),(.ref 79),(.ref 80),(.int (413) 0),(.int (46) 0),(.str (Str.ofString "/claim/cut.py") 414)]),#[]⟩) ::
  (nat_lit 82,⟨(.type "function"),none,(.func (fnOf (Str.ofString "_resolve_prefix_name") (Str.ofString "C14NWriterTarget._resolve_prefix_name") F82.1 F82.2.1 F82.2.2 .none .none .none (.str (Str.ofString "cpy313.xml.etree.ElementTree") 289) none (.ref 81) .none)),#[]⟩) ::
  (nat_lit 83,⟨(.type "tuple"),none,(.seq #[.none] 0),#[]⟩) ::
  (nat_lit 84,⟨(.type "tuple"),none,(.seq #[] 0),#[]⟩) ::
  (nat_lit 86,⟨(.type "tuple"),none,(.seq #[(.str (Str.ofString "self") 419),(.str (Str.ofString "qname") 420),(.str (Str.ofString "uri") 421),(.str (Str.ofString "tag") 422),(.str (Str.ofString "prefixes_seen") 423),(.str (Str.ofString "u") 424),(.str (Str.ofString "prefix") 425)] 0),#[]⟩) ::
  (nat_lit 87,⟨(.type "tuple"),none,(.seq #[] 0),#[]⟩) ::
  (nat_lit 89,⟨(.type "code"),none,(.fields #[(.str (Str.ofString "_qname") 416),(.str (Str.ofString "C14NWriterTarget._qname") 417),(.str (Str.ofString "/claim/cut.py") 418),(.int (53) 0),(.int (3) 0),(.int (0) 0),(.int (0) 0),(.int (3) 0),(.ref 84),(.bool true),(.int (276) 0),(.ref 85), .none,(.ref 86),(.ref 87),(.ref 88),(.int (426) 0),(.int (53) 0),(.str (Str.ofString "/claim/cut.py") 427)]),#[]⟩) ::
  (nat_lit 90,⟨(.type "function"),none,(.func (fnOf (Str.ofString "_qname") (Str.ofString "C14NWriterTarget._qname") F90.1 F90.2.1 F90.2.2 (.ref 83) .none .none (.str (Str.ofString "cpy313.xml.etree.ElementTree") 289) none (.ref 89) .none)),#[]⟩) ::
  (nat_lit 91,⟨(.type "tuple"),none,(.seq #[] 0),#[]⟩) ::
  (nat_lit 93,⟨(.type "tuple"),none,(.seq #[(.str (Str.ofString "self") 432),(.str (Str.ofString "data") 433)] 0),#[]⟩) ::
  (nat_lit 94,⟨(.type "tuple"),none,(.seq #[] 0),#[]⟩) ::
  (nat_lit 96,⟨(.type "code"),none,(.fields #[(.str (Str.ofString "data") 429),(.str (Str.ofString "C14NWriterTarget.data") 430),(.str (Str.ofString "/claim/cut.py") 431),(.int (80) 0),(.int (2) 0),(.int (0) 0),(.int (0) 0),(.int (3) 0),(.ref 91),(.bool true),(.int (276) 0),(.ref 92), .none,(.ref 93),(.ref 94),(.ref 95),(.int (434) 0),(.int (80) 0),(.str (Str.ofString "/claim/cut.py") 435)]),#[]⟩) ::
  (nat_lit 97,⟨(.type "function"),none,(.func (fnOf (Str.ofString "data") (Str.ofString "C14NWriterTarget.data") F97.1 F97.2.1 F97.2.2 .none .none .none (.str (Str.ofString "cpy313.xml.etree.ElementTree") 289) none (.ref 96) .none)),#[]⟩) ::
  (nat_lit 98,⟨(.type "builtin_function_or_method"),none,(.fields #[(.builtin "str.join"),(.str (Str.ofString "") 437)]),#[]⟩) ::
  (nat_lit 99,⟨(.type "tuple"),none,(.seq #[(.ref 98)] 0),#[]⟩) ::
  (nat_lit 100,⟨(.type "tuple"),none,(.seq #[] 0),#[]⟩) ::
  (nat_lit 102,⟨(.type "tuple"),none,(.seq #[(.str (Str.ofString "self") 442),(.str (Str.ofString "_join_text") 443),(.str (Str.ofString "data") 444),(.str (Str.ofString "args") 445),(.str (Str.ofString "qname_text") 446)] 0),#[]⟩) ::
  (nat_lit 103,⟨(.type "tuple"),none,(.seq #[] 0),#[]⟩) ::
  (nat_lit 105,⟨(.type "code"),none,(.fields #[(.str (Str.ofString "_flush") 439),(.str (Str.ofString "C14NWriterTarget._flush") 440),(.str (Str.ofString "/claim/cut.py") 441),(.int (84) 0),(.int (2) 0),(.int (0) 0),(.int (0) 0),(.int (3) 0),(.ref 100),(.bool true),(.int (276) 0),(.ref 101), .none,(.ref 102),(.ref 103),(.ref 104),(.int (447) 0),(.int (84) 0),(.str (Str.ofString "/claim/cut.py") 448)]),#[]⟩) ::
  (nat_lit 106,⟨(.type "function"),none,(.func (fnOf (Str.ofString "_flush") (Str.ofString "C14NWriterTarget._flush") F106.1 F106.2.1 F106.2.2 (.ref 99) .none .none (.str (Str.ofString "cpy313.xml.etree.ElementTree") 289) none (.ref 105) .none)),#[]⟩) ::
  (nat_lit 107,⟨(.type "tuple"),none,(.seq #[] 0),#[]⟩) ::
  (nat_lit 109,⟨(.type "tuple"),none,(.seq #[(.str (Str.ofString "self") 453),(.str (Str.ofString "prefix") 454),(.str (Str.ofString "uri") 455)] 0),#[]⟩) ::
  (nat_lit 110,⟨(.type "tuple"),none,(.seq #[] 0),#[]⟩) ::
  (nat_lit 112,⟨(.type "code"),none,(.fields #[(.str (Str.ofString "start_ns") 450),(.str (Str.ofString "C14NWriterTarget.start_ns") 451),(.str (Str.ofString "/claim/cut.py") 452),(.int (98) 0),(.int (3) 0),(.int (0) 0),(.int (0) 0),(.int (3) 0),(.ref 107),(.bool true),(.int (276) 0),(.ref 108), .none,(.ref 109),(.ref 110),(.ref 111),(.int (456) 0),(.int (98) 0),(.str (Str.ofString "/claim/cut.py") 457)]),#[]⟩) ::
  (nat_lit 113,⟨(.type "function"),none,(.func (fnOf (Str.ofString "start_ns") (Str.ofString "C14NWriterTarget.start_ns") F113.1 F113.2.1 F113.2.2 .none .none .none (.str (Str.ofString "cpy313.xml.etree.ElementTree") 289) none (.ref 112) .none)),#[]⟩) ::
  (nat_lit 114,⟨(.type "tuple"),none,(.seq #[] 0),#[]⟩) ::
  (nat_lit 116,⟨(.type "tuple"),none,(.seq #[(.str (Str.ofString "self") 462),(.str (Str.ofString "tag") 463),(.str (Str.ofString "attrs") 464),(.str (Str.ofString "new_namespaces") 465)] 0),#[]⟩) ::
  (nat_lit 117,⟨(.type "tuple"),none,(.seq #[] 0),#[]⟩) ::
  (nat_lit 119,⟨(.type "code"),none,(.fields #[(.str (Str.ofString "start") 459),(.str (Str.ofString "C14NWriterTarget.start") 460),(.str (Str.ofString "/claim/cut.py") 461),(.int (101) 0),(.int (3) 0),(.int (0) 0),(.int (0) 0),(.int (3) 0),(.ref 114),(.bool true),(.int (276) 0),(.ref 115), .none,(.ref 116),(.ref 117),(.ref 118),(.int (466) 0),(.int (101) 0),(.str (Str.ofString "/claim/cut.py") 467)]),#[]⟩) ::
  (nat_lit 120,⟨(.type "function"),none,(.func (fnOf (Str.ofString "start") (Str.ofString "C14NWriterTarget.start") F120.1 F120.2.1 F120.2.2 .none .none .none (.str (Str.ofString "cpy313.xml.etree.ElementTree") 289) none (.ref 119) .none)),#[]⟩) ::
  (nat_lit 121,⟨(.type "tuple"),none,(.seq #[.none] 0),#[]⟩) ::
  (nat_lit 122,⟨(.type "tuple"),none,(.seq #[] 0),#[]⟩) ::
  (nat_lit 125,⟨(.type "code"),none,(.fields #[(.str (Str.ofString "_start") 469),(.str (Str.ofString "C14NWriterTarget._start") 470),(.str (Str.ofString "/claim/cut.py") 471),(.int (114) 0),(.int (5) 0),(.int (0) 0),(.int (0) 0),(.int (3) 0),(.ref 122),(.bool true),(.int (276) 0),(.ref 123), .none, .none, .none,(.ref 124),(.int (472) 0),(.int (114) 0),(.str (Str.ofString "/claim/cut.py") 473)]),#[]⟩) ::
  (nat_lit 126,⟨(.type "function"),none,(.func (fnOf (Str.ofString "_start") (Str.ofString "C14NWriterTarget._start") F126.1 F126.2.1 F126.2.2 (.ref 121) .none .none (.str (Str.ofString "cpy313.xml.etree.ElementTree") 289) none (.ref 125) .none)),#[]⟩) ::
  (nat_lit 127,⟨(.type "tuple"),none,(.seq #[] 0),#[]⟩) ::
  (nat_lit 129,⟨(.type "tuple"),none,(.seq #[(.str (Str.ofString "self") 478),(.str (Str.ofString "tag") 479)] 0),#[]⟩) ::
  (nat_lit 130,⟨(.type "tuple"),none,(.seq #[] 0),#[]⟩) ::
  (nat_lit 132,⟨(.type "code"),none,(.fields #[(.str (Str.ofString "end") 475),(.str (Str.ofString "C14NWriterTarget.end") 476),(.str (Str.ofString "/claim/cut.py") 477),(.int (159) 0),(.int (2) 0),(.int (0) 0),(.int (0) 0),(.int (3) 0),(.ref 127),(.bool true),(.int (276) 0),(.ref 128), .none,(.ref 129),(.ref 130),(.ref 131),(.int (480) 0),(.int (159) 0),(.str (Str.ofString "/claim/cut.py") 481)]),#[]⟩) ::
  (nat_lit 133,⟨(.type "function"),none,(.func (fnOf (Str.ofString "end") (Str.ofString "C14NWriterTarget.end") F133.1 F133.2.1 F133.2.2 .none .none .none (.str (Str.ofString "cpy313.xml.etree.ElementTree") 289) none (.ref 132) .none)),#[]⟩) ::
  (nat_lit 134,⟨(.type "tuple"),none,(.seq #[] 0),#[]⟩) ::
  (nat_lit 136,⟨(.type "tuple"),none,(.seq #[(.str (Str.ofString "self") 486),(.str (Str.ofString "text") 487)] 0),#[]⟩) ::
  (nat_lit 137,⟨(.type "tuple"),none,(.seq #[] 0),#[]⟩) ::
  (nat_lit 139,⟨(.type "code"),none,(.fields #[(.str (Str.ofString "comment") 483),(.str (Str.ofString "C14NWriterTarget.comment") 484),(.str (Str.ofString "/claim/cut.py") 485),(.int (171) 0),(.int (2) 0),(.int (0) 0),(.int (0) 0),(.int (3) 0),(.ref 134),(.bool true),(.int (276) 0),(.ref 135), .none,(.ref 136),(.ref 137),(.ref 138),(.int (488) 0),(.int (171) 0),(.str (Str.ofString "/claim/cut.py") 489)]),#[]⟩) ::
  (nat_lit 140,⟨(.type "function"),none,(.func (fnOf (Str.ofString "comment") (Str.ofString "C14NWriterTarget.comment") F140.1 F140.2.1 F140.2.2 .none .none .none (.str (Str.ofString "cpy313.xml.etree.ElementTree") 289) none (.ref 139) .none)),#[]⟩) ::
  (nat_lit 141,⟨(.type "tuple"),none,(.seq #[] 0),#[]⟩) ::
  (nat_lit 143,⟨(.type "tuple"),none,(.seq #[(.str (Str.ofString "self") 494),(.str (Str.ofString "target") 495),(.str (Str.ofString "data") 496)] 0),#[]⟩) ::
  (nat_lit 144,⟨(.type "tuple"),none,(.seq #[] 0),#[]⟩) ::
  (nat_lit 146,⟨(.type "code"),none,(.fields #[(.str (Str.ofString "pi") 491),(.str (Str.ofString "C14NWriterTarget.pi") 492),(.str (Str.ofString "/claim/cut.py") 493),(.int (184) 0),(.int (3) 0),(.int (0) 0),(.int (0) 0),(.int (3) 0),(.ref 141),(.bool true),(.int (276) 0),(.ref 142), .none,(.ref 143),(.ref 144),(.ref 145),(.int (497) 0),(.int (184) 0),(.str (Str.ofString "/claim/cut.py") 498)]),#[]⟩) ::
  (nat_lit 147,⟨(.type "function"),none,(.func (fnOf (Str.ofString "pi") (Str.ofString "C14NWriterTarget.pi") F147.1 F147.2.1 F147.2.2 .none .none .none (.str (Str.ofString "cpy313.xml.etree.ElementTree") 289) none (.ref 146) .none)),#[]⟩) ::
  (nat_lit 148,⟨(.type "tuple"),none,(.seq #[(.str (Str.ofString "_data") 500),(.str (Str.ofString "_declared_ns_stack") 501),(.str (Str.ofString "_exclude_attrs") 502),(.str (Str.ofString "_exclude_tags") 503),(.str (Str.ofString "_find_qname_aware_attrs") 504),(.str (Str.ofString "_ignored_depth") 505),(.str (Str.ofString "_ns_stack") 506),(.str (Str.ofString "_pending_start") 507),(.str (Str.ofString "_prefix_map") 508),(.str (Str.ofString "_preserve_space") 509),(.str (Str.ofString "_qname_aware_tags") 510),(.str (Str.ofString "_rewrite_prefixes") 511),(.str (Str.ofString "_root_done") 512),(.str (Str.ofString "_root_seen") 513),(.str (Str.ofString "_strip_text") 514),(.str (Str.ofString "_with_comments") 515),(.str (Str.ofString "_write") 516)] 0),#[]⟩) ::
  (nat_lit 149,⟨(.type "dict"),none,(.dict #[DictEntry.mk (PyData.keyHash P (Str.ofString "__module__")) (.str (Str.ofString "__module__") 367) (.str (Str.ofString "cpy313.xml.etree.ElementTree") 289),DictEntry.mk (PyData.keyHash P (Str.ofString "__firstlineno__")) (.str (Str.ofString "__firstlineno__") 371) (.int (11) 370),DictEntry.mk (PyData.keyHash P (Str.ofString "__init__")) (.str (Str.ofString "__init__") 393) (.ref 67),DictEntry.mk (PyData.keyHash P (Str.ofString "_iter_namespaces")) (.str (Str.ofString "_iter_namespaces") 403) (.ref 75),DictEntry.mk (PyData.keyHash P (Str.ofString "_resolve_prefix_name")) (.str (Str.ofString "_resolve_prefix_name") 415) (.ref 82),DictEntry.mk (PyData.keyHash P (Str.ofString "_qname")) (.str (Str.ofString "_qname") 428) (.ref 90),DictEntry.mk (PyData.keyHash P (Str.ofString "data")) (.str (Str.ofString "data") 436) (.ref 97),DictEntry.mk (PyData.keyHash P (Str.ofString "_flush")) (.str (Str.ofString "_flush") 449) (.ref 106),DictEntry.mk (PyData.keyHash P (Str.ofString "start_ns")) (.str (Str.ofString "start_ns") 458) (.ref 113),DictEntry.mk (PyData.keyHash P (Str.ofString "start")) (.str (Str.ofString "start") 468) (.ref 120),DictEntry.mk (PyData.keyHash P (Str.ofString "_start")) (.str (Str.ofString "_start") 474) (.ref 126),DictEntry.mk (PyData.keyHash P (Str.ofString "end")) (.str (Str.ofString "end") 482) (.ref 133),DictEntry.mk (PyData.keyHash P (Str.ofString "comment")) (.str (Str.ofString "comment") 490) (.ref 140),DictEntry.mk (PyData.keyHash P (Str.ofString "pi")) (.str (Str.ofString "pi") 499) (.ref 147),DictEntry.mk (PyData.keyHash P (Str.ofString "__static_attributes__")) (.str (Str.ofString "__static_attributes__") 517) (.ref 148),DictEntry.mk (PyData.keyHash P (Str.ofString "__dict__")) (.str (Str.ofString "__dict__") 519) (.ref 151),DictEntry.mk (PyData.keyHash P (Str.ofString "__weakref__")) (.str (Str.ofString "__weakref__") 521) (.ref 152),DictEntry.mk (PyData.keyHash P (Str.ofString "__doc__")) (.str (Str.ofString "__doc__") 522) .none] 4),#[]⟩) ::
  (nat_lit 150,⟨(.type "type"),none,(.cls { name := Str.ofString "C14NWriterTarget",bases := [.type "object"],mro := [.ref 150, .type "object"],ns := 149,qualname := Str.ofString "C14NWriterTarget" }),#[none,none,(some (.str (Str.ofString "C14NWriterTarget") 360)),(some (.str (Str.ofString "C14NWriterTarget") 368)),(some (.builtin "object.__new__")),(some (.bool true))]⟩) ::
  (nat_lit 151,⟨(.type "getset_descriptor"),none,(.fields #[(.str (Str.ofString "__dict__") 518),(.ref 150),(.builtin "function.__dict__"),(.builtin "function.__dict__#set")]),#[]⟩) ::
  (nat_lit 152,⟨(.type "getset_descriptor"),none,(.fields #[(.str (Str.ofString "__weakref__") 520),(.ref 150),(.builtin "ExceptionGroup.__weakref__"), .none]),#[]⟩) ::
  (nat_lit 155,⟨(.type "tuple"),none,(.seq #[] 0),#[]⟩) ::
  (nat_lit 157,⟨(.type "tuple"),none,(.seq #[(.str (Str.ofString "text") 528)] 0),#[]⟩) ::
  (nat_lit 158,⟨(.type "tuple"),none,(.seq #[] 0),#[]⟩) ::
  (nat_lit 160,⟨(.type "code"),none,(.fields #[(.str (Str.ofString "_escape_cdata_c14n") 525),(.str (Str.ofString "_escape_cdata_c14n") 526),(.str (Str.ofString "/claim/cut.py") 527),(.int (194) 0),(.int (1) 0),(.int (0) 0),(.int (0) 0),(.int (3) 0),(.ref 155),(.bool true),(.int (276) 0),(.ref 156), .none,(.ref 157),(.ref 158),(.ref 159),(.int (529) 0),(.int (194) 0),(.str (Str.ofString "/claim/cut.py") 530)]),#[]⟩) ::
  (nat_lit 161,⟨(.type "function"),none,(.func (fnOf (Str.ofString "_escape_cdata_c14n") (Str.ofString "_escape_cdata_c14n") F161.1 F161.2.1 F161.2.2 .none .none .none (.str (Str.ofString "cpy313.xml.etree.ElementTree") 289) none (.ref 160) .none)),#[]⟩) ::
  (nat_lit 162,⟨(.type "tuple"),none,(.seq #[] 0),#[]⟩) ::
  (nat_lit 164,⟨(.type "tuple"),none,(.seq #[(.str (Str.ofString "text") 535)] 0),#[]⟩) ::
  (nat_lit 165,⟨(.type "tuple"),none,(.seq #[] 0),#[]⟩) ::
  (nat_lit 167,⟨(.type "code"),none,(.fields #[(.str (Str.ofString "_escape_attrib_c14n") 532),(.str (Str.ofString "_escape_attrib_c14n") 533),(.str (Str.ofString "/claim/cut.py") 534),(.int (207) 0),(.int (1) 0),(.int (0) 0),(.int (0) 0),(.int (3) 0),(.ref 162),(.bool true),(.int (276) 0),(.ref 163), .none,(.ref 164),(.ref 165),(.ref 166),(.int (536) 0),(.int (207) 0),(.str (Str.ofString "/claim/cut.py") 537)]),#[]⟩) ::
  (nat_lit 168,⟨(.type "function"),none,(.func (fnOf (Str.ofString "_escape_attrib_c14n") (Str.ofString "_escape_attrib_c14n") F168.1 F168.2.1 F168.2.2 .none .none .none (.str (Str.ofString "cpy313.xml.etree.ElementTree") 289) none (.ref 167) .none)),#[]⟩) ::
  (nat_lit 172,⟨(.type "tuple"),none,(.seq #[(.int (14) 0),(.int (4) 0),(.int (0) 0),(.int (1) 0),(.int (1) 0),(.int (6) 0),(.int (1) 0),(.int (16) 0),(.int (46) 0),(.int (1) 0)] 0),#[]⟩) ::
  (nat_lit 173,⟨(.type "re.Pattern"),none,(.fields #[(.str (Str.ofString "(?m)^\\.") 542),(.int (40) 555),(.int (0) 0), .none, .none,(.ref 172),(.int (0) 0)]),#[]⟩) ::
  (nat_lit 177,⟨(.type "tuple"),none,(.seq #[(.int (14) 0),(.int (9) 0),(.int (4) 0),(.int (1) 0),(.int (2) 0),(.int (16) 0),(.int (10) 0),(.int (16) 0),(.int (13) 0),(.int (0) 0),(.int (7) 0),(.int (7) 0),(.int (16) 0),(.int (13) 0),(.int (16) 0),(.int (10) 0),(.int (15) 0),(.int (18) 0),(.int (5) 0),(.int (16) 0),(.int (10) 0),(.int (15) 0),(.int (13) 0),(.int (11) 0),(.int (16) 0),(.int (13) 0),(.int (5) 0),(.int (5) 0),(.int (0) 0),(.int (16) 0),(.int (10) 0),(.int (1) 0),(.int (15) 0),(.int (2) 0),(.int (0) 0),(.int (1) 0)] 0),#[]⟩) ::
  (nat_lit 178,⟨(.type "re.Pattern"),none,(.fields #[(.str (Str.ofString "(?:\\r\\n|\\n|\\r(?!\\n))") 558),(.int (32) 597),(.int (0) 0), .none, .none,(.ref 177),(.int (0) 0)]),#[]⟩) ::
  (nat_lit 179,⟨(.type "tuple"),none,(.seq #[] 0),#[]⟩) ::
  (nat_lit 181,⟨(.type "tuple"),none,(.seq #[(.str (Str.ofString "data") 604)] 0),#[]⟩) ::
  (nat_lit 182,⟨(.type "tuple"),none,(.seq #[] 0),#[]⟩) ::
  (nat_lit 184,⟨(.type "code"),none,(.fields #[(.str (Str.ofString "quotedata") 601),(.str (Str.ofString "quotedata") 602),(.str (Str.ofString "/claim/cut.py") 603),(.int (228) 0),(.int (1) 0),(.int (0) 0),(.int (0) 0),(.int (3) 0),(.ref 179),(.bool true),(.int (276) 0),(.ref 180), .none,(.ref 181),(.ref 182),(.ref 183),(.int (605) 0),(.int (228) 0),(.str (Str.ofString "/claim/cut.py") 606)]),#[]⟩) ::
  (nat_lit 185,⟨(.type "function"),none,(.func (fnOf (Str.ofString "quotedata") (Str.ofString "quotedata") F185.1 F185.2.1 F185.2.2 .none .none .none (.str (Str.ofString "cpy313.smtplib") 539) none (.ref 184) .none)),#[]⟩) ::
  (nat_lit 186,⟨(.type "tuple"),none,(.seq #[] 0),#[]⟩) ::
  (nat_lit 188,⟨(.type "tuple"),none,(.seq #[(.str (Str.ofString "q") 613),(.str (Str.ofString "pieces") 614)] 0),#[]⟩) ::
  (nat_lit 189,⟨(.type "tuple"),none,(.seq #[] 0),#[]⟩) ::
  (nat_lit 191,⟨(.type "code"),none,(.fields #[(.str (Str.ofString "_law_text") 610),(.str (Str.ofString "_law_text") 611),(.str (Str.ofString "/claim/cut.py") 612),(.int (231) 0),(.int (1) 0),(.int (0) 0),(.int (0) 0),(.int (3) 0),(.ref 186),(.bool true),(.int (276) 0),(.ref 187), .none,(.ref 188),(.ref 189),(.ref 190),(.int (615) 0),(.int (231) 0),(.str (Str.ofString "/claim/cut.py") 616)]),#[]⟩) ::
  (nat_lit 192,⟨(.type "function"),none,(.func (fnOf (Str.ofString "_law_text") (Str.ofString "_law_text") F192.1 F192.2.1 F192.2.2 .none .none .none (.str (Str.ofString "law_pg0304_01") 608) none (.ref 191) .none)),#[]⟩) ::
  (nat_lit 193,⟨(.type "tuple"),none,(.seq #[] 0),#[]⟩) ::
  (nat_lit 195,⟨(.type "tuple"),none,(.seq #[(.str (Str.ofString "numbers") 621),(.str (Str.ofString "calls") 622),(.str (Str.ofString "within") 623),(.str (Str.ofString "d") 624),(.str (Str.ofString "text") 625)] 0),#[]⟩) ::
  (nat_lit 196,⟨(.type "tuple"),none,(.seq #[] 0),#[]⟩) ::
  (nat_lit 198,⟨(.type "code"),none,(.fields #[(.str (Str.ofString "_law_calls") 618),(.str (Str.ofString "_law_calls") 619),(.str (Str.ofString "/claim/cut.py") 620),(.int (234) 0),(.int (1) 0),(.int (0) 0),(.int (0) 0),(.int (3) 0),(.ref 193),(.bool true),(.int (276) 0),(.ref 194), .none,(.ref 195),(.ref 196),(.ref 197),(.int (626) 0),(.int (234) 0),(.str (Str.ofString "/claim/cut.py") 627)]),#[]⟩) ::
  (nat_lit 199,⟨(.type "function"),none,(.func (fnOf (Str.ofString "_law_calls") (Str.ofString "_law_calls") F199.1 F199.2.1 F199.2.2 .none .none .none (.str (Str.ofString "law_pg0304_01") 608) none (.ref 198) .none)),#[]⟩) ::
  (nat_lit 200,⟨(.type "tuple"),none,(.seq #[] 0),#[]⟩) ::
  (nat_lit 202,⟨(.type "tuple"),none,(.seq #[(.str (Str.ofString "write") 632),(.str (Str.ofString "writer") 633)] 0),#[]⟩) ::
  (nat_lit 203,⟨(.type "tuple"),none,(.seq #[] 0),#[]⟩) ::
  (nat_lit 205,⟨(.type "code"),none,(.fields #[(.str (Str.ofString "_law_writer") 629),(.str (Str.ofString "_law_writer") 630),(.str (Str.ofString "/claim/cut.py") 631),(.int (252) 0),(.int (1) 0),(.int (0) 0),(.int (0) 0),(.int (3) 0),(.ref 200),(.bool true),(.int (276) 0),(.ref 201), .none,(.ref 202),(.ref 203),(.ref 204),(.int (634) 0),(.int (252) 0),(.str (Str.ofString "/claim/cut.py") 635)]),#[]⟩) ::
  (nat_lit 206,⟨(.type "function"),none,(.func (fnOf (Str.ofString "_law_writer") (Str.ofString "_law_writer") F206.1 F206.2.1 F206.2.2 .none .none .none (.str (Str.ofString "law_pg0304_01") 608) none (.ref 205) .none)),#[]⟩) ::
  (nat_lit 207,⟨(.type "tuple"),none,(.seq #[] 0),#[]⟩) ::
  (nat_lit 209,⟨(.type "tuple"),none,(.seq #[(.str (Str.ofString "writer") 640),(.str (Str.ofString "calls") 641),(.str (Str.ofString "kind") 642),(.str (Str.ofString "name") 643),(.str (Str.ofString "text") 644)] 0),#[]⟩) ::
  (nat_lit 210,⟨(.type "tuple"),none,(.seq #[] 0),#[]⟩) ::
  (nat_lit 212,⟨(.type "code"),none,(.fields #[(.str (Str.ofString "_law_tell") 637),(.str (Str.ofString "_law_tell") 638),(.str (Str.ofString "/claim/cut.py") 639),(.int (256) 0),(.int (2) 0),(.int (0) 0),(.int (0) 0),(.int (3) 0),(.ref 207),(.bool true),(.int (276) 0),(.ref 208), .none,(.ref 209),(.ref 210),(.ref 211),(.int (645) 0),(.int (256) 0),(.str (Str.ofString "/claim/cut.py") 646)]),#[]⟩) ::
  (nat_lit 213,⟨(.type "function"),none,(.func (fnOf (Str.ofString "_law_tell") (Str.ofString "_law_tell") F213.1 F213.2.1 F213.2.2 .none .none .none (.str (Str.ofString "law_pg0304_01") 608) none (.ref 212) .none)),#[]⟩) ::
  (nat_lit 214,⟨(.type "tuple"),none,(.seq #[] 0),#[]⟩) ::
  (nat_lit 216,⟨(.type "tuple"),none,(.seq #[(.str (Str.ofString "text") 651),(.str (Str.ofString "names") 652),(.str (Str.ofString "told") 653),(.str (Str.ofString "sign") 654)] 0),#[]⟩) ::
  (nat_lit 217,⟨(.type "tuple"),none,(.seq #[] 0),#[]⟩) ::
  (nat_lit 219,⟨(.type "code"),none,(.fields #[(.str (Str.ofString "_law_spelled") 648),(.str (Str.ofString "_law_spelled") 649),(.str (Str.ofString "/claim/cut.py") 650),(.int (268) 0),(.int (2) 0),(.int (0) 0),(.int (0) 0),(.int (3) 0),(.ref 214),(.bool true),(.int (276) 0),(.ref 215), .none,(.ref 216),(.ref 217),(.ref 218),(.int (655) 0),(.int (268) 0),(.str (Str.ofString "/claim/cut.py") 656)]),#[]⟩) ::
  (nat_lit 220,⟨(.type "function"),none,(.func (fnOf (Str.ofString "_law_spelled") (Str.ofString "_law_spelled") F220.1 F220.2.1 F220.2.2 .none .none .none (.str (Str.ofString "law_pg0304_01") 608) none (.ref 219) .none)),#[]⟩) ::
  (nat_lit 221,⟨(.type "tuple"),none,(.seq #[] 0),#[]⟩) ::
  (nat_lit 223,⟨(.type "tuple"),none,(.seq #[(.str (Str.ofString "calls") 661),(.str (Str.ofString "names") 662),(.str (Str.ofString "values") 663),(.str (Str.ofString "whole") 664),(.str (Str.ofString "straight") 665),(.str (Str.ofString "held") 666),(.str (Str.ofString "depth") 667),(.str (Str.ofString "behind") 668),(.str (Str.ofString "kind") 669),(.str (Str.ofString "name") 670),(.str (Str.ofString "text") 671),(.str (Str.ofString "told") 672)] 0),#[]⟩) ::
  (nat_lit 224,⟨(.type "tuple"),none,(.seq #[] 0),#[]⟩) ::
  (nat_lit 226,⟨(.type "code"),none,(.fields #[(.str (Str.ofString "_law_told") 658),(.str (Str.ofString "_law_told") 659),(.str (Str.ofString "/claim/cut.py") 660),(.int (280) 0),(.int (1) 0),(.int (0) 0),(.int (0) 0),(.int (3) 0),(.ref 221),(.bool true),(.int (276) 0),(.ref 222), .none,(.ref 223),(.ref 224),(.ref 225),(.int (673) 0),(.int (280) 0),(.str (Str.ofString "/claim/cut.py") 674)]),#[]⟩) ::
  (nat_lit 227,⟨(.type "function"),none,(.func (fnOf (Str.ofString "_law_told") (Str.ofString "_law_told") F227.1 F227.2.1 F227.2.2 .none .none .none (.str (Str.ofString "law_pg0304_01") 608) none (.ref 226) .none)),#[]⟩) ::
  (nat_lit 228,⟨(.type "tuple"),none,(.seq #[] 0),#[]⟩) ::
  (nat_lit 231,⟨(.type "code"),none,(.fields #[(.str (Str.ofString "law") 676),(.str (Str.ofString "law") 677),(.str (Str.ofString "/claim/cut.py") 678),(.int (320) 0),(.int (1) 0),(.int (0) 0),(.int (0) 0),(.int (3) 0),(.ref 228),(.bool true),(.int (276) 0),(.ref 229), .none, .none, .none,(.ref 230),(.int (679) 0),(.int (320) 0),(.str (Str.ofString "/claim/cut.py") 680)]),#[]⟩) ::
  (nat_lit 232,⟨(.type "function"),none,(.func (fnOf (Str.ofString "law") (Str.ofString "law") F232.1 F232.2.1 F232.2.2 .none .none .none (.str (Str.ofString "law_pg0304_01") 608) none (.ref 231) .none)),#[]⟩) :: []
noncomputable abbrev pw : Program := PySem.Challenge.pw_pg0304_01
noncomputable def qv : Program := { pw with main := { pw.main with body := [top 0,top 22] } }
noncomputable def loose : List Str := ["_wall","twin_re_1_ElementTree","_namespace_map","_raise_serialization_error","_looks_like_prefix_name","C14NWriterTarget","_escape_cdata_c14n","_escape_attrib_c14n","twin_re_1_smtplib","_twin_re_2","CRLF","quotedata","_law_text","_law_calls","_law_writer","_law_tell","_law_spelled","_law_told"]
noncomputable abbrev as : List Addr := [2,3,32,34,35,37,38,42,43,44,45,47,48,50,51,52,60,61,63,64,66,67,68,69,71,72,74,75,76,78,79,81,82,83,84,86,87,89,90,91,93,94,96,97,98,99,100,102,103,105,106,107,109,110,112,113,114,116,117,119,120,121,122,125,126,127,129,130,132,133,134,136,137,139,140,141,143,144,146,147,148,149,150,151,152,155,157,158,160,161,162,164,165,167,168,172,173,177,178,179,181,182,184,185,186,188,189,191,192,193,195,196,198,199,200,202,203,205,206,207,209,210,212,213,214,216,217,219,220,221,223,224,226,227,228,231,232]
theorem as_is : ∀ P,as = (K P).map (·.1) := fun _ => by kernel_rfl
noncomputable abbrev hook : Hook := kmHook K as as_is [123,201]
end
section
open PySem PySem.W PyProof.Rows
noncomputable abbrev allR := allG impGoT start Thread.atExitBegin fenceModules? Heap.nsMap importedModules stepOk stepT denote treeTable
open PySem.W.Fast in
noncomputable abbrev allQ := allG tw14789777615569096658 tw1435165496053646825 tw3805553451399329143 tw14289696077712309145 tw8920871248978507458 tw5923862056798008813 tw6613529449190102663 tw10156331382660048174 tw11892475500146522536 tw14364793385576792824
open PySem.W.Fast in
theorem all_twin : allR = allQ := by
  unfold allR allQ
  rw [te14789777615569096658,te1435165496053646825,te3805553451399329143,te14289696077712309145,te8920871248978507458,te5923862056798008813,te6613529449190102663,te10156331382660048174,te11892475500146522536,te14364793385576792824]
noncomputable def S0 : SharedT := ⟨.nil,0,{},#[],{},1,{ stdin := pw.given.stdin.toArray }⟩
theorem S0_is : S0.abs = (start (opening pw)).1 := by
  rfl
noncomputable abbrev seesR (s : Shared) := (openSeen qv loose (importedModules pw.main.body) (fun s => xlAt qv [] s && recOk (RowW.records PySem.Challenge.rw_pg0304_01.row.toRowW) s) true s,hook.obs s)
open PySem.W.Fast in
noncomputable abbrev seesQ (s : Shared) := (tw4187177175401517315 qv loose (importedModules pw.main.body) (fun s => xlAt qv [] s && recOk (RowW.records PySem.Challenge.rw_pg0304_01.row.toRowW) s) true s,hook.obs s)
open PySem.W.Fast in
theorem sees_twin : seesR = seesQ := by
  unfold seesR seesQ
  rw [te4187177175401517315]
theorem at_once : ∀ (b : Bool) (w : World),((allQ pw (w.withFollow "special-get-raises" b) 798 1600 S0).map fun s => seesQ s.abs) = some (openGood qv loose,hook.val (w.withFollow "special-get-raises" b))
  | true,_ => by kernel_rfl
  | false,_ => by kernel_rfl
theorem left : LeftO pw qv loose (fun s => xlAt qv [] s && recOk (RowW.records PySem.Challenge.rw_pg0304_01.row.toRowW) s) hook.obs hook.val 1600 := by
  intro w
  have h : ((allR pw w 798 1600 S0).map fun s => seesR s.abs) = some (openGood qv loose,hook.val w) := by
    rw [all_twin,sees_twin]
    exact byRow2 "special-get-raises" (P := fun w => ((allQ pw w 798 1600 S0).map fun s => seesQ s.abs) = some (openGood qv loose,hook.val w)) (at_once false) (at_once true) w
  obtain ⟨sF,e1,e2⟩ := Option.map_eq_some_iff.mp h
  rw [all_of S0_is (by decide) e1]
  exact congrArg some e2
end
section
open PySem PySem.W PyProof.Rows
open PySem.W.Fast in
theorem said : PySem.Challenge.rw_pg0304_01.wellSaid = true := by
  rw [te9446332074065402090]
  kernel_rfl
theorem lawDef : defOf qv (PySem.Challenge.rw_pg0304_01.row.name) = some (⟨"law",F232.1,F232.2.1,F232.2.2,⟨320,0,332,100⟩⟩,[]) := by kernel_rfl
theorem promised : PySem.Challenge.rw_pg0304_01.row.toRowW.promised := by w_witness2
theorem hd (walk : WalkO qv loose (XL qv []) hook.says PySem.Challenge.rw_pg0304_01.row.toRowW ⟨"law",F232.1,F232.2.1,F232.2.2,⟨320,0,332,100⟩⟩ [] fun f vs => PySem.call f vs) : PySem.Challenge.rw_pg0304_01.Holds := by
  refine holds_law said fun said => ?_
  exact holds_open (q := qv) (loose := loose) (Xt := fun s => xlAt qv [] s && recOk (RowW.records PySem.Challenge.rw_pg0304_01.row.toRowW) s) (XP := XL qv []) (Yf := hook.obs) (Ya := hook.val) (YP := hook.says) (N := 1600) left hook.of hook.keeps
    (fun s e => xl_of s (Bool.and_eq_true_iff.mp e).1) XL.keeps lawDef (by kernel_rfl) (by kernel_rfl) (fun s e => recFacts_of (Bool.and_eq_true_iff.mp e).2) (by kernel_rfl) said (by decide +kernel) ⟨rfl,rfl,rfl,rfl,rfl,by decide +kernel⟩ promised walk
end
section
open PySem PySem.W PyProof.Rows
noncomputable abbrev prog : Program := PySem.Challenge.rw_pg0304_01.row.prog
noncomputable def lw : List Str := looseW qv loose ++ (recsOf qv).map (·.name) ++ (litsOf qv).map (·.1) ++ (clssOf qv (looseW qv loose)).map (·.name)
theorem leT {a b : Nat} (h : a ≤ b) : a ≤ b := h
def Same (s s' : Shared) : Prop := s'.gens = s.gens ∧ s'.os = s.os
theorem Same.rfl {s : Shared} : Same s s := ⟨_root_.rfl,_root_.rfl⟩
theorem Same.trans {s s' s'' : Shared} (a : Same s s') (b : Same s' s'') : Same s s'' := ⟨b.1.trans a.1,b.2.trans a.2⟩
def Spec (w : World) (f : Addr) (d u : Nat) (news : List (Addr × Obj)) (args : List Value) (Ret : Value → List (Addr × Obj) → Prop) : Prop :=
  ∀ (mean : ExcName → Option Value) (mg mb : Str → Option Value) (dp un : Nat) (gd : Option (List Code)) (cn : Str) (cs : Scope) (a : Addr) (ccd : Value) (cl : List (Str × Addr)) (outer : List Env) (A₀ : Around) (base h₀ : Heap) (L : Addr) (m : Str → Option Value) (s : Shared) (R : Result → Shared → Prop),
    Below A₀ base outer h₀ → Fr h₀ L s.heap m → (K w.params).In h₀ → News h₀ L s.heap news → Top topProg lw mean mg mb h₀ → cs.kind = .function → 1 ≤ s.toks → dp + d < recursionLimit → un + u < cLine →
    (∀ v news' s',Ret v news' → Same s s' → Fr h₀ L s'.heap m → News h₀ L s'.heap news' → R (.ok (.ret v)) s') →
    codeAny (model PySem.Challenge.rw_pg0304_01.row.prog w) (ktrTop dp un gd cn cs L a ccd cl outer) (.call (.ref f) ⟨args,[]⟩) R s
section
variable {w : World} {f : Addr} {d u : Nat} {news : List (Addr × Obj)} {args : List Value} {Ret : Value → List (Addr × Obj) → Prop} {mean : ExcName → Option Value} {mg mb : Str → Option Value} {dp un : Nat} {gd : Option (List Code)} {cn : Str} {cs : Scope} {a : Addr} {ccd : Value} {cl : List (Str × Addr)} {outer : List Env} {A₀ : Around} {base h₀ : Heap} {L : Addr} {m : Str → Option Value} {s : Shared} {Q E : Value → Shared → Prop}
theorem Spec.call (S : Spec w f d u news args Ret) (B : Below A₀ base outer h₀) (F : Fr h₀ L s.heap m) (X : (K w.params).In h₀) (N : News h₀ L s.heap news) (T : Top topProg lw mean mg mb h₀) (hk : cs.kind = .function) (ht : 1 ≤ s.toks) (hd : dp + d < recursionLimit) (hu : un + u < cLine)
    (h : ∀ v news' s',Ret v news' → Same s s' → Fr h₀ L s'.heap m → News h₀ L s'.heap news' → 1 ≤ s'.toks → Q v s') :
    wpAny (model PySem.Challenge.rw_pg0304_01.row.prog w) (ktrTop dp un gd cn cs L a ccd cl outer) (call (.ref f) args) Q E s :=
  wpAny_with_toks ht (wpAny_call (S mean mg mb dp un gd cn cs a ccd cl outer A₀ base h₀ L m s _ B F X N T hk ht hd hu fun v news' s' r e F' N' tk => h v news' s' r e F' N' tk))
theorem Spec.meth {q : Addr} {self : Value} {rest : List Value} (S : Spec w f d u news (self :: rest) Ret) (B : Below A₀ base outer h₀) (F : Fr h₀ L s.heap m) (X : (K w.params).In h₀) (N : News h₀ L s.heap news) (hq : (q, methodObj (.ref f) self) ∈ news) (T : Top topProg lw mean mg mb h₀) (hk : cs.kind = .function) (ht : 1 ≤ s.toks) (hd : dp + d < recursionLimit) (hu : un + u < cLine)
    (h : ∀ v news' s',Ret v news' → Same s s' → Fr h₀ L s'.heap m → News h₀ L s'.heap news' → 1 ≤ s'.toks → Q v s') :
    wpAny (model PySem.Challenge.rw_pg0304_01.row.prog w) (ktrTop dp un gd cn cs L a ccd cl outer) (PySem.call (.ref q) rest) Q E s :=
  wpAny_with_toks ht (call_meth N hq (S mean mg mb dp un gd cn cs a ccd cl outer A₀ base h₀ L m s _ B F X N T hk ht hd hu fun v news' s' r e F' N' tk => h v news' s' r e F' N' tk))
end
section
variable {M : Model} {A : Around} {E : Value → Shared → Prop} {s : Shared} {env : Env}
theorem cut_stmt {st : Stmt} {rest : List Stmt} {Q : Flow → Shared → Prop} (P : Shared → Prop) (ht : 1 ≤ s.toks) (h1 : wpAny M A (exec st env) (fun f s' => f = .next ∧ P s') E s)
    (h2 : ∀ s',1 ≤ s'.toks → P s' → wpAny M A (execs rest env) Q E s') : wpAny M A (execs (st :: rest) env) Q E s := by
  refine wpAny_execs_cons (wpAny_with_toks ht (wpAny_mono h1 (fun f s' h tk => ?_) fun _ _ e _ => e))
  obtain ⟨rfl,h⟩ := h
  exact h2 s' tk h
theorem Fr.over {h₀ h : Heap} {L : Addr} {x : Str} {v v' : Value} {m : Str → Option Value} (F : Fr h₀ L h (fun y => if y = x then some v else if y = x then some v' else m y)) : Fr h₀ L h (fun y => if y = x then some v else m y) := by
  have e : (fun y => if y = x then some v else if y = x then some v' else m y) = fun y => if y = x then some v else m y := by
    funext y;by_cases q : y = x <;> simp [q]
  rw [← e];exact F
theorem Fr.same {h₀ h : Heap} {L : Addr} {x : Str} {v : Value} {m : Str → Option Value} (hm : m x = some v) (F : Fr h₀ L h m) : Fr h₀ L h (fun y => if y = x then some v else m y) := by
  have e : m = fun y => if y = x then some v else m y := by
    funext y;by_cases q : y = x
    · simp [q,hm]
    · simp [q]
  rw [e] at F;exact F
theorem toksA {α : Type} {t : Sem α} {Q : α → Shared → Prop} {h : Heap} {g : Array GenState} {d : Drawn} {n : Nat} {o : OsState} (hn : 1 ≤ n) (k : ∀ tk,1 ≤ tk → wpAny M A t Q E ⟨h,g,d,tk,o⟩) : wpAny M A t Q E ⟨h,g,d,n,o⟩ := k n hn
theorem toksC {st : Stmt} {rest : List Stmt} {env : Env} {Q : Flow → Shared → Prop} {h : Heap} {g : Array GenState} {d : Drawn} {n : Nat} {o : OsState} (hn : 1 ≤ n)
    (k : ∀ tk,1 ≤ tk → wpAny M A (exec st env) (fun f s' => 1 ≤ s'.toks → match f with | .next => wpAny M A (execs rest env) Q E s' | f => Q f s') E ⟨h,g,d,tk,o⟩) : wpAny M A (execs (st :: rest) env) Q E ⟨h,g,d,n,o⟩ :=
  wpAny_execs_cons (wpAny_mono (wpAny_with_toks hn (wpAny_mono (k n hn) (fun _ _ x => x) fun _ _ x _ => x)) (fun _ _ x => x) fun _ _ x => x)
theorem toksS {α : Type} {t : Sem α} {Q : α → Shared → Prop} {h : Heap} {g : Array GenState} {d : Drawn} {n : Nat} {o : OsState} (k : ∀ tk,1 ≤ tk → wpAny M A t Q E ⟨h,g,d,tk,o⟩) : wpAny M A t Q E ⟨h,g,d,n + 1,o⟩ := k (n + 1) (by omega)
end
structure TextEnd (h₀ : Heap) (L : Addr) (m : Str → Option Value) (x y : Str) (news : List (Addr × Obj)) (s : Shared) (f : Flow) (s' : Shared) : Prop where
  flow : f = .next
  same : Same s s'
  at_ : ∃ t,Fr h₀ L s'.heap (fun z => if z = x then some (.str y t) else m z)
  news : News h₀ L s'.heap news
theorem cut_text {M : Model} {A : Around} {E : Value → Shared → Prop} {s : Shared} {env : Env} {st : Stmt} {rest : List Stmt} {Q : Flow → Shared → Prop} {h₀ : Heap} {L : Addr} {m : Str → Option Value} {x : Str} {v : Value} {news : List (Addr × Obj)} (y : Str)
    (_F : Fr h₀ L s.heap (fun z => if z = x then some v else m z)) (_N : News h₀ L s.heap news) (ht : 1 ≤ s.toks)
    (h1 : wpAny M A (exec st env) (TextEnd h₀ L m x y news s) E s)
    (h2 : ∀ s' t,Same s s' → 1 ≤ s'.toks → Fr h₀ L s'.heap (fun z => if z = x then some (.str y t) else m z) → News h₀ L s'.heap news → wpAny M A (execs rest env) Q E s') : wpAny M A (execs (st :: rest) env) Q E s :=
  cut_stmt (fun s' => TextEnd h₀ L m x y news s .next s') ht (wpAny_mono h1 (fun f s' h => ⟨h.1,by have e := h.1;subst e;exact h⟩) fun _ _ e => e) fun s' tk ⟨_,a,⟨t,c⟩,d⟩ => h2 s' t a tk c d
end
section
open PySem PySem.Sre
noncomputable abbrev dotCode : Array Nat := #[14,4,0,1,1,6,1,16,46,1]
noncomputable abbrev nlCode : Array Nat := #[14,9,4,1,2,16,10,16,13,0,7,7,16,13,16,10,15,18,5,16,10,15,13,11,16,13,5,5,0,16,10,1,15,2,0,1]
theorem runFor_done {m : M} (h : m.outcome.isSome = true) : ∀ n,m.runFor n = m
  | 0 => rfl
  | n + 1 => by
    show (if m.outcome.isSome then m else M.runFor n m.step) = m
    rw [h];rfl
theorem runFor_step {m : M} (h : m.outcome = none) (n : Nat) : m.runFor (n + 1) = m.step.runFor n := by
  show (if m.outcome.isSome then m else M.runFor n m.step) = _
  rw [h];rfl
theorem runFor_add (b : Nat) : ∀ (a : Nat) (m : M),m.runFor (a + b) = (m.runFor a).runFor b
  | 0,m => by rw [Nat.zero_add];rfl
  | a + 1,m => by
    cases h : m.outcome with
    | some o =>
      have h' : m.outcome.isSome = true := by rw [h];rfl
      rw [runFor_done h',runFor_done h',runFor_done h']
    | none =>
      rw [Nat.succ_add a b,runFor_step h,runFor_step h,runFor_add b a m.step]
structure AtHead (cd tx : Array Nat) (l0 p0 : Nat) (m : M) (s : Nat) (mu : Bool) : Prop where
  h1 : m.code = cd
  h2 : m.text = tx
  h3 : m.lim = l0
  h4 : m.lastStart = l0
  h5 : m.start = s
  h6 : m.wholeText = false
  h7 : m.mustAdvance = mu
  h8 : m.pc = p0
  h9 : m.pos = s
  h10 : m.loops = #[]
  h11 : m.inner = none
  h12 : m.lastmark = -1
  h13 : m.marks = #[]
  h14 : ∃ o,m.frames = [{ wait := .nextStart,pc := p0,pos := s,outermost := o }] 
  h15 : m.weight = 1
  h16 : m.answer = none
  h17 : m.outcome = none
structure Found (m : M) (s e : Nat) : Prop where
  outcome : m.outcome = some .matched
  start : m.start = s
  handed : m.handed = e
noncomputable abbrev headM (cd tx : Array Nat) (l0 p0 s : Nat) (mu : Bool) (ha : Nat) (ou : Bool) (li : Int) (o : Bool) (se : Seen) : M :=
  { code := cd,text := tx,lim := l0,start := s,lastStart := l0,wholeText := false,mustAdvance := mu,pc := p0,pos := s,handed := ha,outermost := ou,marks := #[],lastmark := -1,lastindex := li,loops := #[],inner := none,
    frames := [{ wait := .nextStart,pc := p0,pos := s,outermost := o }],weight := 1,answer := none,seen := se,outcome := none }
theorem AtHead.is {cd tx : Array Nat} {l0 p0 s : Nat} {mu : Bool} {m : M} (h : AtHead cd tx l0 p0 m s mu) : ∃ ha ou li o se,m = headM cd tx l0 p0 s mu ha ou li o se := by
  obtain ⟨c,t,l,st,ls,wt,ma,p,po,ha,ou,mk,lm,li,lo,inn,fr,we,an,se,oc⟩ := m
  obtain ⟨h1,h2,h3,h4,h5,h6,h7,h8,h9,h10,h11,h12,h13,⟨o,h14⟩,h15,h16,h17⟩ := h
  exact ⟨ha,ou,li,o,se,by
    dsimp only at h1 h2 h3 h4 h5 h6 h7 h8 h9 h10 h11 h12 h13 h14 h15 h16 h17
    subst h1 h2 h3 h4 h5 h6 h7 h8 h9 h10 h11 h12 h13 h14 h15 h16 h17
    rfl⟩
noncomputable def litTo (m : M) (b : Bool) : M := cond b { m with seen := m.seen.add (m.word 0),pc := m.pc + itemWidth m.code m.pc,pos := m.pos + 1 } ({ m with seen := m.seen.add (m.word 0) }.say false)
theorem to_exec {m : M} (ho : m.outcome = none) (ha : m.answer = none) (hpc : m.pc < m.code.size) : m.step = m.exec := by
  unfold M.step
  rw [ho,ha]
  show (if m.pc < m.code.size then m.exec else _) = _
  rw [if_pos hpc]
theorem lit {m : M} {b : Bool} (ho : m.outcome = none) (ha : m.answer = none) (hpc : m.pc < m.code.size) (hop : ops[m.word 0]? = some .LITERAL) (hp : m.pos < m.lim) (hc : (m.text[m.pos]?.getD 0 == m.word 1) = b) : m.step = litTo m b := by
  rw [to_exec ho ha hpc]
  have e : accepts m.code m.pc (m.text.getD m.pos 0) (m.seen.add (m.word 0)) = .ok (b,m.seen.add (m.word 0)) := by
    have hop' : ops[m.code.getD m.pc 0]? = some .LITERAL := hop
    unfold accepts
    have e0 : (m.text.getD m.pos 0 == m.word 1) = (m.text[m.pos]?.getD 0 == m.word 1) := by rw [Array.getD_eq_getD_getElem?]
    rw [hop']
    exact congrArg (fun x => Except.ok (x,m.seen.add (m.word 0))) (e0.trans hc)
  unfold M.exec
  rw [hop]
  show (if m.pos ≥ m.lim then _ else (match accepts m.code m.pc (m.text.getD m.pos 0) (m.seen.add (m.word 0)) with | .error why => M.stick _ why | .ok (false,seen) => _ | .ok (true,seen) => _)) = _
  rw [if_neg (Nat.not_le.mpr hp),e]
  cases b <;> rfl
theorem lit_end {m : M} (ho : m.outcome = none) (ha : m.answer = none) (hpc : m.pc < m.code.size) (hop : ops[m.word 0]? = some .LITERAL) (hp : ¬ m.pos < m.lim) : m.step = litTo m false := by
  rw [to_exec ho ha hpc]
  unfold M.exec
  rw [hop]
  show (if m.pos ≥ m.lim then _ else _) = _
  rw [if_pos (Nat.not_lt.mp hp)]
  rfl
theorem lit_at {m : M} {b : Bool} {p l k : Nat} {tx : Array Nat} (h : p < l) (hc : (tx[p]?.getD 0 == k) = b) (ho : m.outcome = none) (ha : m.answer = none) (hpc : Nat.ble (m.pc + 1) m.code.size = true) (hop : ops[m.word 0]? = some .LITERAL) (hp : m.pos = p) (hl : m.lim = l) (ht : m.text = tx) (hw : m.word 1 = k) : m.step = litTo m b :=
  lit ho ha (Nat.le_of_ble_eq_true hpc) hop (by rw [hp,hl];exact h) (by rw [ht,hp,hw];exact hc)
noncomputable def atTo (m : M) (b : Bool) : M := cond b { m with seen := (m.seen.add (m.word 0)).add (43 + m.word 1),pc := m.pc + 2 } ({ m with seen := (m.seen.add (m.word 0)).add (43 + m.word 1) }.say false)
theorem at_line {m : M} {b : Bool} (ho : m.outcome = none) (ha : m.answer = none) (hpc : m.pc < m.code.size) (hop : ops[m.word 0]? = some .AT) (hk : m.word 1 = 1) (hc : (m.pos == 0 || m.text[m.pos - 1]?.getD 0 == 10) = b) : m.step = atTo m b := by
  rw [to_exec ho ha hpc]
  have e : M.isAt { m with seen := m.seen.add (m.word 0) } 1 = .ok b := by
    show Except.ok (m.pos == 0 || m.text.getD (m.pos - 1) 0 == 10) = _
    rw [Array.getD_eq_getD_getElem?,hc]
  unfold M.exec
  rw [hop]
  show (match M.isAt { m with seen := m.seen.add (m.word 0) } (m.word 1) with | .error why => M.stick _ why | .ok yes => _) = _
  rw [show M.isAt { m with seen := m.seen.add (m.word 0) } (m.word 1) = .ok b by rw [hk];exact e]
  cases b <;> rfl
noncomputable def popF (m : M) (f : Sre.Frame) (rest : List Sre.Frame) : M := { m with answer := none,frames := rest,weight := m.weight - (1 + f.kept.marks.size),pc := f.pc,pos := f.pos,outermost := f.outermost,outcome := none }
theorem next_no {m : M} {f : Sre.Frame} {rest : List Sre.Frame} (ho : m.outcome = none) (ha : m.answer = some false) (hf : m.frames = f :: rest) (hw : f.wait = .nextStart) (hl : f.pos < m.lastStart) : m.step = M.attemptFrom { popF m f rest with mustAdvance := false } (f.pos + 1) false := by
  unfold M.step
  rw [ho,ha,hf]
  show M.resume (popF m f rest) f false = _
  unfold M.resume
  rw [hw]
  show (if f.pos < m.lastStart then _ else _) = _
  rw [if_pos hl]
theorem next_end {m : M} {f : Sre.Frame} {rest : List Sre.Frame} (ho : m.outcome = none) (ha : m.answer = some false) (hf : m.frames = f :: rest) (hw : f.wait = .nextStart) (hl : ¬ f.pos < m.lastStart) : m.step = M.say (popF m f rest) false := by
  unfold M.step
  rw [ho,ha,hf]
  show M.resume (popF m f rest) f false = _
  unfold M.resume
  rw [hw]
  show (if f.pos < m.lastStart then _ else _) = _
  rw [if_neg hl]
noncomputable def okTo (m : M) : M := M.say { m with seen := m.seen.add (m.word 0),handed := m.pos } true
theorem success {m : M} (ho : m.outcome = none) (ha : m.answer = none) (hpc : m.pc < m.code.size) (hop : ops[m.word 0]? = some .SUCCESS) (hw : m.wholeText = false) (hc : (m.mustAdvance && m.pos == m.start) = false) : m.step = okTo m := by
  rw [to_exec ho ha hpc]
  unfold M.exec
  rw [hop]
  show (if (m.outermost && ((m.wholeText && m.pos != m.lim) || (m.mustAdvance && m.pos == m.start))) = true then _ else _) = _
  rw [show (m.outermost && ((m.wholeText && m.pos != m.lim) || (m.mustAdvance && m.pos == m.start))) = false by rw [hw,hc];exact Bool.and_false _]
  rfl
theorem dot_one {tx : Array Nat} {l0 s : Nat} {mu : Bool} {m : M} (h : AtHead dotCode tx l0 5 m s mu) :
    ((s = 0 ∨ tx[s - 1]?.getD 0 = 10) ∧ s < l0 ∧ tx[s]?.getD 0 = 46 → Found (m.runFor 5) s (s + 1)) ∧
    (¬ ((s = 0 ∨ tx[s - 1]?.getD 0 = 10) ∧ s < l0 ∧ tx[s]?.getD 0 = 46) → s < l0 → ∃ k,k ≤ 3 ∧ AtHead dotCode tx l0 5 (m.runFor k) (s + 1) false) ∧
    (¬ ((s = 0 ∨ tx[s - 1]?.getD 0 = 10) ∧ s < l0 ∧ tx[s]?.getD 0 = 46) → ¬ s < l0 → ∃ k,k ≤ 4 ∧ (m.runFor k).outcome = some .failed) := by
  obtain ⟨ha,ou,li,o,se,rfl⟩ := h.is
  have yes : (s = 0 ∨ tx[s - 1]?.getD 0 = 10) → (s == 0 || tx[s - 1]?.getD 0 == 10) = true := fun h => by
    rcases h with h | h <;> rw [h] <;> first | rfl | exact Bool.or_true _
  have no : ¬ (s = 0 ∨ tx[s - 1]?.getD 0 = 10) → (s == 0 || tx[s - 1]?.getD 0 == 10) = false := fun h => by
    rw [beq_eq_false_iff_ne.mpr fun x => h (.inl x),beq_eq_false_iff_ne.mpr fun x => h (.inr x)];rfl
  generalize he : headM dotCode tx l0 5 s mu ha ou li o se = m0
  have a1 : ∀ b,(s == 0 || tx[s - 1]?.getD 0 == 10) = b → m0.step = atTo m0 b := fun b e => by
    subst he;exact at_line (by kernel_rfl) (by kernel_rfl) (Nat.le_of_ble_eq_true (by kernel_rfl)) (by kernel_rfl) (by kernel_rfl) e
  refine ⟨fun ⟨a,b,c⟩ => ?_,fun n a => ?_,fun n a => ?_⟩
  · have e1 := a1 _ (yes a)
    have e2 : (atTo m0 true).step = litTo (atTo m0 true) true := by
      subst he;exact lit (by kernel_rfl) (by kernel_rfl) (Nat.le_of_ble_eq_true (by kernel_rfl)) (by kernel_rfl) b (beq_of_eq c)
    have e3 : (litTo (atTo m0 true) true).step = okTo (litTo (atTo m0 true) true) := by
      have z : (mu && (s + 1 == s)) = false := by rw [beq_eq_false_iff_ne.mpr (Nat.succ_ne_self s)];exact Bool.and_false _
      subst he;exact success (by kernel_rfl) (by kernel_rfl) (Nat.le_of_ble_eq_true (by kernel_rfl)) (by kernel_rfl) (by kernel_rfl) z
    rw [runFor_step (by subst he;kernel_rfl),e1,runFor_step (by subst he;kernel_rfl),e2,runFor_step (by subst he;kernel_rfl),e3]
    subst he
    exact ⟨(by kernel_rfl),(by kernel_rfl),(by kernel_rfl)⟩
  · by_cases q : s = 0 ∨ tx[s - 1]?.getD 0 = 10
    · have d : (tx[s]?.getD 0 == 46) = false := beq_eq_false_iff_ne.mpr fun x => n ⟨q,a,x⟩
      have e1 := a1 _ (yes q)
      have e2 : (atTo m0 true).step = litTo (atTo m0 true) false := by
        subst he;exact lit (by kernel_rfl) (by kernel_rfl) (Nat.le_of_ble_eq_true (by kernel_rfl)) (by kernel_rfl) a d
      have e3 : (litTo (atTo m0 true) false).step = _ := next_no (f := { wait := .nextStart,pc := 5,pos := s,outermost := o }) (rest := []) (by subst he;kernel_rfl) (by subst he;kernel_rfl) (by subst he;kernel_rfl) rfl (by subst he;exact a)
      refine ⟨3,Nat.le_refl _,?_⟩
      rw [runFor_step (by subst he;kernel_rfl),e1,runFor_step (by subst he;kernel_rfl),e2,runFor_step (by subst he;kernel_rfl),e3]
      subst he
      exact ⟨(by kernel_rfl),(by kernel_rfl),(by kernel_rfl),(by kernel_rfl),(by kernel_rfl),(by kernel_rfl),(by kernel_rfl),(by kernel_rfl),(by kernel_rfl),(by kernel_rfl),(by kernel_rfl),(by kernel_rfl),(by kernel_rfl),⟨false,(by kernel_rfl)⟩,(by kernel_rfl),(by kernel_rfl),(by kernel_rfl)⟩
    · have e1 := a1 _ (no q)
      have e3 : (atTo m0 false).step = _ := next_no (f := { wait := .nextStart,pc := 5,pos := s,outermost := o }) (rest := []) (by subst he;kernel_rfl) (by subst he;kernel_rfl) (by subst he;kernel_rfl) rfl (by subst he;exact a)
      refine ⟨2,Nat.le_succ _,?_⟩
      rw [runFor_step (by subst he;kernel_rfl),e1,runFor_step (by subst he;kernel_rfl),e3]
      subst he
      exact ⟨(by kernel_rfl),(by kernel_rfl),(by kernel_rfl),(by kernel_rfl),(by kernel_rfl),(by kernel_rfl),(by kernel_rfl),(by kernel_rfl),(by kernel_rfl),(by kernel_rfl),(by kernel_rfl),(by kernel_rfl),(by kernel_rfl),⟨false,(by kernel_rfl)⟩,(by kernel_rfl),(by kernel_rfl),(by kernel_rfl)⟩
  · by_cases q : s = 0 ∨ tx[s - 1]?.getD 0 = 10
    · have e1 := a1 _ (yes q)
      have e2 : (atTo m0 true).step = litTo (atTo m0 true) false := by
        subst he;exact lit_end (by kernel_rfl) (by kernel_rfl) (Nat.le_of_ble_eq_true (by kernel_rfl)) (by kernel_rfl) a
      have e3 : (litTo (atTo m0 true) false).step = _ := next_end (f := { wait := .nextStart,pc := 5,pos := s,outermost := o }) (rest := []) (by subst he;kernel_rfl) (by subst he;kernel_rfl) (by subst he;kernel_rfl) rfl (by subst he;exact a)
      refine ⟨4,Nat.le_refl _,?_⟩
      rw [runFor_step (by subst he;kernel_rfl),e1,runFor_step (by subst he;kernel_rfl),e2,runFor_step (by subst he;kernel_rfl),e3]
      subst he
      kernel_rfl
    · have e1 := a1 _ (no q)
      have e3 : (atTo m0 false).step = _ := next_end (f := { wait := .nextStart,pc := 5,pos := s,outermost := o }) (rest := []) (by subst he;kernel_rfl) (by subst he;kernel_rfl) (by subst he;kernel_rfl) rfl (by subst he;exact a)
      refine ⟨3,Nat.le_succ _,?_⟩
      rw [runFor_step (by subst he;kernel_rfl),e1,runFor_step (by subst he;kernel_rfl),e3]
      subst he
      kernel_rfl
def dotAt (tx : Array Nat) (l0 s : Nat) : Prop := (s = 0 ∨ tx[s - 1]?.getD 0 = 10) ∧ s < l0 ∧ tx[s]?.getD 0 = 46
def DotR (tx : Array Nat) (l0 N s : Nat) (m : M) : Prop :=
    (∃ k s',k ≤ N ∧ s ≤ s' ∧ dotAt tx l0 s' ∧ (∀ i,s ≤ i → i < s' → ¬ dotAt tx l0 i) ∧ Found (m.runFor k) s' (s' + 1)) ∨
    (∃ k,k ≤ N ∧ (∀ i,s ≤ i → ¬ dotAt tx l0 i) ∧ (m.runFor k).outcome = some .failed)
theorem split_le {s i : Nat} {P : Nat → Prop} (h0 : P s) (h : ∀ j,s + 1 ≤ j → P j) (x : s ≤ i) : P i := (Nat.eq_or_lt_of_le x).elim (fun q => q ▸ h0) (h i)
theorem add_le5 {k k' N : Nat} (hk : k ≤ 3) (h : k' ≤ N) : k + k' ≤ N + 5 := by rw [Nat.add_comm];exact Nat.add_le_add h (Nat.le_trans hk (Nat.le_of_ble_eq_true rfl))
theorem dot_step {tx : Array Nat} {l0 s N : Nat} {mu : Bool} {m : M} (h : AtHead dotCode tx l0 5 m s mu) (ih : s < l0 → ∀ m',AtHead dotCode tx l0 5 m' (s + 1) false → DotR tx l0 N (s + 1) m') : DotR tx l0 (N + 5) s m := by
  obtain ⟨a,b,c⟩ := dot_one h
  by_cases hd : dotAt tx l0 s
  · exact .inl ⟨5,s,Nat.le_add_left 5 N,Nat.le_refl _,hd,fun i h1 h2 => absurd h1 (Nat.not_le.mpr h2),a hd⟩
  · by_cases hl : s < l0
    · obtain ⟨k,hk,h'⟩ := b hd hl
      exact (ih hl _ h').elim
        (fun ⟨k',s',h1,h2,h3,h4,h5⟩ => .inl ⟨k + k',s',add_le5 hk h1,Nat.le_of_succ_le h2,h3,fun i x y => (Nat.eq_or_lt_of_le x).elim (fun q => q ▸ hd) fun q => h4 i q y,(runFor_add k' k m).symm ▸ h5⟩)
        (fun ⟨k',h1,h2,h3⟩ => .inr ⟨k + k',add_le5 hk h1,fun i x => split_le hd h2 x,(runFor_add k' k m).symm ▸ h3⟩)
    · obtain ⟨k,hk,h'⟩ := c hd hl
      exact .inr ⟨k,Nat.le_trans hk (Nat.le_trans (Nat.le_succ 4) (Nat.le_add_left 5 N)),fun i x ⟨_,y,_⟩ => hl (Nat.lt_of_le_of_lt x y),h'⟩
theorem dot_from {tx : Array Nat} {l0 : Nat} : ∀ (n s : Nat) (mu : Bool) (m : M),l0 - s = n → s ≤ l0 → AtHead dotCode tx l0 5 m s mu → DotR tx l0 (5 * (n + 1)) s m
  | 0,s,mu,m,hn,hs,h => dot_step (N := 0) h fun hl => absurd (Nat.sub_pos_of_lt hl) (hn ▸ Nat.lt_irrefl 0)
  | n + 1,s,mu,m,hn,hs,h => dot_step (N := 5 * (n + 1)) h fun hl m' h' => dot_from n (s + 1) false m' (congrArg Nat.pred hn) hl h'
theorem nl_crlf {tx : Array Nat} {l0 s : Nat} {m : M} (h : AtHead nlCode tx l0 10 m s false) (a : s < l0) (b : s + 1 < l0) (c : tx[s]?.getD 0 = 13) (d : tx[s + 1]?.getD 0 = 10) : Found (m.runFor 8) s (s + 2) := by
  obtain ⟨ha,ou,li,o,se,rfl⟩ := h.is
  generalize he : headM nlCode tx l0 10 s false ha ou li o se = m0
  have e1 : m0.step.step = litTo m0.step true := by
    subst he;exact lit (by kernel_rfl) (by kernel_rfl) (Nat.le_of_ble_eq_true (by kernel_rfl)) (by kernel_rfl) a (beq_of_eq c)
  have e2 : (litTo m0.step true).step = litTo (litTo m0.step true) true := by
    subst he;exact lit (by kernel_rfl) (by kernel_rfl) (Nat.le_of_ble_eq_true (by kernel_rfl)) (by kernel_rfl) b (beq_of_eq d)
  generalize h1 : (litTo (litTo m0.step true) true).step = m1 at e2 ⊢
  have e3 : m1.step = okTo m1 := by
    subst h1 he;exact success (by kernel_rfl) (by kernel_rfl) (Nat.le_of_ble_eq_true (by kernel_rfl)) (by kernel_rfl) (by kernel_rfl) (by kernel_rfl)
  rw [runFor_step (by subst he;kernel_rfl),runFor_step (by subst he;kernel_rfl),e1,runFor_step (by subst he;kernel_rfl),e2,runFor_step (by subst he;kernel_rfl),h1,runFor_step (by subst h1 he;kernel_rfl),e3]
  subst h1 he
  exact ⟨(by kernel_rfl),(by kernel_rfl),(by kernel_rfl)⟩
theorem nl_lf {tx : Array Nat} {l0 s : Nat} {m : M} (h : AtHead nlCode tx l0 10 m s false) (a : s < l0) (c : tx[s]?.getD 0 = 10) : Found (m.runFor 9) s (s + 1) := by
  obtain ⟨ha,ou,li,o,se,rfl⟩ := h.is
  generalize he : headM nlCode tx l0 10 s false ha ou li o se = m0
  have n13 : (tx[s]?.getD 0 == 13) = false := by rw [c];rfl
  have e1 : m0.step.step = litTo m0.step false := by
    subst he;exact lit (by kernel_rfl) (by kernel_rfl) (Nat.le_of_ble_eq_true (by kernel_rfl)) (by kernel_rfl) a n13
  have e2 : (litTo m0.step false).step.step = litTo (litTo m0.step false).step true := by
    subst he;exact lit (by kernel_rfl) (by kernel_rfl) (Nat.le_of_ble_eq_true (by kernel_rfl)) (by kernel_rfl) a (beq_of_eq c)
  generalize h1 : (litTo (litTo m0.step false).step true).step = m1
  have e3 : m1.step = okTo m1 := by
    subst h1 he;exact success (by kernel_rfl) (by kernel_rfl) (Nat.le_of_ble_eq_true (by kernel_rfl)) (by kernel_rfl) (by kernel_rfl) (by kernel_rfl)
  rw [runFor_step (by subst he;kernel_rfl),runFor_step (by subst he;kernel_rfl),e1,runFor_step (by subst he;kernel_rfl),runFor_step (by subst he;kernel_rfl),e2,runFor_step (by subst he;kernel_rfl),h1,runFor_step (by subst h1 he;kernel_rfl),e3]
  subst h1 he
  exact ⟨(by kernel_rfl),(by kernel_rfl),(by kernel_rfl)⟩
theorem nl_cr {tx : Array Nat} {l0 s : Nat} {m : M} (h : AtHead nlCode tx l0 10 m s false) (a : s < l0) (c : tx[s]?.getD 0 = 13) (d : ¬ (s + 1 < l0 ∧ tx[s + 1]?.getD 0 = 10)) : Found (m.runFor 16) s (s + 1) := by
  obtain ⟨ha,ou,li,o,se,rfl⟩ := h.is
  generalize he : headM nlCode tx l0 10 s false ha ou li o se = m0
  have n10 : (tx[s]?.getD 0 == 10) = false := by rw [c];rfl
  have f : ∀ {m : M},m.outcome = none → m.answer = none → m.pc < m.code.size → ops[m.word 0]? = some .LITERAL → m.pos = s + 1 → m.lim = l0 → m.text = tx → m.word 1 = 10 → m.step = litTo m false := fun {m} ho ha hpc hop hp hl ht hw => by
    by_cases e : s + 1 < l0
    · exact lit ho ha hpc hop (by rw [hp,hl];exact e) (by rw [hp,ht,hw];exact beq_eq_false_iff_ne.mpr fun x => d ⟨e,x⟩)
    · exact lit_end ho ha hpc hop (by rw [hp,hl];exact e)
  have e1 : m0.step.step = litTo m0.step true := by
    subst he;exact lit (by kernel_rfl) (by kernel_rfl) (Nat.le_of_ble_eq_true (by kernel_rfl)) (by kernel_rfl) a (beq_of_eq c)
  generalize h1 : litTo m0.step true = m1 at e1
  have e2 : m1.step = litTo m1 false := by
    subst h1 he;exact f (by kernel_rfl) (by kernel_rfl) (Nat.le_of_ble_eq_true (by kernel_rfl)) (by kernel_rfl) (by kernel_rfl) (by kernel_rfl) (by kernel_rfl) (by kernel_rfl)
  generalize h2 : (litTo m1 false).step = m2
  have e3 : m2.step = litTo m2 false := by
    refine lit_at a n10 ?_ ?_ ?_ ?_ ?_ ?_ ?_ ?_ <;> subst h2 h1 he <;> kernel_rfl
  generalize h3 : (litTo m2 false).step = m3
  have e4 : m3.step = litTo m3 true := by
    refine lit_at a (beq_of_eq c) ?_ ?_ ?_ ?_ ?_ ?_ ?_ ?_ <;> subst h3 h2 h1 he <;> kernel_rfl
  generalize h4 : (litTo m3 true).step = m4
  have e5 : m4.step = litTo m4 false := by
    subst h4 h3 h2 h1 he;exact f (by kernel_rfl) (by kernel_rfl) (Nat.le_of_ble_eq_true (by kernel_rfl)) (by kernel_rfl) (by kernel_rfl) (by kernel_rfl) (by kernel_rfl) (by kernel_rfl)
  generalize h5 : (litTo m4 false).step.step = m5
  have e6 : m5.step = okTo m5 := by
    refine success ?_ ?_ (@Nat.le_of_ble_eq_true (m5.pc + 1) m5.code.size ?_) ?_ ?_ ?_ <;> subst h5 h4 h3 h2 h1 he <;> kernel_rfl
  rw [runFor_step (by subst he;kernel_rfl),runFor_step (by subst he;kernel_rfl),e1,runFor_step (by subst h1 he;kernel_rfl),e2,runFor_step (by subst h1 he;kernel_rfl),h2,runFor_step (by subst h2 h1 he;kernel_rfl),e3,
    runFor_step (by subst h2 h1 he;kernel_rfl),h3,runFor_step (by subst h3 h2 h1 he;kernel_rfl),e4,runFor_step (by subst h3 h2 h1 he;kernel_rfl),h4,runFor_step (by subst h4 h3 h2 h1 he;kernel_rfl),e5,runFor_step (by subst h4 h3 h2 h1 he;kernel_rfl),runFor_step (by subst h4 h3 h2 h1 he;kernel_rfl),h5,runFor_step (by subst h5 h4 h3 h2 h1 he;kernel_rfl),e6]
  subst h5 h4 h3 h2 h1 he
  exact ⟨(by kernel_rfl),(by kernel_rfl),(by kernel_rfl)⟩
end
section
open PySem PySem.Sre
def nlAt (tx : Array Nat) (l0 s : Nat) : Prop := s < l0 ∧ (tx[s]?.getD 0 = 10 ∨ tx[s]?.getD 0 = 13)
theorem inSet_is (c : Nat) (seen : Seen) : inSet nlCode c nlCode.size 5 true seen = (if (c == 10) = true then .ok (true,seen.add 16) else if (c == 13) = true then .ok (true,(seen.add 16).add 16) else .ok (false,((seen.add 16).add 16).add 0)) := by kernel_rfl
theorem inSet_nl (c : Nat) (seen : Seen) : ∃ sn,inSet nlCode c nlCode.size 5 true seen = .ok (decide (c = 10 ∨ c = 13),sn) := by
  rw [inSet_is]
  by_cases h1 : c = 10
  · exact ⟨_,by rw [if_pos (beq_of_eq h1),decide_eq_true (Or.inl h1)]⟩
  · rw [if_neg fun x => h1 (eq_of_beq x)]
    by_cases h2 : c = 13
    · exact ⟨_,by rw [if_pos (beq_of_eq h2),decide_eq_true (Or.inr h2)]⟩
    · exact ⟨_,by rw [if_neg fun x => h2 (eq_of_beq x),decide_eq_false fun x => x.elim h1 h2]⟩
def NlR (m : M) (tx : Array Nat) (l0 f s : Nat) (seen : Seen) : Prop :=
    (∃ s' sn,M.admitted m f s seen = .ok (some s',sn) ∧ s ≤ s' ∧ nlAt tx l0 s' ∧ ∀ i,s ≤ i → i < s' → ¬ nlAt tx l0 i) ∨ (∃ sn,M.admitted m f s seen = .ok (none,sn) ∧ ∀ i,s ≤ i → ¬ nlAt tx l0 i)
theorem adm_step {m : M} {tx : Array Nat} {l0 f s : Nat} {seen : Seen} (hc : m.code = nlCode) (ht : m.text = tx) (hl : m.lim = l0) (ih : s < l0 → ∀ sn,NlR m tx l0 f (s + 1) sn) : NlR m tx l0 (f + 1) s seen := by
  by_cases hd : s < l0
  · obtain ⟨sn,e⟩ := inSet_nl (tx.getD s 0) seen
    have e' : inSet m.code (m.text.getD s 0) m.code.size 5 true seen = .ok (decide (tx.getD s 0 = 10 ∨ tx.getD s 0 = 13),sn) := by rw [hc,ht];exact e
    have hq : tx.getD s 0 = tx[s]?.getD 0 := Array.getD_eq_getD_getElem? ..
    have u : ∀ b,decide (tx.getD s 0 = 10 ∨ tx.getD s 0 = 13) = b → M.admitted m (f + 1) s seen = cond b (Except.ok (some s,sn)) (M.admitted m f (s + 1) sn) := fun b hb => by
      show (if s ≥ m.lim then _ else (match inSet m.code (m.text.getD s 0) m.code.size 5 true seen with | .ok (true,seen) => Except.ok (some s,seen) | .ok (false,seen) => M.admitted m f (s + 1) seen | .error why => Except.error why)) = _
      rw [if_neg (Nat.not_le.mpr (hl.symm ▸ hd)),e',hb]
      cases b <;> rfl
    by_cases hx : tx.getD s 0 = 10 ∨ tx.getD s 0 = 13
    · exact .inl ⟨s,sn,u true (decide_eq_true hx),Nat.le_refl _,⟨hd,hq ▸ hx⟩,fun i a b => absurd a (Nat.not_le.mpr b)⟩
    · have u' : M.admitted m (f + 1) s seen = M.admitted m f (s + 1) sn := u false (decide_eq_false hx)
      have no : ¬ nlAt tx l0 s := fun ⟨_,b⟩ => hx (hq.symm ▸ b)
      exact (ih hd sn).elim (fun ⟨s',sn',h1,h2,h3,h4⟩ => .inl ⟨s',sn',u'.trans h1,Nat.le_of_succ_le h2,h3,fun i x y => (Nat.eq_or_lt_of_le x).elim (fun q => q ▸ no) fun q => h4 i q y⟩)
        (fun ⟨sn',h1,h2⟩ => .inr ⟨sn',u'.trans h1,fun i x => split_le no h2 x⟩)
  · refine .inr ⟨seen,?_,fun i a ⟨b,_⟩ => hd (Nat.lt_of_le_of_lt a b)⟩
    show (if s ≥ m.lim then _ else _) = _
    rw [if_pos (hl.symm ▸ Nat.not_lt.mp hd)]
theorem admitted_nl {m : M} {tx : Array Nat} {l0 : Nat} (hc : m.code = nlCode) (ht : m.text = tx) (hl : m.lim = l0) : ∀ (n s : Nat) (seen : Seen),l0 - s = n → NlR m tx l0 (n + 1) s seen
  | 0,_,_,hn => adm_step hc ht hl fun h => absurd (Nat.sub_pos_of_lt h) (hn ▸ Nat.lt_irrefl 0)
  | n + 1,s,_,hn => adm_step hc ht hl fun _ sn => admitted_nl hc ht hl n (s + 1) sn (congrArg Nat.pred hn)
noncomputable abbrev m0 (cd tx : Array Nat) (p0 s l0 : Nat) : M := { code := cd,text := tx,lim := l0,start := s,pc := p0,pos := s,handed := s,marks := #[],mustAdvance := false,seen := ({} : Seen).add 14 }
theorem search_dot (tx : Array Nat) (s l0 : Nat) : forSearch dotCode tx 0 s l0 false = (if (decide (s > l0) || decide (l0 - s < 1)) = true then (m0 dotCode tx 5 s l0).say false else M.attemptAt { m0 dotCode tx 5 s l0 with lastStart := l0 } s true) := rfl
theorem search_nl (tx : Array Nat) (s l0 : Nat) : forSearch nlCode tx 0 s l0 false = (if (decide (s > l0) || decide (l0 - s < 1)) = true then (m0 nlCode tx 10 s l0).say false else M.attemptFrom { m0 nlCode tx 10 s l0 with lastStart := l0 } s true) := rfl
theorem search_yes {s l0 : Nat} (h : s < l0) : ¬ (decide (s > l0) || decide (l0 - s < 1)) = true := by
  rw [decide_eq_false (Nat.lt_asymm h),decide_eq_false (Nat.not_lt.mpr (Nat.sub_pos_of_lt h))]
  exact Bool.false_ne_true
theorem search_no {s l0 : Nat} (h : ¬ s < l0) : (decide (s > l0) || decide (l0 - s < 1)) = true := by
  rw [decide_eq_true (show l0 - s < 1 from (Nat.sub_eq_zero_of_le (Nat.not_lt.mp h)).symm ▸ Nat.zero_lt_one)]
  exact Bool.or_true _
def Tells (cd tx : Array Nat) (start : Nat) (r : Option (Nat × Nat)) : Prop := ∃ k,k ≤ 2 ^ 30 ∧ match r with
  | some (a,e) => Found ((forSearch cd tx 0 start tx.size false).runFor k) a e
  | none => ((forSearch cd tx 0 start tx.size false).runFor k).outcome = some .failed
theorem runFor_le {m : M} {k : Nat} (h : (m.runFor k).outcome.isSome = true) (n : Nat) (hn : k ≤ n) : m.runFor n = m.runFor k := by
  have e : n = k + (n - k) := (Nat.add_sub_cancel' hn).symm
  rw [e,runFor_add,runFor_done h]
theorem dot_tells {tx : Array Nat} (ht : tx.size ≤ 2 ^ 24) (s : Nat) :
    (∃ s',s ≤ s' ∧ dotAt tx tx.size s' ∧ (∀ i,s ≤ i → i < s' → ¬ dotAt tx tx.size i) ∧ Tells dotCode tx s (some (s',s' + 1))) ∨ ((∀ i,s ≤ i → ¬ dotAt tx tx.size i) ∧ Tells dotCode tx s none) := by
  by_cases hs : s < tx.size
  · have h : AtHead dotCode tx tx.size 5 (forSearch dotCode tx 0 s tx.size false) s false := by
      rw [search_dot,if_neg (search_yes hs)]
      exact ⟨rfl,rfl,rfl,rfl,rfl,rfl,rfl,rfl,rfl,rfl,rfl,rfl,rfl,⟨_,rfl⟩,rfl,rfl,rfl⟩
    have hk : ∀ k,k ≤ 5 * (tx.size - s + 1) → k ≤ 2 ^ 30 := fun k h => Nat.le_trans h (Nat.le_trans (Nat.mul_le_mul_left 5 (Nat.succ_le_succ (Nat.le_trans (Nat.sub_le _ _) ht))) (Nat.le_of_ble_eq_true rfl))
    rcases dot_from (tx.size - s) s false _ rfl (Nat.le_of_lt hs) h with ⟨k,s',h1,h2,h3,h4,h5⟩ | ⟨k,h1,h2,h3⟩
    · exact .inl ⟨s',h2,h3,h4,k,hk k h1,h5⟩
    · exact .inr ⟨h2,k,hk k h1,h3⟩
  · refine .inr ⟨fun i a ⟨_,b,_⟩ => hs (Nat.lt_of_le_of_lt a b),1,Nat.le_of_ble_eq_true rfl,?_⟩
    show (M.runFor 1 (forSearch dotCode tx 0 s tx.size false)).outcome = _
    rw [search_dot,if_pos (search_no hs),runFor_step rfl]
    rfl
theorem nl_tells {tx : Array Nat} (ht : tx.size ≤ 2 ^ 24) (s : Nat) :
    (∃ s',s ≤ s' ∧ nlAt tx tx.size s' ∧ (∀ i,s ≤ i → i < s' → ¬ nlAt tx tx.size i) ∧ Tells nlCode tx s (some (s',if tx[s']?.getD 0 = 13 ∧ s' + 1 < tx.size ∧ tx[s' + 1]?.getD 0 = 10 then s' + 2 else s' + 1))) ∨
      ((∀ i,s ≤ i → ¬ nlAt tx tx.size i) ∧ Tells nlCode tx s none) := by
  by_cases hs : s < tx.size
  · have e : forSearch nlCode tx 0 s tx.size false = M.attemptFrom { m0 nlCode tx 10 s tx.size with lastStart := tx.size } s true := by
      rw [search_nl,if_neg (search_yes hs)]
    have e4 : ∀ (m : M) (s : Nat), m.hasFirstSet = true → m.attemptFrom s true = (match M.admitted m (m.lim + 1 - s) s m.seen with
        | .ok (some s,seen) => { m with mustAdvance := false,seen }.attemptAt s true
        | .ok (none,seen) => { m with seen }.say false
        | .error why => m.stick why) := by
      intro m s h
      unfold M.attemptFrom
      rw [h];rfl
    have e2 : tx.size + 1 - s = (tx.size - s) + 1 := Nat.succ_sub (Nat.le_of_lt hs)
    rw [e4 _ _ rfl] at e
    dsimp only at e
    rw [e2] at e
    rcases admitted_nl (m := { m0 nlCode tx 10 s tx.size with lastStart := tx.size }) rfl rfl rfl (tx.size - s) s (({} : Seen).add 14) rfl with ⟨s',sn,h1,h2,h3,h4⟩ | ⟨sn,h1,h2⟩
    · rw [h1] at e
      refine .inl ⟨s',h2,h3,h4,16,Nat.le_of_ble_eq_true rfl,?_⟩
      have h : AtHead nlCode tx tx.size 10 (forSearch nlCode tx 0 s tx.size false) s' false := by
        rw [e]
        exact ⟨rfl,rfl,rfl,rfl,rfl,rfl,rfl,rfl,rfl,rfl,rfl,rfl,rfl,⟨_,rfl⟩,rfl,rfl,rfl⟩
      obtain ⟨h5,h6⟩ := h3
      by_cases q : tx[s']?.getD 0 = 13 ∧ s' + 1 < tx.size ∧ tx[s' + 1]?.getD 0 = 10
      · rw [if_pos q]
        have f := nl_crlf h h5 q.2.1 q.1 q.2.2
        dsimp only
        rw [runFor_le (k := 8) (by rw [f.outcome];rfl) 16 (Nat.le_of_ble_eq_true rfl)]
        exact f
      · rw [if_neg q]
        dsimp only
        rcases h6 with h6 | h6
        · have f := nl_lf h h5 h6
          rw [runFor_le (k := 9) (by rw [f.outcome];rfl) 16 (Nat.le_of_ble_eq_true rfl)]
          exact f
        · exact nl_cr h h5 h6 fun x => q ⟨h6,x⟩
    · refine .inr ⟨h2,1,Nat.le_of_ble_eq_true rfl,?_⟩
      show (M.runFor 1 (forSearch nlCode tx 0 s tx.size false)).outcome = _
      rw [e,h1,runFor_step rfl]
      rfl
  · refine .inr ⟨fun i a ⟨b,_⟩ => hs (Nat.lt_of_le_of_lt a b),1,Nat.le_of_ble_eq_true rfl,?_⟩
    show (M.runFor 1 (forSearch nlCode tx 0 s tx.size false)).outcome = _
    rw [search_nl,if_pos (search_no hs),runFor_step rfl]
    rfl
end
section
open PySem PySem.Sre PySem.Builtin PySem.Builtin.Re PyProof.Rows
section
variable {M : Model} {A : Around} {E : Value → Shared → Prop} {s : Shared}
theorem wp_drive {Q : Sre.M → Shared → Prop} : ∀ (n k : Nat) (m : Sre.M),(m.runFor k).outcome.isSome = true → k + 1 ≤ 4 * n → Q (m.runFor k) s → wpAny M A (reDrive n m) Q E s
  | 0,k,m,h,hk,hq => by
    omega
  | n + 1,k,m,h,hk,hq => by
    unfold reDrive
    dsimp only
    by_cases h1 : (m.runFor reTurnSteps).outcome.isSome = true
    · rw [if_pos h1]
      refine wpAny_pure ?_
      by_cases h2 : k ≤ 4
      · rw [show reTurnSteps = 4 from rfl,runFor_le h 4 h2];exact hq
      · rw [show reTurnSteps = 4 from rfl] at h1 ⊢
        rw [← runFor_le h1 k (by omega)];exact hq
    · rw [if_neg h1]
      refine wpAny_bind (wpAny_rule ?_)
      have h2 : 4 < k := by
        by_cases q : k ≤ 4
        · exact absurd (by rw [show reTurnSteps = 4 from rfl,runFor_le h 4 q];exact h) h1
        · omega
      have e : m.runFor k = (m.runFor reTurnSteps).runFor (k - 4) := by
        rw [show reTurnSteps = 4 from rfl,← runFor_add];congr 1;omega
      rw [e] at h hq
      exact wp_drive n (k - 4) _ h (by omega) hq
theorem wp_rules {b : Nat → PUnit → Sem (ForInStep PUnit)} {Q : PUnit → Shared → Prop} (hb : ∀ i (Q : ForInStep PUnit → Shared → Prop),Q (.yield ⟨⟩) s → wpAny M A (b i ⟨⟩) Q E s) : ∀ (l : List Nat),Q ⟨⟩ s → wpAny M A (forIn l PUnit.unit b) Q E s
  | [],hq => wpAny_pure hq
  | i :: l,hq => by
    rw [List.forIn_cons]
    exact wpAny_bind (hb i _ (wp_rules hb l hq))
theorem wp_seen (m : Sre.M) (i : Nat) (Q : ForInStep PUnit → Shared → Prop) (hq : Q (.yield ⟨⟩) s) : wpAny M A (if m.seen.has i = true then (rule (Sre.names.getD i "") >>= fun _ => pure (ForInStep.yield PUnit.unit)) else pure (ForInStep.yield PUnit.unit)) Q E s := by
  by_cases h : m.seen.has i = true
  · rw [if_pos h];exact wpAny_bind (wpAny_rule (wpAny_pure hq))
  · rw [if_neg h];exact wpAny_pure hq
theorem wp_toEnd_some {k : Nat} {m : Sre.M} {Q : Option Sre.M → Shared → Prop} (h : (m.runFor k).outcome = some .matched) (hk : k ≤ 2 ^ 30) (hq : Q (some (m.runFor k)) s) : wpAny M A (reRunToEnd m) Q E s := by
  unfold reRunToEnd
  refine wpAny_bind (wp_drive (2 ^ 64) k m (by rw [h];rfl) (by omega) ?_)
  refine wpAny_bind (wp_rules (fun i Q hq => wp_seen _ i Q hq) _ ?_)
  rw [h]
  exact wpAny_pure hq
theorem wp_toEnd_none {k : Nat} {m : Sre.M} {Q : Option Sre.M → Shared → Prop} (h : (m.runFor k).outcome = some .failed) (hk : k ≤ 2 ^ 30) (hq : Q none s) : wpAny M A (reRunToEnd m) Q E s := by
  unfold reRunToEnd
  refine wpAny_bind (wp_drive (2 ^ 64) k m (by rw [h];rfl) (by omega) ?_)
  refine wpAny_bind (wp_rules (fun i Q hq => wp_seen _ i Q hq) _ ?_)
  rw [h]
  exact wpAny_pure hq
structure PatAt (h : Heap) (pt tp : Addr) (cd : Array Nat) : Prop where
  pat : ∃ o fs,h.get? pt = some o ∧ o.data = .fields fs ∧ reRawNat (fs.getD 6 .none) = 0 ∧ reRawNat (fs.getD 2 .none) = 0 ∧ fs.getD 5 .none = .ref tp
  tup : ∃ o vs n,h.get? tp = some o ∧ o.data = .seq vs n ∧ (vs.map reRawOf).map (·.toNat) = cd
theorem wp_target {pt tp : Addr} {cd : Array Nat} {x : Str} {tk : Tok} {Q : ReTarget → Shared → Prop} (P : PatAt s.heap pt tp cd)
    (hq : Q { pattern := .ref pt,string := .str x tk,code := cd,text := x.cps,kind := 0,groups := 0,pos := 0,lim := x.cps.size } s) : wpAny M A (reWholeTarget (.ref pt) (.str x tk)) Q E s := by
  obtain ⟨⟨o,fs,h1,h2,h3,h4,h5⟩,⟨o',vs,n,h6,h7,h8⟩⟩ := P
  unfold reWholeTarget
  refine wpAny_bind (wpAny_fieldsOf h1 h2 ?_)
  refine wpAny_bind ?_
  unfold reTextOf
  refine wpAny_bind (wpAny_pure ?_)
  refine wpAny_pure ?_
  dsimp only
  rw [h3,h4,h5]
  simp only [show ((0 : Nat) == 0) = true from rfl,show ((0 : Nat) == 1) = false from rfl,Bool.and_false,Bool.false_and,Bool.false_eq_true,if_false]
  refine wpAny_bind (wpAny_pure ?_)
  refine wpAny_bind ?_
  unfold reRawItems
  refine wpAny_bind (wpAny_seqItems h6 h7 (wpAny_pure ?_))
  refine wpAny_pure ?_
  simp only [Option.getD_some]
  rw [h8]
  exact hq
end
end
section
open PySem PySem.Sre PySem.Builtin PySem.Builtin.Re PyProof.Rows
theorem strJoin_empty (sep : Str) (h : sep.cps.toList = []) : ∀ ys : List Str,(Str.join sep ys).cps.toList = (ys.map (·.cps.toList)).flatten
  | [] => rfl
  | [y] => by simp [Str.join]
  | y :: z :: r => by
    show ((y ++ sep ++ Str.join sep (z :: r) : Str)).cps.toList = _
    have e : ((y ++ sep ++ Str.join sep (z :: r) : Str)).cps.toList = y.cps.toList ++ sep.cps.toList ++ (Str.join sep (z :: r)).cps.toList := by
      show (y.cps ++ sep.cps ++ (Str.join sep (z :: r)).cps).toList = _
      simp
    rw [e,h,strJoin_empty sep h (z :: r)]
    simp
theorem txtJoin_empty (sep : Str) (h : sep.cps.toList = []) (ys : List Str) : (Txt.join sep ys).cps.toList = (ys.map (·.cps.toList)).flatten := by
  show (Builtin.Str.glued sep ys).cps.toList = _
  rw [StrLaws.glued_eq_join]
  exact strJoin_empty sep h ys
inductive Out (cd tx : Array Nat) (rp : List Nat) : Nat → List Nat → Prop
  | stop {i : Nat} : Tells cd tx i none → Out cd tx rp i (tx.toList.drop i)
  | go {i a e : Nat} {o : List Nat} : Tells cd tx i (some (a,e)) → i ≤ a → a < e → e ≤ tx.size → Out cd tx rp e o → Out cd tx rp i ((tx.toList.take a).drop i ++ rp ++ o)
theorem entry_subLoop : entryFor table "re.Pattern.sub.loop" = some Builtin.«re.Pattern.sub.loop» := entryFor_of_tree (by kernel_rfl)
theorem PatAt.but {h h' : Heap} {pt tp l : Addr} {cd : Array Nat} (P : PatAt h pt tp cd) (hs : Heap.SameBut l h h') (h1 : pt ≠ l) (h2 : tp ≠ l) : PatAt h' pt tp cd := by
  obtain ⟨⟨o,fs,a,b⟩,⟨o',vs,n,c,d⟩⟩ := P
  exact ⟨⟨o,fs,(hs.2 _ h1).trans a,b⟩,⟨o',vs,n,(hs.2 _ h2).trans c,d⟩⟩
theorem push_list {s : Shared} {M : Model} {A : Around} {E : Value → Shared → Prop} {l : Addr} {items : Array Value} {v : Value} {Q : Unit → Shared → Prop} (hl : s.heap.IsList l items) (hz : items.size ≤ 2 ^ 23)
    (h : ∀ h',Heap.SameBut l s.heap h' → h'.IsList l (items.push v) → Q () { s with heap := h' }) : wpAny M A (updateSeq l (·.push v)) Q E s := by
  obtain ⟨⟨c,d,dt,sl⟩,ho,hc,n,hd⟩ := hl
  dsimp only at hc hd
  subst hd
  have hline : sizeLine = 16777216 := by decide
  refine wpAny_updateSeq ho rfl (h _ (Heap.SameBut.update ..) ⟨_,Heap.get?_update_self _ ho rfl,hc,_,rfl⟩) (by omega) (by simp only [Array.size_push];omega)
noncomputable def cat (ys : List Str) : List Nat := (ys.map (·.cps.toList)).flatten
theorem cat_snoc (ys : List Str) (y : Str) : cat (ys ++ [y]) = cat ys ++ y.cps.toList := by simp [cat]
theorem cat_len (ys : List Str) : (ys.map (·.length)).sum = (cat ys).length := by
  induction ys with
  | nil => rfl
  | cons y r ih =>
    simp only [List.map_cons,List.sum_cons,ih,cat,List.flatten_cons,List.length_append]
    congr 1
theorem StrsAre.push {items : Array Value} {ys : List Str} (h : StrsAre items.toList ys) (y : Str) (t : Tok) : StrsAre (items.push (.str y t)).toList (ys ++ [y]) := by
  rw [Array.toList_push]
  exact StrsAre.append' h (.cons y t .nil)
theorem push_piece {α : Type} {s : Shared} {prog : Program} {w : World} {A : Around} {E : Value → Shared → Prop} {l : Addr} {items : Array Value} {ys : List Str} {x : Str} {i a : Nat} {Q : α → Shared → Prop} {K : Sem α} (hx : x.length ≤ 2 ^ 20) (ha : i ≤ a) (hax : a ≤ x.cps.size)
    (hl : s.heap.IsList l items) (hi : StrsAre items.toList ys) (hz : items.size ≤ 2 ^ 22)
    (h : ∀ h' tk items' ys',Heap.SameBut l s.heap h' → h'.IsList l items' → StrsAre items'.toList ys' → items'.size ≤ items.size + 1 → cat ys' = cat ys ++ (x.cps.toList.take a).drop i → wpAny (model prog w) A K Q E { s with heap := h',toks := tk }) :
    wpAny (model prog w) A (if i < a then (reSlice x.cps 0 i a >>= fun v => updateSeq l (·.push v) >>= fun _ => K) else K) Q E s := by
  have e : (x.cps.extract i a).toList = (x.cps.toList.take a).drop i := by simp [Array.toList_extract,List.extract_eq_take_drop,List.drop_take]
  by_cases hia : i < a
  · rw [if_pos hia]
    refine wpAny_bind ?_
    unfold reSlice
    rw [if_pos (by rfl)]
    refine wpAny_mkStr ?_ ?_
    · refine wpAny_bind (push_list hl (by omega) fun h' hs hl' => ?_)
      refine h h' _ _ _ hs hl' (StrsAre.push hi _ _) (by simp) ?_
      rw [cat_snoc,← e]
    · show (x.cps.extract i a).size ≤ sizeLine
      have hline : sizeLine = 16777216 := by decide
      have : x.cps.size ≤ 2 ^ 20 := hx
      rw [Array.size_extract];omega
  · rw [if_neg hia]
    have : i = a := by omega
    subst this
    exact h s.heap s.toks items ys (Heap.SameBut.refl ..) hl hi (by omega) (by rw [List.drop_take];simp)
theorem lit_same {M : Model} {A : Around} {E : Value → Shared → Prop} {s : Shared} {rp : Str} {tr : Tok} {Q : Unit → Shared → Prop} (h : Q () s) : wpAny M A (reLiteralCannotBeTurned (.str rp tr)) Q E s := by
  unfold reLiteralCannotBeTurned
  refine wpAny_bind (wpAny_pure ?_)
  exact wpAny_pure h
theorem sub_loop {w : World} {prog : Program} {A : Around} {pt tp l : Addr} {cd : Array Nat} {x rp : Str} {tk tr : Tok} (hx : x.length ≤ 2 ^ 20) {i : Nat} {o : List Nat} (O : Out cd x.cps rp.cps.toList i o) :
    ∀ (n : Int) (s : Shared) (items : Array Value) (ys : List Str) (R : Result → Shared → Prop),PatAt s.heap pt tp cd → pt ≠ l → tp ≠ l → i ≤ x.cps.size → s.heap.IsList l items → StrsAre items.toList ys →
      items.size + 2 * (x.cps.size - i) + 2 ≤ 2 ^ 22 → (cat ys).length + o.length ≤ 2 ^ 22 →
      (∀ y t h' tk',y.cps.toList = cat ys ++ o → Heap.SameBut l s.heap h' → R (.ok (.ret (.str y t))) { s with heap := h',toks := tk' }) →
      codeAny (model prog w) A (.builtin "re.Pattern.sub.loop" ⟨[.ref pt, .str x tk, .str rp tr, .int 0 0, .int 0 0, .int n 0, .int i 0, .int i 0, .bool false, .ref l, .bool false],[]⟩) R s := by
  have u0_ : Unit := ();have u1_ : Unit := ();have u2_ : Unit := ()
  revert hx O
  revert w prog A pt tp l cd x rp tk tr i o u0_ u1_ u2_
  k_extra "m:t16"
  intros w prog A pt tp l cd x rp tk tr i o _ _ _ hx O
  induction O with
  | @stop i T =>
    intro n s items ys R P h1 h2 hi hl hs hz ho hR
    obtain ⟨k,hk,hT⟩ := T
    refine codeAny_builtin entry_subLoop ?_
    unfold Builtin.«re.Pattern.sub.loop»
    dsimp only
    refine wpAny_bind (wp_target P ?_)
    simp only [show ((0 : Int) == 0) = true from rfl,if_true]
    refine wpAny_bind (lit_same ?_)
    refine wpAny_bind ?_
    have hc : ((0 : Int) != 0 && decide (n ≥ 0)) = false := rfl
    rw [if_neg (by rw [hc];exact Bool.false_ne_true)]
    refine wp_toEnd_none (k := k) hT hk ?_
    dsimp only
    rw [Int.toNat_natCast]
    refine push_piece hx hi (Nat.le_refl _) hl hs (by omega) fun h' tk1 items' ys' hb hl' hs' hz' hcat => ?_
    have ht : List.drop i (List.take x.cps.size x.cps.toList) = List.drop i x.cps.toList := by
      rw [List.take_of_length_le (by simp)]
    rw [ht] at hcat
    refine wpAny_bind ?_
    unfold reSlice
    rw [if_pos (by rfl)]
    refine wpAny_mkStr ?_ (by show (x.cps.extract 0 0).size ≤ _;simp)
    obtain ⟨o',ho',hc',n',hd'⟩ := hl'
    refine wpAny_bind (wpAny_seqItems ho' hd' ?_)
    simp only [Option.getD_some]
    have e0 : (x.cps.extract 0 0).toList = [] := by simp
    by_cases he : items'.isEmpty = true
    · rw [if_pos he]
      refine wpAny_bind (wpAny_pure ?_)
      rw [if_neg Bool.false_ne_true]
      refine wpAny_pure ?_
      have e1 : items'.toList = [] := by simpa using he
      rw [e1] at hs'
      cases hs'
      refine hR _ _ _ _ ?_ hb
      rw [← hcat]
      exact e0
    · rw [if_neg he]
      refine wpAny_bind ?_
      show wpAny _ _ (call (Value.builtin "str.join") [_,Value.ref l]) _ _ _
      refine join_list (ys := ys') (items := items') ⟨o',ho',hc',n',hd'⟩ hs' ?_ fun t' k' => ?_
      · show (ys'.map (·.length)).sum + ys'.length * (x.cps.extract 0 0).size ≤ _
        rw [show (x.cps.extract 0 0).size = 0 by simp,Nat.mul_zero,cat_len,hcat]
        simp only [List.length_append] at ho ⊢
        omega
      · rw [if_neg Bool.false_ne_true]
        refine wpAny_pure ?_
        refine hR _ _ _ _ ?_ hb
        rw [← hcat]
        exact txtJoin_empty _ e0 ys'
  | @go i a e o T hia hae hes O ih =>
    intro n s items ys R P h1 h2 hi hl hs hz ho hR
    obtain ⟨k,hk,hT⟩ := T
    refine codeAny_builtin entry_subLoop ?_
    unfold Builtin.«re.Pattern.sub.loop»
    dsimp only
    refine wpAny_bind (wp_target P ?_)
    simp only [show ((0 : Int) == 0) = true from rfl,if_true]
    refine wpAny_bind (lit_same ?_)
    refine wpAny_bind ?_
    have hc : ((0 : Int) != 0 && decide (n ≥ 0)) = false := rfl
    rw [if_neg (by rw [hc];exact Bool.false_ne_true)]
    refine wp_toEnd_some (k := k) hT.outcome hk ?_
    dsimp only
    rw [Int.toNat_natCast,hT.start,hT.handed]
    refine push_piece hx hia (by omega) hl hs (by omega) fun h' tk1 items' ys' hb hl' hs' hz' hcat => ?_
    refine wpAny_bind (wpAny_pure ?_)
    have hv : (Value.str rp tr != Value.none) = true := rfl
    rw [if_pos hv]
    refine wpAny_bind (push_list hl' (by omega) fun h'' hb2 hl2 => ?_)
    refine wpAny_pure ⟨plainId_quiet (by decide +kernel) _,?_⟩
    have hm : (e == a) = false := beq_eq_false_iff_ne.mpr (by omega)
    rw [hm]
    show codeAny _ _ (.builtin "re.Pattern.sub.loop" ⟨[.ref pt, .str x tk, .str rp tr, .int 0 0, .int 0 0, .int (n + 1) 0, .int e 0, .int e 0, .bool false, .ref l, .bool false],[]⟩) _ _
    have hb3 := hb.trans hb2
    refine ih (n + 1) _ _ _ _ (P.but hb3 h1 h2) h1 h2 hes hl2 (StrsAre.push hs' rp tr) ?_ ?_ fun y t h3 tk3 hy hs3 => ?_
    · simp only [Array.size_push];omega
    · rw [cat_snoc,hcat]
      simp only [List.length_append] at ho ⊢
      omega
    · refine hR y t h3 tk3 ?_ (hb3.trans hs3)
      rw [hy,cat_snoc,hcat]
      simp only [List.append_assoc]
theorem pat_sub_slot : Slot "re.Pattern" "sub" "re.Pattern.sub" :=
  .of (owner := "re.Pattern") (n := "sub") (by rw [typeLookup_type,builtinLookup_eq_fast];kernel_rfl) (by decide +kernel) (by decide +kernel) (by decide +kernel)
    (.inr (by rw [PySem.W.Fast.findQ_eq];decide +kernel)) (by rw [isSubtype_type];kernel_rfl)
theorem pat_sub_type : typeOf (.builtin "re.Pattern.sub") = pure (.type "method_descriptor") := by show builtinType _ = _;rw [builtinType_eq_fast];kernel_rfl
theorem pat_sub_entry : entryFor table "re.Pattern.sub" = some Builtin.«re.Pattern.sub» := entryFor_of_tree (by kernel_rfl)
theorem pat_plain : PlainAttrs "re.Pattern" := by
  refine ⟨⟨"object.__getattribute__",?_,?_⟩,?_⟩
  · rw [typeLookup_type,builtinLookup_eq_fast];kernel_rfl
  · exact F.canon_object_ga
  · rw [typeLookup_type,builtinLookup_eq_fast];kernel_rfl
theorem pat_sub_args (a b c : Value) : argsOk "re.Pattern.sub" ⟨[a,b,c],[]⟩ := by unfold argsOk;rw [PySem.W.Fast.signatureQ_eq];kernel_rfl
end
section
open PySem PySem.Sre PySem.Builtin PySem.Builtin.Re PyProof.Rows
theorem named_sub (a b : Value) : reNamed "re.Pattern.sub" "sub" ["repl","string","count"] 2 [a,b] [] = pure [some a,some b,none] := by
  with_unfolding_all rfl
theorem str_no_call : typeLookup (.type "str") "__call__" = pure none := by
  rw [typeLookup_type,builtinLookup_eq_fast];kernel_rfl
theorem call_sub {w : World} {prog : Program} {A : Around} {E : Value → Shared → Prop} {s : Shared} {pt tp : Addr} {cd : Array Nat} {x rp : Str} {tk tr : Tok} {o : List Nat} {Q : Value → Shared → Prop} (hx : x.length ≤ 2 ^ 20) (hrp : rp.cps.contains 92 = false)
    (O : Out cd x.cps rp.cps.toList 0 o) (ho : o.length ≤ 2 ^ 22) (hT : s.TypeIs (.ref pt) "re.Pattern") (P : PatAt s.heap pt tp cd)
    (h : ∀ y t h' tk',y.cps.toList = o → (∀ b ob,s.heap.get? b = some ob → h'.get? b = some ob) → s.heap.objs.size ≤ h'.objs.size → Q (.str y t) { s with heap := h',toks := tk' }) :
    wpAny (model prog w) A (call (.builtin "re.Pattern.sub") [.ref pt, .str rp tr, .str x tk]) Q E s := by
  have u0_ : Unit := ();have u1_ : Unit := ()
  revert hx hrp O ho hT P h
  revert w prog A E s pt tp cd x rp tk tr o Q u0_ u1_
  k_extra "m:t16"
  intros w prog A E s pt tp cd x rp tk tr o Q _ _ hx hrp O ho hT P h
  refine wpAny_call (codeAny_call_builtin pat_sub_slot.plain pat_sub_entry (pat_sub_slot.check _ _ _ _ _ _ _ _ hT (pat_sub_args _ _ _) ?_))
  unfold Builtin.«re.Pattern.sub» reSubstitute
  dsimp only
  rw [named_sub]
  refine wpAny_bind (wpAny_pure ?_)
  dsimp only
  refine wpAny_bind (wpAny_pure ?_)
  refine wpAny_bind (wpAny_specialOf (typeIs_str _ _ _) str_no_call ?_)
  simp only [Option.isSome_none,Bool.false_eq_true,if_false]
  refine wpAny_bind (wpAny_pure ?_)
  refine wpAny_bind (wpAny_pure ?_)
  rw [hrp]
  simp only [Bool.not_false,if_true]
  refine wpAny_bind (wpAny_pure ?_)
  dsimp only
  refine wpAny_bind (wpAny_holding (wp_target P ?_))
  simp only [show ((0 : Int) == 1) = false from rfl,Bool.false_eq_true,if_false]
  refine wpAny_bind (wpAny_newList ?_ (by decide))
  refine wpAny_pure ⟨plainId_quiet (by decide +kernel) _,?_⟩
  show codeAny _ _ (.builtin "re.Pattern.sub.loop" ⟨[.ref pt, .str x tk, .str rp tr, .int 0 0, .int 0 0, .int 0 0, .int ((0 : Nat) : Int) 0, .int ((0 : Nat) : Int) 0, .bool false, .ref s.heap.objs.size, .bool false],[]⟩) _ _
  have hp := P
  obtain ⟨⟨ob1,fs,h1,_⟩,⟨ob2,vs,n,h2,_⟩⟩ := hp
  have n1 : pt ≠ s.heap.objs.size := Nat.ne_of_lt (Heap.lt_size h1)
  have n2 : tp ≠ s.heap.objs.size := Nat.ne_of_lt (Heap.lt_size h2)
  refine sub_loop hx O 0 _ #[] [] _ ?_ n1 n2 (Nat.zero_le _) ⟨_,Heap.get?_push_size _ rfl,rfl,_,rfl⟩ .nil ?_ (by simpa [cat] using ho) fun y t h' tk' hy hs => ?_
  · obtain ⟨⟨o1,fs,a,b⟩,⟨o2,vs,n,c,d⟩⟩ := P
    exact ⟨⟨o1,fs,Heap.get?_push_of_some _ a,b⟩,⟨o2,vs,n,Heap.get?_push_of_some _ c,d⟩⟩
  · have : x.cps.size ≤ 2 ^ 20 := hx
    simp;omega
  · refine h y t h' tk' (by simpa [cat] using hy) (fun b ob e => ?_) ?_
    · exact (hs.2 b (Nat.ne_of_lt (Heap.lt_size e))).trans (Heap.get?_push_of_some _ e)
    · rw [hs.1,Heap.size_push];omega
end
section
open PySem PySem.Sre PyProof.Rows
noncomputable def crlf : List Nat → List Nat
  | [] => []
  | [c] => if c = 10 ∨ c = 13 then [13,10] else [c]
  | c :: d :: r => if c = 13 ∧ d = 10 then 13 :: 10 :: crlf r else if c = 10 ∨ c = 13 then 13 :: 10 :: crlf (d :: r) else c :: crlf (d :: r)
noncomputable def dots (b : Bool) : List Nat → List Nat
  | [] => []
  | c :: r => if b = true ∧ c = 46 then 46 :: 46 :: dots false r else c :: dots (c == 10) r
theorem crlf_len : ∀ x : List Nat,(crlf x).length ≤ 2 * x.length
  | [] => Nat.le_refl _
  | [c] => by unfold crlf;split <;> simp
  | c :: d :: r => by
    unfold crlf
    split
    · have := crlf_len r;simp;omega
    · have := crlf_len (d :: r)
      split <;> simp at this ⊢ <;> omega
theorem dots_len : ∀ (x : List Nat) (b : Bool),(dots b x).length ≤ 2 * x.length
  | [],_ => Nat.le_refl _
  | c :: r,b => by
    unfold dots
    split
    · have := dots_len r false;simp;omega
    · have := dots_len r (c == 10);simp;omega
theorem drop_at {tx : Array Nat} {i : Nat} (h : i < tx.size) : tx.toList.drop i = tx[i]?.getD 0 :: tx.toList.drop (i + 1) := by
  rw [List.drop_eq_getElem_cons (by simpa using h)]
  simp [h]
theorem crlf_step {tx : Array Nat} {i : Nat} (h : i < tx.size) (hn : ¬ nlAt tx tx.size i) : crlf (tx.toList.drop i) = tx[i]?.getD 0 :: crlf (tx.toList.drop (i + 1)) := by
  rw [drop_at h]
  have h1 : ¬ (tx[i]?.getD 0 = 10 ∨ tx[i]?.getD 0 = 13) := fun e => hn ⟨h,e⟩
  cases he : tx.toList.drop (i + 1) with
  | nil => simp only [crlf];rw [if_neg h1]
  | cons d r =>
    simp only [crlf]
    rw [if_neg (fun e => h1 (.inr e.1)),if_neg h1]
theorem crlf_at {tx : Array Nat} {i : Nat} (hn : nlAt tx tx.size i) : crlf (tx.toList.drop i) = 13 :: 10 :: crlf (tx.toList.drop (if tx[i]?.getD 0 = 13 ∧ i + 1 < tx.size ∧ tx[i + 1]?.getD 0 = 10 then i + 2 else i + 1)) := by
  obtain ⟨h,h1⟩ := hn
  rw [drop_at h]
  by_cases h2 : i + 1 < tx.size
  · rw [drop_at h2]
    simp only [crlf]
    by_cases h3 : tx[i]?.getD 0 = 13 ∧ tx[i + 1]?.getD 0 = 10
    · rw [if_pos h3,if_pos ⟨h3.1,h2,h3.2⟩]
    · rw [if_neg h3,if_pos h1,if_neg (fun e => h3 ⟨e.1,e.2.2⟩),drop_at h2]
  · have e : tx.toList.drop (i + 1) = [] := List.drop_eq_nil_of_le (by simpa using Nat.le_of_not_lt h2)
    rw [e,if_neg (fun e => h2 e.2.1),e]
    simp only [crlf]
    rw [if_pos h1]
theorem crlf_run {tx : Array Nat} : ∀ (n i a : Nat),a = i + n → a ≤ tx.size → (∀ j,i ≤ j → j < a → ¬ nlAt tx tx.size j) → crlf (tx.toList.drop i) = (tx.toList.take a).drop i ++ crlf (tx.toList.drop a)
  | 0,i,a,e,ha,_ => by subst e;simp
  | n + 1,i,a,e,ha,h => by
    rw [crlf_step (by omega) (h i (Nat.le_refl _) (by omega)),crlf_run n (i + 1) a (by omega) ha (fun j h1 h2 => h j (by omega) h2)]
    have e2 : (tx.toList.take a).drop i = tx[i]?.getD 0 :: (tx.toList.take a).drop (i + 1) := by
      rw [List.drop_eq_getElem_cons (by simp;omega)]
      simp [show i < tx.size by omega]
    rw [e2];rfl
theorem nl_out {tx : Array Nat} (ht : tx.size ≤ 2 ^ 24) : ∀ (n i : Nat),n = tx.size - i → Out nlCode tx [13,10] i (crlf (tx.toList.drop i)) := by
  intro n
  induction n using Nat.strongRecOn with
  | ind n ih =>
    intro i hn
    rcases nl_tells ht i with ⟨a,h1,h2,h3,h4⟩ | ⟨h1,h2⟩
    · have ha : a < tx.size := h2.1
      rw [crlf_run (a - i) i a (by omega) (by omega) h3,crlf_at h2]
      have := Out.go (rp := [13,10]) h4 h1 (by split <;> omega) (by split <;> omega) (ih (tx.size - (if tx[a]?.getD 0 = 13 ∧ a + 1 < tx.size ∧ tx[a + 1]?.getD 0 = 10 then a + 2 else a + 1)) (by split <;> omega) _ rfl)
      simpa using this
    · have e : crlf (tx.toList.drop i) = tx.toList.drop i := by
        by_cases hi : i ≤ tx.size
        · rw [crlf_run (tx.size - i) i tx.size (by omega) (Nat.le_refl _) (fun j a _ => h1 j a)]
          have : tx.toList.drop tx.size = [] := List.drop_eq_nil_of_le (by simp)
          rw [this]
          have : tx.toList.take tx.size = tx.toList := List.take_of_length_le (by simp)
          rw [this];simp [crlf]
        · have : tx.toList.drop i = [] := List.drop_eq_nil_of_le (by simp;omega)
          rw [this];rfl
      rw [e]
      exact .stop h2
noncomputable def rowAt (tx : Array Nat) (i : Nat) : Bool := i == 0 || tx[i - 1]?.getD 0 == 10
theorem rowAt_iff {tx : Array Nat} {i : Nat} : rowAt tx i = true ↔ (i = 0 ∨ tx[i - 1]?.getD 0 = 10) := by
  simp [rowAt]
theorem dots_step {tx : Array Nat} {i : Nat} (h : i < tx.size) (hn : ¬ dotAt tx tx.size i) : dots (rowAt tx i) (tx.toList.drop i) = tx[i]?.getD 0 :: dots (rowAt tx (i + 1)) (tx.toList.drop (i + 1)) := by
  rw [drop_at h]
  simp only [dots]
  rw [if_neg (fun e => hn ⟨rowAt_iff.mp e.1,h,e.2⟩)]
  rfl
theorem dots_at {tx : Array Nat} {i : Nat} (hn : dotAt tx tx.size i) : dots (rowAt tx i) (tx.toList.drop i) = 46 :: 46 :: dots (rowAt tx (i + 1)) (tx.toList.drop (i + 1)) := by
  obtain ⟨h0,h,h1⟩ := hn
  rw [drop_at h]
  simp only [dots]
  rw [if_pos ⟨rowAt_iff.mpr h0,h1⟩]
  have e : rowAt tx (i + 1) = false := by
    simp [rowAt,h1]
  rw [e]
theorem dots_run {tx : Array Nat} : ∀ (n i a : Nat),a = i + n → a ≤ tx.size → (∀ j,i ≤ j → j < a → ¬ dotAt tx tx.size j) → dots (rowAt tx i) (tx.toList.drop i) = (tx.toList.take a).drop i ++ dots (rowAt tx a) (tx.toList.drop a)
  | 0,i,a,e,ha,_ => by subst e;simp
  | n + 1,i,a,e,ha,h => by
    rw [dots_step (by omega) (h i (Nat.le_refl _) (by omega)),dots_run n (i + 1) a (by omega) ha (fun j h1 h2 => h j (by omega) h2)]
    have e2 : (tx.toList.take a).drop i = tx[i]?.getD 0 :: (tx.toList.take a).drop (i + 1) := by
      rw [List.drop_eq_getElem_cons (by simp;omega)]
      simp [show i < tx.size by omega]
    rw [e2];rfl
theorem dot_out {tx : Array Nat} (ht : tx.size ≤ 2 ^ 24) : ∀ (n i : Nat),n = tx.size - i → Out dotCode tx [46,46] i (dots (rowAt tx i) (tx.toList.drop i)) := by
  intro n
  induction n using Nat.strongRecOn with
  | ind n ih =>
    intro i hn
    rcases dot_tells ht i with ⟨a,h1,h2,h3,h4⟩ | ⟨h1,h2⟩
    · have ha : a < tx.size := h2.2.1
      rw [dots_run (a - i) i a (by omega) (by omega) h3,dots_at h2]
      have := Out.go (rp := [46,46]) h4 h1 (by omega) (by omega) (ih (tx.size - (a + 1)) (by omega) _ rfl)
      simpa using this
    · have e : dots (rowAt tx i) (tx.toList.drop i) = tx.toList.drop i := by
        by_cases hi : i ≤ tx.size
        · rw [dots_run (tx.size - i) i tx.size (by omega) (Nat.le_refl _) (fun j a _ => h1 j a)]
          have : tx.toList.drop tx.size = [] := List.drop_eq_nil_of_le (by simp)
          rw [this]
          have : tx.toList.take tx.size = tx.toList := List.take_of_length_le (by simp)
          rw [this];simp [dots]
        · have : tx.toList.drop i = [] := List.drop_eq_nil_of_le (by simp;omega)
          rw [this];rfl
      rw [e]
      exact .stop h2
noncomputable def mail (x : List Nat) : List Nat := dots true (crlf x)
noncomputable def ofL (l : List Nat) : Str := ⟨l.toArray⟩
end
open PySem PySem.W PyProof.Rows
def rowTab : String := "|exec If=cut|subscriptTail=cut dicts ints lst ltext|delItem ref ref=del|call builtin:dict.get cons nil=dicts|getMethod ref=dicts fast itemsort mown quote w1|setDisplayStar ref=dicts setrows|subscriptTail Attribute Name UnaryOp ref int=dicts lst|subscriptTail Name Name ref str=dicts lspell|subscriptTail Name UnaryOp ref int=dicts lst|truthy ref=dicts lst|call ref=esc flush lam_call lawx lspell ltext ltold qname quote start startr tell0 wr1|callWith builtin:list.append cons nil=fast|callWith ref=fast mown wr1|eval Name=fast|getAttr ref=fast lapp|joinParts=fast oo starta|subscriptTail Subscript Name Name Constant ref int=fast|subscriptTail Name Constant ref int=ints|call builtin:dict.items=itemsort w1|call builtin:sorted cons=itemsort keyt|eval Lambda Call=keyt|call builtin:str.join=lawx starta|eval ListComp=lawx starta|execs cons Assign cons=lawx writer|execs cons Expr cons=lawx|exec While Compare=lcalls|subscriptTail List cons BinOp ref int=lcalls|OneEnd=loop|exec For=loop|pyIter ref=loop ltold|compareOp In str ref=lspell|pyIter str=lspell|call builtin:len=lst|call builtin:list.pop=lst|execs cons If cons=ltold|inplaceOp Add str str=ltold|call builtin:str.replace=mac0|execs cons=mac0 oo|execs nil=mac0|forall=mac0|And=mown startr wr1|evalPairs=oo|ite=oo|storeName=oo|call builtin:re.Pattern.sub=quote|eval Set cons=setrows|setAdd str=setrows|storeName ref=setrows|exec Assign cons DictComp=startr|Exists=tell0|eval Dict nil nil=tell0|call type:list=w1|compareOp NotEq ref ref=wloop|call builtin:list.append=wr1|truthy str=wr2|"
def topOf (ts : String) : Lean.Macro := fun stx => do
  let some k := stx[1].isStrLit? | Lean.Macro.throwUnsupported
  let ["",k0] := k.splitOn "w:" | Lean.Macro.throwUnsupported
  let [_,b] := rowTab.splitOn ("|" ++ k0 ++ "=") | Lean.Macro.throwUnsupported
  let hs := ((b.splitOn "|").headD "").splitOn " "
  let ks := (ts.splitOn " ").filter hs.contains
  match ks.reverse with
  | [] => Lean.Macro.throwUnsupported
  | k :: r => do
    let mut acc ← `(tactic| k_extra $(Lean.quote (k ++ ":" ++ k0)))
    for k' in r do acc ← `(tactic| first | k_extra $(Lean.quote (k' ++ ":" ++ k0)) | $acc:tactic)
    return acc.raw
section
theorem rows_mac0_1 : True := by
  (k_with "m:k_room" => (ktr_room))
  (k_with "mac0:execs cons" => (k_here;(with_reducible refine' Mine.toksC ?ht9'7 ?_);(case ht9'7 => (try dsimp only);k_dflt omega);intro tk'7 htk'7))
  (k_with "mac0:forall" => (k_here;(with_reducible show (_ ≤ _ → _));intro htk'8;(try dsimp only at htk'8);(try dsimp only)))
  (k_with "mac0:execs nil" => (k_here;(with_reducible refine' Mine.toksA ?ht9'9 ?_);(case ht9'9 => (fail_if_success assumption);(try dsimp only);k_dflt omega);intro tk'9 htk'9))
  (k_with "mac0:call builtin:str.replace" => (k_here;(k_dflt (refine' SC.replaceW ?a9'a ?b9'a ?c9'a ?d9'a ?e9'a ?f9'a ?_;(case a9'a => (refine neN ?_);(try dsimp only);omega);(case b9'a => (refine neN ?_);(try dsimp only);omega);(case c9'a => (refine neN ?_);(try dsimp only);omega);(case d9'a => decide);(case e9'a => first | assumption | omega);(case f9'a => decide)));intro _ _))
  (k_with "m:kn_code" => (first | with_reducible assumption | exact codeHd_of_K (by with_reducible assumption) (by kernel_rfl)))
  trivial
end
section
noncomputable abbrev bndObj (id : String) (self : Value) : Obj := { cls := .type "builtin_function_or_method",data := .fields #[.builtin id,self] }
section
variable {prog : Program} {w : World} {A : Around} {E : Value → Shared → Prop} {s : Shared}
theorem call_bound {x : Addr} {id : String} {B : Builtin} {self : Value} {rest : List Value} {S : PySem.Spec} {Q : Value → Shared → Prop} (hx : s.heap.get? x = some (bndObj id self)) (plain : plainId id = true)
    (entry : entryFor table id = some B) (hc : ∀ {A' : Around} {P : Unit → Shared → Prop} {E' : Value → Shared → Prop},P () s → wpAny (model prog w) A' (checkBoundCall id ⟨self :: rest,[]⟩) P E' s)
    (g : Meets (B ⟨self :: rest,[]⟩) S) (h : S A (wants Q E) s) : wpAny (model prog w) A (call (.ref x) rest) Q E s := by
  refine wpAny_call (codeAny_of_tree ?_)
  show wpAny _ A.in1 (callAny (.ref x) ⟨rest,[]⟩) _ _ s
  simp only [callAny]
  refine wpAny_bind (wpAny_load hx ?_)
  simp only [show (Value.type "builtin_function_or_method" == Value.type "method" || Value.type "builtin_function_or_method" == Value.type "builtin_function_or_method" || Value.type "builtin_function_or_method" == Value.type "method-wrapper") = true by decide,if_true]
  refine KFB.if_so (by decide) ?_
  refine wpAny_bind (hc ?_)
  refine wpAny_bind (wpAny_pure (wpAny_pure ?_))
  refine ⟨plainId_quiet plain _,codeAny_builtin entry ?_⟩
  rw [Around.under_plainId plain]
  exact g prog w A (wants Q E) s h
theorem isType_list {D : Addr} {o : Obj} {Q : Bool → Shared → Prop} (ho : s.heap.get? D = some o) (hd : ∃ vs n,o.data = .seq vs n) (h : Q false s) : wpAny (model prog w) A (PySem.isType (.ref D)) Q E s := by
  unfold PySem.isType loadHead
  refine wpAny_bind (wpAny_loadPart ho (wpAny_pure ?_))
  obtain ⟨vs,n,e⟩ := hd
  rw [e];exact h
theorem check_append {D : Addr} {o : Obj} {x : Value} {P : Unit → Shared → Prop} (ho : s.heap.get? D = some o) (hc : o.cls = .type "list") (hd : ∃ vs n, o.data = .seq vs n) (h : P () s) :
    wpAny (model prog w) A (checkBoundCall "list.append" ⟨[.ref D,x],[]⟩) P E s := by
  unfold checkBoundCall
  obtain ⟨sg,e1⟩ : ∃ sg,Manifest.signature? "list.append" = some sg := Option.isSome_iff_exists.mp (by decide +kernel)
  have e4 : ∀ q : Manifest.Signature,Manifest.signature? "list.append" = some q → Bind.checkArgs "list.append" { q with full := s!"{Bind.lastOf "list"}.{Bind.lastOf "list.append"}" } ⟨[.ref D,x],[]⟩ = pure () := by
    intro q hq
    have : Manifest.signature? "list.append" = some ⟨.oneArg,"list.append","append", .self,[⟨"object", .posOnly,true⟩]⟩ := by kernel_rfl
    rw [this] at hq
    cases hq
    kernel_rfl
  have e2 : builtinKind "list.append" = some .method := by kernel_rfl
  have e3 : Manifest.varargsMethods.contains "list.append" = false := by kernel_rfl
  rw [e1,e2]
  dsimp only
  refine KFB.if_not (by decide) ?_
  refine wpAny_bind (wpAny_isInstance (T := "list") (b := false) ⟨o,ho,hc⟩ (by kernel_rfl) ?_)
  rw [e3]
  refine KFB.if_not (by decide) ?_
  refine wpAny_bind (isType_list ho hd ?_)
  refine KFB.if_not (by decide) ?_
  refine wpAny_bind (wpAny_typeOf (T := "list") ⟨o,ho,hc⟩ ?_)
  exact wpAny_of_eq (e4 sg e1) h
theorem meets_append (D : Addr) (x : Value) : Meets (Builtin.«list.append» ⟨[.ref D, x], []⟩) (fun _ R s => ∃ its n, s.heap.get? D = some (listOf its n) ∧ its.size ≤ sizeLine ∧
    ∀ h',Heap.SameBut D s.heap h' → h'.get? D = some (listOf (its.push x) (n + 1)) → R (.ok (.ret .none)) { s with heap := h' }) := by
  intro prog w A R s ⟨its,n,ho,hsz,h⟩
  show wpAny _ _ (updateSeq D (·.push x) >>= fun _ => ret .none) _ _ s
  refine wpAny_bind ?_
  refine wpAny_updateSeq ho rfl (wpAny_pure (h _ (Heap.SameBut.update ..) ?_)) (by exact hsz)
  rw [Heap.get?_update_self _ ho (by rw [mapSeq_push];rfl),mapSeq_push]
theorem wire_K {x D L : Addr} {h₀ : Heap} {m : Str → Option Value} {news news' : List (Addr × Obj)} {its : Array Value} {n : Nat} {v : Value} {Q : Value → Shared → Prop} (F : Fr h₀ L s.heap m) (N : News h₀ L s.heap news) (hx : (x, bndObj "list.append" (.ref D)) ∈ news)
    (U : Upd D (listOf its n) (listOf (its.push v) (n + 1)) news news') (hsz : its.size ≤ 100000) (h : ∀ h',Fr h₀ L h' m → News h₀ L h' news' → Q .none { s with heap := h' }) : wpAny (model prog w) A (call (.ref x) [v]) Q E s := by
  obtain ⟨pre,post,rfl,rfl,a,b⟩ := U.split
  have z := N (D,listOf its n) (List.mem_append.mpr (.inr (.head _)))
  refine call_bound (N _ hx).1 (by decide +kernel) entry_list_append (fun hp => check_append z.1 rfl ⟨_,_,rfl⟩ hp) (meets_append D v) ⟨its,n,z.1,?_,fun h' hs ho' => h h' (F.change hs z.2.1 z.2.2) (news_set N a b hs ho')⟩
  have : sizeLine = 16777216 := by decide
  omega
theorem check_join {D : Addr} {t : Tok} : checkBoundCall "str.join" ⟨[.str "" t, .ref D],[]⟩ = pure () := by kernel_rfl
theorem join_K {D : Addr} {its : Array Value} {ys : List Str} {P : Params} {h₀ : Heap} {L : Addr} {m : Str → Option Value} {Q : Value → Shared → Prop} (F : Fr h₀ L s.heap m) (X : (K P).In h₀) (hl : s.heap.IsList D its) (hi : StrsAre its.toList ys)
    {x : Str} (hok : (ys.map (·.length)).sum ≤ 100000) (hj : Txt.join "" ys = x) (h : ∀ t' k,Q (.str x t') { s with toks := k }) : wpAny (model prog w) A (call (.ref 98) [.ref D]) Q E s := by
  subst hj
  obtain ⟨l,hv,ht⟩ := strsAre_values hi
  have e : its = (strValues l).toArray := by rw [← hv]
  subst e
  subst ht
  have z : ("" : Str).length = 0 := by decide
  have hok' : JoinOk "" (l.map (·.1)) = true := joinOk_of (by rw [z];omega)
  have hl0 := hok'
  unfold JoinOk at hl0
  rw [Bool.not_eq_true'] at hl0
  exact call_bound (id := "str.join") (self := .str "" 437) (F.keep _ _ (X 98 _ rfl)) (by decide +kernel) PySem.F.entry_str_join (fun hp => wpAny_of_eq check_join hp) (meets_str_join_list "" 437 D l hl0) ⟨hl,post_join l ⟨joinFit_length hl0,h⟩⟩
end
end
section
section
open Builtin Builtin.Str PySem.StrLaws
noncomputable def cut2 (p q : Nat) : List Nat → List (List Nat)
  | [] => [[]]
  | [c] => [[c]]
  | c :: d :: r => if c = p ∧ d = q then [] :: cut2 p q r else ((cut2 p q (d :: r)).head?.getD []).cons c :: (cut2 p q (d :: r)).tail
theorem cut2_ne {p q : Nat} : ∀ l : List Nat,cut2 p q l ≠ []
  | [] => by simp [cut2]
  | [c] => by simp [cut2]
  | c :: d :: r => by
    unfold cut2
    split <;> simp
def PairAt (p q : Nat) (l : List Nat) (k : Nat) : Prop := l[k]? = some p ∧ l[k + 1]? = some q
theorem cut2_cons {p q c : Nat} {r : List Nat} (h : ¬ PairAt p q (c :: r) 0) {l : List Nat} {ls : List (List Nat)} (e : cut2 p q r = l :: ls) : cut2 p q (c :: r) = (c :: l) :: ls := by
  cases r with
  | nil => simp only [cut2,List.cons.injEq] at e;obtain ⟨rfl,rfl⟩ := e;rfl
  | cons d r =>
    have hn : ¬ (c = p ∧ d = q) := fun ⟨a,b⟩ => h ⟨by simp [a],by simp [b]⟩
    rw [cut2,if_neg hn,e];rfl
theorem cut2_none {p q : Nat} : ∀ l : List Nat,(∀ k,¬ PairAt p q l k) → cut2 p q l = [l]
  | [],_ => rfl
  | c :: r,h => cut2_cons (h 0) (cut2_none r fun k hk => h (k + 1) ⟨by simpa using hk.1,by simpa using hk.2⟩)
theorem cut2_at {p q : Nat} : ∀ (n : Nat) (l : List Nat),(∀ k,k < n → ¬ PairAt p q l k) → PairAt p q l n → cut2 p q l = l.take n :: cut2 p q (l.drop (n + 2))
  | 0,l,_,⟨h1,h2⟩ => by
    match l,h1,h2 with
    | c :: d :: r,h1,h2 =>
      rw [cut2,if_pos ⟨by simpa using h1,by simpa using h2⟩];rfl
  | n + 1,l,h,⟨h1,h2⟩ => by
    match l,h1,h2,h with
    | c :: r,h1,h2,h =>
      have e := cut2_at n r (fun k hk x => h (k + 1) (by omega) ⟨by simpa using x.1,by simpa using x.2⟩) ⟨by simpa using h1,by simpa using h2⟩
      exact cut2_cons (h 0 (by omega)) e
theorem subAt_two (x : Str) (p q i : Nat) : At x ⟨#[p,q]⟩ x.length i ↔ PairAt p q x.cps.toList i := by
  have hl : x.length = x.cps.toList.length := by show x.cps.size = _;simp
  unfold At PairAt
  rw [subAt_eq]
  show i + 2 ≤ x.length ∧ ((x.cps.toList.drop i).take 2 == [p,q]) = true ↔ _
  rw [hl]
  generalize x.cps.toList = l
  constructor
  · rintro ⟨h1,h2⟩
    have h2 := beq_iff_eq.mp h2
    have a : ((l.drop i).take 2)[0]? = some p := by rw [h2];rfl
    have b : ((l.drop i).take 2)[1]? = some q := by rw [h2];rfl
    rw [List.getElem?_take_of_lt (by decide),List.getElem?_drop] at a b
    exact ⟨a,b⟩
  · rintro ⟨a,b⟩
    have hb : i + 1 < l.length := (List.getElem?_eq_some_iff.mp b).1
    refine ⟨by omega,beq_iff_eq.mpr ?_⟩
    apply List.ext_getElem?
    intro k
    rcases k with _ | _ | k
    · rw [List.getElem?_take_of_lt (by decide),List.getElem?_drop];exact a
    · rw [List.getElem?_take_of_lt (by decide),List.getElem?_drop];exact b
    · rw [List.getElem?_take_eq_none (by omega)];rfl
theorem parts2 (x : Str) (p q : Nat) : ∀ (cuts : List Nat) (a f : Nat), a ≤ x.length → ChainG x ⟨#[p, q]⟩ x.length a cuts f → (∀ k, f ≤ k → ¬ At x ⟨#[p, q]⟩ x.length k) →
    (partsFrom x 2 a cuts).map (·.cps.toList) = cut2 p q (x.cps.toList.drop a)
  | [],a,f,ha,h,hn => by
    have e : f = a := h
    subst e
    rw [cut2_none]
    · show [(strSub x f x.length).cps.toList] = _
      rw [strSub_toList,List.take_of_length_le (by rw [List.length_drop];exact Nat.le_of_eq (by show x.cps.toList.length - f = x.cps.size - f;simp))]
    · intro k hk
      refine hn (f + k) (by omega) ((subAt_two _ _ _ _).mpr ?_)
      unfold PairAt at hk ⊢
      rw [List.getElem?_drop,List.getElem?_drop] at hk
      exact ⟨hk.1,by rw [← hk.2];congr 1⟩
  | c :: r,a,f,ha,h,hn => by
    obtain ⟨h1,h2,h3,h4⟩ := h
    have h5 := (subAt_two _ _ _ _).mp h2
    have hc : c + 2 ≤ x.length := h2.1
    rw [cut2_at (c - a) (x.cps.toList.drop a)]
    · show (strSub x a c).cps.toList :: (partsFrom x 2 (c + 2) r).map _ = _
      rw [strSub_toList,parts2 x p q r (c + 2) f hc h4 hn,List.drop_drop,show a + (c - a + 2) = c + 2 by omega]
    · intro k hk hP
      refine h3 (a + k) (by omega) (by omega) ((subAt_two _ _ _ _).mpr ?_)
      unfold PairAt at hP ⊢
      rw [List.getElem?_drop,List.getElem?_drop] at hP
      exact ⟨hP.1,by rw [← hP.2];congr 1⟩
    · unfold PairAt at h5 ⊢
      rw [List.getElem?_drop,List.getElem?_drop,show a + (c - a) = c by omega,show a + (c - a + 1) = c + 1 by omega]
      exact h5
theorem occ_parts2 (x : Str) (p q : Nat) : (partsBetween x (occurrences x ⟨#[p,q]⟩ 0 x.length (x.length + 1)) 2).map (·.cps.toList) = cut2 p q x.cps.toList := by
  obtain ⟨f,h,hn⟩ := occ_tight x ⟨#[p,q]⟩ (show 1 ≤ 2 by decide)
  rw [partsBetween_eq]
  exact parts2 x p q _ 0 f (Nat.zero_le _) h hn
theorem occ_empty2 (x : Str) (p q : Nat) (h : (occurrences x ⟨#[p,q]⟩ 0 x.length (x.length + 1)).isEmpty = true) : cut2 p q x.cps.toList = [x.cps.toList] := by
  have := occ_parts2 x p q
  rw [List.isEmpty_iff.mp h] at this
  rw [← this]
  show [(strSub x 0 x.length).cps.toList] = _
  rw [sub_whole]
theorem split_two (x : Str) (p q : Nat) (hk : p < 128) (hq : q < 128) : (Txt.split x ⟨#[p,q]⟩).map (·.cps.toList) = cut2 p q x.cps.toList := by
  unfold Txt.split
  split
  · rename_i h
    have k1 : Builtin.Str.strKind ⟨#[p,q]⟩ = 1 := by
      unfold Builtin.Str.strKind
      rw [if_pos]
      simp;omega
    have k2 : ¬ Builtin.Str.strKind x < 1 := by unfold Builtin.Str.strKind;split <;> (try split) <;> omega
    rw [k1,decide_eq_false k2,Bool.or_false] at h
    have h := of_decide_eq_true h
    rw [cut2_none]
    · rfl
    · intro k hP
      have := (subAt_two _ _ _ _).mpr hP
      have := this.1
      omega
  · split
    · rename_i h;rw [occ_empty2 x p q h];rfl
    · exact occ_parts2 x p q
noncomputable def rep2 (p q : Nat) (z : List Nat) : List Nat → List Nat
  | [] => []
  | [c] => [c]
  | c :: d :: r => if c = p ∧ d = q then z ++ rep2 p q z r else c :: rep2 p q z (d :: r)
noncomputable def joinL (z : List Nat) : List (List Nat) → List Nat
  | [] => []
  | [l] => l
  | l :: m :: r => l ++ z ++ joinL z (m :: r)
theorem joinL_cons {z l : List Nat} {ls : List (List Nat)} (h : ls ≠ []) : joinL z (l :: ls) = l ++ z ++ joinL z ls := by
  cases ls with
  | nil => exact absurd rfl h
  | cons m r => rfl
theorem joinL_head {z l : List Nat} {c : Nat} {ls : List (List Nat)} : joinL z ((c :: l) :: ls) = c :: joinL z (l :: ls) := by
  cases ls with
  | nil => rfl
  | cons m r => rfl
theorem cut2_join {p q : Nat} {z : List Nat} : ∀ l : List Nat,joinL z (cut2 p q l) = rep2 p q z l
  | [] => rfl
  | [c] => rfl
  | c :: d :: r => by
    unfold cut2 rep2
    split
    · rw [joinL_cons (cut2_ne r),cut2_join r];rfl
    · obtain ⟨l, ls, e⟩ : ∃ l ls, cut2 p q (d :: r) = l :: ls := by
        cases e : cut2 p q (d :: r) with
        | nil => exact absurd e (cut2_ne _)
        | cons l ls => exact ⟨l,ls,rfl⟩
      rw [e]
      show joinL z ((c :: l) :: ls) = _
      rw [joinL_head,← e,cut2_join (d :: r)]
theorem strJoin_L (z : Str) : ∀ ls : List Str,(Str.join z ls).cps.toList = joinL z.cps.toList (ls.map (·.cps.toList))
  | [] => rfl
  | [x] => rfl
  | x :: y :: r => by
    show (x ++ z ++ Str.join z (y :: r)).cps.toList = _
    show (x.cps ++ z.cps ++ (Str.join z (y :: r)).cps).toList = _
    rw [Array.toList_append,Array.toList_append,strJoin_L z (y :: r)]
    rfl
theorem replace_two (x z : Str) (p q : Nat) : (Txt.replace x ⟨#[p,q]⟩ z).cps.toList = rep2 p q z.cps.toList x.cps.toList := by
  unfold Txt.replace
  rw [← cut2_join]
  split
  · rename_i h
    have h : (occurrences x ⟨#[p,q]⟩ 0 x.length (x.length + 1)).isEmpty = true := by
      rcases Bool.or_eq_true_iff.mp h with h | h
      · exact h
      · exact absurd (Bool.and_eq_true_iff.mp h).1 (by show ¬ ((2 == 0) = true);decide)
    rw [occ_empty2 x p q h];rfl
  · rw [glued_eq_join,strJoin_L]
    congr 1
    exact occ_parts2 x p q
theorem join_L (z : Str) (ls : List Str) : (Txt.join z ls).cps.toList = joinL z.cps.toList (ls.map (·.cps.toList)) := by
  unfold Txt.join
  rw [glued_eq_join,strJoin_L]
end
end
section
section
open PySem.StrLaws
theorem ofL_cps (l : List Nat) : (ofL l).cps.toList = l := by unfold ofL;simp
theorem ofL_self (x : Str) : ofL x.cps.toList = x := by cases x;simp [ofL]
theorem ofL_inj {a b : List Nat} (h : ofL a = ofL b) : a = b := by rw [← ofL_cps a,← ofL_cps b,h]
theorem ofL_app (a : List Nat) (y : Str) : ofL a ++ y = ofL (a ++ y.cps.toList) := by
  apply PySem.Str.ext'
  show (ofL a).cps ++ y.cps = _
  rw [← Array.toList_inj,Array.toList_append,ofL_cps,ofL_cps]
theorem str_beq (a b : Str) : (a == b) = decide (a.cps.toList = b.cps.toList) := by
  by_cases h : a = b
  · subst h;simp
  · rw [beq_eq_false_iff_ne.mpr h,decide_eq_false]
    intro e
    exact h (PySem.Str.ext' (by rw [← Array.toList_inj];exact e))
theorem slice_eq (x : Str) (l u : Option Int) : Txt.slice x l u = sliceText x l u := rfl
theorem ofL_length (l : List Nat) : (ofL l).length = l.length := by show (ofL l).cps.size = _;unfold ofL;simp
theorem slice_last (l : List Nat) : (Txt.slice (ofL l) (some (-1)) none == Str.ofString "\n") = decide (l.getLast? = some 10) := by
  rcases List.eq_nil_or_concat l with rfl | ⟨r,c,e⟩
  · decide +kernel
  · rw [List.concat_eq_append] at e
    subst e
    have hn : (ofL (r ++ [c])).length = r.length + 1 := by rw [ofL_length];simp
    rw [slice_eq,sliceText_from_neg (by decide) (by rw [hn];omega),str_beq,hn]
    rw [List.getLast?_append,show [c].getLast? = some c from rfl]
    have e1 : (-1 + ((r.length + 1 : Nat) : Int)).toNat = r.length := by omega
    have e2 : (((ofL (r ++ [c])).cps.toList.length : Int) - (-1 + ((r.length + 1 : Nat) : Int))).toNat = 1 := by rw [ofL_cps];simp;omega
    rw [e1,e2,ofL_cps]
    simp only [List.drop_left,Option.some_or]
    show decide (List.take 1 [c] = [10]) = _
    simp
theorem slice_first (l : List Nat) : (Txt.slice (ofL l) none (some 1) == Str.ofString ".") = decide (l.head? = some 46) := by
  cases l with
  | nil => decide +kernel
  | cons c r =>
    rw [slice_eq,sliceText_to ⟨by decide,by rw [ofL_cps];simp;omega⟩,str_beq,ofL_cps]
    show decide ([c] = [46]) = _
    simp
theorem slice_tail (c : Nat) (r : List Nat) : Txt.slice (ofL (c :: r)) (some 1) none = ofL r := by
  rw [slice_eq,sliceText_from ⟨by decide,by rw [ofL_cps];simp;omega⟩,ofL_cps]
  show ofL _ = _
  congr 1
  show List.take _ r = r
  rw [List.take_of_length_le]
  show r.length ≤ (((c :: r).length : Int) - 1).toNat
  simp
end
end
section
section
variable {prog : Program} {w : World} {A : Around} {E : Value → Shared → Prop} {s : Shared} {K : Frag} {x C L : Addr} {h₀ : Heap} {m : Str → Option Value} {ox : Obj} {es : List DictEntry} {n : Nat} {name : Str}
theorem method_attr {pl : Sem Bool} {Q : Value × List Value → Shared → Prop} (F : Fr h₀ L s.heap m) (X₀ : K.In h₀) (I : InstAt s.heap x ox C (some (dictOf es n))) (hg : plainGet K C name = true) (hf : findIn K (.ref C) name = some none)
    (h : wpAny (model prog w) A (getAttr (.ref x) name) (fun v => Q (v,[])) E s) : wpAny (model prog w) A (getMethod (.ref x) name pl) Q E s :=
  method_usual (X₀.keeps F.keep) I (plainGet_of hg).1 (plainGet_of hg).2 hf rfl h
end
theorem rows_fast_1 : True := by
  (k_with "fast:getMethod ref" => (k_here;(with_reducible show wpAny _ _ (getMethod (Value.ref _) (PySem.Str.ofString "_write") _) _ _ _);k_dflt (refine' Mine.method_attr ?k1'c ?k2'c ?k3'c ?k4'c ?k5'c ?_;(case k1'c => k_asm);(case k2'c => k_asm);(case k3'c => k_inst);(case k4'c => k_is);(case k5'c => k_is);k_whole)))
  (k_with "fast:getAttr ref" => (k_here;(with_reducible show wpAny _ _ (getAttr (Value.ref _) _ _) _ _ _);k_dflt (refine' get_own ?k1'd ?k2'd ?k3'd ?k4'd ?k5'd ?k6'd ?k7'd ?k8'd ?k9'd ?_;(case k1'd => k_asm);(case k2'd => k_asm);(case k3'd => k_inst);(case k4'd => k_is);(case k5'd => k_is);(case k6'd => k_is);(case k7'd => k_is);(case k8'd => k_get);(case k9'd => k_handed);k_whole)))
  (k_with "fast:eval Name" => (k_here;(with_reducible show wpAny _ _ (eval (Expr.Name _ _) (envOf _ _ _ _ _)) _ _ _);k_dflt (refine' ld ?k1'e ?k2'e ?_;(case k1'e => k_asm);(case k2'e => exact rfl);k_whole)))
  (k_with "fast:getMethod ref" => (k_here;(with_reducible show wpAny _ _ (getMethod (Value.ref _) _ _) _ _ _);k_dflt (refine' method_inst ?k1'f ?k2'f ?k3'f ?k4'f ?k5'f ?k6'f ?k7'f ?_;(case k1'f => k_asm);(case k2'f => k_asm);(case k3'f => k_inst);(case k4'f => k_is);(case k5'f => k_is);(case k6'f => k_is);(case k7'f => k_get);k_whole)))
  (k_with "fast:callWith ref" => (k_here;(with_reducible show wpAny _ _ (callWith _ (Value.ref (OfNat.ofNat _)) _ (backTo _ (starEach (_ :: _) _)) []) _ _ _);k_dflt (refine' callWith_K ?k1'g ?k2'g ?_;(case k1'g => k_asm);(case k2'g => k_is);k_whole)))
  (k_with "fast:callWith ref" => (k_here;(try dsimp only);(with_reducible show wpAny _ _ (callWith _ (Value.ref (OfNat.ofNat _)) _ (backTo _ (starEach [] _)) []) _ _ _);k_dflt (refine' callWith_K0 ?k1'h ?k2'h ?_;(case k1'h => k_in);(case k2'h => k_is);k_whole);(try dsimp only [List.nil_append,List.cons_append,List.append_nil])))
  (k_with "fast:eval Name" => (k_here;(with_reducible show wpAny _ _ (eval (Expr.Name _ _) (envX _ _ _ _ _ _)) _ _ _);k_dflt (refine' nameX_L ?F'i ?v'i ?_ ?a'i ?b'i;(case b'i => rfl);(case a'i => rfl);(case F'i => k_asm);(case v'i => rfl);k_whole)))
  trivial
theorem lenA {x y : Str} {a b : Nat} (hx : x.length ≤ a) (hy : y.length ≤ b) : (x ++ y).length ≤ a + b := by
  rw [PySem.Str.length_append];exact Nat.add_le_add hx hy
theorem rows_fast_2 : True := by
  (k_with "fast:callWith builtin:list.append cons nil" => (k_here;k_dflt (refine' callWith_method1 ?_)))
  (k_with "fast:joinParts" => (k_here;(with_reducible refine' joinParts_nil ?r9'k ?hsz9'k);(case hsz9'k => (refine' Nat.le_trans ?sa9'k ?sb9'k;(case sa9'k => repeat (first | (with_reducible assumption) | (with_reducible refine' Mine.lenA ?_ ?_) | exact Nat.le_refl _));(case sb9'k => decide +kernel)))))
  (k_with "fast:subscriptTail Subscript Name Name Constant ref int" => (k_here;first | kgr_on | ((with_reducible show wpAny _ _ (subscriptTail _ _ (Value.ref _) (Value.int _ _)) _ _ _);k_dflt (refine' topTup_K ?F'l ?X'l ?l'l ?a'l ?b'l ?c'l ?d'l ?_;(case F'l => k_asm);(case X'l => k_asm);(case l'l => k_is);(case a'l => decide);(case b'l => decide);(case c'l => rfl);(case d'l => rfl))) | ((with_reducible show wpAny _ _ (subscriptTail _ _ (Value.ref _) (Value.int _ _)) _ _ _);k_dflt (refine' item_tupleT ?t1'l ?a1'l ?b1'l ?c1'l ?d1'l ?_;(case t1'l => exact News.isTup (by k_asm) (by k_mem));(case a1'l => decide);(case b1'l => decide);(case c1'l => rfl);(case d1'l => rfl);k_whole))))
  trivial
end
section
def CutOn : Prop := True
def Cut (p : Prop) : Prop := p
theorem Cut.go {p : Prop} (h : Cut p) : p := h
def At {α : Type} (P : α → Shared → Prop) (a : α) (s : Shared) : Prop := P a s
theorem cut_at {α : Type} {M : Model} {A : Around} {E : Value → Shared → Prop} {s : Shared} {t : Sem α} {Q : α → Shared → Prop} (P : α → Shared → Prop) (ht : 1 ≤ s.toks) (h1 : wpAny M A t (At P) E s) (h2 : ∀ a s',At P a s' → 1 ≤ s'.toks → Q a s') : wpAny M A t Q E s :=
  wpAny_with_toks ht (wpAny_mono h1 h2 fun _ _ e _ => e)
theorem push_le2 {a : Array Value} {v v' : Value} {k : Nat} (h : a.size + 2 ≤ k) : ((a.push v).push v').size ≤ k := by rw [Array.size_push,Array.size_push];exact h
theorem rows_cut_1 : True := by
  (k_with "cut:exec If" => (k_here;(with_reducible show wpAny _ _ (exec (Stmt.If (Expr.Attribute _ (PySem.Str.ofString "_root_done") _) _ _ _) _) _ _ _);(with_reducible rename Mine.CutOn => hC9'm);clear hC9'm;refine Mine.Cut.go ?_))
  (k_with "cut:subscriptTail" => (k_here;(with_reducible show wpAny _ _ (subscriptTail _ _ (Value.ref _) (Value.ref _)) _ _ _);(with_reducible rename Mine.CutOn => hC9'n);clear hC9'n;refine Mine.Cut.go ?_))
  trivial
end
section
section
variable {prog : Program} {w : World} {A : Around} {E : Value → Shared → Prop} {s : Shared} {h₀ : Heap} {L D : Addr} {m : Str → Option Value} {news : List (Addr × Obj)} {its : Array Value} {n : Nat}
theorem item_lit {value slice : PySem.Expr} {v : Value} {k : Int} {u : Tok} {Q : Value → Shared → Prop} (N : News h₀ L s.heap news) (hm : (D, listOf its n) ∈ news) (h0 : 0 ≤ k) (h1 : k < 2 ^ 63) {pre post : List Value} (e : kl_cut its.toList k.toNat = some (pre, v, post)) (h : Q v s)
    (hs : subscripted slice false (.ref D) (.int k u) = operate [.ref D, .int k u] (getItem (.ref D) (.int k u)) := by with_unfolding_all rfl) :
    wpAny (model prog w) A (subscriptTail value slice (.ref D) (.int k u)) Q E s := by
  have hl : s.heap.IsList D its := ⟨_,(N _ hm).1,rfl,_,rfl⟩
  have hx : its[k.toNat]? = some v := by
    obtain ⟨e1,e2⟩ := kl_cut_spec e
    have : its.toList[k.toNat]? = some v := by rw [e1,← e2];simp
    simpa using this
  exact tail_any hl.typeIs slot_list_getitem.lookup (wpAny_getItem_list hl h0 h1 hx h) hs
theorem item_is {value slice : PySem.Expr} {v : Value} {k k' : Int} {u : Tok} {Q : Value → Shared → Prop} (hk : k = k') (N : News h₀ L s.heap news) (hm : (D, listOf its n) ∈ news) (h0 : 0 ≤ k') (h1 : k' < 2 ^ 63) {pre post : List Value} (e : kl_cut its.toList k'.toNat = some (pre, v, post)) (h : Q v s)
    (hs : subscripted slice false (.ref D) (.int k u) = operate [.ref D, .int k u] (getItem (.ref D) (.int k u)) := by with_unfolding_all rfl) :
    wpAny (model prog w) A (subscriptTail value slice (.ref D) (.int k u)) Q E s := by
  subst hk;exact item_lit N hm h0 h1 e h hs
theorem fdiv_nn {a b : Int} (hb : 0 < b) (h : 0 ≤ a) : 0 ≤ a.fdiv b := by
  rw [Int.fdiv_eq_ediv_of_nonneg _ (Int.le_of_lt hb)];exact Int.ediv_nonneg h (Int.le_of_lt hb)
theorem fdiv_lt {a b c : Int} (hb : 0 < b) (h0 : 0 ≤ a) (h : a < c) : a.fdiv b < c := by
  rw [Int.fdiv_eq_ediv_of_nonneg _ (Int.le_of_lt hb)]
  exact Int.lt_of_le_of_lt (Int.ediv_le_self b h0) h
end
theorem rows_ints_1 : True := by
  (k_with "ints:subscriptTail Name Constant ref int" => (k_here;(with_reducible show wpAny _ _ (subscriptTail _ _ (Value.ref _) (Value.int _ _)) _ _ _);k_dflt (refine' Mine.item_lit ?N'o ?M'o ?a'o ?b'o ?x'o ?_ ?hs'o;(case N'o => k_asm);(case M'o => k_mem);(case a'o => decide);(case b'o => decide);(case x'o => rfl);(case hs'o => with_unfolding_all rfl);k_whole)))
  (k_with "ints:subscriptTail" => (k_here;(with_reducible show wpAny _ _ (subscriptTail _ _ (Value.ref _) (Value.int (Int.fmod _ _) _)) _ _ _);k_dflt (refine' Mine.item_is ?k'p ?N'p ?M'p ?a'p ?b'p ?x'p ?_ ?hs'p;(case k'p => with_reducible assumption);(case N'p => k_asm);(case M'p => k_mem);(case a'p => decide);(case b'p => decide);(case x'p => rfl);(case hs'p => with_unfolding_all rfl);k_whole)))
  trivial
end
section
noncomputable def repl (n : Nat) (z x : Str) : Str := ⟨(x.cps.toList.flatMap fun d => if d = n then z.cps.toList else [d]).toArray⟩
theorem flat_free {n : Nat} {z : List Nat} : ∀ {l : List Nat},n ∉ l → (l.flatMap fun d => if d = n then z else [d]) = l
  | [],_ => rfl
  | d :: r,h => by
    rw [List.flatMap_cons,if_neg (fun e => h (by rw [e];exact .head _)),flat_free fun e => h (.tail _ e)]
    rfl
theorem str_join_two (sep y : Str) (q : Str) (r : List Str) : (Str.join sep (y :: q :: r)).cps.toList = y.cps.toList ++ sep.cps.toList ++ (Str.join sep (q :: r)).cps.toList := by
  show ((y ++ sep ++ Str.join sep (q :: r) : Str)).cps.toList = _
  show (y.cps ++ sep.cps ++ (Str.join sep (q :: r)).cps).toList = _
  simp
theorem flat_join {n : Nat} {z : Str} : ∀ {parts : List Str},(∀ p ∈ parts,n ∉ p.cps.toList) → ((Str.join ⟨#[n]⟩ parts).cps.toList.flatMap fun d => if d = n then z.cps.toList else [d]) = (Str.join z parts).cps.toList
  | [],_ => rfl
  | [p],h => by
    show (p.cps.toList.flatMap _) = p.cps.toList
    exact flat_free (h p (.head _))
  | p :: q :: r,h => by
    rw [str_join_two,str_join_two,List.flatMap_append,List.flatMap_append,flat_join fun p' hp => h p' (.tail _ hp),flat_free (h p (.head _))]
    simp
theorem replace_repl (x z : Str) (n : Nat) : Txt.replace x ⟨#[n]⟩ z = repl n z x := by
  have e : (Txt.replace x ⟨#[n]⟩ z).cps.toList = (repl n z x).cps.toList := by
    rw [StrLaws.replace_one]
    have h := flat_join (n := n) (z := z) (StrLaws.split_free x n)
    rw [StrLaws.join_split] at h
    rw [← h]
    simp [repl]
  have e2 : (Txt.replace x ⟨#[n]⟩ z).cps = (repl n z x).cps := by rw [← Array.toList_inj];exact e
  cases h1 : Txt.replace x ⟨#[n]⟩ z with
  | mk a => rw [h1] at e2;cases h2 : repl n z x with
    | mk b => rw [h2] at e2;dsimp only at e2;rw [e2]
theorem repl_none {x z : Str} {n : Nat} (h : n ∉ x.cps.toList) : repl n z x = x := by
  unfold repl
  rw [flat_free h]
theorem repl_len {x z : Str} {n k : Nat} (hz : 1 ≤ z.length) (hx : x.length * z.length ≤ k) : (repl n z x).length ≤ k := by
  refine Nat.le_trans ?_ hx
  have hzl : z.length = z.cps.toList.length := by show z.cps.size = _;simp
  have hxl : x.length = x.cps.toList.length := by show x.cps.size = _;simp
  show (x.cps.toList.flatMap fun d => if d = n then z.cps.toList else [d]).toArray.size ≤ _
  rw [hzl] at hz
  rw [List.size_toArray,hzl,hxl]
  generalize x.cps.toList = l
  generalize z.cps.toList = zl at hz
  induction l with
  | nil => simp
  | cons d r ih =>
    rw [List.flatMap_cons,List.length_append,List.length_cons,Nat.add_mul]
    have : (if d = n then zl else [d]).length ≤ zl.length := by split <;> simp;omega
    omega
theorem notin_of {x c : Str} {n : Nat} (hc : c = ⟨#[n]⟩) (h : (Builtin.Str.occurrences x c 0 x.length 1).isEmpty = true) : n ∉ x.cps.toList := by
  subst hc
  have e := StrLaws.found_one x n
  rw [h] at e
  exact fun hm => by simp [hm] at e
end
section
noncomputable def nl (l : List Nat) : List Nat := l.flatMap fun c => if c = 10 then [13,10] else [c]
theorem nl_cons (c : Nat) (r : List Nat) : nl (c :: r) = (if c = 10 then [13,10] else [c]) ++ nl r := rfl
theorem nl_append (a b : List Nat) : nl (a ++ b) = nl a ++ nl b := List.flatMap_append ..
theorem nl_free : ∀ {l : List Nat},10 ∉ l → nl l = l
  | [],_ => rfl
  | c :: r,h => by
    rw [nl_cons,if_neg (fun e => h (by rw [e];exact .head _)),nl_free fun e => h (.tail _ e)];rfl
theorem crlf_nl : ∀ (l : List Nat),13 ∉ l → crlf l = nl l
  | [],_ => rfl
  | [c],h => by
    have : c ≠ 13 := fun e => h (by rw [e];exact .head _)
    unfold crlf nl
    by_cases e : c = 10 <;> simp [e,this]
  | c :: d :: r,h => by
    have h1 : c ≠ 13 := fun e => h (by rw [e];exact .head _)
    have ih := crlf_nl (d :: r) fun e => h (.tail _ e)
    rw [crlf,if_neg (fun x => h1 x.1),nl_cons,ih]
    by_cases e : c = 10
    · rw [if_pos (.inl e),if_pos e];rfl
    · rw [if_neg (fun x => x.elim e h1),if_neg e];rfl
noncomputable def rowB (b : Bool) : List Nat → Bool
  | [] => b
  | c :: r => rowB (c == 10) r
theorem rowB_append (b : Bool) : ∀ (x y : List Nat),rowB b (x ++ y) = rowB (rowB b x) y
  | [],_ => rfl
  | c :: r,y => rowB_append (c == 10) r y
theorem rowB_snoc (b : Bool) (x : List Nat) (c : Nat) : rowB b (x ++ [c]) = (c == 10) := by rw [rowB_append];rfl
theorem rowB_last (b : Bool) : ∀ (x : List Nat),rowB b x = match x.getLast? with | none => b | some c => c == 10
  | [] => rfl
  | [c] => rfl
  | c :: d :: r => by
    show rowB (d == 10) r = _
    have := rowB_last (c == 10) (d :: r)
    rw [show rowB (d == 10) r = rowB (c == 10) (d :: r) from rfl,this,List.getLast?_cons_cons]
    cases h : (d :: r).getLast? with
    | none => simp at h
    | some z => rfl
theorem dots_cons (b : Bool) (c : Nat) (r : List Nat) : dots b (c :: r) = if b = true ∧ c = 46 then 46 :: 46 :: dots false r else c :: dots (c == 10) r := by
  rw [dots]
theorem dots_append (b : Bool) : ∀ (x y : List Nat),dots b (x ++ y) = dots b x ++ dots (rowB b x) y
  | [],_ => rfl
  | c :: r,y => by
    show dots b (c :: (r ++ y)) = _
    rw [dots_cons,dots_cons,show rowB b (c :: r) = rowB (c == 10) r from rfl]
    by_cases h : b = true ∧ c = 46
    · rw [if_pos h,if_pos h,dots_append false r y]
      have : (c == 10) = false := by rw [h.2];rfl
      rw [this];rfl
    · rw [if_neg h,if_neg h,dots_append (c == 10) r y];rfl
theorem rowB_nl (b : Bool) : ∀ x : List Nat,rowB b (nl x) = rowB b x
  | [] => rfl
  | c :: r => by
    rw [nl_cons,rowB_append]
    by_cases h : c = 10
    · subst h;exact rowB_nl true r
    · rw [if_neg h];exact rowB_nl (c == 10) r
theorem dots_free : ∀ (l : List Nat),10 ∉ l → dots false l = l
  | [],_ => rfl
  | c :: r,h => by
    have h1 : c ≠ 10 := fun e => h (by rw [e];exact .head _)
    unfold dots
    rw [if_neg (fun x => by cases x.1),show (c == 10) = false from beq_eq_false_iff_ne.mpr h1,dots_free r fun e => h (.tail _ e)]
theorem rowB_free : ∀ (l : List Nat),10 ∉ l → rowB false l = false
  | [],_ => rfl
  | c :: r,h => by
    have h1 : c ≠ 10 := fun e => h (by rw [e];exact .head _)
    show rowB (c == 10) r = false
    rw [show (c == 10) = false from beq_eq_false_iff_ne.mpr h1,rowB_free r fun e => h (.tail _ e)]
noncomputable def dotFirst (l : List Nat) : List Nat := if l.head? = some 46 then [46] else []
theorem dots_true (l : List Nat) : dots true l = dotFirst l ++ dots false l := by
  cases l with
  | nil => rfl
  | cons c r =>
    unfold dots dotFirst
    by_cases h : c = 46
    · subst h;simp
    · simp [h]
theorem dots_ne {l : List Nat} {c : Nat} (b : Bool) (h : l.head? = some c) (hc : c ≠ 46) : dots b l = dots false l := by
  cases b with
  | false => rfl
  | true => rw [dots_true];unfold dotFirst;rw [h,if_neg (by simpa using hc)];rfl
noncomputable def undot (l : List Nat) : List Nat := if l.head? = some 46 then l.tail else l
theorem undot_ne {l : List Nat} {c : Nat} (hc : c ≠ 46) : undot (c :: l) = c :: l := by unfold undot;rw [if_neg (by simpa using hc)]
theorem cut2_step {c : Nat} {r l : List Nat} {ls : List (List Nat)} (hc : c ≠ 13) (e : cut2 13 10 r = l :: ls) : cut2 13 10 (c :: r) = (c :: l) :: ls :=
  cut2_cons (fun x => hc (by have := x.1;simpa using this)) e
theorem rows_back : ∀ (W : List Nat),13 ∉ W → joinL [10] ((cut2 13 10 (dots true (nl W))).map undot) = W ∧ ∃ l ls,cut2 13 10 (dots false (nl W)) = l :: ls ∧ joinL [10] (l :: ls.map undot) = W
  | [],_ => ⟨rfl,[],[],rfl,rfl⟩
  | c :: r,h => by
    have h1 : c ≠ 13 := fun e => h (by rw [e];exact .head _)
    obtain ⟨i1,l,ls,i2,i3⟩ := rows_back r fun e => h (.tail _ e)
    by_cases e : c = 10
    · subst e
      have z : ∀ b,cut2 13 10 (dots b (nl (10 :: r))) = [] :: cut2 13 10 (dots true (nl r)) := by
        intro b
        have : dots b (nl (10 :: r)) = 13 :: 10 :: dots true (nl r) := by
          rw [nl_cons,if_pos rfl]
          show dots b (13 :: 10 :: nl r) = _
          rw [dots_cons,if_neg (fun x => by exact absurd x.2 (by decide)),dots_cons,if_neg (fun x => by exact absurd x.2 (by decide))]
          rfl
        rw [this]
        rw [cut2,if_pos ⟨rfl,rfl⟩]
      have hne : (cut2 13 10 (dots true (nl r))).map undot ≠ [] := by simp [cut2_ne]
      refine ⟨?_,[],cut2 13 10 (dots true (nl r)),z false,?_⟩
      · rw [z true,List.map_cons,joinL_cons hne,i1];rfl
      · rw [joinL_cons hne,i1];rfl
    · have zn : nl (c :: r) = c :: nl r := by rw [nl_cons,if_neg e];rfl
      have zf : dots false (nl (c :: r)) = c :: dots false (nl r) := by
        rw [zn,dots_cons,if_neg (fun x => by cases x.1),show (c == 10) = false from beq_eq_false_iff_ne.mpr e]
      have cf : cut2 13 10 (c :: dots false (nl r)) = (c :: l) :: ls := cut2_step h1 i2
      refine ⟨?_,c :: l,ls,by rw [zf,cf],by rw [joinL_head,i3]⟩
      by_cases e2 : c = 46
      · subst e2
        have zt : dots true (nl (46 :: r)) = 46 :: 46 :: dots false (nl r) := by
          rw [dots_true,zf]
          unfold dotFirst
          rw [zn];rfl
        rw [zt,cut2_step (by decide) cf]
        show joinL [10] ((46 :: l) :: ls.map undot) = _
        rw [joinL_head,i3]
      · have zt : dots true (nl (c :: r)) = c :: dots false (nl r) := by
          rw [dots_true,zf]
          unfold dotFirst
          rw [zn,if_neg (by simpa using e2)];rfl
        rw [zt,cf]
        show joinL [10] (undot (c :: l) :: ls.map undot) = _
        rw [undot_ne e2,joinL_head,i3]
theorem crlf_dots : ∀ (W : List Nat) (b : Bool),13 ∉ W → crlf (dots b (nl W)) = dots b (nl W)
  | [],_,_ => rfl
  | c :: r,b,h => by
    have h1 : c ≠ 13 := fun e => h (by rw [e];exact .head _)
    have ih := fun b => crlf_dots r b fun e => h (.tail _ e)
    by_cases e : c = 10
    · subst e
      have : dots b (nl (10 :: r)) = 13 :: 10 :: dots true (nl r) := by
        rw [nl_cons,if_pos rfl]
        show dots b (13 :: 10 :: nl r) = _
        rw [dots_cons,if_neg (fun x => by exact absurd x.2 (by decide)),dots_cons,if_neg (fun x => by exact absurd x.2 (by decide))]
        rfl
      rw [this,crlf,if_pos ⟨rfl,rfl⟩,ih]
    · have zn : nl (c :: r) = c :: nl r := by rw [nl_cons,if_neg e];rfl
      have step : ∀ {c : Nat} {z : List Nat},c ≠ 13 → c ≠ 10 → crlf z = z → crlf (c :: z) = c :: z := by
        intro c z a b hz
        cases z with
        | nil => simp [crlf,a,b]
        | cons d z => rw [crlf,if_neg (fun x => a x.1),if_neg (fun x => x.elim b a),hz]
      have zf : dots false (nl (c :: r)) = c :: dots false (nl r) := by
        rw [zn,dots_cons,if_neg (fun x => by cases x.1),show (c == 10) = false from beq_eq_false_iff_ne.mpr e]
      have cf := step h1 e (ih false)
      cases b with
      | false => rw [zf];exact cf
      | true =>
        rw [dots_true,zf]
        unfold dotFirst
        rw [zn]
        by_cases e2 : c = 46
        · subst e2;exact step (by decide) (by decide) cf
        · rw [if_neg (by simpa using e2)];exact cf
theorem dots_rep : ∀ l : List Nat,dots false l = rep2 10 46 [10,46,46] l
  | [] => rfl
  | [c] => by simp [dots,rep2]
  | c :: d :: r => by
    unfold rep2
    by_cases h : c = 10 ∧ d = 46
    · obtain ⟨rfl,rfl⟩ := h
      rw [if_pos ⟨rfl,rfl⟩,← dots_rep r]
      rfl
    · rw [if_neg h,← dots_rep (d :: r)]
      show c :: dots (c == 10) (d :: r) = _
      by_cases e : c = 10
      · subst e
        have : d ≠ 46 := fun e => h ⟨rfl,e⟩
        rw [dots_ne (c := d) _ rfl this]
      · rw [show (c == 10) = false from beq_eq_false_iff_ne.mpr e]
theorem mail_nl {W : List Nat} (h : 13 ∉ W) : mail W = dots true (nl W) := by unfold mail;rw [crlf_nl W h]
theorem mail_rows {W : List Nat} (h : 13 ∉ W) : joinL [10] ((cut2 13 10 (mail W)).map undot) = W := by rw [mail_nl h];exact (rows_back W h).1
theorem mail_twice {W : List Nat} {c : Nat} {r : List Nat} (h : 13 ∉ W) (hW : W = c :: r) (hc : c ≠ 46) (hc2 : c ≠ 10) : mail (mail W) = rep2 10 46 [10,46,46] (mail W) := by
  rw [mail_nl h]
  unfold mail
  rw [crlf_dots W true h,← dots_rep]
  have e : nl W = c :: nl r := by rw [hW,nl_cons,if_neg hc2];rfl
  refine dots_ne (c := c) true ?_ hc
  rw [e,dots_ne (c := c) true rfl hc]
  rfl
end
section
theorem ofL_of {y : Str} {o : List Nat} (h : y.cps.toList = o) : y = ofL o := by
  cases y with
  | mk c => subst h;simp [ofL]
section
variable {M : Model} {A : Around} {E : Value → Shared → Prop} {s : Shared} {w : World} {h₀ : Heap} {L : Addr} {m : Str → Option Value} {news : List (Addr × Obj)} {P : Params}
theorem gm_pat {a : Addr} {o : Obj} {pl : Sem Bool} {Q : Value × List Value → Shared → Prop} (F : Fr h₀ L s.heap m) (X : (K P).In h₀) (hl : (K P).lookup a = some o) (hc : o.cls = .type "re.Pattern") (hd : o.dict = none)
    (h : Q (.builtin "re.Pattern.sub",[.ref a]) s) : wpAny M A (getMethod (.ref a) "sub" pl) Q E s :=
  have e := F.keep _ _ (X _ _ hl)
  getMethod_builtin ⟨o,e,hc⟩ pat_plain pat_sub_slot pat_sub_type (fun b hb => by cases hb;exact ⟨o,e,hd⟩) h
theorem pat_nl {h : Heap} (X : (K P).In h) : PatAt h 178 177 nlCode := ⟨⟨_,_,X 178 _ rfl,rfl,rfl,rfl,rfl⟩,⟨_,_,_,X 177 _ rfl,rfl,by decide +kernel⟩⟩
theorem pat_dot {h : Heap} (X : (K P).In h) : PatAt h 173 172 dotCode := ⟨⟨_,_,X 173 _ rfl,rfl,rfl,rfl,rfl⟩,⟨_,_,_,X 172 _ rfl,rfl,by decide +kernel⟩⟩
theorem sub_nl {prog : Program} {x : Str} {tk tr : Tok} {Q : Value → Shared → Prop} (F : Fr h₀ L s.heap m) (N : News h₀ L s.heap news) (X : (K P).In h₀) (hx : x.length ≤ 2 ^ 20)
    (h : ∀ t h' tk',Fr h₀ L h' m → News h₀ L h' news → Q (.str (ofL (crlf x.cps.toList)) t) { s with heap := h',toks := tk' }) :
    wpAny (model prog w) A (call (.builtin "re.Pattern.sub") [.ref 178, .str "\r\n" tr, .str x tk]) Q E s := by
  have hs : x.cps.size ≤ 2 ^ 20 := hx
  have O := nl_out (tx := x.cps) (by omega) _ 0 rfl
  have e : ("\r\n" : Str).cps.toList = [13,10] := by decide +kernel
  refine call_sub hx (by decide +kernel) (by rw [e];simpa using O) ?_ ⟨_,F.keep _ _ (X 178 _ rfl),rfl⟩ (pat_nl (X.keeps F.keep)) fun y t h' tk' hy hk _ => ?_
  · have := crlf_len x.cps.toList
    have : x.cps.toList.length = x.cps.size := by simp
    omega
  · rw [ofL_of hy];exact h t h' tk' (F.grownK hk) (N.grown hk)
theorem sub_dot {prog : Program} {x : Str} {tk tr : Tok} {Q : Value → Shared → Prop} (F : Fr h₀ L s.heap m) (N : News h₀ L s.heap news) (X : (K P).In h₀) (hx : x.length ≤ 2 ^ 20)
    (h : ∀ t h' tk',Fr h₀ L h' m → News h₀ L h' news → Q (.str (ofL (dots true x.cps.toList)) t) { s with heap := h',toks := tk' }) :
    wpAny (model prog w) A (call (.builtin "re.Pattern.sub") [.ref 173, .str ".." tr, .str x tk]) Q E s := by
  have hs : x.cps.size ≤ 2 ^ 20 := hx
  have O := dot_out (tx := x.cps) (by omega) _ 0 rfl
  have e : (".." : Str).cps.toList = [46,46] := by decide +kernel
  refine call_sub hx (by decide +kernel) (by rw [e];simpa [rowAt] using O) ?_ ⟨_,F.keep _ _ (X 173 _ rfl),rfl⟩ (pat_dot (X.keeps F.keep)) fun y t h' tk' hy hk _ => ?_
  · have := dots_len x.cps.toList true
    have : x.cps.toList.length = x.cps.size := by simp
    omega
  · rw [ofL_of hy];exact h t h' tk' (F.grownK hk) (N.grown hk)
end
theorem ofL_len (l : List Nat) : (ofL l).length = l.length := by show l.toArray.size = _;simp
end
section
namespace LA
open PySem
theorem slot_md_get : Slot "method_descriptor" "__get__" "method_descriptor.__get__" :=
  .of (owner := "method_descriptor") (n := "__get__") (by rw [typeLookup_type,builtinLookup_eq_fast];kernel_rfl) (by decide +kernel) (by decide +kernel) (by decide +kernel)
    (.inl (by rw [PySem.W.Fast.findQ_eq];decide +kernel)) (by rw [isSubtype_type];kernel_rfl)
theorem entry_md_get : entryFor table "method_descriptor.__get__" = some Builtin.«method_descriptor.__get__» := entryFor_of_tree (by kernel_rfl)
theorem args_md_get (a b c : Value) : argsOk "method_descriptor.__get__" ⟨[a,b,c],[]⟩ := by unfold argsOk;rw [PySem.W.Fast.signatureQ_eq];kernel_rfl
theorem md_set : typeLookup (.type "method_descriptor") "__set__" = pure none := by rw [typeLookup_type,builtinLookup_eq_fast];kernel_rfl
theorem md_del : typeLookup (.type "method_descriptor") "__delete__" = pure none := by rw [typeLookup_type,builtinLookup_eq_fast];kernel_rfl
theorem lk_append : typeLookup (.type "list") "append" = pure (some (.builtin "list.append")) := F.slot_list_append.lookup
theorem cut_append : "list.append".cutAt '.' = ["list","append"] := by first | rfl | decide +kernel
theorem told_append : Manifest.toldItsClass.contains "list.append" = false := by decide +kernel
variable {prog : Program} {w : World} {A : Around} {E : Value → Shared → Prop} {h : Heap} {g : Array GenState} {d : Drawn} {t : Nat} {os : OsState} {a : Addr} {its : Array Value} {n : Nat}
theorem rows_lapp_1 : True := by
  (k_with "m:wps" => (first
    | (with_reducible first | refine PySem.wpAny_bind ?_ | refine PySem.wpAny_pure ?_ | refine PySem.wpAny_holding ?_ | refine PySem.wpAny_rule ?_ | refine PySem.wpAny_fresh' ?_ | refine PySem.wpAny_alloc' ?_ | refine PySem.wpAny_attempt ?_ | refine PySem.wpAny_of_eq (by assumption) ?_ | refine PySem.wpAny_typeOf (by assumption) ?_ | refine PySem.wpAny_specialOf_val (by assumption) (by assumption) ?_ | refine PySem.wpAny_isInstance (by assumption) (by assumption) ?_ | refine PySem.wpAny_call ?_)
    | wp_delta
    | ((with_reducible apply PySem.wpAny_ite_false);focus (rfl;done))
    | ((with_reducible apply PySem.wpAny_ite_true);focus (rfl;done))
    | ((with_reducible apply PySem.wpAny_loadPart');focus (heap_get;done))))
  trivial
theorem app_get {R : Result → Shared → Prop} (hx : h.get? a = some (listOf its n)) (hq : R (.ok (.ret (.ref h.objs.size))) ⟨h.push (bndObj "list.append" (.ref a)), g, d, t, os⟩) :
    codeAny (model prog w) A (.call (.builtin "method_descriptor.__get__") ⟨[.builtin "list.append", .ref a, .type "list"],[]⟩) R ⟨h,g,d,t,os⟩ := by
  have hT : (⟨h,g,d,t,os⟩ : Shared).TypeIs (.ref a) "list" := ⟨_,hx,rfl⟩
  have hT5 : (⟨h,g,d,t,os⟩ : Shared).TypeIs (.builtin "list.append") "method_descriptor" := F.type_list_append
  have f1 := cut_append
  have f2 := told_append
  have f3 : isSubtype (.type "list") (.type (".".intercalate ("list.append".cutAt '.').dropLast)) = pure true := by rw [cut_append,show (".".intercalate ["list","append"].dropLast) = "list" by decide +kernel,isSubtype_type];kernel_rfl
  refine codeAny_call_builtin slot_md_get.plain entry_md_get (slot_md_get.check _ _ _ _ _ _ _ _ hT5 (args_md_get _ _ _) ?_)
  unfold Builtin.«method_descriptor.__get__»
  repeat (first | k_extra "m:wps" | assumption)
theorem app_entry {tk : Tok} {Q : Fin → Shared → Prop} (hx : h.get? a = some (listOf its n)) (hq : Q (.done (.ret (.ref h.objs.size))) ⟨h.push (bndObj "list.append" (.ref a)), g, d, t, os⟩) :
    wpAny (model prog w) A (Builtin.«object.__getattribute__» ⟨[.ref a, .str "append" tk],[]⟩) Q E ⟨h,g,d,t,os⟩ := by
  have hT : (⟨h,g,d,t,os⟩ : Shared).TypeIs (.ref a) "list" := ⟨_,hx,rfl⟩
  have hT5 : (⟨h,g,d,t,os⟩ : Shared).TypeIs (.builtin "list.append") "method_descriptor" := F.type_list_append
  have f4 := lk_append
  have f5 := F.type_list_append
  have f6 := slot_md_get.lookup
  have f7 := md_set
  have f8 := md_del
  unfold Builtin.«object.__getattribute__»
  repeat (first | k_extra "m:wps" | assumption)
  refine app_get hx ?_
  repeat (first | k_extra "m:wps" | assumption)
theorem app_call {tk : Tok} {R : Result → Shared → Prop} (hx : h.get? a = some (listOf its n)) (hq : R (.ok (.ret (.ref h.objs.size))) ⟨h.push (bndObj "list.append" (.ref a)), g, d, t, os⟩) :
    codeAny (model prog w) A (.call (.builtin "list.__getattribute__") ⟨[.ref a, .str "append" tk],[]⟩) R ⟨h,g,d,t,os⟩ :=
  codeAny_call_builtin F.slot_list_getattribute.plain F.entry_list_ga (F.slot_list_getattribute.check _ _ _ _ _ _ _ _ (show (⟨h,g,d,t,os⟩ : Shared).TypeIs (.ref a) "list" from ⟨_,hx,rfl⟩) (F.args_list_getattribute_2 _ _) (app_entry hx hq))
theorem app_attr {Q : Value → Shared → Prop} (hx : h.get? a = some (listOf its n)) (hq : Q (.ref h.objs.size) ⟨h.push (bndObj "list.append" (.ref a)),g,d,t + 1,os⟩) : wpAny (model prog w) A (getAttr (.ref a) "append" true) Q E ⟨h,g,d,t,os⟩ := by
  have hT : ∀ tk',(⟨h,g,d,tk',os⟩ : Shared).TypeIs (.ref a) "list" := fun _ => ⟨_,hx,rfl⟩
  have f2 := F.slot_list_getattribute.lookup
  have f3 := F.slot_list_getattribute.bind (.ref a)
  unfold getAttr getAttrBy
  repeat (first | k_extra "m:wps" | assumption)
  refine app_call hx ?_
  repeat (first | k_extra "m:wps" | assumption)
theorem getAttr_append {h₀ : Heap} {L : Addr} {m : Str → Option Value} {news : List (Addr × Obj)} {s : Shared} {Q : Value → Shared → Prop} (F : Fr h₀ L s.heap m) (N : News h₀ L s.heap news) (hm : (a, listOf its n) ∈ news)
    (k : ∀ B h' tk,Fr h₀ L h' m → News h₀ L h' ((B,bndObj "list.append" (.ref a)) :: news) → (∀ p ∈ news,@LT.lt Nat _ p.1 B) → 1 ≤ tk → Q (.ref B) { s with heap := h',toks := tk }) : wpAny (model prog w) A (getAttr (.ref a) "append" true) Q E s :=
  app_attr (N _ hm).1 (k _ _ _ (F.push _) (News.push F N _) (fun p hp => Heap.lt_size (N p hp).1) (Nat.le_add_left 1 _))
end LA
theorem rows_lapp_2 : True := by
  (k_with "lapp:getAttr ref" => (k_here;(with_reducible show wpAny _ _ (getAttr (Value.ref _) (PySem.Str.ofString "append") true) _ _ _);k_dflt (refine' Mine.LA.getAttr_append ?k1'r ?k2'r ?k3'r ?_;(case k1'r => k_asm);(case k2'r => k_asm);(case k3'r => k_mem);k_whole;intro b''r h''r tk''r F''r N''r l1'r tk1'r;(try k_lt l1'r))))
  trivial
end
section
theorem fm_nil {p : Nat → Bool} : ∀ (xs : List Value) (j : Nat),(∀ k,k < j + xs.length → p k = true) → ((xs.zipIdx j).filterMap fun (x,k) => if p k then none else some x) = []
  | [],_,_ => rfl
  | x :: r,j,h => by
    rw [List.zipIdx_cons,List.filterMap_cons]
    have e : p j = true := h j (by simp)
    simp only [e,if_true]
    exact fm_nil r (j + 1) fun k hk => h k (by simp only [List.length_cons];omega)
section
variable {prog : Program} {w : World} {A : Around} {E : Value → Shared → Prop} {s : Shared}
theorem upd_all {α : Type} {l : Addr} {its : Array Value} {n : Nat} {f : Array Value → Array Value} {K : Sem α} {Q : α → Shared → Prop} (hl : s.heap.get? l = some (listOf its n)) (hsz : its.size ≤ 100000) (hf : f its = #[])
    (h : ∀ h' n',Heap.SameBut l s.heap h' → h'.get? l = some (listOf #[] n') → wpAny (model prog w) A K Q E { s with heap := h' }) : wpAny (model prog w) A (updateSeq l f >>= fun _ => K) Q E s := by
  have hline : sizeLine = 16777216 := by decide
  have e : (s.heap.update l (Obj.mapSeq f)).get? l = some (listOf #[] (if ((#[] : Array Value).size == its.size) = true then n else n + 1)) := by
    rw [Heap.get?_update_self _ hl (by rfl)]
    simp only [Obj.mapSeq]
    rw [hf]
  exact wpAny_bind (wpAny_updateSeq hl rfl (h _ _ (Heap.SameBut.update ..) e) (by omega) (by rw [hf];exact Nat.zero_le _))
theorem del_all {l sl : Addr} {its : Array Value} {n : Nat} {Q : Unit → Shared → Prop} (hl : s.heap.get? l = some (listOf its n)) (hs : s.heap.IsSliceOf sl .none .none .none) (hsz : its.size ≤ 100000)
    (h : ∀ h' n',Heap.SameBut l s.heap h' → h'.get? l = some (listOf #[] n') → Q () { s with heap := h' }) : wpAny (model prog w) A (delItem (.ref l) (.ref sl)) Q E s := by
  have u0_ : Unit := ();have u1_ : Unit := ();have u2_ : Unit := ();have u3_ : Unit := ();have u4_ : Unit := ();have u5_ : Unit := ()
  revert hl hs hsz h
  revert prog w A E s l sl its n Q u0_ u1_ u2_ u3_ u4_ u5_
  k_extra "m:t16"
  intros prog w A E s l sl its n Q _ _ _ _ _ _ hl hs hsz h
  obtain ⟨os,hos,hcs,hds⟩ := id hs
  have hTs : s.TypeIs (.ref sl) "slice" := ⟨os,hos,hcs⟩
  have hT : s.TypeIs (.ref l) "list" := ⟨_,hl,rfl⟩
  have hline : sizeLine = 16777216 := by decide
  refine wpAny_delItem_slot hT (by decide) PySem.F.slot_list_delitem (wpAny_call_entry PySem.F.slot_list_delitem hT PySem.F.entry_list_delitem ?_ (PySem.F.args_list_delitem_2 _ _))
  show wpAny _ _ (Builtin.List.listSubscript? (.ref sl) >>= _) _ _ s
  refine wpAny_bind ?_
  unfold Builtin.List.listSubscript?
  refine wpAny_bind (wpAny_specialOf hTs slice_no_index ?_)
  simp only [Option.isNone_none,if_true]
  refine wpAny_pure ?_
  show wpAny _ _ (typeOf (.ref sl) >>= _) _ _ s
  refine wpAny_bind (wpAny_typeOf hTs ?_)
  rw [if_neg (by decide)]
  rw [listSliceParts_eq]
  refine wpAny_bind (wpAny_bind (wpAny_field hos hds (x := Value.none) rfl (wpAny_bind (wpAny_listPart .none ?_))))
  rw [if_neg (by decide)]
  refine wpAny_bind (wpAny_field hos hds (x := Value.none) rfl (wpAny_bind (wpAny_listPart .none ?_)))
  refine wpAny_bind (wpAny_field hos hds (x := Value.none) rfl (wpAny_bind (wpAny_listPart .none (wpAny_pure ?_))))
  refine wpAny_bind (m := Builtin.List.listItems (.ref l)) ?_
  unfold Builtin.List.listItems
  refine wpAny_bind (wpAny_seqItems hl rfl (wpAny_pure ?_))
  refine wpAny_bind (wpAny_of_eq (sliceIndices_raw none none none its.size (by simp)) ?_)
  show wpAny _ _ (updateSeq l _ >>= fun _ => letGo _ >>= fun _ => ret .none) _ _ s
  refine upd_all hl hsz ?_ fun h' n' hs' hl' => wpAny_bind (wpAny_letGo (wpAny_pure ⟨_,rfl,h h' n' hs' hl'⟩))
  show (List.filterMap _ (its.toList.zipIdx 0)).toArray = #[]
  rw [fm_nil (p := _) its.toList 0 ?_]
  intro k hk
  have hk' : k < its.size := by simpa using hk
  show (if (1 : Int) > 0 then decide ((0 : Int) ≤ k) && decide ((k : Int) < its.size) && (((k : Int) - 0) % 1 == 0) else _) = true
  rw [if_pos (by decide)]
  simp [Int.emod_one]
  omega
end
theorem del_S {prog : Program} {w : World} {A : Around} {E : Value → Shared → Prop} {h₀ h₁ : Heap} {L D : Addr} {m : Str → Option Value} {news : List (Addr × Obj)} {g : Obj → List (Addr × Obj)} {its : Array Value} {n : Nat} {gs : Array GenState} {dr : Drawn} {tk : Nat} {os : OsState} {Q : Unit → Shared → Prop}
    (F : Fr h₀ L h₁ m) (N : News h₀ L h₁ news) (U : UpdF D (listOf its n) news g) (hsz : its.size ≤ 100000)
    (h : ∀ h' n',Fr h₀ L h' m → News h₀ L h' (g (listOf #[] n')) → Q () ⟨h',gs,dr,tk,os⟩) :
    wpAny (model prog w) A (delItem (.ref D) (.ref h₁.objs.size)) Q E ⟨h₁.push { cls := .type "slice",data := .fields #[.none, .none, .none] },gs,dr,tk,os⟩ := by
  obtain ⟨pre,post,rfl,hg,a,b⟩ := U.split
  have z := N (D,listOf its n) (List.mem_append.mpr (.inr (.head _)))
  refine del_all (its := its) (n := n) (Heap.get?_push_of_some _ z.1) (Heap.IsSliceOf.new _ _ _ _) hsz fun h' n' hs ho' => h h' n' ((F.push _).change hs z.2.1 z.2.2) ?_
  rw [hg]
  exact news_set (fun p hp => ⟨Heap.get?_push_of_some _ (N p hp).1,(N p hp).2⟩) a b hs ho'
theorem rows_del_1 : True := by
  (k_with "del:delItem ref ref" => (k_here;k_dflt (refine' Mine.del_S ?F's ?N's ?U's ?Z's ?_;(case F's => k_asm);(case N's => k_asm);(case U's => k_updF);(case Z's => omega);k_whole);intro h''s n''s F''s N''s;(try dsimp only at N''s)))
  trivial
end
section
theorem compTurn0 (elt t it0 t' it1 : PySem.Expr) (sc : Scope) (pos : Pos) (it acc : Value) (env : Env) :
    compTurn (.ListComp elt [⟨t,it0,[],0⟩,⟨t',it1,[],0⟩] sc pos) 0 it acc env = (do
      standAt it0.pos
      match ← pyNext it with
      | none => pure (.done .next)
      | some v =>
        letOwnedTupleGo t it v
        assign t env v
        let x ← eval it1 env
        standAt it1.pos
        let x ← foldedSetIterable it1 env x
        let i ← holding [x] (pyIter x)
        let _ ← runOwn (.compStart (.ListComp elt [⟨t,it0,[],0⟩,⟨t',it1,[],0⟩] sc pos) 1 i acc env) env
        again (.compLoop (.ListComp elt [⟨t,it0,[],0⟩,⟨t',it1,[],0⟩] sc pos) 0 it acc env)) := by rfl
theorem compTurn1 (elt t it0 t' it1 : PySem.Expr) (sc : Scope) (pos : Pos) (it acc : Value) (env : Env) :
    compTurn (.ListComp elt [⟨t,it0,[],0⟩,⟨t',it1,[],0⟩] sc pos) 1 it acc env = (do
      standAt it1.pos
      match ← pyNext it with
      | none => pure (.done .next)
      | some v =>
        letOwnedTupleGo t' it v
        assign t' env v
        (do let _ ← call (.builtin "list.append") [acc,← eval elt env])
        again (.compLoop (.ListComp elt [⟨t,it0,[],0⟩,⟨t',it1,[],0⟩] sc pos) 1 it acc env)) := by rfl
section
variable {prog : Program} {w : World} {A : Around} {R : Result → Shared → Prop} {s : Shared}
theorem loop1 {elt t it0 t' it1 : PySem.Expr} {sc : Scope} {pos : Pos} {it acc : Value} {env : Env} (I : Nat → Shared → Prop)
    (turn : ∀ n s,I n s → wpAny (model prog w) A (pyNext it) (fun r s₁ => match r with
      | none => R (.ok .next) s₁
      | some v => wpAny (model prog w) A (assign t' env v) (fun _ s₂ => wpAny (model prog w) A (eval elt env) (fun x s₄ =>
          wpAny (model prog w) A (call (.builtin "list.append") [acc,x]) (fun _ s₅ => ∃ m,m < n ∧ I m s₅) (notedBy (model prog w) A env fun e s' => R (.error e) s') s₄) (notedBy (model prog w) A env fun e s' => R (.error e) s') s₂) (notedBy (model prog w) A env fun e s' => R (.error e) s') s₁) (notedBy (model prog w) A env fun e s' => R (.error e) s') s)
    (n : Nat) (h : I n s) (ht : ∀ v,letOwnedTupleGo t' it v = pure () := by intro _;rfl) :
    codeAny (model prog w) A (.compLoop (.ListComp elt [⟨t,it0,[],0⟩,⟨t',it1,[],0⟩] sc pos) 1 it acc env) R s := by
  refine codeAny_loop rfl I (fun n s hI => ?_) n h
  show wpAny _ A ((compTurn (.ListComp elt [⟨t,it0,[],0⟩,⟨t',it1,[],0⟩] sc pos) 1 it acc env).onRaise (fun x => do noteFrame x env;theTreesLotGoes x)) _ _ s
  refine wpAny_noted ?_
  rw [compTurn1]
  refine wpAny_bind (wpAny_standAt (wpAny_bind (wpAny_mono (turn n s hI) (fun r s₁ h₁ => ?_) fun _ _ h' => h')))
  cases r with
  | none => exact wpAny_pure h₁
  | some v =>
    refine wpAny_bind (wpAny_of_eq (ht v) ?_)
    refine wpAny_bind (wpAny_mono h₁ (fun _ s₂ h₂ => ?_) fun _ _ h' => h')
    exact wpAny_bind (wpAny_bind (wpAny_mono h₂ (fun x s₄ h₄ => wpAny_bind (wpAny_mono h₄ (fun _ s₅ h₅ => wpAny_pure (wpAny_pure ⟨rfl,h₅⟩)) fun _ _ h' => h')) fun _ _ h' => h'))
end
section
variable {prog : Program} {w : World} {A : Around} {R : Result → Shared → Prop} {s : Shared}
theorem start1 {elt t it0 t' it1 : PySem.Expr} {sc : Scope} {pos : Pos} {it acc : Value} {env : Env}
    (h0 : codeAny (model prog w) A (.compLoop (.ListComp elt [⟨t,it0,[],0⟩,⟨t',it1,[],0⟩] sc pos) 1 it acc env) R s)
    (h : wpAny (model prog w) A (pyIter it) (fun it' s' => codeAny (model prog w) A (.compLoop (.ListComp elt [⟨t,it0,[],0⟩,⟨t',it1,[],0⟩] sc pos) 1 it' acc env) R s')
      (notedBy (model prog w) A env fun x s' => R (.error x) s') s) :
    codeAny (model prog w) A (.compStart (.ListComp elt [⟨t,it0,[],0⟩,⟨t',it1,[],0⟩] sc pos) 1 it acc env) R s := by
  refine codeAny_of_tree ?_
  show wpAny _ _ ((compStart (.ListComp elt [⟨t,it0,[],0⟩,⟨t',it1,[],0⟩] sc pos) 1 it acc env).onRaise (fun x => do noteFrame x env;standAt theWindowsPlace)) _ _ s
  refine wpAny_notedAt ?_
  unfold compStart
  show wpAny _ _ (ask >>= _) _ _ s
  refine wpAny_bind (wpAny_askSetting (wpAny_ite ?_))
  split
  · first
      | exact wpAny_bind (wpAny_pure (wpAny_pure (And.intro rfl h0)))
      | exact wpAny_pure (And.intro rfl h0)
  · first
      | exact wpAny_bind (wpAny_rule (wpAny_bind (wpAny_standAt (wpAny_bind (wpAny_mono h (fun it' s' h' => wpAny_pure (And.intro rfl h')) fun _ _ x => x)))))
      | (refine wpAny_bind (wpAny_rule ?_);show wpAny _ _ (standAt it1.pos >>= _) _ _ s;exact wpAny_bind (wpAny_standAt (wpAny_bind (wpAny_mono h (fun it' s' h' => wpAny_pure (And.intro rfl h')) fun _ _ x => x))))
theorem loop0 {elt t it0 t' it1 : PySem.Expr} {sc : Scope} {pos : Pos} {it acc : Value} {env : Env} (I : Nat → Shared → Prop)
    (turn : ∀ n s,I n s → wpAny (model prog w) A (pyNext it) (fun r s₁ => match r with
      | none => R (.ok .next) s₁
      | some v => wpAny (model prog w) A (assign t env v) (fun _ s₂ => wpAny (model prog w) A (eval it1 env) (fun x s₃ => wpAny (model prog w) A (pyIter x) (fun i s₄ =>
          codeAny (model prog w) A (.compStart (.ListComp elt [⟨t,it0,[],0⟩,⟨t',it1,[],0⟩] sc pos) 1 i acc env) (fun r s₅ => match r with | .ok _ => ∃ m,m < n ∧ I m s₅ | .error _ => False) s₄)
          (notedBy (model prog w) A env fun e s' => R (.error e) s') s₃) (notedBy (model prog w) A env fun e s' => R (.error e) s') s₂) (notedBy (model prog w) A env fun e s' => R (.error e) s') s₁) (notedBy (model prog w) A env fun e s' => R (.error e) s') s)
    (n : Nat) (h : I n s) (ht : ∀ v,letOwnedTupleGo t it v = pure () := by intro _;rfl) (hf : ∀ x,foldedSetIterable it1 env x = pure x := by intro _;rfl) :
    codeAny (model prog w) A (.compLoop (.ListComp elt [⟨t,it0,[],0⟩,⟨t',it1,[],0⟩] sc pos) 0 it acc env) R s := by
  have u0_ : Unit := ();have u1_ : Unit := ();have u2_ : Unit := ();have u3_ : Unit := ();have u4_ : Unit := ();have u5_ : Unit := ();have u6_ : Unit := ()
  revert turn h ht hf
  revert prog w A R s elt t it0 t' it1 sc pos it acc env I n u0_ u1_ u2_ u3_ u4_ u5_ u6_
  k_extra "m:t24"
  intros prog w A R s elt t it0 t' it1 sc pos it acc env I n _ _ _ _ _ _ _ turn h ht hf
  refine codeAny_loop rfl I (fun n s hI => ?_) n h
  show wpAny _ A ((compTurn (.ListComp elt [⟨t,it0,[],0⟩,⟨t',it1,[],0⟩] sc pos) 0 it acc env).onRaise (fun x => do noteFrame x env;theTreesLotGoes x)) _ _ s
  refine wpAny_noted ?_
  rw [compTurn0]
  refine wpAny_bind (wpAny_standAt (wpAny_bind (wpAny_mono (turn n s hI) (fun r s₁ h₁ => ?_) fun _ _ h' => h')))
  cases r with
  | none => exact wpAny_pure h₁
  | some v =>
    refine wpAny_bind (wpAny_of_eq (ht v) ?_)
    refine wpAny_bind (wpAny_mono h₁ (fun _ s₂ h₂ => ?_) fun _ _ h' => h')
    refine wpAny_bind (wpAny_mono h₂ (fun x s₃ h₃ => ?_) fun _ _ h' => h')
    refine wpAny_bind (wpAny_standAt (wpAny_bind (wpAny_of_eq (hf x) ?_)))
    refine wpAny_bind (wpAny_holding (wpAny_mono h₃ (fun i s₄ h₄ => ?_) fun _ _ h' => h'))
    refine wpAny_bind ?_
    unfold runOwn
    refine wpAny_onRaise (wpAny_run (codeAny_mono h₄ fun r s₅ h₅ => ?_))
    cases r with
    | ok f => exact wpAny_pure ⟨rfl,h₅⟩
    | error e => exact h₅.elim
end
section
variable {prog : Program} {w : World} {A : Around} {s : Shared}
def PL (h : Heap) (D : Addr) (ys : Array Value) : Prop := ∃ n,h.get? D = some (listOf ys n)
theorem PL.at {h h' : Heap} {D : Addr} {ys : Array Value} (x : PL h D ys) (k : ∀ o,h.get? D = some o → h'.get? D = some o) : PL h' D ys := let ⟨n,e⟩ := x;⟨n,k _ e⟩
theorem PL.extBut {h h' : Heap} {D b : Addr} {ys : Array Value} (x : PL h D ys) (k : Heap.ExtBut b h h') (hb : D ≠ b) : PL h' D ys := let ⟨n,e⟩ := x;⟨n,k _ _ hb e⟩
theorem inner_loop {x y : Str} {px px' py py' : Pos} {it0 : PySem.Expr} {scope : Scope} {pos : Pos} {I b D : Addr} {cenv : Env} {its ys : Array Value} {m : Str → Option Value}
    (hh : A.handled = none) (hy : cenv.kindOf y = some .local) (hk : cenv.scope.kind = .function) (hd : (y == ("__debug__" : Str)) = false)
    (hDI : D ≠ I) (hDC : D ≠ cenv.locals) (hIC : I ≠ cenv.locals) (hbI : b ≠ I) (hbC : b ≠ cenv.locals) (hbD : b ≠ D)
    (hit : s.heap.IsListIter I b 0) (hl : s.heap.IsList b its) (hacc : PL s.heap D ys) (hn : s.heap.Ns cenv.locals m) (hsz : ys.size + its.size ≤ 100000) :
    codeAny (model prog w) A (.compLoop (.ListComp (.Name y py') [⟨.Name x px,it0,[],0⟩,⟨.Name y py, .Name x px',[],0⟩] scope pos) 1 (.ref I) (.ref D) cenv)
      (fun r s' => match r with | .ok _ => ∃ h' tk m',s' = { s with heap := h',toks := tk } ∧ PL h' D (ys ++ its) ∧ h'.Ns cenv.locals m' ∧ ∀ a o,a ≠ cenv.locals → a ≠ I → a ≠ D → s.heap.get? a = some o → h'.get? a = some o | .error _ => False) s := by
  have u0_ : Unit := ();have u1_ : Unit := ();have u2_ : Unit := ();have u3_ : Unit := ()
  revert hh hy hk hd hDI hDC hIC hbI hbC hbD hit hl hacc hn hsz
  revert prog w A s x y px px' py py' it0 scope pos I b D cenv its ys m u0_ u1_ u2_ u3_
  k_extra "m:t24"
  intros prog w A s x y px px' py py' it0 scope pos I b D cenv its ys m _ _ _ _ hh hy hk hd hDI hDC hIC hbI hbC hbD hit hl hacc hn hsz
  have hline : sizeLine = 16777216 := by decide
  refine loop1 (fun k s' => ∃ h' tk m' i, s' = { s with heap := h', toks := tk } ∧ h'.IsListIter I b i ∧ h'.IsList b its ∧ PL h' D (ys ++ (its.toList.take i).toArray) ∧ h'.Ns cenv.locals m' ∧ i ≤ its.size ∧ k = its.size + 1 - i ∧
      ∀ a o,a ≠ cenv.locals → a ≠ I → a ≠ D → s.heap.get? a = some o → h'.get? a = some o) ?_ (its.size + 1)
    ⟨s.heap,s.toks,m,0,rfl,hit,hl,by simpa using hacc,hn,Nat.zero_le _,rfl,fun _ _ _ _ _ e => e⟩
  rintro k s' ⟨H,tk,m',i,rfl,hit',hl',hacc',hn',hi,rfl,hkp⟩
  cases hv : its[i]? with
  | none =>
    have hsz : its.toList.length ≤ i := by simpa using hv
    refine wpAny_pyNext_list_end hh hit' hl' hv fun h₁ he₁ => ?_
    refine ⟨h₁,tk,m',rfl,?_,hn'.extBut he₁ (Ne.symm hIC),fun a o h1 h2 h3 e => he₁ a o h2 (hkp a o h1 h2 h3 e)⟩
    have := hacc'.extBut he₁ hDI
    rwa [List.take_of_length_le hsz,Array.toArray_toList] at this
  | some v =>
    have hlt : i < its.size := (Array.getElem?_eq_some_iff.mp hv).1
    refine wpAny_pyNext_list_item hit' hl' hv fun h₁ hit₁ hs₁ => ?_
    refine wpAny_assign_Name (wpAny_storeName_local hy (hn'.sameBut hs₁ (Ne.symm hIC)) (fun h₂ hn₂ hs₂ => ?_) (by rw [hk];rfl))
    refine wpAny_Name (wpAny_loadName_local hk hy hn₂ (v := v) (by simp) ?_) hd
    have up : ∀ a o,a ≠ cenv.locals → a ≠ I → H.get? a = some o → h₂.get? a = some o := fun a o h1 h2 e => hs₂.extBut a o h1 (hs₁.extBut a o h2 e)
    have hacc₂ : PL h₂ D (ys ++ (its.toList.take i).toArray) := hacc'.at fun o e => up D o hDC hDI e
    have hl₂ : h₂.IsList b its := hl'.at fun o e => up b o hbC hbI e
    obtain ⟨na,ha⟩ := hacc₂
    refine append_at (hsz := by simp;omega) ha fun h₃ hs₃ hl₃ => ?_
    refine ⟨its.size + 1 - (i + 1),by omega,h₃,_,_,i + 1,rfl,(hit₁.extBut hs₂.extBut hIC).extBut hs₃.extBut (Ne.symm hDI),hl₂.extBut hs₃.extBut hbD,?_,hn₂.sameBut hs₃ (Ne.symm hDC),hlt,rfl,
      fun a o h1 h2 h3 e => hs₃.extBut a o h3 (up a o h1 h2 (hkp a o h1 h2 h3 e))⟩
    have e : ys ++ (its.toList.take (i + 1)).toArray = (ys ++ (its.toList.take i).toArray).push v := by
      have hvl : its.toList[i]? = some v := by simpa using hv
      rw [List.take_add_one,hvl]
      apply Array.toList_inj.mp
      simp
    rw [e];exact ⟨_,hl₃⟩
end
section
variable {prog : Program} {w : World} {A : Around} {s : Shared}
def Rows (h : Heap) (items : List Value) (cont : Value → List Value) : Prop := ∀ v ∈ items,∃ b its,v = .ref b ∧ h.IsList b its ∧ its.toList = cont v
theorem outer_loop {x y : Str} {px px' py py' : Pos} {it0 : PySem.Expr} {scope : Scope} {pos : Pos} {I ax D : Addr} {cenv : Env} {items : Array Value} {cont : Value → List Value} {m : Str → Option Value}
    (hh : A.handled = none) (hx : cenv.kindOf x = some .local) (hy : cenv.kindOf y = some .local) (hk : cenv.scope.kind = .function) (hd : (y == ("__debug__" : Str)) = false) (hd' : (x == ("__debug__" : Str)) = false)
    (hDI : D ≠ I) (hDC : D ≠ cenv.locals) (hIC : I ≠ cenv.locals) (haI : ax ≠ I) (haC : ax ≠ cenv.locals) (haD : ax ≠ D)
    (hit : s.heap.IsListIter I ax 0) (hl : s.heap.IsList ax items) (hacc : PL s.heap D #[]) (hn : s.heap.Ns cenv.locals m)
    (hr : Rows s.heap items.toList cont) (hrD : ∀ v ∈ items.toList,v ≠ .ref D ∧ v ≠ .ref cenv.locals ∧ v ≠ .ref I) (hsz : (items.toList.flatMap cont).length ≤ 100000) :
    codeAny (model prog w) A (.compLoop (.ListComp (.Name y py') [⟨.Name x px,it0,[],0⟩,⟨.Name y py, .Name x px',[],0⟩] scope pos) 0 (.ref I) (.ref D) cenv)
      (fun r s' => match r with | .ok _ => ∃ h' tk m',s' = { s with heap := h',toks := tk } ∧ PL h' D (items.toList.flatMap cont).toArray ∧ h'.Ns cenv.locals m' ∧ ∀ a o,a ≠ cenv.locals → a ≠ I → a ≠ D → s.heap.get? a = some o → h'.get? a = some o | .error _ => False) s := by
  have u0_ : Unit := ();have u1_ : Unit := ();have u2_ : Unit := ();have u3_ : Unit := ()
  revert hh hx hy hk hd hd' hDI hDC hIC haI haC haD hit hl hacc hn hr hrD hsz
  revert prog w A s x y px px' py py' it0 scope pos I ax D cenv items cont m u0_ u1_ u2_ u3_
  k_extra "m:t24"
  intros prog w A s x y px px' py py' it0 scope pos I ax D cenv items cont m _ _ _ _ hh hx hy hk hd hd' hDI hDC hIC haI haC haD hit hl hacc hn hr hrD hsz
  have hline : sizeLine = 16777216 := by decide
  refine loop0 (fun k s' => ∃ h' tk m' i, s' = { s with heap := h', toks := tk } ∧ h'.IsListIter I ax i ∧ h'.IsList ax items ∧ PL h' D ((items.toList.take i).flatMap cont).toArray ∧ h'.Ns cenv.locals m' ∧ i ≤ items.size ∧ k = items.size + 1 - i ∧
      ∀ a o,a ≠ cenv.locals → a ≠ I → a ≠ D → s.heap.get? a = some o → h'.get? a = some o) ?_ (items.size + 1)
    ⟨s.heap,s.toks,m,0,rfl,hit,hl,by simpa using hacc,hn,Nat.zero_le _,rfl,fun _ _ _ _ _ e => e⟩
  rintro k s' ⟨H,tk,m',i,rfl,hit',hl',hacc',hn',hi,rfl,hkp⟩
  cases hv : items[i]? with
  | none =>
    have hsz : items.toList.length ≤ i := by simpa using hv
    refine wpAny_pyNext_list_end hh hit' hl' hv fun h₁ he₁ => ?_
    refine ⟨h₁,tk,m',rfl,?_,hn'.extBut he₁ (Ne.symm hIC),fun a o h1 h2 h3 e => he₁ a o h2 (hkp a o h1 h2 h3 e)⟩
    have := hacc'.extBut he₁ hDI
    rwa [List.take_of_length_le hsz] at this
  | some v =>
    have hlt : i < items.size := (Array.getElem?_eq_some_iff.mp hv).1
    have hvl : items.toList[i]? = some v := by simpa using hv
    have hmem : v ∈ items.toList := List.mem_of_getElem? hvl
    obtain ⟨b,its,rfl,hb,hc⟩ := hr v hmem
    obtain ⟨n1,n2,n3⟩ := hrD _ hmem
    have hbD : b ≠ D := fun e => n1 (by rw [e])
    have hbC : b ≠ cenv.locals := fun e => n2 (by rw [e])
    have hbI : b ≠ I := fun e => n3 (by rw [e])
    refine wpAny_pyNext_list_item hit' hl' hv fun h₁ hit₁ hs₁ => ?_
    refine wpAny_assign_Name (wpAny_storeName_local hx (hn'.sameBut hs₁ (Ne.symm hIC)) (fun h₂ hn₂ hs₂ => ?_) (by rw [hk];rfl))
    refine wpAny_Name (wpAny_loadName_local hk hx hn₂ (v := .ref b) (by simp) ?_) hd'
    have up : ∀ a o,a ≠ cenv.locals → a ≠ I → H.get? a = some o → h₂.get? a = some o := fun a o h1 h2 e => hs₂.extBut a o h1 (hs₁.extBut a o h2 e)
    have hb₂ : h₂.IsList b its := hb.at fun o e => up b o hbC hbI (hkp b o hbC hbI hbD e)
    have hacc₂ : PL h₂ D ((items.toList.take i).flatMap cont).toArray := hacc'.at fun o e => up D o hDC hDI e
    have hl₂ : h₂.IsList ax items := hl'.at fun o e => up ax o haC haI e
    have hit₂ : h₂.IsListIter I ax (i + 1) := hit₁.extBut hs₂.extBut hIC
    have htot : ((items.toList.take (i + 1)).flatMap cont) = (items.toList.take i).flatMap cont ++ its.toList := by
      rw [List.take_add_one,hvl,List.flatMap_append]
      simp [hc]
    have hle : ((items.toList.take i).flatMap cont).length + its.toList.length ≤ 100000 := by
      have e1 : (items.toList.take (i + 1)).flatMap cont ++ (items.toList.drop (i + 1)).flatMap cont = items.toList.flatMap cont := by
        rw [← List.flatMap_append,List.take_append_drop]
      have e2 := congrArg List.length e1
      rw [htot,List.length_append,List.length_append] at e2
      omega
    refine wpAny_pyIter_list hb₂ ?_
    dsimp only
    generalize hH : h₂.push { cls := .type "list_iterator",data := .fields #[.ref b, .int 0 0] } = h₃
    have keep : ∀ a o,h₂.get? a = some o → h₃.get? a = some o := fun a o e => hH ▸ Heap.get?_push_of_some _ e
    have lt : ∀ {a : Addr} {o : Obj},h₂.get? a = some o → a ≠ h₂.objs.size := fun e => Nat.ne_of_lt (Heap.lt_size e)
    have lD : D ≠ h₂.objs.size := let ⟨n,e⟩ := hacc₂;lt e
    have lb : b ≠ h₂.objs.size := let ⟨o,e,_⟩ := hb₂;lt e
    have la : ax ≠ h₂.objs.size := let ⟨o,e,_⟩ := hl₂;lt e
    have lI : I ≠ h₂.objs.size := let ⟨o,e,_⟩ := hit₂;lt e
    have lC : cenv.locals ≠ h₂.objs.size := Nat.ne_of_lt hn₂.lt
    have hit₃ : h₃.IsListIter h₂.objs.size b 0 := ⟨_,hH ▸ Heap.get?_push_size _ rfl,rfl,rfl⟩
    have go : ∀ s₃ : Shared, s₃ = { s with heap := h₃, toks := tk + 1 } → codeAny (model prog w) A (.compLoop (.ListComp (.Name y py') [⟨.Name x px, it0, [], 0⟩, ⟨.Name y py, .Name x px', [], 0⟩] scope pos) 1 (.ref h₂.objs.size) (.ref D) cenv)
        (fun r s₅ => match r with | .ok _ => ∃ m,m < items.size + 1 - i ∧ ∃ h' tk m' i,s₅ = { s with heap := h',toks := tk } ∧ h'.IsListIter I ax i ∧ h'.IsList ax items ∧ PL h' D ((items.toList.take i).flatMap cont).toArray ∧ h'.Ns cenv.locals m' ∧ i ≤ items.size ∧ m = items.size + 1 - i ∧ ∀ a o,a ≠ cenv.locals → a ≠ I → a ≠ D → s.heap.get? a = some o → h'.get? a = some o | .error _ => False) s₃ := by
      rintro _ rfl
      refine codeAny_mono (inner_loop hh hy hk hd lD hDC (Ne.symm lC) lb hbC hbD hit₃ (hb₂.at fun o e => keep _ o e) (hacc₂.at fun o e => keep _ o e) (hn₂.keeps keep) (by simpa using hle)) fun r s₅ h₅ => ?_
      cases r with
      | error _ => exact h₅
      | ok _ =>
        obtain ⟨h',tk',m'',rfl,hD',hn'',hk'⟩ := h₅
        refine ⟨items.size + 1 - (i + 1),by omega,h',tk',m'',i + 1,rfl,hit₂.at fun o e => hk' I o hIC lI (Ne.symm hDI) (keep _ o e),hl₂.at fun o e => hk' ax o haC la haD (keep _ o e),?_,hn'',hlt,rfl,fun a o h1 h2 h3 e => ?_⟩
        · rw [htot]
          have : ((items.toList.take i).flatMap cont).toArray ++ its = ((items.toList.take i).flatMap cont ++ its.toList).toArray := by
            apply Array.toList_inj.mp;simp
          rw [← this];exact hD'
        · have e2 := up a o h1 h2 (hkp a o h1 h2 h3 e)
          exact hk' a o h1 (lt e2) h3 (keep a o e2)
    exact start1 (go _ rfl) (wpAny_pyIter_listiter hit₃ (go _ rfl))
end
section
variable {prog : Program} {w : World} {A : Around} {E : Value → Shared → Prop} {s : Shared} {env : Env}
theorem nested_comp {x y : Str} {px px' py py' : Pos} {it0 : PySem.Expr} {scope : Scope} {pos : Pos} {cont : Value → List Value} {Q : Value → Shared → Prop}
    (hh : A.handled = none) (hfree : ∀ y ∈ scope.names,y.2 ≠ .free) (hcell : ∀ y ∈ scope.names,y.2 ≠ .cell) (hkind : scope.kind = .function)
    (hnames : ∀ y ∈ scope.names,y.2 = .local → scope.names.lookup y.1 = some .local) (hx : scope.names.lookup x = some .local) (hy : scope.names.lookup y = some .local)
    (hd : (y == ("__debug__" : Str)) = false) (hd' : (x == ("__debug__" : Str)) = false)
    (h : wpAny (model prog w) A (eval it0 env) (fun xv s₁ => ∃ ax items,xv = .ref ax ∧ s₁.heap.IsList ax items ∧ Rows s₁.heap items.toList cont ∧ (items.toList.flatMap cont).length ≤ 100000 ∧
      ∀ D h' tk,s₁.heap.objs.size ≤ D → PL h' D (items.toList.flatMap cont).toArray → (∀ b o,s₁.heap.get? b = some o → h'.get? b = some o) → Q (.ref D) { s₁ with heap := h',toks := tk }) E s)
    (hs : ∀ x,foldedSetIterable it0 env x = pure x := by intro _;rfl) :
    wpAny (model prog w) A (eval (.ListComp (.Name y py') [⟨.Name x px,it0,[],0⟩,⟨.Name y py, .Name x px',[],0⟩] scope pos) env) Q E s := by
  have u0_ : Unit := ();have u1_ : Unit := ();have u2_ : Unit := ();have u3_ : Unit := ();have u4_ : Unit := ();have u5_ : Unit := ();have u6_ : Unit := ()
  revert hh hfree hcell hkind hnames hx hy hd hd' h hs
  revert prog w A E s env x y px px' py py' it0 scope pos cont Q u0_ u1_ u2_ u3_ u4_ u5_ u6_
  k_extra "m:t24"
  intros prog w A E s env x y px px' py py' it0 scope pos cont Q _ _ _ _ _ _ _ hh hfree hcell hkind hnames hx hy hd hd' h hs
  refine wpAny_ListComp hfree hkind hnames (wpAny_mono h (fun xv s₁ h₁ => ?_) fun _ _ e => e) hs
  obtain ⟨ax,items,rfl,hl,hr,hsz,hQ⟩ := h₁
  refine wpAny_pyIter_list hl (wpAny_newObj_type (hd := by size_fits) (wpAny_newFunctionEnv hcell (by intro y hy;simp at hy) (fun h₁ hns₁ hsb₁ => ?_) hkind))
  dsimp only at hns₁ hsb₁ ⊢
  obtain ⟨ol,hol,hol'⟩ := id hl
  have hax : ax < s₁.heap.objs.size := Heap.lt_size hol
  generalize hH1 : s₁.heap.push { cls := .type "list_iterator",data := .fields #[.ref ax, .int 0 0] } = H1 at hns₁ hsb₁ ⊢
  have hD : H1.objs.size = s₁.heap.objs.size + 1 := by rw [← hH1,Heap.size_push]
  generalize hH2 : H1.push { cls := .type "list",dict := none,data := .seq ([] : List Value).toArray } = H2 at hns₁ hsb₁ ⊢
  have hC : H2.objs.size = s₁.heap.objs.size + 2 := by rw [← hH2,Heap.size_push,hD]
  have hDI : H1.objs.size ≠ s₁.heap.objs.size := by rw [hD];exact Nat.succ_ne_self _
  have hDC : H1.objs.size ≠ H2.objs.size := by rw [hD,hC];exact Nat.ne_of_lt (Nat.lt_succ_self _)
  have hIC : s₁.heap.objs.size ≠ H2.objs.size := by rw [hC];exact Nat.ne_of_lt (Nat.lt_succ_of_lt (Nat.lt_succ_self _))
  have below : ∀ b,b < s₁.heap.objs.size → b ≠ H2.objs.size ∧ b ≠ s₁.heap.objs.size ∧ b ≠ H1.objs.size := fun b hb =>
    ⟨by rw [hC];exact Nat.ne_of_lt (Nat.lt_succ_of_lt (Nat.lt_succ_of_lt hb)),Nat.ne_of_lt hb,by rw [hD];exact Nat.ne_of_lt (Nat.lt_succ_of_lt hb)⟩
  have old : ∀ b o,s₁.heap.get? b = some o → h₁.get? b = some o := fun b o e =>
    hsb₁.extBut b o (below b (Heap.lt_size e)).1 (Heap.get?_push_of_some _ (hH2 ▸ Heap.get?_push_of_some _ (hH1 ▸ Heap.get?_push_of_some _ e)))
  have hit : h₁.IsListIter s₁.heap.objs.size ax 0 :=
    ⟨_,hsb₁.extBut _ _ hIC (Heap.get?_push_of_some _ (hH2 ▸ Heap.get?_push_of_some _ (hH1 ▸ Heap.get?_push_size _ rfl))),rfl,rfl⟩
  have hacc : PL h₁ H1.objs.size #[] := ⟨_,hsb₁.extBut _ _ hDC (Heap.get?_push_of_some _ (hH2 ▸ Heap.get?_push_size _ rfl))⟩
  have hl₁ : h₁.IsList ax items := ⟨ol,old _ _ hol,hol'⟩
  have hr₁ : Rows h₁ items.toList cont := fun v hv => let ⟨b,its,e,hb,hc⟩ := hr v hv;⟨b,its,e,hb.at fun o e => old _ o e,hc⟩
  have hrD : ∀ v ∈ items.toList,v ≠ .ref H1.objs.size ∧ v ≠ .ref H2.objs.size ∧ v ≠ .ref s₁.heap.objs.size := fun v hv => by
    obtain ⟨b,its,rfl,⟨o,hb,_⟩,hc⟩ := hr v hv
    obtain ⟨n1,n2,n3⟩ := below b (Heap.lt_size hb)
    exact ⟨fun e => n3 (Value.ref.inj e),fun e => n1 (Value.ref.inj e),fun e => n2 (Value.ref.inj e)⟩
  have loop : ∀ s₂ : Shared, s₂ = { s₁ with heap := h₁, toks := s₁.toks + ([] : List (Str × Value)).length } →
      codeAny (model prog w) A (.compLoop (.ListComp (.Name y py') [⟨.Name x px,it0,[],0⟩,⟨.Name y py, .Name x px',[],0⟩] scope pos) 0 (.ref s₁.heap.objs.size) (.ref H1.objs.size) (compEnv scope H2.objs.size env))
        (fun r s' => ∃ m,s'.heap.Ns H2.objs.size m ∧ ∀ h',Heap.SameBut H2.objs.size s'.heap h' →
          match r with | .ok _ => Q (.ref H1.objs.size) { s' with heap := h' } | .error x => wpAny (model prog w) A (passOn "comprehension.variables-let-go" x (compEnv scope H2.objs.size env)) Q E { s' with heap := h' }) s₂ := by
    rintro s₂ rfl
    refine codeAny_mono (outer_loop (cenv := compEnv scope H2.objs.size env) (cont := cont) hh hx hy hkind hd hd' hDI hDC hIC (below ax hax).2.1 (below ax hax).1 (below ax hax).2.2 hit hl₁ hacc hns₁ hr₁ hrD hsz) fun r s' h' => ?_
    cases r with
    | error _ => exact h'.elim
    | ok _ =>
      obtain ⟨h',tk,m',rfl,ha,hn,hk⟩ := h'
      exact ⟨m',hn,fun h'' hs'' => hQ _ h'' tk (by rw [hD];exact Nat.le_succ _) (ha.extBut hs''.extBut hDC) fun b o e =>
        hs''.extBut b o (below b (Heap.lt_size e)).1 (hk b o (below b (Heap.lt_size e)).1 (below b (Heap.lt_size e)).2.1 (below b (Heap.lt_size e)).2.2 (old b o e))⟩
  exact codeAny_compStart_list (loop _ rfl) (wpAny_pyIter_listiter hit (loop _ rfl))
end
end
section
noncomputable def lamOf : List Stmt → Arguments × PySem.Expr × Scope
  | _ :: .Assign _ (.Lambda ps b sc _) _ :: _ => (ps,b,sc)
  | _ => default
@[reducible] noncomputable def itLam : Arguments × PySem.Expr × Scope := (⟨_,by conv => lhs;whnf⟩ : { x // lamOf F206.2.1 = x }).1
noncomputable abbrev itObj (pm : Value) (itc : Addr) (ctv : Value) : Obj := kla_obj "<lambda>" "_law_writer.<locals>.<lambda>" itLam.1 itLam.2.1 itLam.2.2 [] pm itc ctv
section
variable {prog : Program} {w : World} {A : Around} {E : Value → Shared → Prop} {h₀ h₁ : Heap} {L l : Addr} {m : Str → Option Value} {news : List (Addr × Obj)} {its : Array Value} {n : Nat} {gs : Array GenState} {dr : Drawn} {tk : Nat} {os : OsState}
theorem rev_tail {value slice : PySem.Expr} {u : Tok} {Q : Value → Shared → Prop} (F : Fr h₀ L h₁ m) (N : News h₀ L h₁ news) (hm : (l, listOf its n) ∈ news) (hsz : its.size ≤ 100000)
    (h : ∀ r h',Fr h₀ L h' m → News h₀ L h' ((r,listOf its.toList.reverse.toArray 0) :: news) → (∀ p ∈ news,p.1 < r) → Q (.ref r) ⟨h',gs,dr,tk,os⟩)
    (hs : subscripted slice false (.ref l) (.ref h₁.objs.size) = operate [.ref l, .ref h₁.objs.size] (getItem (.ref l) (.ref h₁.objs.size)) := by with_unfolding_all rfl) :
    wpAny (model prog w) A (subscriptTail value slice (.ref l) (.ref h₁.objs.size)) Q E ⟨h₁.push { cls := .type "slice",data := .fields #[.none, .none, .int (-1) u] },gs,dr,tk,os⟩ := by
  have hline : sizeLine = 16777216 := by decide
  have hl : (h₁.push { cls := .type "slice",data := .fields #[.none, .none, .int (-1) u] }).IsList l its := ⟨_,Heap.get?_push_of_some _ (N _ hm).1,rfl,_,rfl⟩
  refine tail_any hl.typeIs slot_list_getitem.lookup (wpAny_getItem_list_slice (hsz := by omega) hl (Heap.IsSliceOf.new ..) .none .none (.int (-1) u) (by decide) ?_) hs
  rw [krv_pick]
  have N₁ : News h₀ L (h₁.push { cls := .type "slice",data := .fields #[.none, .none, .int (-1) u] }) news := fun p hp => ⟨Heap.get?_push_of_some _ (N p hp).1,(N p hp).2⟩
  exact h _ _ ((F.push _).push _) (News.push (F.push _) N₁ _) fun p hp => Heap.lt_size (N₁ p hp).1
end
end
section
theorem strDict (w : World) (ep : Nat) (ts : List (Str × Tok × Value)) (hn : (ts.map (·.1)).Nodup) :
    Obj.IsDictOf (PySem.strKind prog w) ⟨.type "dict",none, .dict (ts.map fun t => (⟨PyData.keyHash w.params t.1, .str t.1 t.2.1,t.2.2⟩ : DictEntry)).toArray ep,#[]⟩ (ts.map fun t => (t.1,t.2.2)) := by
  refine ⟨_,_,⟨rfl,rfl,rfl⟩,rfl,fun e he => ?_,?_,?_⟩
  · obtain ⟨t,_,rfl⟩ := List.mem_map.mp (List.mem_toArray.mp he)
    exact ⟨t.1,strKind_is _ _ _ _,rfl⟩
  · show Pairs _ (ts.map _) _
    clear hn
    induction ts with
    | nil => exact .nil
    | cons t r ih => exact .cons (strKind_is _ _ _ _) rfl ih
  · rw [List.map_map];exact hn
section
variable {w : World} {A : Around} {E : Value → Shared → Prop} {s : Shared} {h₀ : Heap} {L : Addr} {m : Str → Option Value} {news : List (Addr × Obj)}
theorem ns_dict {h : Heap} (X : (K w.params).In h) : ∃ kvs ep,h.DictAt (PySem.strKind prog w) 44 kvs ep ∧ kvs.length ≤ 7 := by
  have e := strDict w 7 [("http://www.w3.org/XML/1998/namespace",329, .str "xml" 330),("http://www.w3.org/1999/xhtml",331, .str "html" 332),("http://www.w3.org/1999/02/22-rdf-syntax-ns#",333, .str "rdf" 334),("http://schemas.xmlsoap.org/wsdl/",335, .str "wsdl" 336),("http://www.w3.org/2001/XMLSchema",337, .str "xs" 338),("http://www.w3.org/2001/XMLSchema-\x69nstance",339, .str "xsi" 340),("http://purl.org/dc/elements/1.1/",341, .str "dc" 342)] (by decide +kernel)
  obtain ⟨es,ep,a,b,c,d,f⟩ := e
  exact ⟨_,ep,⟨_,es,X 44 _ rfl,a,b,c,d,f⟩,Nat.le_refl _⟩
theorem ns_items {pl : Sem Bool} {Q : Value × List Value → Shared → Prop} (F : Fr h₀ L s.heap m) (X : (K w.params).In h₀) (h : Q (.builtin "dict.items", [.ref 44]) s) :
    wpAny (model prog w) A (getMethod (.ref 44) "items" pl) Q E s := by
  obtain ⟨kvs,ep,⟨o,es,ho,he,r⟩,hl⟩ := ns_dict (X.keeps F.keep)
  exact getMethod_builtin ⟨o,ho,he.1⟩ PySem.F.plainAttrs_dict PySem.F.slot_dict_items PySem.F.type_dict_items (fun a e => by cases e;exact ⟨o,ho,he.2.1⟩) h
theorem ns_view {Q : Value → Shared → Prop} (F : Fr h₀ L s.heap m) (N : News h₀ L s.heap news) (X : (K w.params).In h₀)
    (h : ∀ (D : Addr) h',Fr h₀ L h' m → News h₀ L h' ((D,{ cls := .type "dict_items",data := .fields #[.ref 44] }) :: news) → (∀ q ∈ news,q.1 < D) → Q (.ref D) { s with heap := h' }) :
    wpAny (model prog w) A (call (.builtin "dict.items") [.ref 44]) Q E s := by
  obtain ⟨kvs,ep,hD,hl⟩ := ns_dict (X.keeps F.keep)
  obtain ⟨o,es,ho,he,r⟩ := hD
  have hD : s.heap.DictOf (PySem.strKind prog w) 44 kvs := ⟨o,es,ep,ho,he,r⟩
  exact call_meetsIn PySem.F.slot_dict_items hD.typeIs PySem.F.entry_dict_items (PySem.F.args_dict_items_1 _) (meets_dict_items (PySem.strKind prog w) 44 (by decide)) ⟨⟨kvs,hD⟩,h _ _ (F.push _) (News.push F N _) fun q hq => Heap.lt_size (N q hq).1⟩
theorem ns_list {D : Addr} {Q : Value → Shared → Prop} (hh : A.handled = none) (F : Fr h₀ L s.heap m) (N : News h₀ L s.heap news) (X : (K w.params).In h₀) (hm : (D, { cls := .type "dict_items", data := .fields #[.ref 44] }) ∈ news)
    (h : ∀ h' l tk,Fr h₀ L h' m → News h₀ L h' news → Q (.ref l) { s with heap := h',toks := tk }) :
    wpAny (model prog w) A (call (.type "list") [.ref D]) Q E s := by
  obtain ⟨kvs,ep,hD,hl⟩ := ns_dict (X.keeps F.keep)
  refine kdx_call (knd := PySem.strKind prog w) hh ⟨_, (N _ hm).1, rfl, rfl⟩ hD (by have : sizeLine = 16777216 := by decide
                                                                                    omega) fun h' tk acc c as hk _ _ _ _ => ?_
  exact h h' _ tk (F.grownK hk) (N.grown hk)
end
theorem rows_w1_1 : True := by
  (k_with "w1:getMethod ref" => (k_here;(with_reducible show wpAny _ _ (getMethod (Value.ref _) (Str.ofString "items") _) _ _ _);k_dflt (refine' Mine.ns_items ?F't ?X't ?_;(case F't => k_asm);(case X't => k_asm))))
  (k_with "w1:call builtin:dict.items" => (k_here;k_dflt (refine' Mine.ns_view ?F'u ?N'u ?X'u ?_;(case F'u => k_asm);(case N'u => k_asm);(case X'u => k_asm);k_whole);intro D''u h''u F''u N''u l1'u;(try k_lt l1'u)))
  (k_with "w1:call type:list" => (k_here;k_dflt (refine' Mine.ns_list ?H'v ?F'v ?N'v ?X'v ?M'v ?_;(case H'v => exact rfl);(case F'v => k_asm);(case N'v => k_asm);(case X'v => k_asm);(case M'v => k_mem);k_whole);intro h''v l''v tk''v F''v N''v))
  trivial
end
section
def ForAt (M : Model) (A : Around) (target : PySem.Expr) (body : List Stmt) (env : Env) (Q : Flow → Shared → Prop) (E : Value → Shared → Prop) (it : Value) (s : Shared) : Prop :=
  codeAny M A (.forLoop target it body [] env) (fun r s' => match r with | .ok f => Q f s' | .error e => cameBackBy M A env E e s') s
def LoopEnd (h₀ : Heap) (L : Addr) (J : (Str → Option Value) → List (Addr × Obj) → Prop) (p : Addr × Obj) (s : Shared) (f : Flow) (s' : Shared) : Prop :=
  (f = .next ∨ f = .cont) ∧ ∃ m' news' nx,Same s s' ∧ Fr h₀ L s'.heap m' ∧ News h₀ L s'.heap nx ∧ p ∈ nx ∧ (∀ q ∈ news',q ∈ nx) ∧ (∀ q ∈ news',q.1 ≠ p.1) ∧ J m' news'
section
variable {prog : Program} {w : World} {A : Around} {E : Value → Shared → Prop} {s : Shared} {env : Env} {h₀ : Heap} {target : PySem.Expr} {body : List Stmt} {Q : Flow → Shared → Prop} {m : Str → Option Value} {news : List (Addr × Obj)}
theorem For_at {M : Model} {iter : PySem.Expr} {pos : Pos} (h : wpAny M A (eval iter env) (fun x s₁ => wpAny M A (pyIter x) (fun it s₂ => ForAt M A target body env Q E it s₂) E s₁) E s)
    (hs : ∀ x,foldedSetIterable iter env x = pure x := by intro _;rfl) : wpAny M A (exec (.For target iter body [] pos) env) Q E s :=
  wpAny_For h hs
theorem Fr.but {h h' : Heap} {L I : Addr} (F : Fr h₀ L h m) (hI : I ≠ L) (h0 : h₀.get? I = none) (hk : ∀ b o,b ∉ [I] → h.get? b = some o → h'.get? b = some o) : Fr h₀ L h' m :=
  ⟨F.ns.at' fun o e => hk L o (fun q => hI (List.mem_singleton.mp q).symm) e,fun b o e => hk b o (fun q => by rw [List.mem_singleton.mp q,h0] at e;cases e) (F.keep b o e),F.above⟩
theorem News.but {h h' : Heap} {L I : Addr} (N : News h₀ L h news) (hn : ∀ p ∈ news,p.1 ≠ I) (hk : ∀ b o,b ∉ [I] → h.get? b = some o → h'.get? b = some o) : News h₀ L h' news :=
  fun p hp => ⟨hk _ _ (fun q => hn p hp (List.mem_singleton.mp q)) (N p hp).1,(N p hp).2⟩
theorem loop_core {I : Addr} {fp : List Addr} {n : Nat} {P : Nat → Value → Prop} {St : Nat → Heap → Prop} (W : Walks prog w A I fp [I] n P St) (J : Nat → (Str → Option Value) → List (Addr × Obj) → Prop)
    {kp : List (Addr × Obj)} (hkp : ∀ i m news,J i m news → ∀ p ∈ kp,p ∈ news) (hfp : ∀ b ∈ fp,b = I ∨ ∃ o,(b,o) ∈ kp) (hI : ∀ i h,St i h → ∃ io,h.get? I = some io)
    (hgo : ∀ i v (s : Shared) (Q : Unit → Shared → Prop) (E : Value → Shared → Prop),i < n → P i v → St (i + 1) s.heap → Q () s → wpAny (model prog w) A (letOwnedTupleGo target (.ref I) v) Q E s)
    (hIL : I ≠ env.locals) (hI0 : h₀.get? I = none) (hst : St 0 s.heap) (F : Fr h₀ env.locals s.heap m) (N : News h₀ env.locals s.heap news) (hn : ∀ p ∈ news,p.1 ≠ I) (h0 : J 0 m news) (ht : 1 ≤ s.toks)
    (turn : ∀ i v m₁ news₁ h dr tk io,i < n → P i v → J i m₁ news₁ → Fr h₀ env.locals h m₁ → News h₀ env.locals h ((I,io) :: news₁) → (∀ p ∈ news₁,p.1 ≠ I) → 1 ≤ tk →
      wpAny (model prog w) A (assign target env v) (fun _ s₂ => wpAny (model prog w) A (execs body env) (LoopEnd h₀ env.locals (J (i + 1)) (I,io) s) (fun _ _ => False) s₂) (fun _ _ => False) ⟨h,s.gens,dr,tk,s.os⟩)
    (done : ∀ m₁ news₁ h dr tk,J n m₁ news₁ → Fr h₀ env.locals h m₁ → News h₀ env.locals h news₁ → 1 ≤ tk → Q .next ⟨h,s.gens,dr,tk,s.os⟩) : ForAt (model prog w) A target body env Q E (.ref I) s := by
  have u0_ : Unit := ();have u1_ : Unit := ();have u2_ : Unit := ();have u3_ : Unit := ();have u4_ : Unit := ()
  revert W hkp hfp hI hgo hIL hI0 hst F N hn h0 ht turn done
  revert prog w A E s env h₀ target body Q m news I fp n P St J kp u0_ u1_ u2_ u3_ u4_
  k_extra "m:t24"
  intros prog w A E s env h₀ target body Q m news I fp n P St J kp _ _ _ _ _ W hkp hfp hI hgo hIL hI0 hst F N hn h0 ht turn done
  refine codeAny_forLoop_any (fun k s' => ∃ i m' news',Same s s' ∧ 1 ≤ s'.toks ∧ St i s'.heap ∧ Fr h₀ env.locals s'.heap m' ∧ News h₀ env.locals s'.heap news' ∧ (∀ p ∈ news',p.1 ≠ I) ∧ J i m' news' ∧ i ≤ n ∧ k = n + 1 - i) ?_ (n + 1)
    ⟨0,m,news,Same.rfl,ht,hst,F,N,hn,h0,Nat.zero_le _,rfl⟩
  rintro k ⟨h,gs,dr,tk,os⟩ ⟨i,m',news',⟨e1,e2⟩,htk,hst',F',N',hn',hJ,hi,rfl⟩
  dsimp only at e1 e2 htk hst' F' N'
  subst e1 e2
  by_cases hlt : i < n
  · refine wpAny_with_toks htk (W.item i _ _ _ hlt hst' fun v h₁ tk₁ hP hst₁ hk₁ ht₁ => ?_)
    dsimp only at ht₁ hk₁ ⊢
    obtain ⟨io,hio⟩ := hI _ _ hst₁
    have F₁ := Fr.but F' hIL hI0 hk₁
    have N₁ : News h₀ env.locals h₁ ((I,io) :: news') := fun p hp => by
      rcases List.mem_cons.mp hp with rfl | hp
      · exact ⟨hio,hIL,hI0⟩
      · exact News.but N' hn' hk₁ p hp
    refine hgo i v _ _ _ hlt hP hst₁ ?_
    refine wpAny_with_toks (n := 1) ht₁ (wpAny_mono (turn i v m' news' h₁ dr tk₁ io hlt hP hJ F₁ N₁ hn' ht₁) (fun _ s₂ h₂ ht₂ => ?_) fun _ _ x => x.elim)
    refine wpAny_with_toks (n := 1) ht₂ (wpAny_mono h₂ (fun f s₃ h₃ ht₃ => ?_) fun _ _ x => x.elim)
    obtain ⟨hf,m₃,news₃,nx,S₃,F₃,N₃,hp,hsub,hne,hJ₃⟩ := h₃
    have fin : ∃ k,k < n + 1 - i ∧ ∃ i m' news',Same s s₃ ∧ 1 ≤ s₃.toks ∧ St i s₃.heap ∧ Fr h₀ env.locals s₃.heap m' ∧ News h₀ env.locals s₃.heap news' ∧ (∀ p ∈ news',p.1 ≠ I) ∧ J i m' news' ∧ i ≤ n ∧ k = n + 1 - i := by
      refine ⟨n + 1 - (i + 1),by omega,i + 1,m₃,news₃,S₃,ht₃,?_,F₃,fun p hp' => N₃ p (hsub p hp'),hne,hJ₃,hlt,rfl⟩
      refine W.frame _ _ _ hst₁ fun b hb o e => ?_
      rcases hfp b hb with rfl | ⟨ob,hob⟩
      · rw [hio] at e;cases e;exact (N₃ _ hp).1
      · have q := (N₁ _ (.tail _ (hkp _ _ _ hJ _ hob))).1
        have q' : h₁.get? b = some ob := q
        rw [q'] at e;cases e
        exact (N₃ _ (hsub _ (hkp _ _ _ hJ₃ _ hob))).1
    rcases hf with rfl | rfl <;> exact fin
  · have hin : i = n := by omega
    subst hin
    refine wpAny_with_toks htk (W.done _ _ _ hst' fun h₁ tk₁ hk₁ ht₁ => wpAny_execs_nil ?_)
    exact done m' news' h₁ dr tk₁ hJ (Fr.but F' hIL hI0 hk₁) (News.but N' hn' hk₁) ht₁
theorem iter_led {l : Addr} {vs : List Value} {n : Nat} (J : Nat → (Str → Option Value) → List (Addr × Obj) → Prop) (hh : A.handled = none) (hgo : ∀ (i : Nat) (v : Value) (s : Shared) (Q : Unit → Shared → Prop) (E : Value → Shared → Prop) (I : Addr) (k : Nat), vs[i]? = some v → s.heap.IsListIter I l k → Q () s → wpAny (model prog w) A (letOwnedTupleGo target (.ref I) v) Q E s)
    (F : Fr h₀ env.locals s.heap m) (N : News h₀ env.locals s.heap news) (hl : ∀ i m news,J i m news → (l,listOf vs.toArray n) ∈ news) (h0 : J 0 m news) (ht : 1 ≤ s.toks)
    (turn : ∀ (i : Nat) (v : Value) m₁ news₁ h dr tk I io,vs[i]? = some v → J i m₁ news₁ → Fr h₀ env.locals h m₁ → News h₀ env.locals h ((I,io) :: news₁) → (∀ p ∈ news₁,p.1 ≠ I) → 1 ≤ tk →
      wpAny (model prog w) A (assign target env v) (fun _ s₂ => wpAny (model prog w) A (execs body env) (LoopEnd h₀ env.locals (J (i + 1)) (I,io) s) (fun _ _ => False) s₂) (fun _ _ => False) ⟨h,s.gens,dr,tk,s.os⟩)
    (done : ∀ m₁ news₁ h dr tk,J vs.length m₁ news₁ → Fr h₀ env.locals h m₁ → News h₀ env.locals h news₁ → 1 ≤ tk → Q .next ⟨h,s.gens,dr,tk,s.os⟩) :
    wpAny (model prog w) A (pyIter (.ref l)) (fun it s₂ => ForAt (model prog w) A target body env Q E it s₂) E s := by
  have hm := (N _ (hl _ _ _ h0)).1
  have hls : s.heap.IsList l vs.toArray := ⟨_,hm,rfl,_,rfl⟩
  have hlt : l < s.heap.objs.size := Heap.lt_size hm
  refine wpAny_pyIter_list hls ?_
  have hIL : s.heap.objs.size ≠ env.locals := Nat.ne_of_gt F.ns.lt
  have hI0 : h₀.get? s.heap.objs.size = none := Heap.get?_none_of_le (Nat.le_trans F.above (Nat.le_of_lt F.ns.lt))
  refine loop_core (W := Walks.list hh s.heap.objs.size l (Nat.ne_of_lt hlt) vs.toArray) J (kp := [(l,listOf vs.toArray n)]) (fun i m news hJ p hp => by rw [List.mem_singleton.mp hp];exact hl _ _ _ hJ)
    (fun b hb => ?_) (fun i h st => let ⟨o,ho,_⟩ := st.1;⟨o,ho⟩) (fun i v s Q E hi hP st hQ => hgo i v s Q E _ _ (by simpa using hP) st.1 hQ) hIL hI0
    ⟨⟨_,Heap.get?_push_size _ rfl,rfl,rfl⟩,hls.at fun o e => Heap.get?_push_of_some _ e⟩ (F.push _) (fun p hp => ⟨Heap.get?_push_of_some _ (N p hp).1,(N p hp).2⟩) (fun p hp => Nat.ne_of_lt (Heap.lt_size (N p hp).1)) h0 ht
    (fun i v m₁ news₁ h dr tk io hi hP hJ F₁ N₁ hn ht₁ => turn i v m₁ news₁ h dr tk _ io (by simpa using hP) hJ F₁ N₁ hn ht₁)
    fun m₁ news₁ h dr tk hJ => done m₁ news₁ h dr tk (by simpa using hJ)
  rcases List.mem_cons.mp hb with rfl | hb
  · exact .inl rfl
  · rw [List.mem_singleton.mp hb];exact .inr ⟨_, .head _⟩
theorem iter_txt {x : Str} {t : Tok} (J : Nat → (Str → Option Value) → List (Addr × Obj) → Prop) (hh : A.handled = none) (hgo : ∀ it v, letOwnedTupleGo target it v = pure ())
    (F : Fr h₀ env.locals s.heap m) (N : News h₀ env.locals s.heap news) (h0 : J 0 m news) (ht : 1 ≤ s.toks)
    (turn : ∀ (i c : Nat) (u : Tok) m₁ news₁ h dr tk I io,x.cps[i]? = some c → J i m₁ news₁ → Fr h₀ env.locals h m₁ → News h₀ env.locals h ((I,io) :: news₁) → (∀ p ∈ news₁,p.1 ≠ I) → 1 ≤ tk →
      wpAny (model prog w) A (assign target env (.str ⟨#[c]⟩ u)) (fun _ s₂ => wpAny (model prog w) A (execs body env) (LoopEnd h₀ env.locals (J (i + 1)) (I,io) s) (fun _ _ => False) s₂) (fun _ _ => False) ⟨h,s.gens,dr,tk,s.os⟩)
    (done : ∀ m₁ news₁ h dr tk,J x.cps.size m₁ news₁ → Fr h₀ env.locals h m₁ → News h₀ env.locals h news₁ → 1 ≤ tk → Q .next ⟨h,s.gens,dr,tk,s.os⟩) :
    wpAny (model prog w) A (pyIter (.str x t)) (fun it s₂ => ForAt (model prog w) A target body env Q E it s₂) E s := by
  have hIL : s.heap.objs.size ≠ env.locals := Nat.ne_of_gt F.ns.lt
  have hI0 : h₀.get? s.heap.objs.size = none := Heap.get?_none_of_le (Nat.le_trans F.above (Nat.le_of_lt F.ns.lt))
  have go : ∀ {St : Nat → Heap → Prop} {o : Obj}, Walks prog w A s.heap.objs.size [s.heap.objs.size] [s.heap.objs.size] x.cps.size (SignAt x) St → (∀ i h, St i h → ∃ io, h.get? s.heap.objs.size = some io) → St 0 (s.heap.push o) →
      ForAt (model prog w) A target body env Q E (.ref s.heap.objs.size) { s with heap := s.heap.push o } := fun W hI st =>
    loop_core (W := W) J (kp := []) (fun _ _ _ _ p hp => nomatch hp) (fun b hb => .inl (List.mem_singleton.mp hb)) hI (fun i v s Q E _ _ _ hQ => wpAny_of_eq (hgo _ v) hQ) hIL hI0 st (F.push _)
      (fun p hp => ⟨Heap.get?_push_of_some _ (N p hp).1,(N p hp).2⟩) (fun p hp => Nat.ne_of_lt (Heap.lt_size (N p hp).1)) h0 ht
      (fun i v m₁ news₁ h dr tk io hi hP hJ F₁ N₁ hn ht₁ => by obtain ⟨c,u,hc,rfl⟩ := hP;exact turn i c u m₁ news₁ h dr tk _ io hc hJ F₁ N₁ hn ht₁) done
  cases ha : x.cps.all (· < 128)
  · exact wpAny_pyIter_wide ha (go (Walks.strWide hh _ x t) (fun i h st => let ⟨o,ho,_⟩ := st;⟨o,ho⟩) ⟨_,Heap.get?_push_size _ rfl,rfl,rfl⟩)
  · exact wpAny_pyIter_ascii ha (go (Walks.strAscii hh _ x t) (fun i h st => let ⟨o,ho,_⟩ := st;⟨o,ho⟩) ⟨_,Heap.get?_push_size _ rfl,rfl,rfl⟩)
end
inductive Del (p : Addr × Obj) : List (Addr × Obj) → List (Addr × Obj) → Prop
  | head {r : List (Addr × Obj)} (h : ∀ q ∈ r,q.1 ≠ p.1) : Del p (p :: r) r
  | tail {q : Addr × Obj} {r r' : List (Addr × Obj)} (h : q.1 ≠ p.1) (d : Del p r r') : Del p (q :: r) (q :: r')
theorem Del.mem {p : Addr × Obj} {r r' : List (Addr × Obj)} (d : Del p r r') : p ∈ r := by
  induction d with
  | head _ => exact .head _
  | tail _ _ ih => exact .tail _ ih
theorem Del.sub {p : Addr × Obj} {r r' : List (Addr × Obj)} (d : Del p r r') : ∀ q ∈ r',q ∈ r := by
  induction d with
  | head _ => exact fun q h => .tail _ h
  | tail _ _ ih =>
    intro q h
    rcases List.mem_cons.mp h with rfl | h
    · exact .head _
    · exact .tail _ (ih q h)
theorem Del.ne {p : Addr × Obj} {r r' : List (Addr × Obj)} (d : Del p r r') : ∀ q ∈ r',q.1 ≠ p.1 := by
  induction d with
  | head h => exact h
  | tail h _ ih =>
    intro q hq
    rcases List.mem_cons.mp hq with rfl | hq
    · exact h
    · exact ih q hq
theorem Del.keep {p q : Addr × Obj} {r r' : List (Addr × Obj)} (d : Del p r r') (hq : q ∈ r) (hne : q.1 ≠ p.1) : q ∈ r' := by
  induction d with
  | head _ =>
    rcases List.mem_cons.mp hq with rfl | hq
    · exact absurd rfl hne
    · exact hq
  | tail _ _ ih =>
    rcases List.mem_cons.mp hq with rfl | hq
    · exact .head _
    · exact .tail _ (ih hq)
def OneEnd (h₀ : Heap) (L : Addr) (p lp : Addr × Obj) (s : Shared) (Q : Flow → Shared → Prop) (f : Flow) (s' : Shared) : Prop :=
  (f = .next ∨ f = .cont) ∧ ∃ m' news' nx,Same s s' ∧ Fr h₀ L s'.heap m' ∧ News h₀ L s'.heap nx ∧ Del p nx news' ∧ lp ∈ nx ∧ ∀ h dr tk,Fr h₀ L h m' → News h₀ L h news' → 1 ≤ tk → Q .next ⟨h,s.gens,dr,tk,s.os⟩
theorem one_end {h₀ : Heap} {L : Addr} {p lp : Addr × Obj} {s : Shared} {Q : Flow → Shared → Prop} {f : Flow} {h : Heap} {dr : Drawn} {tk : Nat} {m : Str → Option Value} {news' nx : List (Addr × Obj)} (hf : f = .next ∨ f = .cont) (F : Fr h₀ L h m) (N : News h₀ L h nx) (D : Del p nx news') (hl : lp ∈ nx)
    (k : ∀ h dr tk,Fr h₀ L h m → News h₀ L h news' → 1 ≤ tk → Q .next ⟨h,s.gens,dr,tk,s.os⟩) : OneEnd h₀ L p lp s Q f ⟨h,s.gens,dr,tk,s.os⟩ :=
  ⟨hf,m,news',nx,⟨rfl,rfl⟩,F,N,D,hl,k⟩
section
variable {prog : Program} {w : World} {A : Around} {E : Value → Shared → Prop} {s : Shared} {env : Env} {h₀ : Heap} {target : PySem.Expr} {body : List Stmt} {Q : Flow → Shared → Prop} {m : Str → Option Value} {news : List (Addr × Obj)}
theorem iter_one {l : Addr} {v : Value} {n : Nat} (hh : A.handled = none) (hgo : ∀ (s : Shared) (Q : Unit → Shared → Prop) (E : Value → Shared → Prop) (I : Addr) (k : Nat), s.heap.IsListIter I l k → Q () s → wpAny (model prog w) A (letOwnedTupleGo target (.ref I) v) Q E s)
    (F : Fr h₀ env.locals s.heap m) (N : News h₀ env.locals s.heap news) (hl : (l,listOf #[v] n) ∈ news) (ht : 1 ≤ s.toks)
    (turn : ∀ h dr tk I io,Fr h₀ env.locals h m → News h₀ env.locals h ((I,io) :: news) → (∀ p ∈ news,p.1 < I) → 1 ≤ tk →
      wpAny (model prog w) A (assign target env v) (fun _ s₂ => wpAny (model prog w) A (execs body env) (OneEnd h₀ env.locals (I,io) (l,listOf #[v] n) s Q) (fun _ _ => False) s₂) (fun _ _ => False) ⟨h,s.gens,dr,tk,s.os⟩) :
    wpAny (model prog w) A (pyIter (.ref l)) (fun it s₂ => ForAt (model prog w) A target body env Q E it s₂) E s := by
  have u0_ : Unit := ()
  revert hh hgo F N hl ht turn
  revert prog w A E s env h₀ target body Q m news l v n u0_
  k_extra "m:t16"
  intros prog w A E s env h₀ target body Q m news l v n _ hh hgo F N hl ht turn
  have hm := (N _ hl).1
  have hls : s.heap.IsList l #[v] := ⟨_,hm,rfl,_,rfl⟩
  have hlt : l < s.heap.objs.size := Heap.lt_size hm
  refine wpAny_pyIter_list hls ?_
  have hIL : s.heap.objs.size ≠ env.locals := Nat.ne_of_gt F.ns.lt
  have hI0 : h₀.get? s.heap.objs.size = none := Heap.get?_none_of_le (Nat.le_trans F.above (Nat.le_of_lt F.ns.lt))
  refine loop_core (W := Walks.list hh s.heap.objs.size l (Nat.ne_of_lt hlt) #[v])
    (fun i m' news' => (l,listOf #[v] n) ∈ news' ∧ ((i = 0 ∧ m' = m ∧ news' = news) ∨ (i = 1 ∧ ∀ h dr tk,Fr h₀ env.locals h m' → News h₀ env.locals h news' → 1 ≤ tk → Q .next ⟨h,s.gens,dr,tk,s.os⟩)))
    (kp := [(l,listOf #[v] n)]) (fun i m news hJ p hp => by rw [List.mem_singleton.mp hp];exact hJ.1)
    (fun b hb => ?_) (fun i h st => let ⟨o,ho,_⟩ := st.1;⟨o,ho⟩) (fun i v' s Q E hi hP st hQ => ?_) hIL hI0
    ⟨⟨_,Heap.get?_push_size _ rfl,rfl,rfl⟩,hls.at fun o e => Heap.get?_push_of_some _ e⟩ (F.push _) (fun p hp => ⟨Heap.get?_push_of_some _ (N p hp).1,(N p hp).2⟩) (fun p hp => Nat.ne_of_lt (Heap.lt_size (N p hp).1)) ⟨hl, .inl ⟨rfl,rfl,rfl⟩⟩ ht
    (fun i v' m₁ news₁ h dr tk io hi hP hJ F₁ N₁ hn ht₁ => ?_)
    fun m₁ news₁ h dr tk hJ F' N' ht' => ?_
  · rcases List.mem_cons.mp hb with rfl | hb
    · exact .inl rfl
    · rw [List.mem_singleton.mp hb];exact .inr ⟨_, .head _⟩
  · have hi0 : i = 0 := by have : i < 1 := hi;omega
    subst hi0
    have e : v' = v := by simpa using hP.symm
    subst e
    exact hgo s Q E _ _ st.1 hQ
  · have hi0 : i = 0 := by have : i < 1 := hi;omega
    subst hi0
    have e : v' = v := by simpa using hP.symm
    subst e
    rcases hJ.2 with ⟨_,rfl,rfl⟩ | ⟨h1,_⟩
    · refine wpAny_mono (turn h dr tk _ io F₁ N₁ (fun p hp => Heap.lt_size (N p hp).1) ht₁) (fun _ s₂ h₂ => wpAny_mono h₂ (fun f s₃ h₃ => ?_) fun _ _ x => x) fun _ _ x => x
      obtain ⟨hf,m',news',nx,S,F',N',D,hlm,k⟩ := h₃
      refine ⟨hf,m',news',nx,S,F',N',D.mem,D.sub,D.ne,D.keep hlm (Nat.ne_of_lt hlt), .inr ⟨rfl,k⟩⟩
    · cases h1
  · rcases hJ.2 with ⟨h1,_⟩ | ⟨_,k⟩
    · cases h1
    · exact k h dr tk F' N' ht'
end
theorem rows_loop_1 : True := by
  (k_with "m:k_upd" => (first | ((with_reducible show Del _ _ _);(repeat (first | (refine' Mine.Del.head ?a9'w;(case a9'w => k_all)) | (refine' Mine.Del.tail (by k_ne) ?_;rotate_left)));done) | (refine' Mine.Del.head ?_;k_all) | (refine' Mine.Del.tail ?a9'w ?b9'w;(case a9'w => k_ne);(case b9'w => k_upd)) | fail "none"))
  (k_with "loop:exec For" => (k_here;(with_reducible show wpAny _ _ (exec (Stmt.For _ _ _ _ _) _) _ _ _);k_dflt (refine' Mine.For_at ?_);k_whole))
  (k_with "loop:pyIter ref" => (k_here;(with_reducible show wpAny _ _ (pyIter (Value.ref _)) (fun it'y s₂'y => Mine.ForAt _ _ _ _ _ _ _ it'y s₂'y) _ _);k_dflt (refine' Mine.iter_one ?hh'y ?hg'y ?F'y ?N'y ?M'y ?T'y ?_;(case hh'y => exact rfl);(case F'y => k_asm);(case N'y => k_asm);(case M'y => k_mem);(case T'y => (refine Mine.leT ?_;(try dsimp only);omega));(case hg'y => first | (intro _ _ _ _ _ hi'y hq'y;exact PySem.wpAny_letOwnedTupleGo_listiter hi'y hq'y) | (intro _ _ _ _ _ _ hq'y;exact hq'y));k_whole;intro h''y dr''y tk''y I''y io''y F''y N''y l1'y ht''y;(try k_lt l1'y))))
  (k_with "loop:OneEnd" => (k_here;k_dflt (refine' Mine.one_end ?hf'z ?F'z ?N'z ?D'z ?M'z ?_;(case hf'z => first | exact Or.inl rfl | exact Or.inr rfl);(case F'z => k_asm);(case N'z => k_asm);(case D'z => k_upd);(case M'z => k_mem);k_whole;intro h''z dr''z tk''z F''z N''z ht''z)))
  trivial
end
section
def IterObj (io : Obj) : Prop := io.cls = .type "list_iterator" ∧ ∃ v k t,io.data = .fields #[v, .int k t]
section
variable {prog : Program} {w : World} {A : Around} {E : Value → Shared → Prop} {s : Shared} {env : Env} {h₀ : Heap} {target : PySem.Expr} {body : List Stmt} {Q : Flow → Shared → Prop} {m : Str → Option Value} {news : List (Addr × Obj)}
theorem loop_core2 {I : Addr} {fp : List Addr} {n : Nat} {P : Nat → Value → Prop} {St : Nat → Heap → Prop} (W : Walks prog w A I fp [I] n P St) (J : Nat → (Str → Option Value) → List (Addr × Obj) → Prop) (Pio : Obj → Prop)
    {kp : List (Addr × Obj)} (hkp : ∀ i m news,J i m news → ∀ p ∈ kp,p ∈ news) (hfp : ∀ b ∈ fp,b = I ∨ ∃ o,(b,o) ∈ kp) (hI : ∀ i h,St i h → ∃ io,h.get? I = some io ∧ Pio io)
    (hgo : ∀ i v (s : Shared) (Q : Unit → Shared → Prop) (E : Value → Shared → Prop),i < n → P i v → St (i + 1) s.heap → Q () s → wpAny (model prog w) A (letOwnedTupleGo target (.ref I) v) Q E s)
    (hIL : I ≠ env.locals) (hI0 : h₀.get? I = none) (hst : St 0 s.heap) (F : Fr h₀ env.locals s.heap m) (N : News h₀ env.locals s.heap news) (hn : ∀ p ∈ news,p.1 ≠ I) (h0 : J 0 m news) (ht : 1 ≤ s.toks)
    (turn : ∀ i v m₁ news₁ h dr tk io,i < n → P i v → J i m₁ news₁ → Fr h₀ env.locals h m₁ → News h₀ env.locals h ((I,io) :: news₁) → (∀ p ∈ news₁,p.1 ≠ I) → 1 ≤ tk → Pio io →
      wpAny (model prog w) A (assign target env v) (fun _ s₂ => wpAny (model prog w) A (execs body env) (LoopEnd h₀ env.locals (J (i + 1)) (I,io) s) (fun _ _ => False) s₂) (fun _ _ => False) ⟨h,s.gens,dr,tk,s.os⟩)
    (done : ∀ m₁ news₁ h dr tk,J n m₁ news₁ → Fr h₀ env.locals h m₁ → News h₀ env.locals h news₁ → 1 ≤ tk → Q .next ⟨h,s.gens,dr,tk,s.os⟩) : ForAt (model prog w) A target body env Q E (.ref I) s := by
  have u0_ : Unit := ();have u1_ : Unit := ();have u2_ : Unit := ();have u3_ : Unit := ()
  revert W hkp hfp hI hgo hIL hI0 hst F N hn h0 ht turn done
  revert prog w A E s env h₀ target body Q m news I fp n P St J Pio kp u0_ u1_ u2_ u3_
  k_extra "m:t24"
  intros prog w A E s env h₀ target body Q m news I fp n P St J Pio kp _ _ _ _ W hkp hfp hI hgo hIL hI0 hst F N hn h0 ht turn done
  refine codeAny_forLoop_any (fun k s' => ∃ i m' news',Same s s' ∧ 1 ≤ s'.toks ∧ St i s'.heap ∧ Fr h₀ env.locals s'.heap m' ∧ News h₀ env.locals s'.heap news' ∧ (∀ p ∈ news',p.1 ≠ I) ∧ J i m' news' ∧ i ≤ n ∧ k = n + 1 - i) ?_ (n + 1)
    ⟨0,m,news,Same.rfl,ht,hst,F,N,hn,h0,Nat.zero_le _,rfl⟩
  rintro k ⟨h,gs,dr,tk,os⟩ ⟨i,m',news',⟨e1,e2⟩,htk,hst',F',N',hn',hJ,hi,rfl⟩
  dsimp only at e1 e2 htk hst' F' N'
  subst e1 e2
  by_cases hlt : i < n
  · refine wpAny_with_toks htk (W.item i _ _ _ hlt hst' fun v h₁ tk₁ hP hst₁ hk₁ ht₁ => ?_)
    dsimp only at ht₁ hk₁ ⊢
    obtain ⟨io,hio,hpio⟩ := hI _ _ hst₁
    have F₁ := Fr.but F' hIL hI0 hk₁
    have N₁ : News h₀ env.locals h₁ ((I,io) :: news') := fun p hp => by
      rcases List.mem_cons.mp hp with rfl | hp
      · exact ⟨hio,hIL,hI0⟩
      · exact News.but N' hn' hk₁ p hp
    refine hgo i v _ _ _ hlt hP hst₁ ?_
    refine wpAny_with_toks (n := 1) ht₁ (wpAny_mono (turn i v m' news' h₁ dr tk₁ io hlt hP hJ F₁ N₁ hn' ht₁ hpio) (fun _ s₂ h₂ ht₂ => ?_) fun _ _ x => x.elim)
    refine wpAny_with_toks (n := 1) ht₂ (wpAny_mono h₂ (fun f s₃ h₃ ht₃ => ?_) fun _ _ x => x.elim)
    obtain ⟨hf,m₃,news₃,nx,S₃,F₃,N₃,hp,hsub,hne,hJ₃⟩ := h₃
    have fin : ∃ k,k < n + 1 - i ∧ ∃ i m' news',Same s s₃ ∧ 1 ≤ s₃.toks ∧ St i s₃.heap ∧ Fr h₀ env.locals s₃.heap m' ∧ News h₀ env.locals s₃.heap news' ∧ (∀ p ∈ news',p.1 ≠ I) ∧ J i m' news' ∧ i ≤ n ∧ k = n + 1 - i := by
      refine ⟨n + 1 - (i + 1),by omega,i + 1,m₃,news₃,S₃,ht₃,?_,F₃,fun p hp' => N₃ p (hsub p hp'),hne,hJ₃,hlt,rfl⟩
      refine W.frame _ _ _ hst₁ fun b hb o e => ?_
      rcases hfp b hb with rfl | ⟨ob,hob⟩
      · rw [hio] at e;cases e;exact (N₃ _ hp).1
      · have q := (N₁ _ (.tail _ (hkp _ _ _ hJ _ hob))).1
        have q' : h₁.get? b = some ob := q
        rw [q'] at e;cases e
        exact (N₃ _ (hsub _ (hkp _ _ _ hJ₃ _ hob))).1
    rcases hf with rfl | rfl <;> exact fin
  · have hin : i = n := by omega
    subst hin
    refine wpAny_with_toks htk (W.done _ _ _ hst' fun h₁ tk₁ hk₁ ht₁ => wpAny_execs_nil ?_)
    exact done m' news' h₁ dr tk₁ hJ (Fr.but F' hIL hI0 hk₁) (News.but N' hn' hk₁) ht₁
theorem iter_led2 {l : Addr} {vs : List Value} {n : Nat} (J : Nat → (Str → Option Value) → List (Addr × Obj) → Prop) (hh : A.handled = none) (hgo : ∀ (i : Nat) (v : Value) (s : Shared) (Q : Unit → Shared → Prop) (E : Value → Shared → Prop) (I : Addr) (k : Nat), vs[i]? = some v → s.heap.IsListIter I l k → Q () s → wpAny (model prog w) A (letOwnedTupleGo target (.ref I) v) Q E s)
    (F : Fr h₀ env.locals s.heap m) (N : News h₀ env.locals s.heap news) (hl : ∀ i m news,J i m news → (l,listOf vs.toArray n) ∈ news) (h0 : J 0 m news) (ht : 1 ≤ s.toks)
    (turn : ∀ (i : Nat) (v : Value) m₁ news₁ h dr tk I io,vs[i]? = some v → J i m₁ news₁ → Fr h₀ env.locals h m₁ → News h₀ env.locals h ((I,io) :: news₁) → (∀ p ∈ news₁,p.1 ≠ I) → 1 ≤ tk → IterObj io →
      wpAny (model prog w) A (assign target env v) (fun _ s₂ => wpAny (model prog w) A (execs body env) (LoopEnd h₀ env.locals (J (i + 1)) (I,io) s) (fun _ _ => False) s₂) (fun _ _ => False) ⟨h,s.gens,dr,tk,s.os⟩)
    (done : ∀ m₁ news₁ h dr tk,J vs.length m₁ news₁ → Fr h₀ env.locals h m₁ → News h₀ env.locals h news₁ → 1 ≤ tk → Q .next ⟨h,s.gens,dr,tk,s.os⟩) :
    wpAny (model prog w) A (pyIter (.ref l)) (fun it s₂ => ForAt (model prog w) A target body env Q E it s₂) E s := by
  have hm := (N _ (hl _ _ _ h0)).1
  have hls : s.heap.IsList l vs.toArray := ⟨_,hm,rfl,_,rfl⟩
  have hlt : l < s.heap.objs.size := Heap.lt_size hm
  refine wpAny_pyIter_list hls ?_
  have hIL : s.heap.objs.size ≠ env.locals := Nat.ne_of_gt F.ns.lt
  have hI0 : h₀.get? s.heap.objs.size = none := Heap.get?_none_of_le (Nat.le_trans F.above (Nat.le_of_lt F.ns.lt))
  refine loop_core2 (W := Walks.list hh s.heap.objs.size l (Nat.ne_of_lt hlt) vs.toArray) J IterObj (kp := [(l,listOf vs.toArray n)]) (fun i m news hJ p hp => by rw [List.mem_singleton.mp hp];exact hl _ _ _ hJ)
    (fun b hb => ?_) (fun i h st => let ⟨o,ho,hc,hd⟩ := st.1;⟨o,ho,hc,_,_,_,hd⟩) (fun i v s Q E hi hP st hQ => hgo i v s Q E _ _ (by simpa using hP) st.1 hQ) hIL hI0
    ⟨⟨_,Heap.get?_push_size _ rfl,rfl,rfl⟩,hls.at fun o e => Heap.get?_push_of_some _ e⟩ (F.push _) (fun p hp => ⟨Heap.get?_push_of_some _ (N p hp).1,(N p hp).2⟩) (fun p hp => Nat.ne_of_lt (Heap.lt_size (N p hp).1)) h0 ht
    (fun i v m₁ news₁ h dr tk io hi hP hJ F₁ N₁ hn ht₁ hio => turn i v m₁ news₁ h dr tk _ io (by simpa using hP) hJ F₁ N₁ hn ht₁ hio)
    fun m₁ news₁ h dr tk hJ => done m₁ news₁ h dr tk (by simpa using hJ)
  rcases List.mem_cons.mp hb with rfl | hb
  · exact .inl rfl
  · rw [List.mem_singleton.mp hb];exact .inr ⟨_, .head _⟩
end
end
section
def WEnd (h₀ : Heap) (L : Addr) (J : (Str → Option Value) → List (Addr × Obj) → Prop) (s : Shared) (f : Flow) (s' : Shared) : Prop :=
  (f = .next ∨ f = .cont) ∧ ∃ m' news',Same s s' ∧ Fr h₀ L s'.heap m' ∧ News h₀ L s'.heap news' ∧ J m' news'
section
variable {prog : Program} {w : World} {A : Around} {E : Value → Shared → Prop} {env : Env} {h₀ : Heap} {test : PySem.Expr} {body : List Stmt} {Q : Flow → Shared → Prop}
theorem while_down (J : Nat → (Str → Option Value) → List (Addr × Obj) → Prop) (g : Array GenState) (os : OsState) (hE : PassesOwn (model prog w) A env E)
    (turn : ∀ k m news h dr tk,J (k + 1) m news → Fr h₀ env.locals h m → News h₀ env.locals h news → 1 ≤ tk →
      wpAny (model prog w) A (isTrue test env (eval test env)) (fun b s₂ => WhlIf b (wpAny (model prog w) A (execs body env) (WEnd h₀ env.locals (J k) ⟨h,g,dr,tk,os⟩) (fun _ _ => False) s₂) False) (fun _ _ => False) ⟨h,g,dr,tk,os⟩)
    (done : ∀ m news h dr tk,J 0 m news → Fr h₀ env.locals h m → News h₀ env.locals h news → 1 ≤ tk →
      wpAny (model prog w) A (isTrue test env (eval test env)) (fun b s₂ => WhlIf b False (Q .next s₂)) (fun _ _ => False) ⟨h,g,dr,tk,os⟩) :
    ∀ k m news h dr tk,J k m news → Fr h₀ env.locals h m → News h₀ env.locals h news → 1 ≤ tk → WhlRest prog w A E env test body [] Q 100 ⟨h,g,dr,tk,os⟩
  | 0,m,news,h,dr,tk,hJ,F,N,ht => by
    refine whl_turn (k := 99) hE (wpAny_mono (done m news h dr tk hJ F N ht) (fun b s₂ hb => ?_) fun _ _ e => e.elim)
    cases b with
    | true => exact (show False from hb).elim
    | false => exact WhlIf.no rfl (show wpAny _ _ (execs [] env) Q E s₂ from fun _ _ _ => hb)
  | k + 1,m,news,h,dr,tk,hJ,F,N,ht => by
    refine whl_turn (k := 99) hE (wpAny_with_toks ht (wpAny_mono (turn k m news h dr tk hJ F N ht) (fun b s₂ hb ht2 => ?_) fun _ _ e => e.elim))
    cases b with
    | false => exact (show False from hb).elim
    | true =>
      refine WhlIf.yes rfl (wpAny_with_toks ht2 (wpAny_mono (show wpAny _ _ _ _ _ s₂ from hb) (fun f s₃ hf ht3 => ?_) fun _ _ e => e.elim))
      obtain ⟨hfl,m',news',hs,F',N',hJ'⟩ := hf
      obtain ⟨h3,g3,d3,t3,o3⟩ := s₃
      obtain ⟨rfl,rfl⟩ := hs
      have := while_down J _ _ hE turn done k m' news' h3 d3 t3 hJ' F' N' ht3
      rcases hfl with rfl | rfl
      · exact this
      · exact this
end
theorem units_ok {A : Around} {env : Env} {un u : Nat} (h : un + u < cLine) (ha : A.units = un) (h3 : 3 ≤ u) : (A.deeper env).units < cLine := by
  show A.units + 3 < cLine;rw [ha];omega
section
variable {prog : Program} {w : World} {A : Around} {E : Value → Shared → Prop} {s : Shared} {h₀ : Heap} {L D D2 : Addr} {news : List (Addr × Obj)} {n n2 : Nat}
theorem ne_push {its : Array Value} {v : Value} {Q : Value → Shared → Prop} (N : News h₀ L s.heap news) (h1 : (D,listOf (its.push v) n) ∈ news) (h2 : (D2,listOf #[] n2) ∈ news) (hu : A.units < cLine) (h : Q (.bool true) s) : wpAny (model prog w) A (compareOp .NotEq (.ref D) (.ref D2)) Q E s :=
  SeqAt.RcNeAt.lists_lengths (items := its.push v) (items2 := #[]) ⟨_,(N _ h1).1,rfl,_,rfl⟩ ⟨_,(N _ h2).1,rfl,_,rfl⟩ (by simp) hu prog w E Q h
theorem ne_nil {Q : Value → Shared → Prop} (N : News h₀ L s.heap news) (h1 : (D,listOf #[] n) ∈ news) (h2 : (D2,listOf #[] n2) ∈ news) (hu : A.units < cLine) (h : Q (.bool false) s) : wpAny (model prog w) A (compareOp .NotEq (.ref D) (.ref D2)) Q E s :=
  SeqAt.RcNeAt.lists (items := #[]) (items2 := #[]) (e := fun _ => true) ⟨_,(N _ h1).1,rfl,_,rfl⟩ ⟨_,(N _ h2).1,rfl,_,rfl⟩ rfl hu (fun j h1 => absurd h1 (Nat.not_lt_zero _)) prog w E Q h
end
theorem rows_wloop_1 : True := by
  (k_with "wloop:compareOp NotEq ref ref" => (k_here;(with_reducible show wpAny _ _ (compareOp _ (Value.ref _) (Value.ref _)) _ _ _);k_dflt (first
    | (refine' Mine.ne_push ?N'10 ?M'10 ?M2'10 ?U'10 ?_;(case N'10 => k_asm);(case M2'10 => k_mem);(case M'10 => k_mem);(case U'10 => exact Mine.units_ok (by assumption) rfl (by decide));k_whole)
    | (refine' Mine.ne_nil ?N'10 ?M'10 ?M2'10 ?U'10 ?_;(case N'10 => k_asm);(case M2'10 => k_mem);(case M'10 => k_mem);(case U'10 => exact Mine.units_ok (by assumption) rfl (by decide));k_whole))))
  trivial
end
section
noncomputable abbrev setO (es : Array (Int × Value)) (ep : Nat) (t : SetTable) : Obj := { cls := .type "set",dict := none,data := .set es ep t }
noncomputable abbrev oneT (j : Nat) (led : Bool) : SetTable := ⟨7,#[j],#[],0,led,0,false⟩
theorem layNew_fresh (led : Bool) (h : Int) (x : Value) : layNew (.fresh 0 0 led) #[] h x = (#[(h,x)],⟨7,#[SetTable.bits h % 8],#[],0,led,0,true⟩,false,false) := rfl
structure TwoSet (o : Obj) (v1 v2 : Value) : Prop where
  ex : ∃ es ep t,o = setO es ep t ∧ t.fits es.size = true ∧ t.plain = false ∧ (es.toList.map (·.2)).Perm [v1,v2]
theorem laid_plain {mask finger moves : Nat} {led plain : Bool} {hs : Array Int} {t : SetTable} {o : Array Nat} (h : SetTable.laid mask finger moves led plain hs = some (t,o)) : t.plain = plain := by
  unfold SetTable.laid at h
  cases hc : SetTable.layClean mask hs with
  | none => rw [hc] at h;cases h
  | some ow =>
    rw [hc] at h
    have := (Prod.mk.inj (Option.some.inj h)).1
    rw [← this]
theorem relayAll_plain (t : SetTable) (es : Array (Int × Value)) (wanted : Nat) (hp : t.plain = false) : (relayAll t es wanted).2.1.plain = false := by
  unfold relayAll
  split
  · rename_i t' order he
    dsimp only
    split
    · unfold SetTable.relaid at he
      rw [hp] at he
      exact laid_plain he
    · rfl
  · rfl
theorem orStandIn_plain {t : SetTable} {n : Nat} (hp : t.plain = false) : (t.orStandIn n).plain = false := by
  unfold SetTable.orStandIn
  split
  · exact hp
  · rfl
theorem layNew_plain (t : SetTable) (es : Array (Int × Value)) (h : Int) (x : Value) (hp : t.plain = false) : (layNew t es h x).2.1.plain = false := by
  unfold layNew
  split
  · exact orStandIn_plain hp
  · rfl
theorem e_upd_loop : entryFor table "set.update.loop" = some Builtin.«set.update.loop» := entryFor_of_tree (by kernel_rfl)
theorem p_upd_loop : plainId "set.update.loop" = true := by decide +kernel
section
variable {prog : Program} {w : World} {A : Around} {E : Value → Shared → Prop} {s : Shared} {a : Addr}
theorem setAdd_first {led : Bool} {x : Str} {t : Tok} {Q : Bool → Shared → Prop} (ho : s.heap.get? a = some (setO #[] 0 (.fresh 0 0 led)))
    (h : ∀ (hx : Int) (j : Nat) h',Heap.SameBut a s.heap h' → h'.get? a = some (setO #[(hx, .str x t)] 1 (oneT j led)) → hx = (PySem.strKind prog w).hash x → Q true { s with heap := h',toks := s.toks + 1 }) :
    wpAny (model prog w) A (setAdd a (.str x t)) Q E s := by
  have u0_ : Unit := ();have u1_ : Unit := ();have u2_ : Unit := ();have u3_ : Unit := ();have u4_ : Unit := ();have u5_ : Unit := ()
  revert ho h
  revert prog w A E s a led x t Q u0_ u1_ u2_ u3_ u4_ u5_
  k_extra "m:t16"
  intros prog w A E s a led x t Q _ _ _ _ _ _ ho h
  unfold setAdd
  refine wpAny_holding (wpAny_bind ((PySem.strKind prog w).pyHash (PySem.strKind_is prog w x t) ?_))
  unfold setAddHashed setAddHashedIn
  refine wpAny_holding (wpAny_bind (wpAny_setState_of ho rfl (by rfl) ?_))
  dsimp only
  rw [byScan_of (knd := PySem.strKind prog w) (x := Value.str x t) (es := #[]) rfl (by decide) (fun e he => by simp at he)]
  simp only [↓reduceIte]
  unfold setAddByScan
  refine wpAny_bind ?_
  refine wpAny_bind (wpAny_rule ?_)
  refine wpAny_bind (wpAny_setScan_of (knd := PySem.strKind prog w) (PySem.strKind_is prog w x t) ho rfl (by rfl) (fun e he => by simp at he) ?_)
  dsimp only [List.findIdx?_nil]
  rw [layNew_fresh]
  dsimp only
  refine wpAny_bind (wpAny_pure ?_)
  rw [if_pos rfl]
  refine wpAny_bind ?_
  rw [hashByValue_scannable 8 rfl]
  refine wpAny_pure ?_
  simp only [plainKind,Bool.false_eq_true,↓reduceIte]
  refine wpAny_bind (wpAny_storeSet_of ho rfl ?_ (by show 1 ≤ sizeLine;rw [sizeLine_eq];omega))
  simp only [SetTable.tooFull,SetTable.fill]
  refine wpAny_pure ?_
  refine wpAny_pure ?_
  have hg := Heap.get?_update_self (Obj.putSet #[((PySem.strKind prog w).hash x,Value.str x t)] (oneT (SetTable.bits ((PySem.strKind prog w).hash x) % 8) led)) ho rfl
  exact h _ _ _ (Heap.SameBut.update ..) hg rfl
theorem setAddHashed_second {ep : Nat} {tb : SetTable} {hx : Int} {x y : Str} {t u : Tok} {Q : Bool → Shared → Prop} (ho : s.heap.get? a = some (setO #[(hx, .str x t)] ep tb)) (hf : tb.fits 1 = true) (hp : tb.plain = false) (hhx : hx = (PySem.strKind prog w).hash x) (hne : y ≠ x)
    (h : ∀ h' o,Heap.SameBut a s.heap h' → h'.get? a = some o → TwoSet o (.str x t) (.str y u) → Q true { s with heap := h' }) :
    wpAny (model prog w) A (setAddHashed a (.str y u) ((PySem.strKind prog w).hash y)) Q E s := by
  have u0_ : Unit := ();have u1_ : Unit := ()
  revert ho hf hp hhx hne h
  revert prog w A E s a ep tb hx x y t u Q u0_ u1_
  k_extra "m:t16"
  intros prog w A E s a ep tb hx x y t u Q _ _ ho hf hp hhx hne h
  subst hhx
  unfold setAddHashed setAddHashedIn
  refine wpAny_holding (wpAny_bind (wpAny_setState_of ho rfl hf ?_))
  dsimp only
  rw [byScan_of (knd := PySem.strKind prog w) (x := Value.str y u) (es := #[((PySem.strKind prog w).hash x,Value.str x t)]) rfl (show 1 < scanBound by decide) (fun e he => by simp at he;subst he;exact ⟨⟨x,PySem.strKind_is prog w x t,rfl⟩,rfl⟩)]
  simp only [↓reduceIte]
  unfold setAddByScan
  refine wpAny_bind ?_
  refine wpAny_bind (wpAny_rule ?_)
  refine wpAny_bind (wpAny_setScan_of (knd := PySem.strKind prog w) (PySem.strKind_is prog w y u) ho rfl hf (fun e he => by simp at he;subst he;exact ⟨⟨x,PySem.strKind_is prog w x t,rfl⟩,rfl⟩) ?_)
  have hno : (PySem.strKind prog w).is y (Value.str x t) = false := by
    cases hk : (PySem.strKind prog w).is y (Value.str x t) with
    | false => rfl
    | true => exact absurd ((PySem.strKind prog w).inj _ _ _ hk (PySem.strKind_is prog w x t)) hne
  simp only [List.findIdx?_cons,List.findIdx?_nil,hno,Bool.false_eq_true,if_false,Option.map_none]
  have hperm := layNew_perm tb #[((PySem.strKind prog w).hash x,Value.str x t)] ((PySem.strKind prog w).hash y) (Value.str y u)
  have hfits := layNew_fits tb #[((PySem.strKind prog w).hash x,Value.str x t)] ((PySem.strKind prog w).hash y) (Value.str y u)
  have hplain := layNew_plain tb #[((PySem.strKind prog w).hash x,Value.str x t)] ((PySem.strKind prog w).hash y) (Value.str y u) hp
  generalize hL : layNew tb #[((PySem.strKind prog w).hash x,Value.str x t)] ((PySem.strKind prog w).hash y) (Value.str y u) = LL at hperm hfits hplain ⊢
  obtain ⟨es1,t1,wasDummy,gave⟩ := LL
  dsimp only at hperm hfits hplain ⊢
  have hmap : (es1.toList.map (·.2)).Perm [Value.str x t,Value.str y u] := by simpa using hperm.map (·.2)
  have hz1 : es1.size = 2 := by rw [← Array.length_toList,hperm.length_eq];rfl
  have hgw : ∀ (b : Bool) {s₁ : Shared} {Q' : Unit → Shared → Prop},Q' () s₁ → wpAny (model prog w) A (match b with | true => rule "set.scan.the-table-gave-way" | false => pure ()) Q' E s₁ :=
    fun b s₁ Q' hq => by cases b <;> first | exact wpAny_pure hq | exact wpAny_rule hq
  refine wpAny_bind (hgw _ ?_)
  rw [hplain]
  simp only [Bool.false_eq_true,if_false]
  refine wpAny_bind (wpAny_pure ?_)
  simp only [if_true]
  refine wpAny_bind (wpAny_storeSet_of ho rfl ?_ (by rw [hz1,sizeLine_eq];omega))
  have hg1 := Heap.get?_update_self (Obj.putSet es1 t1) ho rfl
  have hs1 := Heap.SameBut.update s.heap a (Obj.putSet es1 t1)
  split
  · have hp2 := relayAll_perm t1 es1 (SetTable.grown es1.size)
    have hf2 := relayAll_fits t1 es1 (SetTable.grown es1.size)
    have hpl2 := relayAll_plain t1 es1 (SetTable.grown es1.size) hplain
    generalize hRl : relayAll t1 es1 (SetTable.grown es1.size) = Rl at hp2 hf2 hpl2 ⊢
    obtain ⟨es2,t2,gave2⟩ := Rl
    dsimp only at hp2 hf2 hpl2 ⊢
    have hz2 : es2.size = 2 := by rw [← Array.length_toList,hp2.length_eq,Array.length_toList,hz1]
    refine wpAny_bind (hgw _ ?_)
    refine wpAny_bind (wpAny_storeSet_of hg1 rfl ?_ (by rw [hz2,sizeLine_eq];omega))
    refine wpAny_pure (wpAny_pure ?_)
    have hg2 := Heap.get?_update_self (Obj.putSet es2 t2) hg1 rfl
    exact h _ _ (hs1.trans (Heap.SameBut.update _ a _)) hg2 ⟨es2,_,t2,rfl,hf2,hpl2,(hp2.map (·.2)).trans hmap⟩
  · refine wpAny_pure (wpAny_pure ?_)
    exact h _ _ hs1 hg1 ⟨es1,_,t1,rfl,hfits,hplain,hmap⟩
theorem setAdd_second {ep : Nat} {tb : SetTable} {hx : Int} {x y : Str} {t u : Tok} {Q : Bool → Shared → Prop} (ho : s.heap.get? a = some (setO #[(hx, .str x t)] ep tb)) (hf : tb.fits 1 = true) (hp : tb.plain = false) (hhx : hx = (PySem.strKind prog w).hash x) (hne : y ≠ x)
    (h : ∀ h' o,Heap.SameBut a s.heap h' → h'.get? a = some o → TwoSet o (.str x t) (.str y u) → Q true { s with heap := h',toks := s.toks + 1 }) :
    wpAny (model prog w) A (setAdd a (.str y u)) Q E s := by
  unfold setAdd
  refine wpAny_holding (wpAny_bind ((PySem.strKind prog w).pyHash (PySem.strKind_is prog w y u) ?_))
  exact setAddHashed_second (s := { s with toks := s.toks + 1 }) ho hf hp hhx hne h
theorem star_dict0 {sd AD : Addr} {hx : Int} {x : Str} {t : Tok} {j n : Nat} {led : Bool} {Q : Unit → Shared → Prop} (hset : s.heap.get? sd = some (setO #[(hx, .str x t)] 1 (oneT j led))) (had : s.heap.get? AD = some (dictOf [] n)) (hsys : (AD == sysModules) = false) (hh : A.handled = none)
    (h : ∀ h',(∀ b o,s.heap.get? b = some o → h'.get? b = some o) → Q () { s with heap := h' }) : wpAny (model prog w) A (setDisplayStar sd (.ref AD)) Q E s := by
  have u0_ : Unit := ();have u1_ : Unit := ()
  revert hset had hsys hh h
  revert prog w A E s sd AD hx x t j n led Q u0_ u1_
  k_extra "m:t16"
  intros prog w A E s sd AD hx x t j n led Q _ _ hset had hsys hh h
  have hT : s.TypeIs (.ref AD) "dict" := ⟨_,had,rfl⟩
  have hD : s.heap.DictAt (PySem.strKind prog w) AD [] n := ⟨_,#[],had,⟨rfl,rfl,rfl⟩,rfl,fun e he => by simp at he, .nil, .nil⟩
  unfold setDisplayStar
  refine wpAny_bind (wpAny_isInstance hT PySem.F.sub_dict_set ?_)
  simp only [Bool.false_eq_true,if_false]
  refine wpAny_bind (wpAny_isInstance hT PySem.F.sub_dict_frozenset ?_)
  refine wpAny_bind (wpAny_askSetting ?_)
  cases hb : (model prog w).w.params.followText "set-display-star-reads-storage" with
  | false =>
    simp only [Bool.false_eq_true,if_false]
    refine wpAny_bind (wpAny_typeOf hT ?_)
    rw [if_pos (show (Value.type "dict" == Value.type "dict") = true by rfl)]
    refine wpAny_bind (wpAny_rule ?_)
    rw [if_neg (by rw [hsys];exact Bool.false_ne_true)]
    refine wpAny_bind (wpAny_dictEpoch had rfl ?_)
    refine wpAny_bind (wpAny_dictEntries had rfl ?_)
    unfold setRoomFor
    refine wpAny_bind (wpAny_bind (wpAny_setState_of hset rfl (by rfl) (wpAny_pure ?_)))
    rw [Std.Legacy.Range.forIn_eq_forIn_range']
    exact wpAny_bind (wpAny_pure (wpAny_pure (h s.heap fun _ _ e => e)))
  | true =>
    simp only [if_true]
    refine wpAny_bind (wpAny_pyIter_dict hsys hD ?_)
    refine wpAny_bind (wpAny_runValue (codeAny_builtin e_upd_loop ?_))
    rw [Around.under_plainId p_upd_loop _]
    show wpAny _ A.in1 (pyNext (.ref s.heap.objs.size) >>= _) _ _ _
    refine wpAny_bind (wpAny_pyNext_dict_end (knd := PySem.strKind prog w) (kvs := []) (i := 0) (ep := n) hh ⟨_,Heap.get?_push_size _ rfl,rfl,rfl⟩ (hD.at' fun o e => Heap.get?_push_of_some _ e) rfl fun h' he => ?_)
    refine wpAny_pure (wpAny_pure (h h' fun b o e => he b o (Nat.ne_of_lt (Heap.lt_size e)) (Heap.get?_push_of_some _ e)))
theorem star_dict1 {sd AD : Addr} {hx : Int} {x y : Str} {t ty : Tok} {j n : Nat} {led : Bool} {v : Value} {Q : Unit → Shared → Prop} (hset : s.heap.get? sd = some (setO #[(hx, .str x t)] 1 (oneT j led))) (hhx : hx = (PySem.strKind prog w).hash x) (hne : y ≠ x)
    (had : s.heap.get? AD = some (dictOf [⟨PyData.keyHash w.params y, .str y ty,v⟩] n)) (hsys : (AD == sysModules) = false) (hh : A.handled = none) (hsa : AD ≠ sd)
    (h : ∀ h' o tk t',(∀ b o,b ∉ [sd] → s.heap.get? b = some o → h'.get? b = some o) → h'.get? sd = some o → TwoSet o (.str x t) (.str y t') → s.toks ≤ tk → Q () { s with heap := h',toks := tk }) : wpAny (model prog w) A (setDisplayStar sd (.ref AD)) Q E s := by
  have u0_ : Unit := ();have u1_ : Unit := ();have u2_ : Unit := ();have u3_ : Unit := ();have u4_ : Unit := ();have u5_ : Unit := ();have u6_ : Unit := ()
  revert hset hhx hne had hsys hh hsa h
  revert prog w A E s sd AD hx x y t ty j n led v Q u0_ u1_ u2_ u3_ u4_ u5_ u6_
  k_extra "m:t24"
  intros prog w A E s sd AD hx x y t ty j n led v Q _ _ _ _ _ _ _ hset hhx hne had hsys hh hsa h
  have hT : s.TypeIs (.ref AD) "dict" := ⟨_,had,rfl⟩
  have hD : s.heap.DictAt (PySem.strKind prog w) AD [(y,v)] n := ⟨_,_,had,⟨rfl,rfl,rfl⟩,rfl,fun e he => by simp at he;subst he;exact ⟨y,PySem.strKind_is prog w y ty,rfl⟩, .cons (PySem.strKind_is prog w y ty) rfl .nil,by simp⟩
  unfold setDisplayStar
  refine wpAny_bind (wpAny_isInstance hT PySem.F.sub_dict_set ?_)
  simp only [Bool.false_eq_true,if_false]
  refine wpAny_bind (wpAny_isInstance hT PySem.F.sub_dict_frozenset ?_)
  refine wpAny_bind (wpAny_askSetting ?_)
  cases hb : (model prog w).w.params.followText "set-display-star-reads-storage" with
  | false =>
    simp only [Bool.false_eq_true,if_false]
    refine wpAny_bind (wpAny_typeOf hT ?_)
    rw [if_pos (show (Value.type "dict" == Value.type "dict") = true by rfl)]
    refine wpAny_bind (wpAny_rule ?_)
    rw [if_neg (by rw [hsys];exact Bool.false_ne_true)]
    refine wpAny_bind (wpAny_dictEpoch had rfl ?_)
    refine wpAny_bind (wpAny_dictEntries had rfl ?_)
    unfold setRoomFor
    refine wpAny_bind (wpAny_bind (wpAny_setState_of hset rfl (by rfl) (wpAny_pure ?_)))
    rw [Std.Legacy.Range.forIn_eq_forIn_range']
    refine wpAny_bind ?_
    rw [show ([:(#[(⟨PyData.keyHash w.params y, .str y ty,v⟩ : DictEntry)] : Array DictEntry).size] : Std.Legacy.Range).size = 1 by simp [Std.Legacy.Range.size]]
    show wpAny _ A (forIn [0] PUnit.unit _) _ _ _
    rw [List.forIn_cons]
    refine wpAny_bind ?_
    refine wpAny_bind (wpAny_dictEntries had rfl ?_)
    rw [show (List.toArray [(⟨PyData.keyHash w.params y, .str y ty,v⟩ : DictEntry)])[0]? = some ⟨PyData.keyHash w.params y, .str y ty,v⟩ from rfl]
    dsimp only
    refine wpAny_bind (wpAny_holding ?_)
    refine wpAny_bind (setAddHashed_second hset (by rfl) rfl hhx hne fun h' o hs ho htwo => ?_)
    refine wpAny_pure ?_
    refine wpAny_bind (wpAny_dictEpoch ((hs.2 AD hsa).trans had) rfl ?_)
    rw [if_neg (by simp)]
    refine wpAny_pure ?_
    dsimp only
    rw [List.forIn_nil]
    refine wpAny_pure (wpAny_pure ?_)
    exact h h' o s.toks ty (fun b o' hb e => (hs.2 b (fun q => hb (List.mem_singleton.mpr q))).trans e) ho htwo (Nat.le_refl _)
  | true =>
    simp only [if_true]
    refine wpAny_bind (wpAny_pyIter_dict hsys hD ?_)
    refine wpAny_bind (wpAny_runValue (codeAny_builtin e_upd_loop ?_))
    rw [Around.under_plainId p_upd_loop _]
    have hlt : sd < s.heap.objs.size := Heap.lt_size hset
    show wpAny _ A.in1 (pyNext (.ref s.heap.objs.size) >>= _) _ _ _
    refine wpAny_bind (wpAny_pyNext_dict_item (knd := PySem.strKind prog w) (kvs := [(y,v)]) (i := 0) (ep := n) ⟨_,Heap.get?_push_size _ rfl,rfl,rfl⟩ (hD.at' fun o e => Heap.get?_push_of_some _ e) rfl fun key h1 hkey hit1 hs1 => ?_)
    obtain ⟨t',rfl⟩ := Value.isStrOf_shape hkey
    have hset1 : h1.get? sd = some (setO #[(hx, .str x t)] 1 (oneT j led)) := (hs1.2 sd (Nat.ne_of_lt hlt)).trans (Heap.get?_push_of_some _ hset)
    have had1 : h1.get? AD = some (dictOf [⟨PyData.keyHash w.params y, .str y ty,v⟩] n) := (hs1.2 AD (Nat.ne_of_lt (Heap.lt_size had))).trans (Heap.get?_push_of_some _ had)
    refine wpAny_bind (wpAny_holding ?_)
    refine setAdd_second (s := { s with heap := h1 }) hset1 (by rfl) rfl hhx hne fun h2 o hs2 ho2 htwo => ?_
    refine wpAny_pure ⟨plainId_quiet p_upd_loop _,codeAny_builtin e_upd_loop ?_⟩
    rw [Around.under_plainId p_upd_loop _]
    show wpAny _ A.in1 (pyNext (.ref s.heap.objs.size) >>= _) _ _ _
    have hit2 : h2.IsKeyIter s.heap.objs.size AD 1 [(y,v)].length n := hit1.at fun o e => (hs2.2 _ (Nat.ne_of_gt hlt)).trans e
    have hD1 : h1.DictAt (PySem.strKind prog w) AD [(y,v)] n := ⟨_,_,had1,⟨rfl,rfl,rfl⟩,rfl,fun e he => by simp at he;subst he;exact ⟨y,PySem.strKind_is prog w y ty,rfl⟩, .cons (PySem.strKind_is prog w y ty) rfl .nil,by simp⟩
    have hD2 : h2.DictAt (PySem.strKind prog w) AD [(y,v)] n := hD1.at' fun o e => (hs2.2 AD hsa).trans e
    refine wpAny_bind (wpAny_pyNext_dict_end (knd := PySem.strKind prog w) (kvs := [(y,v)]) (i := 1) (ep := n) hh hit2 hD2 rfl fun h3 he => ?_)
    refine wpAny_pure (wpAny_pure (h h3 o _ t' (fun b o' hb e => ?_) ?_ htwo (Nat.le_succ _)))
    · have hbs : b ≠ s.heap.objs.size := Nat.ne_of_lt (Heap.lt_size e)
      exact he b o' hbs ((hs2.2 b (fun q => hb (List.mem_singleton.mpr q))).trans ((hs1.2 b hbs).trans (Heap.get?_push_of_some _ e)))
    · exact he sd o (Nat.ne_of_lt hlt) ho2
end
end
section
theorem cutAt_of {l : List Char} {c : Char} (h : PySem.cutCharsAt c l [] = [l]) : (String.ofList l).cutAt c = [String.ofList l] := by unfold String.cutAt;rw [String.toList_ofList,h];rfl
open PySem.W.Fast in
theorem canon_si : (Manifest.canonical (String.map (fun c => if (c.isAlphanum || c == '_' || c == '.') = true then c else '_') "set_iterator.__iter__") ++ "" = "dict_keyiterator.__iter__") := by
  rw [canonicalQ_eq,show (String.map (fun c => if (c.isAlphanum || c == '_' || c == '.') = true then c else '_') "set_iterator.__iter__") = "set_iterator.__iter__" by kernel_rfl,show canonicalQ "set_iterator.__iter__" = "dict_keyiterator.__iter__" by kernel_rfl];rfl
open PySem.W.Fast in
theorem canon_se : (Manifest.canonical (String.map (fun c => if (c.isAlphanum || c == '_' || c == '.') = true then c else '_') "set.__iter__") ++ "" = "frozenset.__iter__") := by
  rw [canonicalQ_eq,show (String.map (fun c => if (c.isAlphanum || c == '_' || c == '.') = true then c else '_') "set.__iter__") = "set.__iter__" by kernel_rfl,show canonicalQ "set.__iter__" = "frozenset.__iter__" by kernel_rfl];rfl
theorem slot_si_next : Slot "set_iterator" "__next__" "set_iterator.__next__" :=
  .of (owner := "set_iterator") (n := "__next__") (by rw [typeLookup_type,builtinLookup_eq_fast];kernel_rfl) (by decide +kernel) (by decide +kernel) (by decide +kernel)
    (.inl (by rw [PySem.W.Fast.findQ_eq];decide +kernel)) (by rw [isSubtype_type];kernel_rfl)
theorem entry_si_next : entryFor table "set_iterator.__next__" = some Builtin.«set_iterator.__next__» := entryFor_of_tree (by kernel_rfl)
theorem args_si_next (a : Value) : argsOk "set_iterator.__next__" ⟨[a],[]⟩ := by unfold argsOk;rw [PySem.W.Fast.signatureQ_eq];kernel_rfl
theorem slot_si_iter : Slot "set_iterator" "__iter__" "set_iterator.__iter__" :=
  .of (owner := "set_iterator") (n := "__iter__") (by rw [typeLookup_type,builtinLookup_eq_fast];kernel_rfl) (by decide +kernel) (by decide +kernel) (by decide +kernel)
    (.inl (by rw [PySem.W.Fast.findQ_eq];decide +kernel)) (by rw [isSubtype_type];kernel_rfl)
theorem entry_si_iter : entryFor table "set_iterator.__iter__" = some Builtin.«dict_keyiterator.__iter__» := entryFor_alias (by rw [fastTable_eq_tree];kernel_rfl) (cutAt_of (l := ['s','e','t','_','i','t','e','r','a','t','o','r','.','_','_','i','t','e','r','_','_']) rfl) canon_si (by rw [fastTable_eq_tree];kernel_rfl)
theorem args_si_iter (a : Value) : argsOk "set_iterator.__iter__" ⟨[a],[]⟩ := by unfold argsOk;rw [PySem.W.Fast.signatureQ_eq];kernel_rfl
theorem entry_set_iter : entryFor table "set.__iter__" = some Builtin.«frozenset.__iter__» := entryFor_alias (by rw [fastTable_eq_tree];kernel_rfl) (cutAt_of (l := ['s','e','t','.','_','_','i','t','e','r','_','_']) rfl) canon_se (by rw [fastTable_eq_tree];kernel_rfl)
theorem args_set_iter (a : Value) : argsOk "set.__iter__" ⟨[a],[]⟩ := by unfold argsOk;rw [PySem.W.Fast.signatureQ_eq];kernel_rfl
end
section
def SIt (h : Heap) (I : Addr) (first : Value) (i : Nat) (sd : Addr) (n ep : Nat) : Prop :=
  ∃ o,h.get? I = some o ∧ o.cls = .type "set_iterator" ∧ o.data = .fields #[first, .int i 0, .ref sd, .int n 0, .int ep 0]
theorem SIt.at {h h' : Heap} {I : Addr} {first : Value} {i : Nat} {sd : Addr} {n ep : Nat} (x : SIt h I first i sd n ep) (e : ∀ o,h.get? I = some o → h'.get? I = some o) : SIt h' I first i sd n ep := let ⟨o,ho,r⟩ := x;⟨o,e _ ho,r⟩
section
variable {prog : Program} {w : World} {A : Around} {E : Value → Shared → Prop} {s : Shared} {I sd pt : Addr} {es : Array (Int × Value)} {i n ep : Nat} {tb : SetTable}
theorem SIt.typeIs {first : Value} (x : SIt s.heap I first i sd n ep) : s.TypeIs (.ref I) "set_iterator" := let ⟨o,ho,hc,_⟩ := x;⟨o,ho,hc⟩
theorem pyIter_si {first : Value} {Q : Value → Shared → Prop} (hit : SIt s.heap I first i sd n ep) (h : Q (.ref I) s) : wpAny (model prog w) A (pyIter (.ref I)) Q E s := by
  refine wpAny_pyIter_slot hit.typeIs slot_si_iter (wpAny_call_entry slot_si_iter hit.typeIs entry_si_iter ?_ (args_si_iter _))
  show wpAny _ _ (ret (.ref I)) _ _ s
  exact wpAny_pure ⟨_,rfl,"set_iterator",_,hit.typeIs,slot_si_next.lookup,h⟩
theorem si_itemD {pl : Array Value} {pn p : Nat} {hx : Int} {x : Value} {Q : Option Value → Shared → Prop} (hit : SIt s.heap I (.ref pt) i sd n ep) (hset : s.heap.get? sd = some (setO es ep tb)) (hf : tb.fits es.size = true) (hn : es.size = n)
    (hpt : s.heap.get? pt = some { cls := .type "tuple",data := .seq pl pn }) (hpl : pl[i]? = some (.int p 0)) (hx : es[p]? = some (hx,x))
    (hQ : ∀ h',SIt h' I (.ref pt) (i + 1) sd n ep → Heap.SameBut I s.heap h' → Q (some x) { s with heap := h' }) : wpAny (model prog w) A (pyNext (.ref I)) Q E s := by
  obtain ⟨o,ho,hc,hd⟩ := id hit
  unfold pyNext
  refine wpAny_bind (wpAny_attempt (wpAny_callSpecial?_slot (name := Str.ofString "__next__") hit.typeIs slot_si_next
    (wpAny_call_entry slot_si_next hit.typeIs entry_si_next ?_ (args_si_next _))))
  refine wpAny_bind (wpAny_pure ?_)
  refine wpAny_bind (wpAny_fieldsOf ho hd ?_)
  dsimp only
  refine wpAny_bind (wpAny_setEntries_of hset rfl hf ?_)
  rw [if_neg (by rw [hn];simp)]
  refine wpAny_bind (wpAny_seqItems hpt rfl ?_)
  dsimp only
  rw [Int.toNat_natCast,hpl]
  dsimp only
  unfold setNextDrawn
  refine wpAny_bind (wpAny_bind (wpAny_setState_of hset rfl hf ?_))
  dsimp only
  rw [if_neg (by simp)]
  rw [Int.toNat_natCast,hx]
  dsimp only
  refine wpAny_bind (wpAny_pure (wpAny_pure ?_))
  refine wpAny_bind (wpAny_setField ho hd (by simp) (wpAny_pure ⟨x,rfl,wpAny_pure (hQ _ ?_ (Heap.SameBut.update ..))⟩))
  exact ⟨_,Heap.get?_update_self _ ho (Obj.isFreed_of_fields (Obj.data_mapFields hd _)),(Obj.cls_mapFields ..).trans hc,by
    rw [Obj.data_mapFields hd];simp [rawInt]⟩
theorem stop_raised {s : Shared} {Q : Option Value → Shared → Prop} {P : PySem.Fin → Shared → Prop} (hh : A.handled = none)
    (hQ : ∀ h',(∀ b o,s.heap.get? b = some o → h'.get? b = some o) → Q none { s with heap := h' }) :
    wpAny (model prog w) A.in1 (newExc (.type "StopIteration") [] >>= fun e => (raiseNew e : Sem PySem.Fin)) P (fun e s' => wpAny (model prog w) A (do if ← isInstance e (.type "StopIteration") then pure none else throw e) Q E s') s := by
  refine wpAny_bind ?_
  simp only [newExc,newTuple]
  refine wpAny_bind (wpAny_newObj_type ?_ (by size_fits))
  refine wpAny_bind (m := firstArgMember _ _) (wpAny_of_eq (a := Value.none) (by first | rfl | (simp only [firstArgMember];rfl)) ?_)
  refine wpAny_newObj_type ?_ (by size_fits)
  simp only [raiseNew]
  refine wpAny_bind (wpAny_handled ?_)
  rw [show A.in1.handled = none from hh]
  refine wpAny_bind (wpAny_pure (wpAny_throw ?_))
  refine wpAny_bind (wpAny_isInstance (T := "StopIteration") (b := true) ⟨_,Heap.get?_push_size _ rfl,rfl⟩ isSubtype_stop ?_)
  rw [if_pos rfl]
  exact wpAny_pure (hQ _ fun b o e => Heap.get?_push_of_some _ (Heap.get?_push_of_some _ e))
theorem si_endD {pl : Array Value} {pn : Nat} {Q : Option Value → Shared → Prop} (hh : A.handled = none) (hit : SIt s.heap I (.ref pt) i sd n ep) (hset : s.heap.get? sd = some (setO es ep tb)) (hf : tb.fits es.size = true) (hn : es.size = n)
    (hpt : s.heap.get? pt = some { cls := .type "tuple",data := .seq pl pn }) (hpl : pl[i]? = none)
    (hQ : ∀ h',(∀ b o,b ∉ [I] → s.heap.get? b = some o → h'.get? b = some o) → Q none { s with heap := h' }) : wpAny (model prog w) A (pyNext (.ref I)) Q E s := by
  obtain ⟨o,ho,hc,hd⟩ := id hit
  unfold pyNext
  refine wpAny_bind (wpAny_attempt (wpAny_callSpecial?_slot (name := Str.ofString "__next__") hit.typeIs slot_si_next
    (wpAny_call_entry slot_si_next hit.typeIs entry_si_next ?_ (args_si_next _))))
  refine wpAny_bind (wpAny_pure ?_)
  refine wpAny_bind (wpAny_fieldsOf ho hd ?_)
  dsimp only
  refine wpAny_bind (wpAny_setEntries_of hset rfl hf ?_)
  rw [if_neg (by rw [hn];simp)]
  refine wpAny_bind (wpAny_seqItems hpt rfl ?_)
  dsimp only
  rw [Int.toNat_natCast,hpl]
  dsimp only
  refine wpAny_bind (wpAny_setField ho hd (by simp) ?_)
  have ho1 := Heap.get?_update_self (Obj.mapFields (·.setIfInBounds 0 (rawInt 0))) ho (Obj.isFreed_of_fields (Obj.data_mapFields hd _))
  have hd1 := Obj.data_mapFields hd (·.setIfInBounds 0 (rawInt 0))
  refine wpAny_bind (wpAny_setField ho1 hd1 (by simp) ?_)
  refine stop_raised hh fun h' he => hQ _ fun b o' hb e => he b o' ?_
  have hbI : b ≠ I := fun q => hb (List.mem_singleton.mpr q)
  exact (Heap.get?_update_other _ _ (Ne.symm hbI)).trans ((Heap.get?_update_other _ _ (Ne.symm hbI)).trans e)
theorem si_itemN {slot : Nat} {nx : Nat} {x : Value} {Q : Option Value → Shared → Prop} (hit : SIt s.heap I (.int slot 0) i sd n ep) (hset : s.heap.get? sd = some (setO es ep tb)) (hf : tb.fits es.size = true) (hn : es.size = n)
    (hnx : ∀ (Q' : Option (Value × Nat) → Shared → Prop),Q' (some (x,nx)) s → wpAny (model prog w) A.in1 (setNext sd slot i ep) Q' (fun e s' => wpAny (model prog w) A (do if ← isInstance e (.type "StopIteration") then pure none else throw e) Q E s') s)
    (hQ : ∀ h',SIt h' I (.int nx 0) (i + 1) sd n ep → Heap.SameBut I s.heap h' → Q (some x) { s with heap := h' }) : wpAny (model prog w) A (pyNext (.ref I)) Q E s := by
  obtain ⟨o,ho,hc,hd⟩ := id hit
  unfold pyNext
  refine wpAny_bind (wpAny_attempt (wpAny_callSpecial?_slot (name := Str.ofString "__next__") hit.typeIs slot_si_next
    (wpAny_call_entry slot_si_next hit.typeIs entry_si_next ?_ (args_si_next _))))
  refine wpAny_bind (wpAny_pure ?_)
  refine wpAny_bind (wpAny_fieldsOf ho hd ?_)
  dsimp only
  refine wpAny_bind (wpAny_setEntries_of hset rfl hf ?_)
  rw [if_neg (by rw [hn];simp)]
  rw [Int.toNat_natCast,Int.toNat_natCast,Int.toNat_natCast]
  refine wpAny_bind (hnx _ ?_)
  dsimp only
  refine wpAny_bind (wpAny_setField ho hd (by simp) ?_)
  have ho1 := Heap.get?_update_self (Obj.mapFields (·.setIfInBounds 0 (rawInt nx))) ho (Obj.isFreed_of_fields (Obj.data_mapFields hd _))
  have hd1 := Obj.data_mapFields hd (·.setIfInBounds 0 (rawInt nx))
  refine wpAny_bind (wpAny_setField ho1 hd1 (by simp) (wpAny_pure ⟨x,rfl,wpAny_pure (hQ _ ?_ ((Heap.SameBut.update ..).trans (Heap.SameBut.update ..)))⟩))
  exact ⟨_,Heap.get?_update_self _ ho1 (Obj.isFreed_of_fields (Obj.data_mapFields hd1 _)),(Obj.cls_mapFields ..).trans ((Obj.cls_mapFields ..).trans hc),by
    rw [Obj.data_mapFields hd1];simp [rawInt]⟩
theorem si_endN {slot : Nat} {Q : Option Value → Shared → Prop} (hh : A.handled = none) (hit : SIt s.heap I (.int slot 0) i sd n ep) (hset : s.heap.get? sd = some (setO es ep tb)) (hf : tb.fits es.size = true) (hn : es.size = n)
    (hnx : ∀ (Q' : Option (Value × Nat) → Shared → Prop),Q' none s → wpAny (model prog w) A.in1 (setNext sd slot i ep) Q' (fun e s' => wpAny (model prog w) A (do if ← isInstance e (.type "StopIteration") then pure none else throw e) Q E s') s)
    (hQ : ∀ h',(∀ b o,b ∉ [I] → s.heap.get? b = some o → h'.get? b = some o) → Q none { s with heap := h' }) : wpAny (model prog w) A (pyNext (.ref I)) Q E s := by
  obtain ⟨o,ho,hc,hd⟩ := id hit
  unfold pyNext
  refine wpAny_bind (wpAny_attempt (wpAny_callSpecial?_slot (name := Str.ofString "__next__") hit.typeIs slot_si_next
    (wpAny_call_entry slot_si_next hit.typeIs entry_si_next ?_ (args_si_next _))))
  refine wpAny_bind (wpAny_pure ?_)
  refine wpAny_bind (wpAny_fieldsOf ho hd ?_)
  dsimp only
  refine wpAny_bind (wpAny_setEntries_of hset rfl hf ?_)
  rw [if_neg (by rw [hn];simp)]
  rw [Int.toNat_natCast,Int.toNat_natCast,Int.toNat_natCast]
  refine wpAny_bind (hnx _ ?_)
  dsimp only
  refine wpAny_bind (wpAny_setField ho hd (by simp) ?_)
  refine stop_raised hh fun h' he => hQ _ fun b o' hb e => he b o' ?_
  have hbI : b ≠ I := fun q => hb (List.mem_singleton.mpr q)
  exact (Heap.get?_update_other _ _ (Ne.symm hbI)).trans e
end
end
section
theorem erase_perm {α : Type} : ∀ {l : List α} {i : Nat} (h : i < l.length),(l[i] :: l.eraseIdx i).Perm l
  | x :: l,0,_ => List.Perm.refl _
  | x :: l,i + 1,h => (List.Perm.swap x _ _).trans ((erase_perm (l := l) (i := i) (by simpa using h)).cons x)
theorem pick_go {α : Type} (next : Nat → Nat) : ∀ (f k : Nat) (left : List α) (out : Array α),left.length = f → (pickOrder.go next f k left out).toList.Perm (out.toList ++ left)
  | 0,_,left,out,h => by
    obtain rfl : left = [] := List.length_eq_zero_iff.mp h
    unfold pickOrder.go;rw [List.append_nil]
  | f + 1,k,left,out,h => by
    have hlt : next k % left.length < left.length := Nat.mod_lt _ (by omega)
    unfold pickOrder.go
    rw [List.getElem?_eq_getElem hlt]
    dsimp only
    refine (pick_go next f (k + 1) _ _ (by rw [List.length_eraseIdx_of_lt hlt];omega)).trans ?_
    rw [Array.toList_push,List.append_assoc]
    refine List.Perm.append_left _ ?_
    exact (erase_perm hlt)
theorem pick_perm {α : Type} (next : Nat → Nat) (xs : Array α) : (pickOrder next xs).toList.Perm xs.toList := by
  have := pick_go next xs.size 0 xs.toList #[] (by simp)
  simpa [pickOrder] using this
section
variable {prog : Program} {w : World} {A : Around} {E : Value → Shared → Prop} {s : Shared} {I sd pt : Addr} {es : Array (Int × Value)} {i n ep : Nat} {tb : SetTable}
theorem choose_any {src : Source} {n : Nat} {Q : Nat → Shared → Prop} (hn : n ≠ 0) (h : ∀ i d,i < n → Q i { s with drawn := d }) : wpAny (model prog w) A (choose src n) Q E s :=
  fun _ _ _ => ⟨hn,h _ _ (Nat.mod_lt _ (Nat.pos_of_ne_zero hn))⟩
theorem drawOrder_any {α : Type} : ∀ (n : Nat) (xs : List α) (s : Shared) (Q : List α → Shared → Prop),xs.length = n → (∀ ys d,ys.Perm xs → Q ys { s with drawn := d }) → wpAny (model prog w) A (drawOrder n xs) Q E s
  | 0,xs,s,Q,hl,h => by
    obtain rfl : xs = [] := List.length_eq_zero_iff.mp hl
    unfold drawOrder;exact wpAny_pure (h [] s.drawn .nil)
  | n + 1,[],s,Q,hl,h => by cases hl
  | n + 1,x :: xs,s,Q,hl,h => by
    unfold drawOrder
    refine wpAny_bind (choose_any (by simp) fun i d hi => ?_)
    rw [List.getElem?_eq_getElem hi]
    dsimp only
    refine wpAny_bind (drawOrder_any n _ _ _ (by rw [List.length_eraseIdx_of_lt hi];omega) fun ys d' hp => ?_)
    exact wpAny_pure (h _ d' ((hp.cons _).trans (erase_perm hi)))
theorem setNext_text {slot given : Nat} {Q : Option (Value × Nat) → Shared → Prop} (hset : s.heap.get? sd = some (setO es ep tb)) (hf : tb.fits es.size = true) (hb : w.params.followText "set-order" = true)
    (h : Q (((pickOrder (w.params.setOrder sd ep) es)[given]?).map fun e => (e.2,slot)) s) : wpAny (model prog w) A (setNext sd slot given ep) Q E s := by
  unfold setNext
  refine wpAny_bind (wpAny_setState_of hset rfl hf ?_)
  dsimp only
  unfold setsByText
  refine wpAny_bind (wpAny_bind (wpAny_askSetting (wpAny_pure ?_)))
  rw [show (model prog w).w.params.followText "set-order" = true from hb]
  simp only [if_true]
  rw [if_neg (by simp)]
  unfold setWalk setsByText
  refine wpAny_bind (wpAny_bind (wpAny_setState_of hset rfl hf ?_))
  dsimp only
  refine wpAny_bind (wpAny_bind (wpAny_askSetting (wpAny_pure ?_)))
  rw [show (model prog w).w.params.followText "set-order" = true from hb]
  simp only [if_true]
  refine wpAny_bind (wpAny_askSetting (wpAny_pure ?_))
  exact wpAny_pure h
theorem setNext_one0 {hx : Int} {x : Value} {j given : Nat} {Q : Option (Value × Nat) → Shared → Prop} (hset : s.heap.get? sd = some (setO #[(hx, x)] ep (oneT j true))) (hb : w.params.followText "set-order" = false)
    (h : Q (some (x,j + 1)) s) : wpAny (model prog w) A (setNext sd 0 given ep) Q E s := by
  unfold setNext
  refine wpAny_bind (wpAny_setState_of hset rfl (by rfl) ?_)
  dsimp only
  unfold setsByText
  refine wpAny_bind (wpAny_bind (wpAny_askSetting (wpAny_pure ?_)))
  rw [show (model prog w).w.params.followText "set-order" = false from hb]
  simp only [Bool.false_eq_true,if_false]
  refine wpAny_bind (wpAny_pure ?_)
  have : SetTable.below #[j] 0 = 0 := rfl
  rw [this]
  exact wpAny_pure h
theorem setNext_one1 {hx : Int} {x : Value} {j given : Nat} {Q : Option (Value × Nat) → Shared → Prop} (hset : s.heap.get? sd = some (setO #[(hx, x)] ep (oneT j true))) (hb : w.params.followText "set-order" = false)
    (h : Q none s) : wpAny (model prog w) A (setNext sd (j + 1) given ep) Q E s := by
  unfold setNext
  refine wpAny_bind (wpAny_setState_of hset rfl (by rfl) ?_)
  dsimp only
  unfold setsByText
  refine wpAny_bind (wpAny_bind (wpAny_askSetting (wpAny_pure ?_)))
  rw [show (model prog w).w.params.followText "set-order" = false from hb]
  simp only [Bool.false_eq_true,if_false]
  refine wpAny_bind (wpAny_pure ?_)
  have : SetTable.below #[j] (j + 1) = 1 := by
    simp [SetTable.below,SetTable.below.go]
  rw [this]
  exact wpAny_pure h
theorem si_walksN {es : Array (Int × Value)} {ord : List Value} {slot : Nat → Nat} (hh : A.handled = none) (hI : sd ≠ I) (hf : tb.fits es.size = true) (hn : es.size = n) (hon : ord.length = n)
    (hit : ∀ i x,ord[i]? = some x → ∀ (s : Shared) (A : Around) (E : Value → Shared → Prop) (Q : Option (Value × Nat) → Shared → Prop),s.heap.get? sd = some (setO es ep tb) → Q (some (x,slot (i + 1))) s → wpAny (model prog w) A (setNext sd (slot i) i ep) Q E s)
    (hend : ∀ (s : Shared) (A : Around) (E : Value → Shared → Prop) (Q : Option (Value × Nat) → Shared → Prop),s.heap.get? sd = some (setO es ep tb) → Q none s → wpAny (model prog w) A (setNext sd (slot n) n ep) Q E s) :
    Walks prog w A I [I,sd] [I] n (fun i v => ord[i]? = some v) (fun i h => SIt h I (.int (slot i) 0) i sd n ep ∧ h.get? sd = some (setO es ep tb)) where
  sub := fun b hb => by simp at hb;simp [hb]
  frame := fun _ _ _ st hk => ⟨st.1.at fun o e => hk I (by simp) o e,hk sd (by simp) _ st.2⟩
  item := fun i s Q E hi st hQ => by
    obtain ⟨x,hx⟩ : ∃ x,ord[i]? = some x := ⟨ord[i],by simp [hon,hi]⟩
    refine si_itemN st.1 st.2 hf hn (fun Q' hq => hit i x hx s _ _ Q' st.2 hq) fun h' hit' hs' => ?_
    exact hQ x h' s.toks hx ⟨hit',(hs'.2 sd hI).trans st.2⟩ fun b o hb e => (hs'.2 b (fun q => hb (by simp [q]))).trans e
  done := fun s Q E st hQ => si_endN hh st.1 st.2 hf hn (fun Q' hq => hend s _ _ Q' st.2 hq) fun h' he => hQ h' s.toks he
  self := fun _ _ _ _ st hQ => pyIter_si st.1 hQ
theorem si_walksD {es : Array (Int × Value)} {ps : List Nat} {ord : List Value} {pn : Nat} (hh : A.handled = none) (hI : sd ≠ I) (hP : pt ≠ I) (hf : tb.fits es.size = true) (hn : es.size = n) (hps : ps.length = n)
    (hon : ∀ i p : Nat,ps[i]? = some p → ∃ hx x,es[p]? = some (hx,x) ∧ ord[i]? = some x) :
    Walks prog w A I [I,sd,pt] [I] n (fun i v => ord[i]? = some v) (fun i h => SIt h I (.ref pt) i sd n ep ∧ h.get? sd = some (setO es ep tb) ∧ h.get? pt = some { cls := .type "tuple",data := .seq (List.toArray (ps.map fun i : Nat => rawInt (i : Int))) pn }) where
  sub := fun b hb => by simp at hb;simp [hb]
  frame := fun _ _ _ st hk => ⟨st.1.at fun o e => hk I (by simp) o e,hk sd (by simp) _ st.2.1,hk pt (by simp) _ st.2.2⟩
  item := fun i s Q E hi st hQ => by
    obtain ⟨p,hp⟩ : ∃ p,ps[i]? = some p := ⟨ps[i],by simp [hps,hi]⟩
    obtain ⟨hx,x,h1,h2⟩ := hon i p hp
    refine si_itemD st.1 st.2.1 hf hn st.2.2 (p := p) (by simp [hp,rawInt]) h1 fun h' hit' hs' => ?_
    exact hQ x h' s.toks h2 ⟨hit',(hs'.2 sd hI).trans st.2.1,(hs'.2 pt hP).trans st.2.2⟩ fun b o hb e => (hs'.2 b (fun q => hb (by simp [q]))).trans e
  done := fun s Q E st hQ => si_endD hh st.1 st.2.1 hf hn st.2.2 (by simp [hps]) fun h' he => hQ h' s.toks he
  self := fun _ _ _ _ st hQ => pyIter_si st.1 hQ
structure Iterated (prog : Program) (w : World) (sd : Addr) (s : Shared) (ord : List Value) (I : Addr) (h' : Heap) : Prop where
  new : s.heap.objs.size ≤ I
  grow : ∀ b o,s.heap.get? b = some o → h'.get? b = some o
  walks : ∃ fp St,(∀ A : Around,A.handled = none → Walks prog w A I fp [I] ord.length (fun i v => ord[i]? = some v) St) ∧ St 0 h' ∧ (∀ b ∈ fp,b = sd ∨ s.heap.objs.size ≤ b) ∧ I ∈ fp
theorem set_iter_plain {es : Array (Int × Value)} {Q : Value → Shared → Prop} (hset : s.heap.get? sd = some (setO es ep tb)) (hf : tb.fits es.size = true) (hdr : (!(w.params.followText "set-order") && (!tb.plain && decide (es.size > 1))) = false)
    (h : Q (.ref s.heap.objs.size) { s with heap := s.heap.push { cls := .type "set_iterator",data := .fields #[.int 0 0, .int 0 0, .ref sd, .int es.size 0, .int ep 0] } }) :
    wpAny (model prog w) A (pyIter (.ref sd)) Q E s := by
  have hT : s.TypeIs (.ref sd) "set" := ⟨_,hset,rfl⟩
  refine wpAny_pyIter_slot hT PySem.F.slot_set_iter (wpAny_call_entry PySem.F.slot_set_iter hT entry_set_iter ?_ (args_set_iter _))
  unfold Builtin.«frozenset.__iter__»
  refine wpAny_bind (m := Builtin.Frozenset.slot0 "__iter__" ⟨[.ref sd],[]⟩) (wpAny_of_eq (a := sd) (by rfl) ?_)
  unfold Builtin.Frozenset.sizeOf
  refine wpAny_bind (wpAny_bind (wpAny_setEntries_of hset rfl hf (wpAny_pure ?_)))
  unfold setDrawn setsByText
  refine wpAny_bind (wpAny_bind (wpAny_setState_of hset rfl hf ?_))
  dsimp only
  refine wpAny_bind (wpAny_bind (wpAny_askSetting (wpAny_pure (wpAny_pure ?_))))
  split
  · rename_i hc
    exact absurd (show (!(w.params.followText "set-order") && (!tb.plain && decide (es.size > 1))) = true from hc) (by rw [hdr];exact Bool.false_ne_true)
  · refine wpAny_bind (wpAny_pure ?_)
    refine wpAny_bind (wpAny_setEpoch_of hset rfl hf ?_)
    exact wpAny_bind (wpAny_newObj_type (wpAny_pure ⟨_,rfl,"set_iterator",_,⟨_,Heap.get?_push_size _ rfl,rfl⟩,slot_si_next.lookup,h⟩))
theorem set_iter_drawn {es : Array (Int × Value)} {Q : Value → Shared → Prop} (hset : s.heap.get? sd = some (setO es ep tb)) (hf : tb.fits es.size = true) (hz : es.size ≤ 100) (hdr : (!(w.params.followText "set-order") && (!tb.plain && decide (es.size > 1))) = true)
    (h : ∀ (ys : List Nat) d,ys.Perm (List.range es.size) → Q (.ref (s.heap.objs.size + 1)) { s with heap := (s.heap.push { cls := .type "tuple",data := .seq (List.toArray (ys.map fun i : Nat => rawInt (i : Int))) 0 }).push { cls := .type "set_iterator",data := .fields #[.ref s.heap.objs.size, .int 0 0, .ref sd, .int es.size 0, .int ep 0] },drawn := d }) :
    wpAny (model prog w) A (pyIter (.ref sd)) Q E s := by
  have hT : s.TypeIs (.ref sd) "set" := ⟨_,hset,rfl⟩
  refine wpAny_pyIter_slot hT PySem.F.slot_set_iter (wpAny_call_entry PySem.F.slot_set_iter hT entry_set_iter ?_ (args_set_iter _))
  unfold Builtin.«frozenset.__iter__»
  refine wpAny_bind (m := Builtin.Frozenset.slot0 "__iter__" ⟨[.ref sd],[]⟩) (wpAny_of_eq (a := sd) (by rfl) ?_)
  unfold Builtin.Frozenset.sizeOf
  refine wpAny_bind (wpAny_bind (wpAny_setEntries_of hset rfl hf (wpAny_pure ?_)))
  unfold setDrawn setsByText
  refine wpAny_bind (wpAny_bind (wpAny_setState_of hset rfl hf ?_))
  dsimp only
  refine wpAny_bind (wpAny_bind (wpAny_askSetting (wpAny_pure (wpAny_pure ?_))))
  split
  · refine wpAny_bind (drawOrder_any es.size _ _ _ (by simp) fun ys d hp => ?_)
    have hl : ys.length = es.size := by rw [hp.length_eq,List.length_range]
    refine wpAny_bind (wpAny_newTuple ?_ (by rw [List.length_map,hl,sizeLine_eq];omega))
    have hset1 : (s.heap.push (seqObj "tuple" (List.toArray (ys.map fun i : Nat => rawInt (i : Int))) 0)).get? sd = some (setO es ep tb) := Heap.get?_push_of_some _ hset
    refine wpAny_bind (wpAny_setEpoch_of hset1 rfl hf ?_)
    have hsz : (s.heap.push (seqObj "tuple" (List.toArray (ys.map fun i : Nat => rawInt (i : Int))) 0)).objs.size = s.heap.objs.size + 1 := by rw [size_push']
    have hh := h ys d hp
    rw [← hsz] at hh
    exact wpAny_bind (wpAny_newObj_type (wpAny_pure ⟨_,rfl,"set_iterator",_,⟨_,Heap.get?_push_size _ rfl,rfl⟩,slot_si_next.lookup,hh⟩))
  · rename_i hc
    exact absurd (show (!(w.params.followText "set-order") && (!tb.plain && decide (es.size > 1))) = true from hdr) hc
theorem setit_one {hx : Int} {x : Value} {j : Nat} {led : Bool} {Q : Value → Shared → Prop} (hset : s.heap.get? sd = some (setO #[(hx, x)] ep (oneT j led))) (hled : led = !(w.params.followText "set-order"))
    (h : ∀ I h' d,Iterated prog w sd s [x] I h' → Q (.ref I) { s with heap := h',drawn := d }) : wpAny (model prog w) A (pyIter (.ref sd)) Q E s := by
  have hlt : sd < s.heap.objs.size := Heap.lt_size hset
  have grow : ∀ b o,s.heap.get? b = some o → (s.heap.push { cls := .type "set_iterator",data := .fields #[.int 0 0, .int 0 0, .ref sd, .int (1 : Nat) 0, .int ep 0] }).get? b = some o := fun b o e => Heap.get?_push_of_some _ e
  refine set_iter_plain hset (by rfl) (by cases w.params.followText "set-order" <;> rfl) (h _ _ s.drawn ⟨Nat.le_refl _,grow,?_⟩)
  have hI : sd ≠ s.heap.objs.size := Nat.ne_of_lt hlt
  have hfp : ∀ b ∈ [s.heap.objs.size,sd],b = sd ∨ s.heap.objs.size ≤ b := by
    intro b hb
    rcases List.mem_cons.mp hb with rfl | hb
    · exact .inr (Nat.le_refl _)
    · exact .inl (List.mem_singleton.mp hb)
  cases hb : w.params.followText "set-order" with
  | true =>
    have hpk : ∀ f,pickOrder f #[(hx,x)] = #[(hx,x)] := fun f => by
      apply Array.toList_inj.mp
      exact List.perm_singleton.mp (pick_perm f #[(hx,x)])
    refine ⟨[s.heap.objs.size,sd],_,fun A' hA' => si_walksN (es := #[(hx,x)]) (tb := oneT j led) (ep := ep) (ord := [x]) (slot := fun _ => 0) hA' hI (by rfl) rfl rfl (fun i y hy s A E Q hs hq => ?_) (fun s A E Q hs hq => ?_),⟨⟨_,Heap.get?_push_size _ rfl,rfl,rfl⟩,grow _ _ hset⟩,hfp, .head _⟩
    · refine setNext_text hs (by rfl) hb ?_
      rw [hpk]
      have hi0 : i = 0 := by
        rcases i with _ | i
        · rfl
        · simp at hy
      subst hi0
      obtain rfl : x = y := by simpa using hy
      exact hq
    · refine setNext_text hs (by rfl) hb ?_
      rw [hpk];exact hq
  | false =>
    rw [hb] at hled
    obtain rfl : led = true := hled
    refine ⟨[s.heap.objs.size,sd],_,fun A' hA' => si_walksN (es := #[(hx,x)]) (tb := oneT j true) (ep := ep) (ord := [x]) (slot := fun i => if i = 0 then 0 else j + 1) hA' hI (by rfl) rfl rfl (fun i y hy s A E Q hs hq => ?_) (fun s A E Q hs hq => ?_),⟨⟨_,Heap.get?_push_size _ rfl,rfl,rfl⟩,grow _ _ hset⟩,hfp, .head _⟩
    · have hi0 : i = 0 := by
        rcases i with _ | i
        · rfl
        · simp at hy
      subst hi0
      obtain rfl : x = y := by simpa using hy
      exact setNext_one0 hs hb hq
    · exact setNext_one1 hs hb hq
theorem range_map {es : Array (Int × Value)} : (List.range es.size).map (fun p => ((es[p]?).map (·.2)).getD .none) = es.toList.map (·.2) := by
  apply List.ext_getElem?
  intro i
  rcases Nat.lt_or_ge i es.size with hi | hi
  · simp [hi]
  · rw [List.getElem?_eq_none (by simpa using hi),List.getElem?_eq_none (by simpa using hi)]
theorem setit_two {o : Obj} {v1 v2 : Value} {Q : Value → Shared → Prop} (hset : s.heap.get? sd = some o) (ht : TwoSet o v1 v2)
    (h : ∀ ord I h' d,ord.Perm [v1,v2] → Iterated prog w sd s ord I h' → Q (.ref I) { s with heap := h',drawn := d }) : wpAny (model prog w) A (pyIter (.ref sd)) Q E s := by
  obtain ⟨es,ep,t,rfl,hf,hp,hperm⟩ := ht.ex
  have hz : es.size = 2 := by have := hperm.length_eq;simpa using this
  have hlt : sd < s.heap.objs.size := Heap.lt_size hset
  cases hb : w.params.followText "set-order" with
  | true =>
    have hI : sd ≠ s.heap.objs.size := Nat.ne_of_lt hlt
    have hop := (pick_perm (w.params.setOrder sd ep) es)
    have hol : ((pickOrder (w.params.setOrder sd ep) es).toList.map (·.2)).length = es.size := by rw [List.length_map,hop.length_eq,Array.length_toList]
    refine set_iter_plain hset hf (by rw [hb];rfl) (h ((pickOrder (w.params.setOrder sd ep) es).toList.map (·.2)) _ _ s.drawn ((hop.map (·.2)).trans hperm) ⟨Nat.le_refl _,fun b o e => Heap.get?_push_of_some _ e,?_⟩)
    refine ⟨[s.heap.objs.size,sd],(fun i h => SIt h s.heap.objs.size (.int (0 : Nat) 0) i sd es.size ep ∧ h.get? sd = some (setO es ep t)),fun A' hA' => ?_,⟨⟨_,Heap.get?_push_size _ rfl,rfl,rfl⟩,Heap.get?_push_of_some _ hset⟩,?_, .head _⟩
    · rw [hol]
      refine si_walksN (es := es) (tb := t) (ep := ep) (ord := (pickOrder (w.params.setOrder sd ep) es).toList.map (·.2)) (slot := fun _ => 0) hA' hI hf rfl hol (fun i y hy s A E Q hs hq => ?_) (fun s A E Q hs hq => ?_)
      · refine setNext_text hs hf hb ?_
        rw [List.getElem?_map,Array.getElem?_toList] at hy
        obtain ⟨e,he,rfl⟩ := Option.map_eq_some_iff.mp hy
        rw [he];exact hq
      · refine setNext_text hs hf hb ?_
        rw [Array.getElem?_eq_none (by rw [← Array.length_toList,hop.length_eq,Array.length_toList];exact Nat.le_refl _)]
        exact hq
    · intro b hb'
      rcases List.mem_cons.mp hb' with rfl | hb'
      · exact .inr (Nat.le_refl _)
      · exact .inl (List.mem_singleton.mp hb')
  | false =>
    refine set_iter_drawn hset hf (by omega) (by rw [hb,hp,hz];rfl) fun ys d hys => ?_
    have hyl : ys.length = es.size := by rw [hys.length_eq,List.length_range]
    have hord := (hys.map (fun p => ((es[p]?).map (·.2)).getD Value.none)).trans ((List.Perm.of_eq range_map).trans hperm)
    have hpush : ∀ b o,s.heap.get? b = some o → ((s.heap.push { cls := .type "tuple",data := .seq (List.toArray (ys.map fun i : Nat => rawInt (i : Int))) 0 }).push { cls := .type "set_iterator",data := .fields #[.ref s.heap.objs.size, .int 0 0, .ref sd, .int es.size 0, .int ep 0] }).get? b = some o :=
      fun b o e => Heap.get?_push_of_some _ (Heap.get?_push_of_some _ e)
    have hsz : (s.heap.push { cls := .type "tuple",data := .seq (List.toArray (ys.map fun i : Nat => rawInt (i : Int))) 0 }).objs.size = s.heap.objs.size + 1 := by rw [size_push']
    have hget : ((s.heap.push { cls := .type "tuple",data := .seq (List.toArray (ys.map fun i : Nat => rawInt (i : Int))) 0 }).push { cls := .type "set_iterator",data := .fields #[.ref s.heap.objs.size, .int 0 0, .ref sd, .int es.size 0, .int ep 0] }).get? (s.heap.objs.size + 1) = some { cls := .type "set_iterator",data := .fields #[.ref s.heap.objs.size, .int 0 0, .ref sd, .int es.size 0, .int ep 0] } := by
      rw [← hsz];exact Heap.get?_push_size _ rfl
    refine h (ys.map (fun p => ((es[p]?).map (·.2)).getD Value.none)) _ _ d hord ⟨Nat.le_succ _,hpush,?_⟩
    refine ⟨[s.heap.objs.size + 1,sd,s.heap.objs.size],(fun i h => SIt h (s.heap.objs.size + 1) (.ref s.heap.objs.size) i sd es.size ep ∧ h.get? sd = some (setO es ep t) ∧ h.get? s.heap.objs.size = some { cls := .type "tuple",data := .seq (List.toArray (ys.map fun i : Nat => rawInt (i : Int))) 0 }),fun A' hA' => ?_,⟨⟨_,hget,rfl,rfl⟩,hpush _ _ hset,Heap.get?_push_of_some _ (Heap.get?_push_size _ rfl)⟩,?_, .head _⟩
    · rw [List.length_map,hyl]
      refine si_walksD (es := es) (tb := t) (ep := ep) (ps := ys) (n := es.size) hA' (Nat.ne_of_lt (Nat.lt_succ_of_lt hlt)) (Nat.ne_of_lt (Nat.lt_succ_self _)) hf rfl hyl fun i p hip => ?_
      have hpr : p < es.size := by
        have := (hys.mem_iff (a := p)).mp (List.mem_of_getElem? hip)
        simpa using this
      refine ⟨es[p].1,es[p].2,by rw [Array.getElem?_eq_getElem hpr],?_⟩
      rw [List.getElem?_map,hip,Option.map_some,Array.getElem?_eq_getElem hpr];rfl
    · intro b hb'
      rcases List.mem_cons.mp hb' with rfl | hb'
      · exact .inr (Nat.le_succ _)
      · rcases List.mem_cons.mp hb' with rfl | hb'
        · exact .inl rfl
        · rw [List.mem_singleton.mp hb'];exact .inr (Nat.le_refl _)
end
end
section
theorem split_set_len : splitId "set.__len__" = some ("set","__len__") := by kernel_rfl
theorem itemsOf_eq {ord : List Value} {acc : Array Value} (h : ItemsOf (fun i v => ord[i]? = some v) acc ord.length) : acc.toList = ord := by
  apply List.ext_getElem?
  intro i
  rw [Array.getElem?_toList]
  rcases Nat.lt_or_ge i acc.size with hi | hi
  · rw [Array.getElem?_eq_getElem hi];exact (h.2 i _ (Array.getElem?_eq_getElem hi)).symm
  · rw [Array.getElem?_eq_none hi,List.getElem?_eq_none (by rw [← h.1];exact hi)]
theorem wp_if_pos {α : Type} {M : Model} {A : Around} {E : Value → Shared → Prop} {s : Shared} {c : Prop} [Decidable c] {t e : Sem α} {Q : α → Shared → Prop} (hc : c) (h : wpAny M A t Q E s) : wpAny M A (if c then t else e) Q E s := by
  rw [if_pos hc];exact h
theorem wp_if_neg {α : Type} {M : Model} {A : Around} {E : Value → Shared → Prop} {s : Shared} {c : Prop} [Decidable c] {t e : Sem α} {Q : α → Shared → Prop} (hc : ¬ c) (h : wpAny M A e Q E s) : wpAny M A (if c then t else e) Q E s := by
  rw [if_neg hc];exact h
section
variable {prog : Program} {w : World} {A : Around} {E : Value → Shared → Prop} {s : Shared} {sd : Addr} {o : Obj}
theorem collect_set {Ok : List Value → Prop} {Q : List Value → Shared → Prop} (hset : s.heap.get? sd = some o) (hc : o.cls = .type "set") (hh : A.handled = none)
    (iter : ∀ (A : Around) (E : Value → Shared → Prop) (s₁ : Shared) (Q : Value → Shared → Prop),s₁.heap.get? sd = some o → (∀ ord I h' d,Ok ord → Iterated prog w sd s₁ ord I h' → Q (.ref I) { s₁ with heap := h',drawn := d }) → wpAny (model prog w) A (pyIter (.ref sd)) Q E s₁)
    (hok : ∀ ord,Ok ord → ord.length ≤ 1000)
    (h : ∀ ord h' d tk,Ok ord → (∀ b x,s.heap.get? b = some x → h'.get? b = some x) → s.toks ≤ tk → Q ord ⟨h',s.gens,d,tk,s.os⟩) : wpAny (model prog w) A (collect (.ref sd)) Q E s := by
  have u0_ : Unit := ();have u1_ : Unit := ();have u2_ : Unit := ();have u3_ : Unit := ();have u4_ : Unit := ();have u5_ : Unit := ();have u6_ : Unit := ()
  revert hset hc hh iter hok h
  revert prog w A E s sd o Ok Q u0_ u1_ u2_ u3_ u4_ u5_ u6_
  k_extra "m:t16"
  intros prog w A E s sd o Ok Q _ _ _ _ _ _ _ hset hc hh iter hok h
  have hlt : sd < s.heap.objs.size := Heap.lt_size hset
  unfold collect
  refine wpAny_bind (wpAny_runValue (codeAny_builtin PySem.F.entry_proto_collect ?_))
  rw [Around.under_plainId PySem.F.plain_proto_collect _]
  show wpAny _ A.in1 (newList [] >>= fun l => again (.builtin "list.__iadd__" ⟨[l, .ref sd],[]⟩)) _ _ s
  refine wpAny_bind (wpAny_newObj_type ?_)
  refine wpAny_pure ⟨plainId_quiet PySem.F.plain_list_iadd _,codeAny_builtin PySem.F.entry_list_iadd ?_⟩
  rw [Around.under_plainId PySem.F.plain_list_iadd _]
  show wpAny _ A.in1 (Builtin.List.listExtendWith (.ref s.heap.objs.size) (.ref sd) (.ref s.heap.objs.size)) _ _ _
  unfold Builtin.List.listExtendWith
  have hset1 : (s.heap.push { cls := .type "list",data := .seq ([] : List Value).toArray }).get? sd = some o := Heap.get?_push_of_some _ hset
  refine wpAny_bind (wpAny_typeOf (T := "set") ⟨o,hset1,hc⟩ ?_)
  have h1 : Builtin.List.listSameRef (.ref s.heap.objs.size) (.ref sd) = false := by simp [Builtin.List.listSameRef,Nat.ne_of_gt hlt]
  have h2 : (Value.type "set" == Value.type "list") = false := by decide
  have h3 : (Value.type "set" == Value.type "tuple") = false := by decide
  simp only [h1,h2,h3,Bool.or_false,Bool.false_eq_true,if_false]
  refine wpAny_bind (iter _ _ _ _ hset1 fun ord I h' d hord it => ?_)
  obtain ⟨hnew,hgrow,fp,St,hW,hst,hfp,hIf⟩ := it
  have hset2 : h'.get? sd = some o := hgrow _ _ hset1
  have hT2 : ({ s with heap := h',drawn := d } : Shared).TypeIs (.ref sd) "set" := ⟨o,hset2,hc⟩
  refine wpAny_bind (wpAny_holding ?_)
  unfold Builtin.List.listLengthHint
  refine wpAny_bind (wpAny_specialOf hT2 PySem.F.slot_set_len.lookup ?_)
  dsimp only
  rw [split_set_len]
  dsimp only
  refine wpAny_bind (wpAny_isInstance hT2 sub_set_self ?_)
  rw [if_neg (show ¬ ((!true) = true) from Bool.false_ne_true)]
  refine wp_if_pos (by decide +kernel) ?_
  refine wpAny_bind (wpAny_typeOf hT2 ?_)
  dsimp only
  refine wpAny_pure ?_
  refine wp_if_pos (by decide +kernel) ?_
  refine wpAny_bind (wpAny_rule ?_)
  have hsz1 : (s.heap.push { cls := .type "list",data := .seq ([] : List Value).toArray }).objs.size = s.heap.objs.size + 1 := by rw [size_push']
  have hSf : s.heap.objs.size ∉ fp := fun hm => by
    rcases hfp _ hm with q | q
    · exact Nat.ne_of_gt hlt q
    · exact Nat.lt_irrefl _ (Nat.lt_of_lt_of_le (by rw [hsz1];exact Nat.lt_succ_self _) q)
  have hS₁ : h'.get? s.heap.objs.size = some { cls := .type "list",data := .seq ([] : List Value).toArray } := hgrow _ _ (Heap.get?_push_size _ rfl)
  refine wpAny_bind ?_
  show wpAny _ A.in1 (updateSeq s.heap.objs.size (·.push .none) >>= fun _ => updateSeq s.heap.objs.size (·.pop)) _ _ _
  refine wpAny_bind (wpAny_updateSeq hS₁ rfl ?_)
  have hS₂ := Heap.get?_update_self (Obj.mapSeq (·.push Value.none)) hS₁ rfl
  refine wpAny_updateSeq hS₂ rfl ?_
  have hS₃ := Heap.get?_update_self (Obj.mapSeq (·.pop)) hS₂ rfl
  have oth : ∀ b x,b ≠ s.heap.objs.size → h'.get? b = some x → ((h'.update s.heap.objs.size (Obj.mapSeq (·.push Value.none))).update s.heap.objs.size (Obj.mapSeq (·.pop))).get? b = some x :=
    fun b x hb e => (Heap.get?_update_other _ _ (Ne.symm hb)).trans ((Heap.get?_update_other _ _ (Ne.symm hb)).trans e)
  have W := (hW A.in1 hh).toS
  refine wpAny_pure ⟨plainId_quiet PySem.F.plain_extend_loop _,codeAny_extend_loopS W (Nat.le_trans (hok ord hord) (by rw [sizeLine_eq];omega)) _ hSf _ ord.length 0 _ _ _ rfl (Nat.zero_le _)
    ((hW A.in1 hh).frame 0 h' _ hst fun b hb x e => oth b x (fun q => hSf (q ▸ hb)) e) hS₃ (ItemsOf.nil _) fun s' acc' c' hm hS' hacc => ?_⟩
  show wpAny _ A (load s.heap.objs.size >>= _) _ _ s'
  refine wpAny_bind (wpAny_load hS' ?_)
  obtain ⟨g',G',d',t',os'⟩ := s'
  obtain ⟨hm1,hm2,hm3,hm4,hm5⟩ := hm
  dsimp only at hm1 hm2 hm3 hm4 hm5
  subst hm2 hm4
  refine wpAny_pure ?_
  rw [itemsOf_eq hacc]
  refine h ord g' d' t' hord (fun b x e => ?_) hm5
  have hbS : b ≠ s.heap.objs.size := Nat.ne_of_lt (Heap.lt_size e)
  refine hm1 b x (fun hb => ?_) (oth b x hbS (hgrow _ _ (Heap.get?_push_of_some _ e)))
  rcases List.mem_cons.mp hb with q | hb
  · exact hbS q
  · have hlb : b < s.heap.objs.size := Heap.lt_size e
    have hn2 : s.heap.objs.size + 1 ≤ I := by rw [← hsz1];exact hnew
    rw [List.mem_singleton.mp hb] at hlb
    exact Nat.lt_irrefl _ (Nat.lt_of_lt_of_le (Nat.lt_succ_of_lt hlb) hn2)
end
end
section
theorem e_eqloop : entryFor table "list.__eq__.loop" = some Builtin.«list.__eq__.loop» := entryFor_of_tree (by kernel_rfl)
theorem p_eqloop : plainId "list.__eq__.loop" = true := by decide +kernel
theorem list_lt_meets {D1 D2 : Addr} {x y : Str} {t1 t2 : Tok} {n1 n2 : Nat} (hne : x ≠ y) : Meets (Builtin.«list.__lt__» ⟨[.ref D1, .ref D2], []⟩)
    (fun _ R s => s.heap.get? D1 = some (listOf #[.str x t1] n1) ∧ s.heap.get? D2 = some (listOf #[.str y t2] n2) ∧ R (.ok (.ret (.bool (decide (x.cps.toList < y.cps.toList))))) s) := by
  intro prog w A R s hyp
  obtain ⟨h1,h2,h⟩ := hyp
  have hT2 : s.TypeIs (.ref D2) "list" := ⟨_,h2,rfl⟩
  unfold Builtin.«list.__lt__»
  refine wpAny_bind (wpAny_pure ?_)
  try dsimp only
  refine wpAny_bind (wpAny_isInstance hT2 PySem.AutoSeq1.sub_list_list ?_)
  rw [if_neg (show ¬ ((!true) = true) from Bool.false_ne_true)]
  rw [if_neg (show ¬ ((CmpOp.Lt == CmpOp.Eq || CmpOp.Lt == CmpOp.NotEq) = true) from by decide)]
  refine wpAny_pure ⟨plainId_quiet p_eqloop _,codeAny_builtin e_eqloop ?_⟩
  rw [Around.under_plainId p_eqloop _]
  unfold Builtin.«list.__eq__.loop»
  try dsimp only
  refine wpAny_bind (listItems_at h1 rfl ?_)
  refine wpAny_bind (listItems_at h2 rfl ?_)
  try dsimp only
  refine wpAny_bind (wpAny_eqBool_str ?_)
  rw [decide_eq_false (show ¬ (x = y) from hne)]
  refine wp_if_neg Bool.false_ne_true ?_
  refine wpAny_bind (listItems_at h1 rfl ?_)
  refine wpAny_bind (listItems_at h2 rfl ?_)
  show wpAny _ A.in1 (compareOp CmpOp.Lt (Value.str x t1) (Value.str y t2) >>= fun r => ret r) _ _ _
  exact wpAny_bind (lt_str (wpAny_pure h))
section
variable {prog : Program} {w : World} {A : Around} {E : Value → Shared → Prop} {s : Shared} {D1 D2 : Addr} {x y : Str} {t1 t2 : Tok} {n1 n2 : Nat}
theorem lt_lists {Q : Bool → Shared → Prop} (h1 : s.heap.get? D1 = some (listOf #[.str x t1] n1)) (h2 : s.heap.get? D2 = some (listOf #[.str y t2] n2)) (hne : x ≠ y) (hu : A.units < cLine)
    (h : Q (decide (x.cps.toList < y.cps.toList)) s) : wpAny (model prog w) A (keyLt' oneType' (.ref D1) (.ref D2)) Q E s := by
  have hT1 : s.TypeIs (.ref D1) "list" := ⟨_,h1,rfl⟩
  rw [keyLt'_oneType,oneLt'_eq]
  simp only [if_true]
  refine wpAny_bind (wpAny_cRoomFor hu ?_)
  refine wpAny_bind (wpAny_callSpecialIfBound?_slot hT1 PySem.F.slot_list_lt (call_meets PySem.F.slot_list_lt hT1 PySem.F.entry_list_lt (PySem.F.args_list_lt_2 _ _) (list_lt_meets hne) ⟨h1,h2,?_⟩))
  exact wpAny_truthy_bool h
end
end
section
local macro_rules (kind := PySem.W.tacticK_extra_) | x => topOf "skey listlt setcol setwk setit setfx sets mac0 om" x
theorem list1 {α : Type} {l : List α} {v : α} (h : l.length = 1) (g : l[0]? = some v) : l = [v] := by
  cases l with
  | nil => cases g
  | cons a r => rw [List.eq_nil_of_length_eq_zero (Nat.succ.inj h),Option.some.inj (show some a = some v from g)]
theorem list2 {α : Type} {l : List α} {v u : α} (h : l.length = 2) (g : l[0]? = some v) (k : l[1]? = some u) : l = [v,u] := by
  cases l with
  | nil => cases g
  | cons a r => rw [list1 (l := r) (Nat.succ.inj h) k,Option.some.inj (show some a = some v from g)]
def KeysAt (made : List (Addr × Obj)) (keys : List Value) (xs : List Str) : Prop :=
  keys.length = xs.length ∧ ∀ (i : Nat) (x : Str),xs[i]? = some x → ∃ (D : Addr) (n : Nat) (t : Tok),keys[i]? = some (Value.ref D) ∧ (D,listOf #[.str x t] n) ∈ made
theorem KeysAt.nil : KeysAt [] [] [] := ⟨rfl,fun i x h => by simp at h⟩
theorem KeysAt.snoc {made : List (Addr × Obj)} {keys : List Value} {xs : List Str} {D : Addr} {x : Str} {t : Tok} {n : Nat} (h : KeysAt made keys xs) : KeysAt ((D,listOf #[.str x t] n) :: made) (keys ++ [Value.ref D]) (xs ++ [x]) := by
  refine ⟨by simp [h.1],fun i y hy => ?_⟩
  rcases Nat.lt_or_ge i xs.length with hi | hi
  · rw [List.getElem?_append_left hi] at hy
    obtain ⟨D',n',t',h1,h2⟩ := h.2 i y hy
    exact ⟨D',n',t',by rw [List.getElem?_append_left (by rw [h.1];exact hi)];exact h1, .tail _ h2⟩
  · rw [List.getElem?_append_right hi] at hy
    have hi0 : i = xs.length := by
      rcases hk : i - xs.length with _ | k
      · omega
      · rw [hk] at hy;simp at hy
    subst hi0
    rw [Nat.sub_self] at hy
    obtain rfl : x = y := by simpa using hy
    exact ⟨D,n,t,by rw [← h.1,List.getElem?_append_right (Nat.le_refl _),Nat.sub_self];rfl, .head _⟩
def KeyEnd (h₀ : Heap) (L : Addr) (m : Str → Option Value) (N : List (Addr × Obj)) (x : Str) (s₁ : Shared) (v : Value) (s₂ : Shared) : Prop :=
  ∃ h' dr tk D n t,1 ≤ tk ∧ s₂ = { s₁ with heap := h',drawn := dr,toks := tk } ∧ v = .ref D ∧ Fr h₀ L h' m ∧ News h₀ L h' ((D,listOf #[.str x t] n) :: N) ∧ ∀ p ∈ N,p.1 ≠ D
section
variable {prog : Program} {w : World} {A : Around} {E : Value → Shared → Prop} {s : Shared} {h₀ : Heap} {L : Addr} {m : Str → Option Value} {news : List (Addr × Obj)} {a kS : Addr} {keys : Array Value} {e e1 : Nat} {P : PySem.Fin → Shared → Prop}
theorem sk_tail {st : SortSt} {out : Array Value} (F : Fr h₀ L s.heap m) (N : News h₀ L s.heap news) (hk : s.heap.get? kS = some (seqObj "list" keys e)) (ha : s.heap.get? a = some (seqObj "list" #[] e1)) (hkL : kS ≠ L) (hk0 : h₀.get? kS = none) (haL : a ≠ L) (ha0 : h₀.get? a = none) (hka : kS ≠ a) (hnk : ∀ p ∈ news, p.1 ≠ kS) (hna : ∀ p ∈ news, p.1 ≠ a)
    (hz : keys.size ≤ 100) (ho : (arrOf st).map (·.2) = out) (hoz : out.size ≤ 100) (hfl : failedOf st = none)
    (h : ∀ h' c,Fr h₀ L h' m → News h₀ L h' ((a,seqObj "list" out c) :: news) → P (.done (.ret .none)) { s with heap := h' }) :
    wpAny (model prog w) A (ksk_tail a false e1 (.ref kS) st) P E s := by
  have s1 := Heap.SameBut.update s.heap kS (Obj.mapSeq fun _ => (#[] : Array Value))
  have na1 : (s.heap.update kS (Obj.mapSeq fun _ => (#[] : Array Value))).get? a = some (seqObj "list" #[] e1) := (s1.2 a hka.symm).trans ha
  have s2 := Heap.SameBut.update (s.heap.update kS (Obj.mapSeq fun _ => (#[] : Array Value))) a (Obj.mapSeq fun _ => out)
  obtain ⟨c2,hc2⟩ : ∃ c2,((s.heap.update kS (Obj.mapSeq fun _ => (#[] : Array Value))).update a (Obj.mapSeq fun _ => out)).get? a = some (seqObj "list" out c2) := ⟨_,get?_update_seq na1 fun _ => out⟩
  have N2 := ksk_news (ksk_news N s1 hnk) s2 hna
  unfold ksk_tail
  rw [ho]
  try dsimp only
  refine wpAny_bind (listUpdate_at hk rfl ?_ (by rw [sizeLine_eq];omega) (Nat.zero_le _))
  refine wpAny_bind (wpAny_letGo ?_)
  refine wpAny_bind (seqEpoch_at na1 rfl ?_)
  rw [if_neg Bool.false_ne_true]
  refine wpAny_bind (listUpdate_at na1 rfl ?_ (Nat.zero_le _) (by rw [sizeLine_eq];omega))
  rw [hfl]
  simp only [bne_self_eq_false,Bool.false_eq_true,if_false]
  refine wpAny_pure (h _ c2 (ksk_fr (ksk_fr F s1 hkL hk0) s2 haL ha0) (fun p hp => ?_))
  rcases List.mem_cons.mp hp with rfl | hp
  · exact ⟨hc2,haL,ha0⟩
  · exact N2 p hp
theorem sk_rest {f : Value} {vs : List Value} {xs : List Str} (F : Fr h₀ L s.heap m) (N : News h₀ L s.heap ((kS, seqObj "list" #[] 0) :: (a, seqObj "list" #[] e1) :: news)) (hka : kS ≠ a) (hnk : ∀ p ∈ news, p.1 ≠ kS) (hna : ∀ p ∈ news, p.1 ≠ a) (hlen : xs.length = vs.length) (h50 : vs.length ≤ 50) (ht : 1 ≤ s.toks)
    (turn : ∀ (i : Nat) (v : Value) (x : Str),vs[i]? = some v → xs[i]? = some x → ∀ (h : Heap) (dr : Drawn) (tk : Nat) (N' : List (Addr × Obj)),1 ≤ tk → Fr h₀ L h m → News h₀ L h N' → (∀ p ∈ news,p ∈ N') →
      wpAny (model prog w) A (call f [v]) (KeyEnd h₀ L m N' x { s with heap := h,drawn := dr,toks := tk }) (fun _ _ => False) { s with heap := h,drawn := dr,toks := tk })
    (h : ∀ h' dr tk kA e made,1 ≤ tk → Fr h₀ L h' m → News h₀ L h' (made ++ (kS,seqObj "list" kA e) :: (a,seqObj "list" #[] e1) :: news) → (∀ p ∈ made,p.1 ≠ kS ∧ p.1 ≠ a) → KeysAt made kA.toList xs →
      wpAny (model prog w) A (ksk_end a false vs.toArray e1 (.ref kS) kA) P E { s with heap := h',drawn := dr,toks := tk }) :
    wpAny (model prog w) A (ksk_rest a f false vs.toArray e1 (.ref kS)) P E s := by
  revert F N hka hnk hna hlen h50 ht turn h
  revert prog w A E s h₀ L m news a kS e1 P f vs xs
  k_extra "m:t16"
  intros prog w A E s h₀ L m news a kS e1 P f vs xs F N hka hnk hna hlen h50 ht turn h
  unfold ksk_rest
  refine wpAny_bind (wpAny_rule ?_)
  first
    | rw [List.forIn_toArray]
    | (rw [← Array.forIn_toList];simp only [List.toList_toArray])
    | rw [← Array.forIn_toList]
  refine wpAny_bind (ksk_fold (fun i s' => ∃ h' dr tk kA e made,1 ≤ tk ∧ s' = { s with heap := h',drawn := dr,toks := tk } ∧ Fr h₀ L h' m ∧ News h₀ L h' (made ++ (kS,seqObj "list" kA e) :: (a,seqObj "list" #[] e1) :: news) ∧ (∀ p ∈ made,p.1 ≠ kS ∧ p.1 ≠ a) ∧ KeysAt made kA.toList (xs.take i)) vs 0 s
    ⟨s.heap,s.drawn,s.toks,#[],0,[],ht,rfl,F,N,(fun p hp => nomatch hp),by simpa using KeysAt.nil⟩ ?step ?done)
  case step =>
    rintro j x s' hx ⟨h',dr,tk,kA,e,made,htk,rfl,F',N',hm,hk⟩
    simp only [Nat.zero_add] at hk ⊢
    have hj : j < vs.length := (List.getElem?_eq_some_iff.mp hx).1
    obtain ⟨k,hkj⟩ : ∃ k,xs[j]? = some k := ⟨_,List.getElem?_eq_getElem (by omega)⟩
    have hz : kA.size ≤ 50 := by
      have h1 := hk.1
      rw [Array.length_toList,List.length_take] at h1
      omega
    refine wpAny_bind (wpAny_attempt (wpAny_mono (turn j x k hx hkj h' dr tk _ htk F' N' (fun p hp => List.mem_append_right _ (.tail _ (.tail _ hp)))) (fun v s'' he => ?_) fun _ _ hF => hF.elim))
    obtain ⟨g,dr2,tk2,D,n2,t2,htk2,rfl,rfl,F2,N2,hD⟩ := he
    try dsimp only
    have nk := N2 (kS,seqObj "list" kA e) (.tail _ (List.mem_append_right _ (.head _)))
    have s1 := Heap.SameBut.update g kS (Obj.mapSeq (·.push (.ref D)))
    obtain ⟨c2,hc2⟩ : ∃ c2,(g.update kS (Obj.mapSeq (·.push (.ref D)))).get? kS = some (seqObj "list" (kA.push (.ref D)) c2) := ⟨_,get?_update_seq nk.1 (·.push (.ref D))⟩
    have ek : xs.take (j + 1) = xs.take j ++ [k] := by rw [List.take_add_one,hkj];rfl
    have ea : (kA.push (Value.ref D)).toList = kA.toList ++ [Value.ref D] := by simp
    refine wpAny_bind (listUpdate_at nk.1 rfl ?_ (by rw [sizeLine_eq];omega) (Nat.le_trans (Nat.le_of_eq (Array.size_push ..)) (by rw [sizeLine_eq];omega)))
    refine wpAny_pure ⟨rfl,_,_,_,kA.push (.ref D),c2,(D,listOf #[.str k t2] n2) :: made,htk2,rfl,ksk_fr F2 s1 nk.2.1 nk.2.2,fun p hp => ?_,fun p hp => ?_,by rw [ea,ek];exact hk.snoc⟩
    · rcases List.mem_append.mp hp with hp | hp
      · have hpk : p.1 ≠ kS := by
          rcases List.mem_cons.mp hp with rfl | hp
          · exact fun q => hD _ (List.mem_append_right _ (.head _)) q.symm
          · exact (hm p hp).1
        have hin : p ∈ (D,listOf #[.str k t2] n2) :: (made ++ (kS,seqObj "list" kA e) :: (a,seqObj "list" #[] e1) :: news) := by
          rcases List.mem_cons.mp hp with rfl | hp
          · exact .head _
          · exact .tail _ (List.mem_append_left _ hp)
        exact ⟨(s1.2 p.1 hpk).trans (N2 p hin).1,(N2 p hin).2⟩
      · rcases List.mem_cons.mp hp with rfl | hp
        · exact ⟨hc2,nk.2⟩
        · have hpk : p.1 ≠ kS := by
            rcases List.mem_cons.mp hp with rfl | hp
            · exact hka.symm
            · exact hnk p hp
          have hin := N2 p (.tail _ (List.mem_append_right _ (.tail _ hp)))
          exact ⟨(s1.2 p.1 hpk).trans hin.1,hin.2⟩
    · rcases List.mem_cons.mp hp with rfl | hp
      · exact ⟨fun q => hD _ (List.mem_append_right _ (.head _)) q.symm,fun q => hD _ (List.mem_append_right _ (.tail _ (.head _))) q.symm⟩
      · exact hm p hp
  case done =>
    rintro s' ⟨h',dr,tk,kA,e,made,htk,rfl,F',N',hm,hk⟩
    have hk' : KeysAt made kA.toList xs := by
      have e3 : xs.take (0 + vs.length) = xs := List.take_of_length_le (by omega)
      rw [e3] at hk
      exact hk
    have nk := N' (kS,seqObj "list" kA e) (List.mem_append_right _ (.head _))
    try dsimp only
    refine wpAny_bind (listItems_at nk.1 rfl ?_)
    exact h h' dr tk kA e made htk F' N' hm hk'
theorem sk_end1 {k v : Value} (F : Fr h₀ L s.heap m) (N : News h₀ L s.heap news) (hk : s.heap.get? kS = some (seqObj "list" #[k] e)) (ha : s.heap.get? a = some (seqObj "list" #[] e1)) (hkL : kS ≠ L) (hk0 : h₀.get? kS = none) (haL : a ≠ L) (ha0 : h₀.get? a = none) (hka : kS ≠ a) (hnk : ∀ p ∈ news, p.1 ≠ kS) (hna : ∀ p ∈ news, p.1 ≠ a)
    (h : ∀ h' c,Fr h₀ L h' m → News h₀ L h' ((a,seqObj "list" #[v] c) :: news) → P (.done (.ret .none)) { s with heap := h' }) :
    wpAny (model prog w) A (ksk_end a false #[v] e1 (.ref kS) #[k]) P E s := by
  unfold ksk_end
  dsimp only
  rw [if_neg Bool.false_ne_true]
  rw [if_pos (show (#[v] : Array Value).size < 2 from Nat.lt_succ_self 1),if_pos (show (#[v] : Array Value).size < 2 from Nat.lt_succ_self 1)]
  refine wpAny_bind (wpAny_pure ?_)
  rw [StateT.run_pure]
  refine wpAny_bind (wpAny_pure ?_)
  try dsimp only
  rw [if_neg Bool.false_ne_true,show (#[k].zip #[v]) = #[(k,v)] by simp]
  exact sk_tail (st := SortSt.mk' general' #[(k,v)] #[] 7 none) (out := #[v]) F N hk ha hkL hk0 haL ha0 hka hnk hna (show 1 ≤ 100 by decide) (by show Array.map (fun x : Keyed => x.2) #[(k,v)] = #[v];simp) (show 1 ≤ 100 by decide) rfl h
theorem sk_end2 {v1 v2 : Value} {D1 D2 : Addr} {x1 x2 : Str} {t1 t2 : Tok} {n1 n2 : Nat} (F : Fr h₀ L s.heap m) (N : News h₀ L s.heap news) (hk : s.heap.get? kS = some (seqObj "list" #[.ref D1, .ref D2] e)) (ha : s.heap.get? a = some (seqObj "list" #[] e1)) (hkL : kS ≠ L) (hk0 : h₀.get? kS = none) (haL : a ≠ L) (ha0 : h₀.get? a = none) (hka : kS ≠ a) (hnk : ∀ p ∈ news, p.1 ≠ kS) (hna : ∀ p ∈ news, p.1 ≠ a)
    (h1 : s.heap.get? D1 = some (listOf #[.str x1 t1] n1)) (h2 : s.heap.get? D2 = some (listOf #[.str x2 t2] n2)) (hne : x2 ≠ x1) (hu : A.units < cLine)
    (h : ∀ h' c,Fr h₀ L h' m → News h₀ L h' ((a,seqObj "list" (if x2.cps.toList < x1.cps.toList then #[v2,v1] else #[v1,v2]) c) :: news) → P (.done (.ret .none)) { s with heap := h' }) :
    wpAny (model prog w) A (ksk_end a false #[v1,v2] e1 (.ref kS) #[.ref D1, .ref D2]) P E s := by
  unfold ksk_end
  dsimp only
  rw [if_neg Bool.false_ne_true]
  rw [if_neg (show ¬ ((#[v1,v2] : Array Value).size < 2) from Nat.lt_irrefl 2),if_neg (show ¬ ((#[v1,v2] : Array Value).size < 2) from Nat.lt_irrefl 2)]
  have hT : ∀ v ∈ [Value.ref D1,Value.ref D2],Looks (model prog w) s.heap (typeOf v) (.type "list") := by
    intro v hv
    rcases List.mem_cons.mp hv with rfl | hv
    · exact (Looks.ld h1).andThen .now
    · rw [List.mem_singleton.mp hv];exact (Looks.ld h2).andThen .now
  refine wpAny_bind (kas_kind (vs := [.ref D1, .ref D2]) (Nat.le_refl 2) hT (by decide) (by decide) ?_)
  have run := kas_runs (E := E) (prog := prog) (w := w) (A := A) (κ := oneType') (it := #[(Value.ref D1,v1),(Value.ref D2,v2)]) (n := 2) (s := s)
    (G := fun p s' => s' = s ∧ p = if x2.cps.toList < x1.cps.toList then #[1,0] else #[0,1])
    (Q := fun _ st' s' => s' = s ∧ failedOf st' = none ∧ (arrOf st').map (·.2) = if x2.cps.toList < x1.cps.toList then #[v2,v1] else #[v1,v2])
    (by decide) (by decide) (fun p' st' s' a1 a2 a3 ⟨a4,a5⟩ => ⟨a4,a3,by rw [a2,a5];split <;> simp [kas_item]⟩) ?ask
  case ask =>
    show wpAny (model prog w) A (keyLt' oneType' (.ref D2) (.ref D1)) _ (fun _ _ => False) s
    refine lt_lists h2 h1 hne hu ?_
    by_cases hc : x2.cps.toList < x1.cps.toList
    · rw [decide_eq_true hc,if_pos hc];exact ⟨rfl,rfl⟩
    · rw [decide_eq_false hc,if_neg hc];exact ⟨rfl,rfl⟩
  have est : SortSt.mk' oneType' (#[Value.ref D1,Value.ref D2].zip #[v1,v2]) #[] 7 none = kas_st oneType' #[(Value.ref D1,v1),(Value.ref D2,v2)] (List.toArray (List.range 2)) := by
    have er := kas_range #[(Value.ref D1,v1),(Value.ref D2,v2)]
    show SortSt.mk' oneType' (#[Value.ref D1,Value.ref D2].zip #[v1,v2]) #[] 7 none = SortSt.mk' oneType' ((List.toArray (List.range 2)).map (kas_item #[(Value.ref D1,v1),(Value.ref D2,v2)])) #[] 7 none
    rw [show (#[Value.ref D1,Value.ref D2].zip #[v1,v2]) = #[(Value.ref D1,v1),(Value.ref D2,v2)] by simp]
    exact congrArg (fun z => SortSt.mk' oneType' z #[] 7 none) er.symm
  rw [← est] at run
  refine wpAny_bind (wpAny_mono run ?_ fun _ _ e => e)
  rintro ⟨⟨⟩,st'⟩ s' ⟨rfl,hf,hout⟩
  try dsimp only
  exact sk_tail (out := if x2.cps.toList < x1.cps.toList then #[v2,v1] else #[v1,v2]) F N hk ha hkL hk0 haL ha0 hka hnk hna (show 2 ≤ 100 by decide) hout (by split <;> exact (show 2 ≤ 100 by decide)) hf h
theorem sk_sort {f : Value} {vs : List Value} {n : Nat} (F : Fr h₀ L s.heap m) (N : News h₀ L s.heap news) (ho : s.heap.get? a = some (seqObj "list" vs.toArray n)) (haL : a ≠ L) (ha0 : h₀.get? a = none) (hna : ∀ p ∈ news, p.1 ≠ a) (h50 : vs.length ≤ 50)
    (rest : ∀ h' kS e1,Fr h₀ L h' m → News h₀ L h' ((kS,seqObj "list" #[] 0) :: (a,seqObj "list" #[] e1) :: news) → kS ≠ a → (∀ p ∈ news,p.1 ≠ kS) → wpAny (model prog w) A (ksk_rest a f false vs.toArray e1 (.ref kS)) P E { s with heap := h' }) :
    wpAny (model prog w) A (ksk_tree a f false) P E s := by
  have ha : a < s.heap.objs.size := Heap.lt_size ho
  have s1 := Heap.SameBut.update s.heap a (Obj.mapSeq fun _ => (#[] : Array Value))
  obtain ⟨e1,ho1⟩ : ∃ e1,(s.heap.update a (Obj.mapSeq fun _ => (#[] : Array Value))).get? a = some (seqObj "list" #[] e1) := ⟨_,get?_update_seq ho fun _ => #[]⟩
  have F1 := ksk_fr F s1 haL ha0
  have N1 := ksk_news N s1 hna
  have hkS : ((s.heap.update a (Obj.mapSeq fun _ => (#[] : Array Value))).push (seqObj "tuple" vs.toArray 0)).objs.size = s.heap.objs.size + 1 := by rw [size_push',Heap.size_update]
  have hLk : L < ((s.heap.update a (Obj.mapSeq fun _ => (#[] : Array Value))).push (seqObj "tuple" vs.toArray 0)).objs.size := (F1.push _).ns.lt
  unfold ksk_tree
  refine wpAny_bind (listItems_at ho rfl ?_)
  refine wpAny_bind (listUpdate_at ho rfl ?_ (by rw [List.size_toArray,sizeLine_eq];omega) (Nat.zero_le _))
  refine wpAny_bind (seqEpoch_at ho1 rfl ?_)
  refine wpAny_bind (wpAny_newTuple ?_ (by show vs.length ≤ _;rw [sizeLine_eq];omega))
  refine wpAny_bind (wpAny_newList ?_ (Nat.zero_le _))
  refine wpAny_holding ?_
  refine rest (((s.heap.update a (Obj.mapSeq fun _ => (#[] : Array Value))).push (seqObj "tuple" vs.toArray 0)).push (seqObj "list" #[] 0)) (((s.heap.update a (Obj.mapSeq fun _ => (#[] : Array Value))).push (seqObj "tuple" vs.toArray 0)).objs.size) e1
    ((F1.push _).push _) (fun p hp => ?_) (by rw [hkS];exact Nat.ne_of_gt (Nat.lt_succ_of_lt ha)) (fun p hp => by rw [hkS];exact Nat.ne_of_lt (Nat.lt_succ_of_lt (Heap.lt_size (N p hp).1)))
  rcases List.mem_cons.mp hp with rfl | hp
  · exact ⟨Heap.get?_push_size _ rfl,Nat.ne_of_gt hLk,Heap.get?_none_of_le (Nat.le_trans F.above (Nat.le_of_lt hLk))⟩
  · rcases List.mem_cons.mp hp with rfl | hp
    · exact ⟨Heap.get?_push_of_some _ (Heap.get?_push_of_some _ ho1),haL,ha0⟩
    · exact ⟨Heap.get?_push_of_some _ (Heap.get?_push_of_some _ (N1 p hp).1),(N1 p hp).2⟩
end
section
variable {prog : Program} {w : World} {A : Around} {E : Value → Shared → Prop} {s : Shared} {h₀ : Heap} {L sd q : Addr} {m : Str → Option Value} {news : List (Addr × Obj)}
theorem sorted_core {Ok : List Value → Prop} {o : Obj} {Q : Value → Shared → Prop} (F : Fr h₀ L s.heap m) (N : News h₀ L s.heap news) (hset : s.heap.get? sd = some o) (hc : o.cls = .type "set") (hh : A.handled = none) (ht : 1 ≤ s.toks)
    (iter : ∀ (A : Around) (E : Value → Shared → Prop) (s₁ : Shared) (Q : Value → Shared → Prop),s₁.heap.get? sd = some o → (∀ ord I h' d,Ok ord → Iterated prog w sd s₁ ord I h' → Q (.ref I) { s₁ with heap := h',drawn := d }) → wpAny (model prog w) A (pyIter (.ref sd)) Q E s₁)
    (hok : ∀ ord,Ok ord → ord.length ≤ 50)
    (rest : ∀ ord h' dr tk D kS e1 P,Ok ord → 1 ≤ tk → Fr h₀ L h' m → News h₀ L h' ((kS,seqObj "list" #[] 0) :: (D,seqObj "list" #[] e1) :: news) → kS ≠ D → D ≠ L → h₀.get? D = none → (∀ p ∈ news,p.1 ≠ kS) → (∀ p ∈ news,p.1 < D) →
      (∀ h2 dr2 tk2 c out,Fr h₀ L h2 m → News h₀ L h2 ((D,seqObj "list" out c) :: news) → (∀ p ∈ news,p.1 < D) → (Q (.ref D) ⟨h2,s.gens,dr2,tk2,s.os⟩ → P (.done (.ret .none)) ⟨h2,s.gens,dr2,tk2,s.os⟩)) →
      wpAny (model prog w) A.in1.in1 (ksk_rest D (.ref q) false ord.toArray e1 (.ref kS)) P (fun e s' => E e s') ⟨h',s.gens,dr,tk,s.os⟩) :
    wpAny (model prog w) A (call (.builtin "sorted") [.ref sd] [(Str.ofString "key", .ref q)]) Q E s := by
  refine call_function_entry_kw kind_sorted plain_sorted entry_sorted (ksk_s1 _ _) ?_
  unfold Builtin.«sorted»
  refine wpAny_bind (m := checkCount "sorted" 1 1 _) (wpAny_pure ?_)
  refine wpAny_bind (collect_set (o := o) (Ok := Ok) hset hc hh iter (fun ord h => Nat.le_trans (hok ord h) (by decide)) fun ord h1 d1 tk1 hord keep htk1 => ?_)
  have hlen := hok ord hord
  refine wpAny_bind (wpAny_newList ?_ (by rw [sizeLine_eq];omega))
  have keep2 : ∀ b x,s.heap.get? b = some x → (h1.push (seqObj "list" ord.toArray 0)).get? b = some x := fun b x e => Heap.get?_push_of_some _ (keep b x e)
  have F2 : Fr h₀ L (h1.push (seqObj "list" ord.toArray 0)) m := F.kept keep2
  have N2 : News h₀ L (h1.push (seqObj "list" ord.toArray 0)) news := N.grown keep2
  have hD : ∀ p ∈ news,p.1 < h1.objs.size := fun p hp => Heap.lt_size (keep _ _ (N p hp).1)
  have hoL : (h1.push (seqObj "list" ord.toArray 0)).get? h1.objs.size = some (seqObj "list" ord.toArray 0) := Heap.get?_push_size _ rfl
  have hL : L < h1.objs.size := (F.kept keep : Fr h₀ L h1 m).ns.lt
  have h0 : h₀.get? h1.objs.size = none := Heap.get?_none_of_le (Nat.le_trans F.above (Nat.le_of_lt hL))
  refine wpAny_bind (wpAny_holding (wpAny_call_entry_kw slot_list_sort ⟨_,hoL,rfl⟩ entry_list_sort ?body (ksk_l1 _ _)))
  case body =>
    show wpAny (model prog w) A.in1.in1 (Builtin.«list.sort» ⟨[.ref h1.objs.size],[(Str.ofString "key", .ref q)]⟩) _ _ _
    rw [ksk_t1]
    refine sk_sort F2 N2 hoL (Nat.ne_of_gt hL) h0 (fun p hp => Nat.ne_of_lt (hD p hp)) hlen fun h' kS e1 F' N' n1 n2 => ?_
    refine rest ord h' d1 tk1 h1.objs.size kS e1 _ hord (Nat.le_trans ht htk1) F' N' n1 (Nat.ne_of_gt hL) h0 n2 hD fun h2 dr2 tk2 c out F3 N3 hlt hq => ⟨_,rfl,?_⟩
    exact wpAny_pure ⟨_,rfl,hq⟩
theorem sorted_one {hx : Int} {x : Str} {t : Tok} {j ep : Nat} {led : Bool} {Q : Value → Shared → Prop} (F : Fr h₀ L s.heap m) (N : News h₀ L s.heap news) (hset : s.heap.get? sd = some (setO #[(hx, .str x t)] ep (oneT j led))) (hled : led = !(w.params.followText "set-order")) (hh : A.handled = none) (ht : 1 ≤ s.toks)
    (turn : ∀ (h : Heap) (dr : Drawn) (tk : Nat) (N' : List (Addr × Obj)),1 ≤ tk → Fr h₀ L h m → News h₀ L h N' → (∀ p ∈ news,p ∈ N') →
      wpAny (model prog w) A.in1.in1 (call (.ref q) [.str x t]) (KeyEnd h₀ L m N' x { s with heap := h,drawn := dr,toks := tk }) (fun _ _ => False) { s with heap := h,drawn := dr,toks := tk })
    (h : ∀ D h' dr tk c,1 ≤ tk → Fr h₀ L h' m → News h₀ L h' ((D,listOf #[.str x t] c) :: news) → (∀ p ∈ news,p.1 < D) → Q (.ref D) ⟨h',s.gens,dr,tk,s.os⟩) :
    wpAny (model prog w) A (call (.builtin "sorted") [.ref sd] [(Str.ofString "key", .ref q)]) Q E s := by
  refine sorted_core (Ok := fun ord => ord = [.str x t]) F N hset rfl hh ht (fun A E s₁ Q hs hq => setit_one hs hled fun I h' d it => hq _ I h' d rfl it) (fun ord e => by rw [e];exact (by decide : 1 ≤ 50)) ?_
  rintro ord h' dr tk D kS e1 P rfl htk F' N' n1 n2 n3 n4 n5 fin
  refine sk_rest (vs := [.str x t]) (xs := [x]) F' N' n1 n4 (fun p hp => Nat.ne_of_lt (n5 p hp)) rfl (show 1 ≤ 50 by decide) htk (fun i v y hv hy g d2 t2 N2 q2 F2 M2 sub => ?_) fun g d2 t2 kA e made q2 F2 M2 hm hk => ?_
  · have hi : i = 0 := by
      rcases i with _ | i
      · rfl
      · simp at hv
    subst hi
    obtain rfl : Value.str x t = v := by simpa using hv
    obtain rfl : x = y := by simpa using hy
    exact turn g d2 t2 N2 q2 F2 M2 sub
  · obtain ⟨hk1,hk2⟩ := hk
    obtain ⟨D1,m1,u1,hD1,hin1⟩ := hk2 0 x rfl
    have hkA : kA = #[.ref D1] := by
      apply Array.toList_inj.mp
      show kA.toList = [Value.ref D1]
      exact list1 hk1 hD1
    subst hkA
    have nk := M2 (kS,seqObj "list" #[.ref D1] e) (List.mem_append_right _ (.head _))
    have nD := M2 (D,seqObj "list" #[] e1) (List.mem_append_right _ (.tail _ (.head _)))
    have Nn : News h₀ L g news := fun p hp => M2 p (List.mem_append_right _ (.tail _ (.tail _ hp)))
    exact sk_end1 F2 Nn nk.1 nD.1 nk.2.1 nk.2.2 n2 n3 n1 n4 (fun p hp => Nat.ne_of_lt (n5 p hp)) fun h2 c F3 N3 => fin h2 d2 t2 c _ F3 N3 n5 (h D h2 d2 t2 c q2 F3 N3 n5)
theorem sorted_two {o : Obj} {x y : Str} {t u : Tok} {Q : Value → Shared → Prop} (F : Fr h₀ L s.heap m) (N : News h₀ L s.heap news) (hset : s.heap.get? sd = some o) (htwo : TwoSet o (.str x t) (.str y u)) (hxy : x.cps.toList < y.cps.toList) (hyx : ¬ y.cps.toList < x.cps.toList) (hne : x ≠ y) (hh : A.handled = none) (hu : A.in1.in1.units < cLine) (ht : 1 ≤ s.toks)
    (turn : ∀ z tz,(z,tz) = (x,t) ∨ (z,tz) = (y,u) → ∀ (h : Heap) (dr : Drawn) (tk : Nat) (N' : List (Addr × Obj)),1 ≤ tk → Fr h₀ L h m → News h₀ L h N' → (∀ p ∈ news,p ∈ N') →
      wpAny (model prog w) A.in1.in1 (call (.ref q) [.str z tz]) (KeyEnd h₀ L m N' z { s with heap := h,drawn := dr,toks := tk }) (fun _ _ => False) { s with heap := h,drawn := dr,toks := tk })
    (h : ∀ D h' dr tk c,1 ≤ tk → Fr h₀ L h' m → News h₀ L h' ((D,listOf #[.str x t, .str y u] c) :: news) → (∀ p ∈ news,p.1 < D) → Q (.ref D) ⟨h',s.gens,dr,tk,s.os⟩) :
    wpAny (model prog w) A (call (.builtin "sorted") [.ref sd] [(Str.ofString "key", .ref q)]) Q E s := by
  have u0_ : Unit := ();have u1_ : Unit := ();have u2_ : Unit := ();have u3_ : Unit := ();have u4_ : Unit := ();have u5_ : Unit := ();have u6_ : Unit := ()
  revert F N hset htwo hxy hyx hne hh hu ht turn h
  revert prog w A E s h₀ L sd q m news o x y t u Q u0_ u1_ u2_ u3_ u4_ u5_ u6_
  k_extra "m:t24"
  intros prog w A E s h₀ L sd q m news o x y t u Q _ _ _ _ _ _ _ F N hset htwo hxy hyx hne hh hu ht turn h
  obtain ⟨es,ep,tb,rfl,hf,hp,hperm⟩ := id htwo.ex
  refine sorted_core (Ok := fun ord => ∃ z1 t1 z2 t2,ord = [.str z1 t1, .str z2 t2] ∧ (((z1,t1) = (x,t) ∧ (z2,t2) = (y,u)) ∨ ((z1,t1) = (y,u) ∧ (z2,t2) = (x,t)))) F N hset rfl hh ht
    (fun A E s₁ Q hs hq => setit_two hs htwo fun ord I h' d hpo it => hq _ I h' d ?_ it) (fun ord e => by obtain ⟨_,_,_,_,rfl,_⟩ := e;exact (by decide : 2 ≤ 50)) ?_
  · rcases ksk_perm2 hpo with e | e
    · exact ⟨x,t,y,u,e, .inl ⟨rfl,rfl⟩⟩
    · exact ⟨y,u,x,t,e, .inr ⟨rfl,rfl⟩⟩
  rintro ord h' dr tk D kS e1 P ⟨z1,t1,z2,t2,rfl,hz⟩ htk F' N' n1 n2 n3 n4 n5 fin
  have hz1 : (z1,t1) = (x,t) ∨ (z1,t1) = (y,u) := hz.elim (fun a => .inl a.1) (fun a => .inr a.1)
  have hz2 : (z2,t2) = (x,t) ∨ (z2,t2) = (y,u) := hz.elim (fun a => .inr a.2) (fun a => .inl a.2)
  refine sk_rest (vs := [.str z1 t1, .str z2 t2]) (xs := [z1,z2]) F' N' n1 n4 (fun p hp => Nat.ne_of_lt (n5 p hp)) rfl (show 2 ≤ 50 by decide) htk (fun i v y' hv hy g d2 tk2 N2 q2 F2 M2 sub => ?_) fun g d2 tk2 kA e made q2 F2 M2 hm hk => ?_
  · rcases i with _ | _ | i
    · obtain rfl : Value.str z1 t1 = v := by simpa using hv
      obtain rfl : z1 = y' := by simpa using hy
      exact turn z1 t1 hz1 g d2 tk2 N2 q2 F2 M2 sub
    · obtain rfl : Value.str z2 t2 = v := by simpa using hv
      obtain rfl : z2 = y' := by simpa using hy
      exact turn z2 t2 hz2 g d2 tk2 N2 q2 F2 M2 sub
    · simp at hv
  · obtain ⟨hk1,hk2⟩ := hk
    obtain ⟨D1,m1,u1,hD1,hin1⟩ := hk2 0 z1 rfl
    obtain ⟨D2,m2,u2,hD2,hin2⟩ := hk2 1 z2 rfl
    have hkA : kA = #[.ref D1, .ref D2] := by
      apply Array.toList_inj.mp
      show kA.toList = [Value.ref D1,Value.ref D2]
      exact list2 hk1 hD1 hD2
    subst hkA
    have nk := M2 (kS,seqObj "list" #[.ref D1, .ref D2] e) (List.mem_append_right _ (.head _))
    have nD := M2 (D,seqObj "list" #[] e1) (List.mem_append_right _ (.tail _ (.head _)))
    have Nn : News h₀ L g news := fun p hp => M2 p (List.mem_append_right _ (.tail _ (.tail _ hp)))
    have k1 := (M2 _ (List.mem_append_left _ hin1)).1
    have k2 := (M2 _ (List.mem_append_left _ hin2)).1
    have hz12 : z2 ≠ z1 := by
      rcases hz with ⟨a,b⟩ | ⟨a,b⟩
      · rw [(Prod.mk.inj a).1,(Prod.mk.inj b).1];exact hne.symm
      · rw [(Prod.mk.inj a).1,(Prod.mk.inj b).1];exact hne
    refine sk_end2 F2 Nn nk.1 nD.1 nk.2.1 nk.2.2 n2 n3 n1 n4 (fun p hp => Nat.ne_of_lt (n5 p hp)) k1 k2 hz12 hu fun h2 c F3 N3 => ?_
    refine fin h2 d2 tk2 c _ F3 N3 n5 (h D h2 d2 tk2 c q2 F3 ?_ n5)
    rcases hz with ⟨a,b⟩ | ⟨a,b⟩
    · obtain ⟨rfl,rfl⟩ := Prod.mk.inj a
      obtain ⟨rfl,rfl⟩ := Prod.mk.inj b
      rw [if_neg hyx] at N3
      exact N3
    · obtain ⟨rfl,rfl⟩ := Prod.mk.inj a
      obtain ⟨rfl,rfl⟩ := Prod.mk.inj b
      rw [if_pos hxy] at N3
      exact N3
end
end
section
section
variable {prog : Program} {w : World} {A : Around} {E : Value → Shared → Prop} {s : Shared} {h₀ : Heap} {L : Addr} {m : Str → Option Value} {news : List (Addr × Obj)}
theorem eval_set_star {K : Frag} {e1 e2 : PySem.Expr} {p2 pos : Pos} {env : Env} {Q : Value → Shared → Prop} (F : Fr h₀ L s.heap m) (N : News h₀ L s.heap news) (X : K.In h₀) (hc : kdsCode K env.code = true) (hp : kdsPlain e1 = true)
    (h : ∀ sd h',Fr h₀ L h' m → News h₀ L h' ((sd,setO #[] 0 (.fresh 0 0 (!(w.params.followText "set-order")))) :: news) → (∀ p ∈ news,p.1 < sd) →
      wpAny (model prog w) A (eval e1 env) (fun v s1 => wpAny (model prog w) A (setAdd sd v) (fun _ s2 => wpAny (model prog w) A (eval e2 env) (fun v2 s3 => wpAny (model prog w) A (setDisplayStar sd v2) (fun _ s4 => Q (.ref sd) s4) E s3) E s2) E s1) E { s with heap := h' }) :
    wpAny (model prog w) A (eval (.Set [e1, .Starred e2 p2] 0 pos) env) Q E s := by
  revert F N X hc hp h
  revert prog w A E s h₀ L m news K e1 e2 p2 pos env Q
  k_extra "m:t16"
  intros prog w A E s h₀ L m news K e1 e2 p2 pos env Q F N X hc hp h
  rw [arm_eval_Set]
  refine wpAny_bind (wpAny_standAt ?_)
  refine wpAny_bind (kds_main (X.keeps F.keep) hc fun b => ?_)
  have hs : starEach [e1, .Starred e2 p2] env = [(false,eval e1 env),(true,eval e2 env)] := by
    cases e1 <;> first | rfl | exact absurd hp (by simp [kdsPlain])
  rw [hs]
  unfold setDisplay
  dsimp only [List.map_cons,List.map_nil]
  rw [if_neg (show ¬ ((displayRoad 0 [e1, .Starred e2 p2] == DisplayRoad.constants) = true) from Bool.false_ne_true)]
  unfold newSet setsByText
  refine wpAny_bind (wpAny_bind (wpAny_bind (wpAny_askSetting (wpAny_pure ?_))))
  dsimp only
  simp only [newObj]
  refine wpAny_bind (wpAny_alloc (wpAny_pure ?_))
  dsimp only
  refine wpAny_bind (wpAny_holding ?_)
  have hL : s.heap.objs.size ≠ L := Nat.ne_of_gt F.ns.lt
  have start := h s.heap.objs.size _ (F.push (setO #[] 0 (.fresh 0 0 (!(w.params.followText "set-order"))))) (News.push F N _ rfl) (fun p hp => Heap.lt_size (N p hp).1)
  refine wpAny_bind (?_ : wpAny _ A (evalAll [do let v ← eval e1 env;standAt pos;pure v]) _ _ _)
  show wpAny _ A ((eval e1 env >>= fun v => standAt pos >>= fun _ => pure v) >>= fun v => holding [v] (evalAll []) >>= fun r => pure (v :: r)) _ E _
  refine wpAny_bind (wpAny_bind (wpAny_mono start (fun v s1 h1 => ?_) fun _ _ e => e))
  refine wpAny_bind (wpAny_standAt (wpAny_pure ?_))
  refine wpAny_bind (wpAny_holding (wpAny_pure ?_))
  refine wpAny_pure ?_
  refine wpAny_bind (wpAny_holding ?_)
  rw [List.forIn_cons]
  refine wpAny_bind (wpAny_bind (wpAny_bind (wpAny_mono h1 (fun _ s2 h2 => ?_) fun _ _ e => e)))
  refine wpAny_pure ?_
  dsimp only
  rw [List.forIn_nil]
  refine wpAny_pure ?_
  rw [if_neg (show ¬ ((displayRoad 0 [e1, .Starred e2 p2] == DisplayRoad.unsure) = true) from Bool.false_ne_true)]
  refine wpAny_pure ?_
  refine wpAny_bind (?_ : wpAny _ A (forIn [(true,do let v ← eval e2 env;standAt pos;pure v)] PUnit.unit _) _ _ _)
  rw [List.forIn_cons]
  refine wpAny_bind ?_
  dsimp only
  refine wpAny_bind (wpAny_bind (wpAny_mono h2 (fun v2 s3 h3 => ?_) fun _ _ e => e))
  refine wpAny_bind (wpAny_standAt (wpAny_pure ?_))
  rw [if_pos rfl]
  refine wpAny_bind (wpAny_holding (wpAny_mono h3 (fun _ s4 h4 => ?_) fun _ _ e => e))
  refine wpAny_pure ?_
  dsimp only
  rw [List.forIn_nil]
  exact wpAny_pure (wpAny_pure (wpAny_pure h4))
end
end
section
theorem AllLt.of_mem {d : Nat} : ∀ {l : List (Addr × Obj)},(∀ p ∈ l,@LT.lt Nat _ p.1 d) → AllLt d l
  | [],_ => trivial
  | _ :: _,h => ⟨h _ (.head _),AllLt.of_mem fun p hp => h p (.tail _ hp)⟩
theorem AllLt.up {d e : Nat} (h : d ≤ e) : ∀ {l : List (Addr × Obj)},AllLt d l → AllLt e l
  | [],_ => trivial
  | _ :: _,⟨a,b⟩ => ⟨Nat.lt_of_lt_of_le a h,AllLt.up h b⟩
section
variable {prog : Program} {w : World} {A : Around} {E : Value → Shared → Prop} {s : Shared} {h₀ : Heap} {L sd AD : Addr} {m : Str → Option Value} {news : List (Addr × Obj)}
theorem setAdd_firstK {led : Bool} {x : Str} {t : Tok} {Q : Bool → Shared → Prop} (F : Fr h₀ L s.heap m) (N : News h₀ L s.heap ((sd, setO #[] 0 (.fresh 0 0 led)) :: news)) (hne : ∀ p ∈ news, p.1 ≠ sd)
    (h : ∀ j h',Fr h₀ L h' m → News h₀ L h' ((sd,setO #[((PySem.strKind prog w).hash x, .str x t)] 1 (oneT j led)) :: news) → Q true { s with heap := h',toks := s.toks + 1 }) :
    wpAny (model prog w) A (setAdd sd (.str x t)) Q E s := by
  have z := N _ (.head _)
  refine setAdd_first z.1 fun hx j h' hs ho he => ?_
  subst he
  refine h j h' (F.change hs z.2.1 z.2.2) fun p hp => ?_
  rcases List.mem_cons.mp hp with rfl | hp
  · exact ⟨ho,z.2⟩
  · exact ⟨(hs.2 p.1 (hne p hp)).trans (N p (.tail _ hp)).1,(N p (.tail _ hp)).2⟩
theorem star0K {hx : Int} {x : Str} {t : Tok} {j n : Nat} {led : Bool} {Q : Unit → Shared → Prop} (F : Fr h₀ L s.heap m) (N : News h₀ L s.heap ((sd, setO #[(hx, .str x t)] 1 (oneT j led)) :: news)) (hm : (AD, dictOf [] n) ∈ news) (hsys : (AD == sysModules) = false) (hh : A.handled = none)
    (h : ∀ h',Fr h₀ L h' m → News h₀ L h' ((sd,setO #[(hx, .str x t)] 1 (oneT j led)) :: news) → Q () { s with heap := h' }) : wpAny (model prog w) A (setDisplayStar sd (.ref AD)) Q E s :=
  star_dict0 (N _ (.head _)).1 (N _ (.tail _ hm)).1 hsys hh fun h' keep => h h' (F.kept keep) (N.grown keep)
theorem star1K {x y : Str} {t ty : Tok} {j n : Nat} {led : Bool} {v : Value} {Q : Unit → Shared → Prop} (F : Fr h₀ L s.heap m) (N : News h₀ L s.heap ((sd, setO #[((PySem.strKind prog w).hash x, .str x t)] 1 (oneT j led)) :: news)) (hne' : ∀ p ∈ news, p.1 ≠ sd) (hm : (AD, dictOf [⟨PyData.keyHash w.params y, .str y ty, v⟩] n) ∈ news) (hne : y ≠ x) (hsys : (AD == sysModules) = false) (hh : A.handled = none)
    (h : ∀ h' o tk t',Fr h₀ L h' m → News h₀ L h' ((sd,o) :: news) → TwoSet o (.str x t) (.str y t') → s.toks ≤ tk → Q () { s with heap := h',toks := tk }) : wpAny (model prog w) A (setDisplayStar sd (.ref AD)) Q E s := by
  have z := N _ (.head _)
  refine star_dict1 z.1 rfl hne (N _ (.tail _ hm)).1 hsys hh (hne' _ hm) fun h' o tk t' keep ho two le => ?_
  have hs : ∀ b x,b ≠ sd → s.heap.get? b = some x → h'.get? b = some x := fun b x hb e => keep b x (fun q => hb (List.mem_singleton.mp q)) e
  refine h h' o tk t' ⟨F.ns.at' fun o e => hs L o z.2.1.symm e,fun b x e => hs b x (fun q => by rw [q,z.2.2] at e;cases e) (F.keep b x e),F.above⟩ (fun p hp => ?_) two le
  rcases List.mem_cons.mp hp with rfl | hp
  · exact ⟨ho,z.2⟩
  · exact ⟨hs _ _ (hne' p hp) (N p (.tail _ hp)).1,(N p (.tail _ hp)).2⟩
end
section
variable {M : Model} {A : Around} {E : Value → Shared → Prop} {s : Shared} {name : Str} {scope : Scope} {L a : Addr} {cd : Value} {h₀ : Heap} {m : Str → Option Value} {news : List (Addr × Obj)}
theorem stCU {x : Str} {c : Addr} {o : Obj} {v₀ : Option Value} {v : Value} {g : Obj → List (Addr × Obj)} {Q : Unit → Shared → Prop} (F : Fr h₀ L s.heap m) (N : News h₀ L s.heap news) (hc : (cellsFrom (L + 1) scope.names []).lookup x = some c) (U : UpdF c o news g)
    (hd : o.data = .cell v₀) (h : ∀ h' o',Fr h₀ L h' m → News h₀ L h' (g o') → o'.data = .cell (some v) → Q () { s with heap := h' })
    (hk : scope.kind = .function := by rfl) (hl : (envOfC name scope L a cd).kindOf x = some .cell := by rfl) : wpAny M A (storeName (envOfC name scope L a cd) x v) Q E s := by
  obtain ⟨pre,post,e0,hg,x1,x2⟩ := U.split
  subst e0
  exact stCN F N hc hd x1 x2 (fun h' o' F' N' d' => h h' o' F' (by rw [hg];exact N') d') hk hl
end
theorem rows_setrows_1 : True := by
  (k_with "setrows:eval Set cons" => (k_here;(with_reducible show wpAny _ _ (eval (Expr.Set _ _ _) _) _ _ _);k_dflt (refine' Mine.eval_set_star ?F'11 ?N'11 ?X'11 ?hc'11 ?hp'11 ?_;(case F'11 => k_asm);(case N'11 => k_asm);(case X'11 => k_asm);(case hc'11 => rfl);(case hp'11 => rfl);k_whole);intro sd9'11 h9'11 F9'11 N9'11 l9'11;(try k_lt l9'11)))
  (k_with "setrows:setAdd str" => (k_here;(with_reducible show wpAny _ _ (setAdd _ (Value.str _ _)) _ _ _);k_dflt (refine' Mine.setAdd_firstK ?F'12 ?N'12 ?D'12 ?_;(case F'12 => k_asm);(case N'12 => k_asm);(case D'12 => k_all);k_whole);intro j9'12 h9'12 F9'12 N9'12))
  (k_with "setrows:setDisplayStar ref" => (k_here;(with_reducible show wpAny _ _ (setDisplayStar _ (Value.ref _)) _ _ _);k_dflt (refine' Mine.star0K ?F'13 ?N'13 ?M'13 ?S'13 ?H'13 ?_;(case F'13 => k_asm);(case N'13 => k_asm);(case M'13 => k_mem);(case S'13 => assumption);(case H'13 => exact rfl);k_whole);intro h9'13 F9'13 N9'13))
  (k_with "setrows:storeName ref" => (k_here;(with_reducible show wpAny _ _ (storeName (envOfC _ _ _ _ _) _ (Value.ref _)) _ _ _);k_dflt (refine' Mine.stCU ?F'14 ?N'14 ?c'14 ?U'14 ?d'14 ?_ ?k'14 ?l'14;(case k'14 => exact rfl);(case l'14 => exact rfl);(case F'14 => k_asm);(case N'14 => k_asm);(case c'14 => exact rfl);(case U'14 => k_updF);(case d'14 => assumption);k_whole);intro h9'14 o9'14 F9'14 N9'14 d9'14;(try dsimp only at N9'14)))
  trivial
end
section
namespace DCg
open LCg
variable {prog : Program} {w : World} {A : Around} {E : Value → Shared → Prop} {s : Shared} {h₀ : Heap} {L : Addr} {m : Str → Option Value} {env : Env}
def DEnd (prog : Program) (w : World) (h₀ : Heap) (L : Addr) (m : Str → Option Value) (s₁ : Shared) (I : Addr) (oI : Obj) (C : Addr) (oC : Obj) (D : Addr) (oD : Obj) (S : List (Addr × Obj) → Prop) (rest : Str → Value → List (Addr × Obj) → Prop) (kv y : Value) (s₂ : Shared) : Prop :=
  ∃ h' dr tk news' k u,s₂ = { s₁ with heap := h',drawn := dr,toks := tk } ∧ kv = .str k u ∧ Fr h₀ L h' m ∧ News h₀ L h' ((I,oI) :: (C,oC) :: (D,oD) :: news') ∧ Off3 I C D news' ∧ S news' ∧ rest k y news'
noncomputable def DRest (prog : Program) (w : World) (A : Around) (h₀ : Heap) (L : Addr) (m : Str → Option Value) (env : Env) (kx vx : PySem.Expr) (x : Str) (scope : Scope) (cl : List (Str × Addr)) (g : Array GenState) (os : OsState) (news₀ : List (Addr × Obj)) (S : List (Addr × Obj) → Prop) (P : Nat → Value → Prop)
    (Fin : List (Str × Value) → List (Addr × Obj) → Prop) : Nat → Nat → List (Str × Value) → List (Addr × Obj) → Prop
  | 0,_,ys,news => Fin ys news
  | k + 1, i, ys, news => ∀ v I oI C oC D oD m₂ h dr tk (E' : Value → Shared → Prop), P i v → NsObj oC m₂ → m₂ x = some v → Fr h₀ L h m → oD.IsDictOf (PySem.strKind prog w) ys → News h₀ L h ((I, oI) :: (C, oC) :: (D, oD) :: news) → Off3 I C D news → ((∀ q ∈ news₀, @LT.lt Nat _ q.1 I) ∧ (@LT.lt Nat _ I D) ∧ (@LT.lt Nat _ D C)) → 1 ≤ tk →
      wpAny (model prog w) A (eval kx (compEnvC scope cl C env)) (fun kv s₁ => wpAny (model prog w) A (eval vx (compEnvC scope cl C env))
        (DEnd prog w h₀ L m ⟨h,g,dr,tk,os⟩ I oI C oC D oD S (fun k' y news' => DRest prog w A h₀ L m env kx vx x scope cl g os news₀ S P Fin k (i + 1) (stored ys k' y) news') kv) E' s₁) E' ⟨h,g,dr,tk,os⟩
theorem DRest.zero {kx vx : PySem.Expr} {x : Str} {scope : Scope} {cl : List (Str × Addr)} {g : Array GenState} {os : OsState} {news₀ : List (Addr × Obj)} {S : List (Addr × Obj) → Prop} {P : Nat → Value → Prop} {Fin : List (Str × Value) → List (Addr × Obj) → Prop} {i : Nat} {ys : List (Str × Value)} {news : List (Addr × Obj)} (h : Fin ys news) :
    DRest prog w A h₀ L m env kx vx x scope cl g os news₀ S P Fin 0 i ys news := h
theorem DRest.succ {kx vx : PySem.Expr} {x : Str} {scope : Scope} {cl : List (Str × Addr)} {g : Array GenState} {os : OsState} {news₀ : List (Addr × Obj)} {S : List (Addr × Obj) → Prop} {P : Nat → Value → Prop} {Fin : List (Str × Value) → List (Addr × Obj) → Prop} {k i : Nat} {ys : List (Str × Value)} {news : List (Addr × Obj)}
    (h : ∀ v I oI C oC D oD m₂ h dr tk (E' : Value → Shared → Prop),P i v → NsObj oC m₂ → m₂ x = some v → Fr h₀ L h m → oD.IsDictOf (PySem.strKind prog w) ys → News h₀ L h ((I,oI) :: (C,oC) :: (D,oD) :: news) → Off3 I C D news → ((∀ q ∈ news₀,@LT.lt Nat _ q.1 I) ∧ (@LT.lt Nat _ I D) ∧ (@LT.lt Nat _ D C)) → 1 ≤ tk →
      wpAny (model prog w) A (eval kx (compEnvC scope cl C env)) (fun kv s₁ => wpAny (model prog w) A (eval vx (compEnvC scope cl C env))
        (DEnd prog w h₀ L m ⟨h,g,dr,tk,os⟩ I oI C oC D oD S (fun k' y news' => DRest prog w A h₀ L m env kx vx x scope cl g os news₀ S P Fin k (i + 1) (stored ys k' y) news') kv) E' s₁) E' ⟨h,g,dr,tk,os⟩) :
    DRest prog w A h₀ L m env kx vx x scope cl g os news₀ S P Fin (k + 1) i ys news := h
theorem block_D {kx vx iter : PySem.Expr} {x : Str} {px : Pos} {scope : Scope} {cl : List (Str × Addr)} {pos : Pos} {s₂ : Shared} {I : Addr} {fp : List Addr} {n : Nat} {P : Nat → Value → Prop} {St : Nat → Heap → Prop} {S : List (Addr × Obj) → Prop} {news : List (Addr × Obj)}
    {Fin : List (Str × Value) → List (Addr × Obj) → Prop} {RR : Value → Addr → Result → Shared → Prop}
    (W : Walks prog w A I fp [I] n P St) (hsz : n ≤ 1000) (hIo : ∀ i h,St i h → ∃ o,h.get? I = some o)
    (hSt : ∀ i h h' o nw,St i h → h.get? I = some o → h'.get? I = some o → (∀ b o,h₀.get? b = some o → h'.get? b = some o) → News h₀ L h' nw → S nw → St i h')
    (hcell : ∀ y ∈ scope.names,y.2 ≠ .cell) (hkind : scope.kind = .function) (hx : scope.names.lookup x = some .local) (hst : St 0 s₂.heap) (hfp : ∀ b ∈ fp,b < s₂.heap.objs.size)
    (F : Fr h₀ L s₂.heap m) (N : News h₀ L s₂.heap news) (hIL : L ≠ I) (hI₀ : h₀.get? I = none) (off : ∀ p ∈ news,p.1 ≠ I) (offl : ∀ p ∈ news,@LT.lt Nat _ p.1 I) (hS : S news) (ht : 1 ≤ s₂.toks)
    (R : DRest prog w A h₀ L m env kx vx x scope cl s₂.gens s₂.os news S P Fin n 0 [] news)
    (hRR : ∀ D C oD h dr tk m' ys news',Fr h₀ L h m → oD.IsDictOf (PySem.strKind prog w) ys → News h₀ L h ((D,oD) :: news') → Off1 D news' → h.Ns C m' → h₀.get? C = none → h₀.get? D = none → C ≠ L → D ≠ L → C ≠ D → (∀ p ∈ news',p.1 ≠ C) → Fin ys news' → 1 ≤ tk → RR (.ref D) C (.ok .next) ⟨h,s₂.gens,dr,tk,s₂.os⟩) :
    wpAny (model prog w) A newDict (fun acc s₃ => wpAny (model prog w) A (newFunctionEnv scope env.globals cl [] env.qual none .none (some env)) (fun cenv s₄ =>
      codeAny (model prog w) A (.compStart (.DictComp kx vx [⟨.Name x px,iter,[],0⟩] scope pos) 0 (.ref I) acc { cenv with scope := relabel scope env }) (RR acc cenv.locals) s₄) E s₃) E s₂ := by
  have u0_ : Unit := ();have u1_ : Unit := ();have u2_ : Unit := ();have u3_ : Unit := ();have u4_ : Unit := ();have u5_ : Unit := ()
  revert W hsz hIo hSt hcell hkind hx hst hfp F N hIL hI₀ off offl hS ht R hRR
  revert prog w A E h₀ L m env kx vx iter x px scope cl pos s₂ I fp n P St S news Fin RR u0_ u1_ u2_ u3_ u4_ u5_
  k_extra "m:t32"
  intros prog w A E h₀ L m env kx vx iter x px scope cl pos s₂ I fp n P St S news Fin RR _ _ _ _ _ _ W hsz hIo hSt hcell hkind hx hst hfp F N hIL hI₀ off offl hS ht R hRR
  refine wpAny_newObj_type (wpAny_newFunctionEnv hcell (by intro y hy;simp at hy) (fun h₁ hns₁ hsb₁ => ?_) hkind)
  dsimp only at hns₁ hsb₁ ⊢
  have hnew : (s₂.heap.push { cls := .type "dict",dict := none,data := .dict #[] }).DictOf (PySem.strKind prog w) s₂.heap.objs.size [] := Heap.DictOf.new s₂.heap
  generalize hH2 : s₂.heap.push { cls := .type "dict",dict := none,data := .dict #[] } = H2 at hns₁ hsb₁ hnew ⊢
  have hC : H2.objs.size = s₂.heap.objs.size + 1 := by rw [← hH2,Heap.size_push]
  have hDC : s₂.heap.objs.size ≠ H2.objs.size := by rw [hC];exact Nat.ne_of_lt (Nat.lt_succ_self _)
  have below : ∀ b,b < s₂.heap.objs.size → b ≠ H2.objs.size ∧ b ≠ s₂.heap.objs.size := fun b hb => ⟨by rw [hC];exact Nat.ne_of_lt (Nat.lt_succ_of_lt hb),Nat.ne_of_lt hb⟩
  have hDf : s₂.heap.objs.size ∉ fp := fun hm => Nat.lt_irrefl _ (hfp _ hm)
  have hCf : H2.objs.size ∉ fp := fun hm => by have := hfp _ hm;rw [hC] at this;exact Nat.lt_irrefl _ (Nat.lt_of_succ_lt this)
  have hIf : I ∈ fp := W.sub I (List.mem_singleton.mpr rfl)
  have hIlt : I < s₂.heap.objs.size := hfp I hIf
  have old : ∀ b o,s₂.heap.get? b = some o → h₁.get? b = some o := fun b o e => hsb₁.extBut b o (below b (Heap.lt_size e)).1 (Heap.get?_push_of_some _ (hH2 ▸ Heap.get?_push_of_some _ e))
  have hacc : h₁.DictOf (PySem.strKind prog w) s₂.heap.objs.size [] := hnew.at fun o e => hsb₁.extBut _ _ hDC (Heap.get?_push_of_some _ e)
  obtain ⟨oD0,hD0,hoD0⟩ := Heap.dictOf_iff.mp hacc
  have hst₁ : St 0 h₁ := W.frame _ _ _ hst fun b _ o e => old b o e
  have fresh : ∀ a,s₂.heap.objs.size ≤ a → s₂.heap.get? a = none := fun a ha => by
    cases e : s₂.heap.get? a with
    | none => rfl
    | some o' => exact absurd (Heap.lt_size e) (Nat.not_lt.mpr ha)
  have fresh₀ : ∀ a,s₂.heap.objs.size ≤ a → h₀.get? a = none := fun a ha => by
    cases e : h₀.get? a with
    | none => rfl
    | some o' => have := F.keep a o' e;rw [fresh a ha] at this;cases this
  have hD₀ : h₀.get? s₂.heap.objs.size = none := fresh₀ _ (Nat.le_refl _)
  have hC₀ : h₀.get? H2.objs.size = none := fresh₀ _ (by rw [hC];exact Nat.le_succ _)
  have hLlt : L < s₂.heap.objs.size := F.ns.lt
  have hDL : s₂.heap.objs.size ≠ L := Ne.symm (below L hLlt).2
  have hCL : H2.objs.size ≠ L := Ne.symm (below L hLlt).1
  have hCI : I ≠ H2.objs.size := (below I hIlt).1
  have hDI : I ≠ s₂.heap.objs.size := (below I hIlt).2
  have off₀ : Off3 I H2.objs.size s₂.heap.objs.size news := Off3.of fun p hp => ⟨off p hp,(below _ (Heap.lt_size (N p hp).1)).1,(below _ (Heap.lt_size (N p hp).1)).2⟩
  have loop : ∀ s₃ : Shared, s₃ = { s₂ with heap := h₁, toks := s₂.toks + ([] : List (Str × Value)).length } →
      codeAny (model prog w) A (.compLoop (.DictComp kx vx [⟨.Name x px,iter,[],0⟩] scope pos) 0 (.ref I) (.ref s₂.heap.objs.size) (compEnvC scope cl H2.objs.size env))
        (RR (.ref s₂.heap.objs.size) H2.objs.size) s₃ := by
    rintro s₃ rfl
    refine codeAny_compLoop_testsD
      (fun k s' => ∃ h' dr tk i ys m' oD news',s' = ⟨h',s₂.gens,dr,tk,s₂.os⟩ ∧ 1 ≤ tk ∧ i ≤ n ∧ k = n + 1 - i ∧ ys.length ≤ i ∧ St i h' ∧ Fr h₀ L h' m ∧ h'.Ns H2.objs.size m' ∧ oD.IsDictOf (PySem.strKind prog w) ys ∧ News h₀ L h' ((s₂.heap.objs.size,oD) :: news') ∧
        Off3 I H2.objs.size s₂.heap.objs.size news' ∧ S news' ∧ DRest prog w A h₀ L m env kx vx x scope cl s₂.gens s₂.os news S P Fin (n - i) i ys news') ?_ (n + 1)
      ⟨h₁,_,_,0,[],_,oD0,news,rfl,ht,Nat.zero_le _,rfl,Nat.le_refl _,hst₁,F.keeps old,hns₁,hoD0,fun p hp => ?_,off₀,hS,R⟩
    · rintro k s' ⟨h',dr,tk,i,ys,m',oD,news',rfl,htk,hi,rfl,hyl,hst',F',hn',hoD,N',off',hS',R'⟩
      by_cases hlt : i < n
      · obtain ⟨j,hj⟩ : ∃ j,n - i = j + 1 := ⟨n - i - 1,by omega⟩
        rw [hj] at R'
        refine wpAny_with_toks htk (W.item i _ _ _ hlt hst' fun v h₂ tk₂ hPv hst₂ hk₂ htk₂ => ?_)
        refine wpAny_assign_Name (wpAny_storeName_local (lookup_relabel_local hx) (hn'.at' fun o e => hk₂ _ o (by simpa using Ne.symm hCI) e) (fun h₃ hn₃ hs₃ => ?_) (by simp [compEnvC,relabel,hkind]))
        refine wpAny_tests_nil ?_
        simp only [if_true]
        have hst₃ : St (i + 1) h₃ := W.frame _ _ _ hst₂ fun b hb o e => hs₃.extBut b o (fun q => hCf (by have q' : b = H2.objs.size := q;rw [← q'];exact hb)) e
        obtain ⟨oI,heI⟩ := hIo _ _ hst₃
        obtain ⟨oC,heC,hoC⟩ := ns_obj hn₃
        have F₃ : Fr h₀ L h₃ m := (fr_but F' hk₂ hIL hI₀).change hs₃ hCL hC₀
        have off3 := off'.mem
        have N₂ : News h₀ L h₂ ((s₂.heap.objs.size,oD) :: news') := news_but N' hk₂ fun p hp => by
          rcases List.mem_cons.mp hp with rfl | hp
          · exact Ne.symm hDI
          · exact (off3 p hp).1
        have N₃ : News h₀ L h₃ ((I,oI) :: (H2.objs.size,oC) :: (s₂.heap.objs.size,oD) :: news') := fun p hp => by
          rcases List.mem_cons.mp hp with rfl | hp
          · exact ⟨heI,Ne.symm hIL,hI₀⟩
          · rcases List.mem_cons.mp hp with rfl | hp
            · exact ⟨heC,hCL,hC₀⟩
            · have z := N₂ p hp
              refine ⟨hs₃.extBut _ _ ?_ z.1,z.2⟩
              rcases List.mem_cons.mp hp with rfl | hp
              · exact hDC
              · exact (off3 p hp).2.1
        refine wpAny_with_toks (show 1 ≤ tk₂ + 1 from Nat.le_add_left 1 tk₂) (wpAny_mono (R' v I oI H2.objs.size oC s₂.heap.objs.size oD _ h₃ dr _ (notedBy (model prog w) A (compEnvC scope cl H2.objs.size env) fun e s' => RR (.ref s₂.heap.objs.size) H2.objs.size (.error e) s') hPv hoC (by simp) F₃ hoD N₃ off' ⟨offl,hIlt,by rw [hC];exact Nat.lt_succ_self _⟩ (Nat.le_add_left 1 tk₂)) (fun kv s₁ h₁' ht₁ => ?_) fun _ _ e _ => e)
        refine wpAny_with_toks ht₁ (wpAny_mono h₁' (fun y s₄ h₄ ht₄ => ?_) fun _ _ e _ => e)
        obtain ⟨h₄,dr₄,tk₄,news₄,k',u',rfl,rfl,F₄,N₄,off₄,hS₄,R₄⟩ := h₄
        have zI := (N₄ (I,oI) List.mem_cons_self).1
        have zC := (N₄ (H2.objs.size,oC) (List.mem_cons_of_mem _ List.mem_cons_self)).1
        have zD := (N₄ (s₂.heap.objs.size,oD) (List.mem_cons_of_mem _ (List.mem_cons_of_mem _ List.mem_cons_self))).1
        have N₄' : News h₀ L h₄ news₄ := fun p hp => N₄ p (List.mem_cons_of_mem _ (List.mem_cons_of_mem _ (List.mem_cons_of_mem _ hp)))
        have hst₄ : St (i + 1) h₄ := hSt _ _ _ _ _ hst₃ heI zI F₄.keep N₄' hS₄
        refine wpAny_dictSet_pairs (knd := PySem.strKind prog w) (k := k') (PySem.strKind_is prog w k' u') (Heap.dictOf_iff.mpr ⟨oD,zD,hoD⟩) (fun h₅ hD₅ hs₅ => ?_) (by rw [sizeLine_eq];omega)
        obtain ⟨oD5,he5,hoD5⟩ := Heap.dictOf_iff.mp hD₅
        have off4 := off₄.mem
        refine ⟨n + 1 - (i + 1),by omega,h₅,dr₄,tk₄ + 1,i + 1,stored ys k' y,_,oD5,news₄,rfl,Nat.le_add_left 1 tk₄,hlt,rfl,Nat.le_trans (stored_length_le ys k' y) (Nat.succ_le_succ hyl),W.frame _ _ _ hst₄ fun b hb o e => hs₅.extBut b o (fun q => hDf (q ▸ hb)) e,F₄.change hs₅ hDL hD₀,
          (hoC.ns zC).sameBut hs₅ (Ne.symm hDC),hoD5,fun p hp => ?_,off₄,hS₄,?_⟩
        · rcases List.mem_cons.mp hp with rfl | hp
          · exact ⟨he5,hDL,hD₀⟩
          · exact ⟨hs₅.extBut _ _ (off4 p hp).2.2 (N₄' p hp).1,(N₄' p hp).2⟩
        · rw [show n - (i + 1) = j by omega]
          exact R₄
      · obtain rfl : i = n := Nat.le_antisymm hi (Nat.not_lt.mp hlt)
        rw [Nat.sub_self] at R'
        refine wpAny_with_toks htk (W.done _ _ _ hst' fun h₂ tk₂ hk₂ htk₂ => ?_)
        have off3 := off'.mem
        exact hRR _ _ oD h₂ dr tk₂ _ ys news' (fr_but F' hk₂ hIL hI₀) hoD (news_but N' hk₂ fun p hp => by
          rcases List.mem_cons.mp hp with rfl | hp
          · exact Ne.symm hDI
          · exact (off3 p hp).1) off'.one (hn'.at' fun o e => hk₂ _ o (by simpa using Ne.symm hCI) e) hC₀ hD₀ hCL hDL (Ne.symm hDC) (fun p hp => (off3 p hp).2.1) R' htk₂
    · rcases List.mem_cons.mp hp with rfl | hp
      · exact ⟨hD0,hDL,hD₀⟩
      · exact ⟨old _ _ (N p hp).1,(N p hp).2⟩
  exact codeAny_compStart_dict (loop _ rfl) (W.self 0 _ _ _ hst₁ (loop _ rfl))
theorem Assign_DictComp {kx vx iter : PySem.Expr} {x y : Str} {px py : Pos} {scope : Scope} {cl : List (Str × Addr)} {pos spos : Pos} {Q : Flow → Shared → Prop} (F₀ : Fr h₀ L s.heap m) (hLe : env.locals = L) (ht : 1 ≤ s.toks)
    (hsw : swapsWith (.DictComp kx vx [⟨.Name x px,iter,[],0⟩] scope pos) (some (.Name y py)) spos.line env = pure true)
    (hclos : closureFor scope env = pure cl) (hcell : ∀ z ∈ scope.names,z.2 ≠ .cell) (hkind : scope.kind = .function)
    (hnames : ∀ z ∈ scope.names,z.2 = .local → scope.names.lookup z.1 = some .local) (hx : scope.names.lookup x = some .local)
    (hy : env.kindOf y = some .local) (hp : (env.scope.kind == .class || (env.scope.kind == .module && env.locals != env.globals)) = false) (hh : A.handled = none)
    (h : wpAny (model prog w) A (eval iter env) (fun xv s₁ => ∃ ax its n news,xv = .ref ax ∧ Fr h₀ L s₁.heap m ∧ News h₀ L s₁.heap news ∧ (ax,listOf its n) ∈ news ∧ its.size ≤ 1000 ∧
      DRest prog w A h₀ L m env kx vx x scope cl s₁.gens s₁.os news (SrcAt h₀ ax its) (fun i v => its[i]? = some v) (fun ys news => ∀ D oD h dr tk,Fr h₀ L h (fun z => if z = y then some (.ref D) else m z) → oD.IsDictOf (PySem.strKind prog w) ys → News h₀ L h ((D,oD) :: news) → Off1 D news → 1 ≤ tk → Q .next ⟨h,s₁.gens,dr,tk,s₁.os⟩) its.size 0 [] news) E s)
    (hs : ∀ x,foldedSetIterable iter env x = pure x := by intro _;rfl) :
    wpAny (model prog w) A (exec (.Assign [.Name y py] (.DictComp kx vx [⟨.Name x px,iter,[],0⟩] scope pos) spos) env) Q E s := by
  have u0_ : Unit := ();have u1_ : Unit := ();have u2_ : Unit := ()
  revert F₀ hLe ht hsw hclos hcell hkind hnames hx hy hp hh h hs
  revert prog w A E s h₀ L m env kx vx iter x y px py scope cl pos spos Q u0_ u1_ u2_
  k_extra "m:t24"
  intros prog w A E s h₀ L m env kx vx iter x y px py scope cl pos spos Q _ _ _ F₀ hLe ht hsw hclos hcell hkind hnames hx hy hp hh h hs
  subst hLe
  rw [exec_Assign_Name_used _ _ _ _ hsw]
  refine wpAny_bind (wpAny_standAt (wpAny_bind ?_))
  show wpAny _ A (do let _ ← comprehension (.DictComp kx vx [⟨.Name x px,iter,[],0⟩] scope pos) scope env _ newDict false (eval iter env) (some (assign (.Name y py) env))) _ _ s
  refine wpAny_bind (wpAny_mono (wpAny_comprehension_free (use := some (assign (.Name y py) env)) (Q := fun _ s' => Q .next s') rfl hs hclos hkind hnames
    (wpAny_with_toks ht (wpAny_mono h (fun xv s₁ h₁ ht₁ => ?_) fun _ _ e _ => e))) (fun _ s' hq => wpAny_pure (wpAny_pure hq)) fun _ _ e => e)
  obtain ⟨ax,its,n,news,rfl,F,N,hin,hsz,R⟩ := h₁
  have S : SrcAt h₀ ax its news := .inr ⟨_,hin,rfl,_,rfl⟩
  have hl := S.list F.keep N
  have hlt : ax < s₁.heap.objs.size := by obtain ⟨_,e,_⟩ := hl;exact Heap.lt_size e
  refine wpAny_pyIter_list hl ?_
  have up : ∀ b o,s₁.heap.get? b = some o → (s₁.heap.push { cls := .type "list_iterator",data := .fields #[.ref ax, .int 0 0] }).get? b = some o := fun b o e => Heap.get?_push_of_some _ e
  refine block_D (s₂ := { s₁ with heap := s₁.heap.push { cls := .type "list_iterator",data := .fields #[.ref ax, .int 0 0] } }) (Walks.list hh s₁.heap.objs.size ax (Nat.ne_of_lt hlt) its) hsz (fun i h st => by obtain ⟨o,e,_⟩ := st.1;exact ⟨o,e⟩) list_st hcell hkind hx ⟨⟨_,Heap.get?_push_size _ rfl,rfl,rfl⟩,hl.push _⟩ (fun b hb => ?_)
    (F.keeps up) (N.grown up) (Nat.ne_of_lt F.ns.lt) (next_is_new F) (fun p hp => Nat.ne_of_lt (Heap.lt_size (N p hp).1)) (fun p hp => Heap.lt_size (N p hp).1) S ht₁ R ?_
  · show b < (s₁.heap.push _).objs.size
    rw [Heap.size_push]
    rcases List.mem_cons.mp hb with rfl | hb
    · exact Nat.lt_succ_self _
    · rw [List.mem_singleton.mp hb];exact Nat.lt_succ_of_lt hlt
  · intro D C oD h' dr tk m' ys news' F' hoD N' o1 hn hC₀ hD₀ hCL hDL hCD offC fin htk
    show wpAny _ A (assign (.Name y py) env (.ref D)) _ _ _
    refine wpAny_assign_Name (wpAny_storeName_local hy F'.ns (fun h₂ hn₂ hs₂ => ?_) hp)
    have hL₀ : h₀.get? env.locals = none := Heap.get?_none_of_le F'.above
    have F₂ : Fr h₀ env.locals h₂ (fun z => if z = y then some (.ref D) else m z) := ⟨hn₂,fun b o e => hs₂.extBut b o (fun q => by rw [q,hL₀] at e;cases e) (F'.keep b o e),F'.above⟩
    refine ⟨m',hn.sameBut hs₂ hCL,fun h'' hs'' => fin D oD h'' _ _ (F₂.change hs'' hCL hC₀) hoD (fun p hp => ?_) o1 (Nat.le_add_left 1 _)⟩
    have z : h₂.get? p.1 = some p.2 := hs₂.extBut _ _ (N' p hp).2.1 (N' p hp).1
    refine ⟨hs''.extBut _ _ ?_ z,(N' p hp).2⟩
    rcases List.mem_cons.mp hp with rfl | hp
    · exact Ne.symm hCD
    · exact offC p hp
end DCg
end
section
local macro_rules (kind := PySem.W.tacticK_extra_) | x => topOf "keyc lam nest cut fast mac0 om" x
noncomputable def lamOf2 : List Stmt → Arguments × PySem.Expr × Scope
  | .Assign _ (.DictComp _ _ [⟨_, .Call _ _ [⟨_, .Lambda ps b sc _,_⟩] _,_,_⟩] _ _) _ :: _ => (ps,b,sc)
  | _ :: r => lamOf2 r
  | [] => default
@[reducible] noncomputable def keyLam : Arguments × PySem.Expr × Scope := (⟨_,by conv => lhs;whnf⟩ : { x // lamOf2 F126.2.1 = x }).1
noncomputable abbrev keyObj (qual : Str) (pm : Value) (c : Addr) (ctv : Value) : Obj := kla_obj "<lambda>" qual keyLam.1 keyLam.2.1 keyLam.2.2 [] pm c ctv
theorem one_of {l : List (Str × Tok)} {x : Str} (e : l.map (fun p => p.1) = [x]) : ∃ t,l = [(x,t)] := by
  cases l with
  | nil => cases e
  | cons a r =>
    cases r with
    | nil => exact ⟨a.2,by rw [← List.head_eq_of_cons_eq e]⟩
    | cons b r => cases List.tail_eq_of_cons_eq e
theorem keyCall : ∀ (w : World) (news : List (Addr × Obj)) (it itc : Addr) (qual : Str) (pm ctv : Value) (oc : Obj) (vs : Array Value) (tq : Tok) (x : Str) (tx : Tok)
    (hi : (it,keyObj qual pm itc ctv) ∈ news) (hc : (itc,oc) ∈ news) (hv : oc.data = .fields vs) (hq : vs[1]? = some (.str qual tq)) (hx : Txt.splitMax x (Str.ofString "}") 1 = [x]) (hl : x.length ≤ 1048576),
    Spec w it 4 30 news [.str x tx] (fun v news' => ∃ D n t,v = .ref D ∧ news' = (D,listOf #[.str x t] n) :: news ∧ ∀ p ∈ news,@LT.lt Nat _ p.1 D) := by
  unfold Spec
  k_fill
  intro w news it itc qual pm ctv oc vs tq x tx hi hc hv hq hx hl mean mg mb dp un gd cn cs a ccd cl outer A₀ base h₀ L m s R B F X N T hk hts hd1 hu hret
  k_dflt (refine' kla_code (binds := [("n", .str x tx)]) ?k1 ?k2 ?k3 ?k4 ?k5 ?kA ?kF ?kK ?k6 ?k7 ?k8 ?k9 ?kB ?_ ?c2 ?c3 ?c4 ?c5;(case kA => exact rfl);(case kF => exact rfl);(case kK => assumption);(case k1 => k_asm);(case k2 => k_asm);(case k3 => k_asm);(case k4 => k_asm);(case k5 => k_asm);(case k6 => exact hi);(case k7 => exact codeRec_news (by k_asm) hc (by assumption) (by assumption));(case k8 => ktr_room);(case k9 => exact rfl);(case c5 => decide);(case kB => exact locs rfl);(case c2 => exact rfl);(case c3 => exact rfl);(case c4 => exact rfl);k_whole;intro g' L' h' FG' F' N' B' X' T';(try dsimp only);(try k_lift B');(try k_fold))
  have lt1 : ∀ p ∈ news,@LT.lt Nat _ p.1 h'.objs.size := fun p hp => Heap.lt_size (N' p hp).1
  k_steps
  rename_i l h1 tk1 e0 e1 e2 e3 F1 N1 kF kN kT kX
  rw [hx] at e0
  obtain ⟨t,rfl⟩ : ∃ t,l = [(x,t)] := by
    exact one_of e0
  exact hret _ _ _ ⟨_,0,t,rfl,rfl,lt1⟩ ⟨rfl,rfl⟩ kF kN
end
section
noncomputable abbrev wE (P : Params) (x : Str) (t : Tok) (v : Value) : DictEntry := ⟨PyData.keyHash P x, .str x t,v⟩
set_option genInjectivity false in
set_option genSizeOf false in
structure WA where
  (W DW wrt wire D L0 T0 DS NS PM PS it itc : Addr)
  (t0 t1 t2 t3 t4 t5 t6 t7 t8 t9 t10 t11 t12 t13 t14 t15 t16 t17 : Tok)
set_option genInjectivity false in
set_option genSizeOf false in
structure WQ where
  (its das dss nss pss : Array Value)
  (n nd nds nns nps : Nat)
  (seen done : Bool)
  ti : Tok
noncomputable abbrev wrDict (P : Params) (a : WA) (q : WQ) : Obj := dictOf [wE P "_write" a.t0 (.ref a.wrt),wE P "_data" a.t1 (.ref a.D),wE P "_with_comments" a.t2 (.bool true),wE P "_strip_text" a.t3 (.bool false),
  wE P "_exclude_attrs" a.t4 .none,wE P "_exclude_tags" a.t5 .none,wE P "_rewrite_prefixes" a.t6 (.bool false),wE P "_qname_aware_tags" a.t7 .none,wE P "_find_qname_aware_attrs" a.t8 .none,
  wE P "_declared_ns_stack" a.t9 (.ref a.DS),wE P "_ns_stack" a.t10 (.ref a.NS),wE P "_prefix_map" a.t11 (.ref a.PM),wE P "_preserve_space" a.t12 (.ref a.PS),wE P "_pending_start" a.t13 .none,
  wE P "_root_seen" a.t14 (.bool q.seen),wE P "_root_done" a.t15 (.bool q.done),wE P "_ignored_depth" a.t16 (.int 0 q.ti),wE P "_iter_namespaces" a.t17 (.ref a.it)] 18
noncomputable abbrev wr (P : Params) (a : WA) (q : WQ) (rest : List (Addr × Obj)) : List (Addr × Obj) :=
  (a.PS,listOf q.pss q.nps) :: (a.NS,listOf q.nss q.nns) :: (a.DS,listOf q.dss q.nds) :: (a.D,listOf q.das q.nd) :: (a.W,instObj 150 a.DW) :: (a.DW,wrDict P a q) :: (a.wire,listOf q.its q.n) :: rest
structure WOk (a : WA) (rest : List (Addr × Obj)) : Prop where
  l0 : @LT.lt Nat _ a.wire a.DW
  l1 : @LT.lt Nat _ a.DW a.W
  l2 : @LT.lt Nat _ a.W a.D
  l3 : @LT.lt Nat _ a.D a.DS
  l4 : @LT.lt Nat _ a.DS a.NS
  l5 : @LT.lt Nat _ a.NS a.PS
  o0 : ∀ p ∈ rest,p.1 ≠ a.wire
  o1 : ∀ p ∈ rest,p.1 ≠ a.DW
  o2 : ∀ p ∈ rest,p.1 ≠ a.D
  o3 : ∀ p ∈ rest,p.1 ≠ a.DS
  o4 : ∀ p ∈ rest,p.1 ≠ a.NS
  o5 : ∀ p ∈ rest,p.1 ≠ a.PS
  o6 : ∀ p ∈ rest,p.1 ≠ a.W
  mw : (a.wrt,bndObj "list.append" (.ref a.wire)) ∈ rest
theorem News.cons_ {h₀ h : Heap} {L : Addr} {p : Addr × Obj} {r : List (Addr × Obj)} (a : h.get? p.1 = some p.2 ∧ p.1 ≠ L ∧ h₀.get? p.1 = none) (N : News h₀ L h r) : News h₀ L h (p :: r) := fun q hq => by
  rcases List.mem_cons.mp hq with rfl | hq
  · exact a
  · exact N q hq
theorem ne_of_allLt {d : Addr} {r : List (Addr × Obj)} (h : ∀ p ∈ r,@LT.lt Nat _ p.1 d) : ∀ p ∈ r,p.1 ≠ d := fun p hp => Nat.ne_of_lt (h p hp)
theorem mem_by {p : Addr × Obj} {r : List (Addr × Obj)} (h : p ∈ r) : List.Mem p r := h
theorem allC {d : Addr} {p : Addr × Obj} {r : List (Addr × Obj)} (h : p.1 ≠ d) (k : ∀ q ∈ r,q.1 ≠ d) : ∀ q ∈ p :: r,q.1 ≠ d := List.forall_mem_cons.mpr ⟨h,k⟩
theorem rows_wr0_1 : True := by
  (k_with "m:k_all" => (first | with_reducible assumption | exact Mine.ne_of_allLt (by with_reducible assumption) | ((repeat (refine' Mine.allC ?a9'15 ?_;(case a9'15 => k_ne)));first | exact List.forall_mem_nil _ | with_reducible assumption | exact Mine.ne_of_allLt (by with_reducible assumption)) | fail "none"))
  (k_with "m:k_mem" => (first | (goal_lacks List.Mem;first | ((repeat (with_reducible first | exact List.Mem.head _ | refine List.Mem.tail _ ?_));first | done | (with_reducible exact Mine.mem_by (by assumption))) | ((repeat (first | exact List.Mem.head _ | (with_reducible refine List.Mem.tail _ ?_)));first | done | exact Mine.mem_by (by with_reducible assumption)) | with_reducible assumption) | ((fail_if_success (with_reducible refine List.Mem.tail _ ?_));first | with_reducible assumption | (with_reducible exact Mine.mem_by (by assumption))) | fail "none"))
  trivial
theorem lt_of_allLt {d : Addr} : ∀ {l : List (Addr × Obj)},AllLt d l → ∀ p ∈ l,@LT.lt Nat _ p.1 d
  | [],_ => fun _ hp => nomatch hp
  | q :: r,h => fun p hp => by
    rcases List.mem_cons.mp hp with rfl | hp
    · exact h.1
    · exact lt_of_allLt h.2 p hp
theorem rows_wr0_2 : True := by
  (k_with "m:tb_lt" => (first | with_reducible assumption | exact (show _ ∧ AllLt _ _ by with_reducible assumption).2 | exact (show _ ∧ _ ∧ AllLt _ _ by with_reducible assumption).2.2 | exact (show _ ∧ _ ∧ _ ∧ AllLt _ _ by with_reducible assumption).2.2.2 | exact (show _ ∧ _ ∧ _ ∧ _ ∧ AllLt _ _ by with_reducible assumption).2.2.2.2 | exact (show _ ∧ _ ∧ _ ∧ _ ∧ _ ∧ AllLt _ _ by with_reducible assumption).2.2.2.2.2 | exact (show _ ∧ _ ∧ _ ∧ _ ∧ _ ∧ _ ∧ AllLt _ _ by with_reducible assumption).2.2.2.2.2.2 | exact (show _ ∧ _ ∧ _ ∧ _ ∧ _ ∧ _ ∧ _ ∧ AllLt _ _ by with_reducible assumption).2.2.2.2.2.2.2 | exact (show _ ∧ _ ∧ _ ∧ _ ∧ _ ∧ _ ∧ _ ∧ _ ∧ AllLt _ _ by with_reducible assumption).2.2.2.2.2.2.2.2 | exact (show _ ∧ _ ∧ _ ∧ _ ∧ _ ∧ _ ∧ _ ∧ _ ∧ _ ∧ AllLt _ _ by with_reducible assumption).2.2.2.2.2.2.2.2.2 | exact (show _ ∧ _ ∧ _ ∧ _ ∧ _ ∧ _ ∧ _ ∧ _ ∧ _ ∧ _ ∧ AllLt _ _ by with_reducible assumption).2.2.2.2.2.2.2.2.2.2 | exact (show _ ∧ _ ∧ _ ∧ _ ∧ _ ∧ _ ∧ _ ∧ _ ∧ _ ∧ _ ∧ _ ∧ AllLt _ _ by with_reducible assumption).2.2.2.2.2.2.2.2.2.2.2 | exact (show _ ∧ _ ∧ _ ∧ _ ∧ _ ∧ _ ∧ _ ∧ _ ∧ _ ∧ _ ∧ _ ∧ _ ∧ AllLt _ _ by with_reducible assumption).2.2.2.2.2.2.2.2.2.2.2.2 | exact (show _ ∧ _ ∧ _ ∧ _ ∧ _ ∧ _ ∧ _ ∧ _ ∧ _ ∧ _ ∧ _ ∧ _ ∧ _ ∧ AllLt _ _ by with_reducible assumption).2.2.2.2.2.2.2.2.2.2.2.2.2 | exact (show _ ∧ _ ∧ _ ∧ _ ∧ _ ∧ _ ∧ _ ∧ _ ∧ _ ∧ _ ∧ _ ∧ _ ∧ _ ∧ _ ∧ AllLt _ _ by with_reducible assumption).2.2.2.2.2.2.2.2.2.2.2.2.2.2 | exact (show _ ∧ _ ∧ _ ∧ _ ∧ _ ∧ _ ∧ _ ∧ _ ∧ _ ∧ _ ∧ _ ∧ _ ∧ _ ∧ _ ∧ _ ∧ AllLt _ _ by with_reducible assumption).2.2.2.2.2.2.2.2.2.2.2.2.2.2.2 | exact (show _ ∧ _ ∧ _ ∧ _ ∧ _ ∧ _ ∧ _ ∧ _ ∧ _ ∧ _ ∧ _ ∧ _ ∧ _ ∧ _ ∧ _ ∧ _ ∧ AllLt _ _ by with_reducible assumption).2.2.2.2.2.2.2.2.2.2.2.2.2.2.2.2 | exact (show _ ∧ _ ∧ _ ∧ _ ∧ _ ∧ _ ∧ _ ∧ _ ∧ _ ∧ _ ∧ _ ∧ _ ∧ _ ∧ _ ∧ _ ∧ _ ∧ _ ∧ AllLt _ _ by with_reducible assumption).2.2.2.2.2.2.2.2.2.2.2.2.2.2.2.2.2 | exact (show _ ∧ _ ∧ _ ∧ _ ∧ _ ∧ _ ∧ _ ∧ _ ∧ _ ∧ _ ∧ _ ∧ _ ∧ _ ∧ _ ∧ _ ∧ _ ∧ _ ∧ _ ∧ AllLt _ _ by with_reducible assumption).2.2.2.2.2.2.2.2.2.2.2.2.2.2.2.2.2.2 | exact (show _ ∧ _ ∧ _ ∧ _ ∧ _ ∧ _ ∧ _ ∧ _ ∧ _ ∧ _ ∧ _ ∧ _ ∧ _ ∧ _ ∧ _ ∧ _ ∧ _ ∧ _ ∧ _ ∧ AllLt _ _ by with_reducible assumption).2.2.2.2.2.2.2.2.2.2.2.2.2.2.2.2.2.2.2 | exact (show _ ∧ _ ∧ _ ∧ _ ∧ _ ∧ _ ∧ _ ∧ _ ∧ _ ∧ _ ∧ _ ∧ _ ∧ _ ∧ _ ∧ _ ∧ _ ∧ _ ∧ _ ∧ _ ∧ _ ∧ AllLt _ _ by with_reducible assumption).2.2.2.2.2.2.2.2.2.2.2.2.2.2.2.2.2.2.2.2 | exact (show _ ∧ _ ∧ _ ∧ _ ∧ _ ∧ _ ∧ _ ∧ _ ∧ _ ∧ _ ∧ _ ∧ _ ∧ _ ∧ _ ∧ _ ∧ _ ∧ _ ∧ _ ∧ _ ∧ _ ∧ _ ∧ AllLt _ _ by with_reducible assumption).2.2.2.2.2.2.2.2.2.2.2.2.2.2.2.2.2.2.2.2.2 | exact (show _ ∧ _ ∧ _ ∧ _ ∧ _ ∧ _ ∧ _ ∧ _ ∧ _ ∧ _ ∧ _ ∧ _ ∧ _ ∧ _ ∧ _ ∧ _ ∧ _ ∧ _ ∧ _ ∧ _ ∧ _ ∧ _ ∧ AllLt _ _ by with_reducible assumption).2.2.2.2.2.2.2.2.2.2.2.2.2.2.2.2.2.2.2.2.2.2 | exact (show _ ∧ _ ∧ _ ∧ _ ∧ _ ∧ _ ∧ _ ∧ _ ∧ _ ∧ _ ∧ _ ∧ _ ∧ _ ∧ _ ∧ _ ∧ _ ∧ _ ∧ _ ∧ _ ∧ _ ∧ _ ∧ _ ∧ _ ∧ AllLt _ _ by with_reducible assumption).2.2.2.2.2.2.2.2.2.2.2.2.2.2.2.2.2.2.2.2.2.2.2 | exact (show _ ∧ _ ∧ _ ∧ _ ∧ _ ∧ _ ∧ _ ∧ _ ∧ _ ∧ _ ∧ _ ∧ _ ∧ _ ∧ _ ∧ _ ∧ _ ∧ _ ∧ _ ∧ _ ∧ _ ∧ _ ∧ _ ∧ _ ∧ _ ∧ AllLt _ _ by with_reducible assumption).2.2.2.2.2.2.2.2.2.2.2.2.2.2.2.2.2.2.2.2.2.2.2.2 | exact (show _ ∧ _ ∧ _ ∧ _ ∧ _ ∧ _ ∧ _ ∧ _ ∧ _ ∧ _ ∧ _ ∧ _ ∧ _ ∧ _ ∧ _ ∧ _ ∧ _ ∧ _ ∧ _ ∧ _ ∧ _ ∧ _ ∧ _ ∧ _ ∧ _ ∧ AllLt _ _ by with_reducible assumption).2.2.2.2.2.2.2.2.2.2.2.2.2.2.2.2.2.2.2.2.2.2.2.2.2))
  trivial
def Wrote (its its' : Array Value) (l : List Str) : Prop := ∃ vs,StrsAre vs l ∧ its'.toList = its.toList ++ vs
theorem Wrote.nil {its : Array Value} : Wrote its its [] := ⟨[], .nil,by simp⟩
theorem Wrote.push {its its' : Array Value} {l : List Str} (h : Wrote its its' l) (x : Str) (t : Tok) : Wrote its (its'.push (.str x t)) (l ++ [x]) := by
  obtain ⟨vs,a,b⟩ := h
  exact ⟨vs ++ [.str x t],StrsAre.append' a (.cons x t .nil),by rw [Array.toList_push,b,List.append_assoc]⟩
theorem Wrote.trans {a b c : Array Value} {l l' : List Str} (h : Wrote a b l) (h' : Wrote b c l') : Wrote a c (l ++ l') := by
  obtain ⟨vs,p,q⟩ := h
  obtain ⟨vs',p',q'⟩ := h'
  exact ⟨vs ++ vs',StrsAre.append' p p',by rw [q',q,List.append_assoc]⟩
structure WDid (q q' : WQ) (l : List Str) (k : Nat) : Prop where
  das : q'.das = #[]
  size : q'.its.size ≤ q.its.size + k
  wrote : Wrote q.its q'.its l
theorem int_eq_one {n : Nat} {k : Int} (h : k = n) : (k == 1) = decide (n = 1) := by
  subst h
  rcases Nat.lt_or_ge n 1 with h | h
  · have : n = 0 := by omega
    subst this;rfl
  · rcases Nat.lt_or_ge 1 n with h2 | h2
    · rw [decide_eq_false (by omega)]
      exact beq_eq_false_iff_ne.mpr (by omega)
    · have : n = 1 := by omega
      subst this;rfl
theorem held_none {das : Array Value} {ys : List Str} {x : Str} (h0 : das.size = 0) (hy : StrsAre das.toList ys) (hj : Txt.join "" ys = x) : x.length = 0 := by
  have e : das = #[] := Array.eq_empty_of_size_eq_zero h0
  subst e
  cases hy
  subst hj
  rfl
noncomputable abbrev endMark (z : Str) : Str := Str.empty ++ Str.ofString "</" ++ z ++ Str.ofString ">"
theorem push_le {a : Array Value} {v : Value} {k : Nat} (h : a.size + 1 ≤ k) : (a.push v).size ≤ k := by rw [Array.size_push];exact h
noncomputable abbrev remMark (z : Str) : Str := Str.empty ++ Str.ofString "<!--" ++ z ++ Str.ofString "-->"
end
section
noncomputable abbrev escC (x : Str) : Str := repl 13 "&#xD;" (repl 62 "&gt;" (repl 60 "&lt;" (repl 38 "&amp;" x)))
noncomputable abbrev escA (x : Str) : Str := repl 13 "&#xD;" (repl 10 "&#xA;" (repl 9 "&#x9;" (repl 34 "&quot;" (repl 60 "&lt;" (repl 38 "&amp;" x)))))
noncomputable def piMark (p z : Str) : Str := if z.length = 0 then Str.empty ++ Str.ofString "<?" ++ p ++ Str.ofString "?>" else Str.empty ++ Str.ofString "<?" ++ p ++ Str.ofString " " ++ escC z ++ Str.ofString "?>"
theorem piMark_nil {p z : Str} (h : z.length = 0) : piMark p z = Str.empty ++ Str.ofString "<?" ++ p ++ Str.ofString "?>" := if_pos h
theorem piMark_pos {p z : Str} (h : 0 < z.length) : piMark p z = Str.empty ++ Str.ofString "<?" ++ p ++ Str.ofString " " ++ escC z ++ Str.ofString "?>" := if_neg (Nat.ne_of_gt h)
noncomputable abbrev attrMark (z : Str) : Str := Str.empty ++ Str.ofString " " ++ Str.ofString "k" ++ Str.ofString "=\"" ++ escA z ++ Str.ofString "\""
theorem escC_len {x : Str} (hx : x.length ≤ 50) : (escC x).length ≤ 20000 := by
  have l0 : (repl 38 "&amp;" x).length ≤ 250 := repl_len (by decide) (by show _ * 5 ≤ _;omega)
  have l1 : (repl 60 "&lt;" (repl 38 "&amp;" x)).length ≤ 1000 := repl_len (by decide) (by show _ * 4 ≤ _;omega)
  have l2 : (repl 62 "&gt;" (repl 60 "&lt;" (repl 38 "&amp;" x))).length ≤ 4000 := repl_len (by decide) (by show _ * 4 ≤ _;omega)
  exact repl_len (by decide) (by show _ * 5 ≤ _;omega)
section
variable {prog : Program} {w : World} {A : Around} {E : Value → Shared → Prop} {s : Shared}
theorem truthy_yes {x : Str} {t : Tok} {Q : Bool → Shared → Prop} (hx : 0 < x.length) (hb : x.length ≤ 10000000) (h : Q true { s with toks := s.toks + 1 + 1 }) : wpAny (model prog w) A (truthy (.str x t)) Q E s := by
  refine P.truthy_str (by omega) ?_
  rw [show ((x.length : Int) != 0) = true by simp;omega]
  exact h
theorem truthy_no {x : Str} {t : Tok} {Q : Bool → Shared → Prop} (hx : x.length = 0) (h : Q false { s with toks := s.toks + 1 + 1 }) : wpAny (model prog w) A (truthy (.str x t)) Q E s := by
  refine P.truthy_str (by omega) ?_
  rw [show ((x.length : Int) != 0) = false by simp [hx]]
  exact h
end
theorem rows_wr2_1 : True := by
  (k_with "wr2:truthy str" => (k_here;first | (with_reducible refine Mine.truthy_yes (by with_reducible assumption) (by omega) ?_) | (with_reducible refine Mine.truthy_no (by with_reducible assumption) ?_)))
  trivial
end
section
section
variable {prog : Program} {w : World} {A : Around} {E : Value → Shared → Prop} {s : Shared} {h₀ : Heap} {L D : Addr} {m : Str → Option Value} {news news' : List (Addr × Obj)} {its : Array Value} {n : Nat}
theorem append_S {x : Value} {Q : Value → Shared → Prop} (F : Fr h₀ L s.heap m) (N : News h₀ L s.heap news) (U : Upd D (listOf its n) (listOf (its.push x) (n + 1)) news news') (hsz : its.size ≤ 100000)
    (h : ∀ h',Fr h₀ L h' m → News h₀ L h' news' → Q .none { s with heap := h' }) : wpAny (model prog w) A (call (.builtin "list.append") [.ref D,x]) Q E s :=
  append_K F N U h (by have : sizeLine = 16777216 := by decide
                       omega)
end
theorem rows_wr1_1 : True := by
  (k_with "wr1:call builtin:list.append" => (k_here;(with_reducible show wpAny _ _ (call (Value.builtin _) [Value.ref _,_]) _ _ _);k_dflt (refine' Mine.append_S ?F'19 ?N'19 ?U'19 ?Z'19 ?_;(case F'19 => k_asm);(case N'19 => k_asm);(case U'19 => k_upd);(case Z'19 => (try simp only [Array.size_push,List.size_toArray,List.length_cons,List.length_nil]);omega);k_whole);intro h''19 F''19 N''19;(try dsimp only at N''19)))
  trivial
def BndAt (q : Addr) (h : Heap) : Prop := ∃ id self,h.get? q = some (bndObj id self)
theorem BndAt.of {h₀ h : Heap} {L q : Addr} {id : String} {self : Value} {news : List (Addr × Obj)} (N : News h₀ L h news) (hm : (q,bndObj id self) ∈ news) : BndAt q h := ⟨id,self,(N _ hm).1⟩
theorem BndAt.ofK {P : Params} {h₀ h : Heap} {L q : Addr} {id : String} {self : Value} {m : Str → Option Value} (F : Fr h₀ L h m) (X : (K P).In h₀) (hm : (K P).lookup q = some (bndObj id self)) : BndAt q h := ⟨id,self,F.keep _ _ (X _ _ hm)⟩
section
variable {M : Model} {A : Around} {E : Value → Shared → Prop} {s : Shared} {env : Env} {pos : Pos} {first : List Value} {Q : Value → Shared → Prop} {q : Addr}
theorem keeps_B (h : Heap) (X : BndAt q h) : ∃ k,(k = Keeper.frame ∨ k = Keeper.machine ∨ k = Keeper.boundFrame) ∧ Looks M h (keeperOf (.ref q)) k := by
  obtain ⟨id,self,e⟩ := X
  exact ⟨.machine, .inr (.inl rfl),(Looks.ld (part := none) e).andThen .now⟩
theorem callWith_B {e : PySem.Expr} {rest : List PySem.Expr} (_X : BndAt q s.heap) (h : wpAny M A (spliced (backTo pos (starEach (e :: rest) env))) (fun vs s₁ => BndAt q s₁.heap ∧ wpAny M A (call (.ref q) (first ++ vs)) Q E s₁) E s)
    (he : starEach (e :: rest) env = (false,eval e env) :: starEach rest env := by rfl) (hplain : (backTo pos (starEach rest env)).any (·.1) = false := by rfl) :
    wpAny M A (callWith pos (.ref q) first (backTo pos (starEach (e :: rest) env)) []) Q E s := by
  rw [he] at h ⊢
  exact callWith_of (by show ((false || (backTo pos (starEach rest env)).any (·.1)) || false) = false;rw [hplain];rfl) keeps_B (PySem.Calls.evalArgs_plain h)
end
theorem rows_wr1_2 : True := by
  (k_with "wr1:callWith ref" => (k_here;k_dflt (refine' Mine.callWith_B ?k1'1a ?_;(case k1'1a => first | exact BndAt.of (by k_asm) (by k_mem) | exact BndAt.ofK (by k_asm) (by k_asm) rfl);k_whole)))
  (k_with "wr1:And" => ((with_reducible show Mine.BndAt _ _ ∧ _);refine ⟨by k_dflt first | exact BndAt.of (by k_asm) (by k_mem) | exact BndAt.ofK (by k_asm) (by k_asm) rfl,?_⟩;try dsimp only [List.nil_append,List.cons_append]))
  (k_with "wr1:call ref" => (k_here;(with_reducible show wpAny _ _ (call (Value.ref 98) [Value.ref _]) _ _ _);k_dflt (refine' Mine.join_K ?F'1c ?X'1c ?l'1c ?i'1c ?o'1c ?j'1c ?_;(case F'1c => k_asm);(case X'1c => k_asm);(case l'1c => is_list);(case i'1c => assumption);(case o'1c => assumption);(case j'1c => assumption);k_whole);intro t''1c k''1c))
  (k_with "wr1:call ref" => (k_here;(with_reducible show wpAny _ _ (call (Value.ref _) [Value.str _ _]) _ _ _);k_dflt (refine' Mine.wire_K ?F'1d ?N'1d ?x'1d ?U'1d ?Z'1d ?_;(case F'1d => k_asm);(case N'1d => k_asm);(case x'1d => k_mem);(case U'1d => k_upd);(case Z'1d => (try simp only [Array.size_push,List.size_toArray,List.length_cons,List.length_nil]);omega);k_whole);intro h''1d F''1d N''1d;(try dsimp only at N''1d)))
  trivial
end
section
inductive Pick (p : Addr × Obj) : List (Addr × Obj) → List (Addr × Obj) → Prop
  | head {r : List (Addr × Obj)} : Pick p (p :: r) r
  | tail {q : Addr × Obj} {r r' : List (Addr × Obj)} (d : Pick p r r') : Pick p (q :: r) (q :: r')
theorem Pick.mem {p : Addr × Obj} {r r' : List (Addr × Obj)} (d : Pick p r r') : p ∈ r := by
  induction d with
  | head => exact .head _
  | tail _ ih => exact .tail _ ih
theorem Pick.sub {p : Addr × Obj} {r r' : List (Addr × Obj)} (d : Pick p r r') : ∀ q ∈ r',q ∈ r := by
  induction d with
  | head => exact fun q h => .tail _ h
  | tail _ ih =>
    intro q h
    rcases List.mem_cons.mp h with rfl | h
    · exact .head _
    · exact .tail _ (ih q h)
theorem Pick.news {h₀ h : Heap} {L : Addr} {p : Addr × Obj} {r r' : List (Addr × Obj)} (d : Pick p r r') (N : News h₀ L h r) : News h₀ L h r' := fun q hq => N q (d.sub q hq)
theorem wr_pick {w : World} {h₀ h : Heap} {L : Addr} {W DW wrt wire D DS NS PM PS it : Addr} {t0 t1 t2 t3 t4 t5 t6 t7 t8 t9 t10 t11 t12 t13 t14 t15 t16 t17 : Tok} {its das dss nss pss : Array Value} {n nd nds nns nps : Nat} {seen done : Bool} {ti : Tok} {big r1 r2 r3 r4 r5 r6 r7 any : List (Addr × Obj)} (N : News h₀ L h big)
    (p1 : Pick (W,instObj 150 DW) big r1)
    (p2 : Pick (DW,dictOf [wE w.params "_write" t0 (.ref wrt),wE w.params "_data" t1 (.ref D),wE w.params "_with_comments" t2 (.bool true),wE w.params "_strip_text" t3 (.bool false),wE w.params "_exclude_attrs" t4 (.none),wE w.params "_exclude_tags" t5 (.none),wE w.params "_rewrite_prefixes" t6 (.bool false),wE w.params "_qname_aware_tags" t7 (.none),wE w.params "_find_qname_aware_attrs" t8 (.none),wE w.params "_declared_ns_stack" t9 (.ref DS),wE w.params "_ns_stack" t10 (.ref NS),wE w.params "_prefix_map" t11 (.ref PM),wE w.params "_preserve_space" t12 (.ref PS),wE w.params "_pending_start" t13 (.none),wE w.params "_root_seen" t14 (.bool seen),wE w.params "_root_done" t15 (.bool done),wE w.params "_ignored_depth" t16 (.int 0 ti),wE w.params "_iter_namespaces" t17 (.ref it)] 18) r1 r2)
    (p3 : Pick (PS,listOf pss nps) r2 r3)
    (p4 : Pick (NS,listOf nss nns) r3 r4)
    (p5 : Pick (DS,listOf dss nds) r4 r5)
    (p6 : Pick (D,listOf das nd) r5 r6)
    (_mw : (wrt,bndObj "list.append" (.ref wire)) ∈ any)    (p7 : Pick (wire,listOf its n) r6 r7)
    : News h₀ L h ((PS,listOf pss nps) :: (NS,listOf nss nns) :: (DS,listOf dss nds) :: (D,listOf das nd) :: (W,instObj 150 DW) :: (DW,dictOf [wE w.params "_write" t0 (.ref wrt),wE w.params "_data" t1 (.ref D),wE w.params "_with_comments" t2 (.bool true),wE w.params "_strip_text" t3 (.bool false),wE w.params "_exclude_attrs" t4 (.none),wE w.params "_exclude_tags" t5 (.none),wE w.params "_rewrite_prefixes" t6 (.bool false),wE w.params "_qname_aware_tags" t7 (.none),wE w.params "_find_qname_aware_attrs" t8 (.none),wE w.params "_declared_ns_stack" t9 (.ref DS),wE w.params "_ns_stack" t10 (.ref NS),wE w.params "_prefix_map" t11 (.ref PM),wE w.params "_preserve_space" t12 (.ref PS),wE w.params "_pending_start" t13 (.none),wE w.params "_root_seen" t14 (.bool seen),wE w.params "_root_done" t15 (.bool done),wE w.params "_ignored_depth" t16 (.int 0 ti),wE w.params "_iter_namespaces" t17 (.ref it)] 18) :: (wire,listOf its n) :: r7) := by
  have N1 := p1.news N
  have N2 := p2.news N1
  have N3 := p3.news N2
  have N4 := p4.news N3
  have N5 := p5.news N4
  have N6 := p6.news N5
  have N7 := p7.news N6
  exact News.cons_ (N2 _ p3.mem) (News.cons_ (N3 _ p4.mem) (News.cons_ (N4 _ p5.mem) (News.cons_ (N5 _ p6.mem) (News.cons_ (N _ p1.mem) (News.cons_ (N1 _ p2.mem) (News.cons_ (N6 _ p7.mem) (N7)))))))
theorem rows_wru_1 : True := by
  (k_with "m:k_upd" => (first | ((with_reducible show Upd _ _ _ _ _);(repeat (first | (refine' Upd.head ?a9'1e;(case a9'1e => k_all)) | (refine' Upd.tail (by k_ne) ?_;rotate_left)));done) | ((with_reducible show Pick _ _ _);(repeat (first | exact Mine.Pick.head | (refine' Mine.Pick.tail ?_;rotate_left)));done) | (exact Mine.Pick.head) | (refine' Mine.Pick.tail ?b9'1e;(case b9'1e => k_upd)) | fail "none"))
  trivial
theorem AllLt.mk {d : Addr} {l : List (Addr × Obj)} (h : AllLt d l) : AllLt d l := h
end
section
namespace LM
open LCg
variable {prog : Program} {w : World} {A : Around} {E : Value → Shared → Prop} {s : Shared} {h₀ : Heap} {L : Addr} {m : Str → Option Value} {env : Env}
theorem comp_loop {elt iter tgt : PySem.Expr} {scope : Scope} {pos : Pos} {it acc : Value} {env : Env} {R : Result → Shared → Prop} (I : Nat → Shared → Prop)
    (turn : ∀ n s,I n s → wpAny (model prog w) A (pyNext it) (fun r s₁ => match r with
      | none => R (.ok .next) s₁
      | some v => wpAny (model prog w) A (letOwnedTupleGo tgt it v) (fun _ s₁' => wpAny (model prog w) A (assign tgt env v) (fun _ s₂ =>
          wpAny (model prog w) A (eval elt env) (fun x s₄ =>
              wpAny (model prog w) A (call (.builtin "list.append") [acc,x]) (fun _ s₅ => ∃ m,m < n ∧ I m s₅) (notedBy (model prog w) A env fun e s' => R (.error e) s') s₄) (notedBy (model prog w) A env fun e s' => R (.error e) s') s₂)
          (notedBy (model prog w) A env fun e s' => R (.error e) s') s₁') (notedBy (model prog w) A env fun e s' => R (.error e) s') s₁) (notedBy (model prog w) A env fun e s' => R (.error e) s') s)
    (n : Nat) (h : I n s) : codeAny (model prog w) A (.compLoop (.ListComp elt [⟨tgt,iter,[],0⟩] scope pos) 0 it acc env) R s := by
  refine codeAny_loop rfl I (fun n s hI => ?_) n h
  show wpAny _ A ((compTurn (.ListComp elt [⟨tgt,iter,[],0⟩] scope pos) 0 it acc env).onRaise (fun x => do noteFrame x env;theTreesLotGoes x)) _ _ s
  refine wpAny_noted ?_
  rw [compTurn_list1]
  refine wpAny_bind (wpAny_standAt (wpAny_bind (wpAny_mono (turn n s hI) (fun r s₁ h₁ => ?_) fun _ _ h' => h')))
  cases r with
  | none => exact wpAny_pure h₁
  | some v =>
    refine wpAny_bind (wpAny_mono h₁ (fun _ s₁' h₁' => ?_) fun _ _ h' => h')
    exact wpAny_bind (wpAny_mono h₁' (fun _ s₂ h₂ => wpAny_bind (wpAny_bind (wpAny_mono h₂ (fun x s₄ h₄ => wpAny_bind (wpAny_mono h₄ (fun _ s₅ h₅ => wpAny_pure (wpAny_pure ⟨rfl,h₅⟩)) fun _ _ h' => h')) fun _ _ h' => h'))) fun _ _ h' => h')
def LEnd (h₀ : Heap) (L : Addr) (m : Str → Option Value) (s₁ : Shared) (I : Addr) (oI : Obj) (C : Addr) (oC : Obj) (D : Addr) (oD : Obj) (S : List (Addr × Obj) → Prop) (rest : Value → List (Addr × Obj) → Prop) (y : Value) (s₂ : Shared) : Prop :=
  ∃ h' dr tk news',s₂ = { s₁ with heap := h',drawn := dr,toks := tk } ∧ Fr h₀ L h' m ∧ News h₀ L h' ((I,oI) :: (C,oC) :: (D,oD) :: news') ∧ Off3 I C D news' ∧ S news' ∧ rest y news'
noncomputable def LRest (prog : Program) (w : World) (A : Around) (h₀ : Heap) (L : Addr) (m : Str → Option Value) (env : Env) (elt : PySem.Expr) (scope : Scope) (cl : List (Str × Addr)) (g : Array GenState) (os : OsState) (news₀ : List (Addr × Obj)) (S : List (Addr × Obj) → Prop) (P : Nat → Value → Prop)
    (B : Value → List (Addr × Obj) → (Str → Option Value) → Prop) (Fin : List Value → List (Addr × Obj) → Prop) : Nat → Nat → List Value → List (Addr × Obj) → Prop
  | 0,_,ys,news => Fin ys news
  | k + 1, i, ys, news => ∀ v I oI C oC D m₂ h dr tk (E' : Value → Shared → Prop), P i v → NsObj oC m₂ → B v news m₂ → Fr h₀ L h m → News h₀ L h ((I, oI) :: (C, oC) :: (D, lst ys) :: news) → Off3 I C D news → ((∀ q ∈ news₀, @LT.lt Nat _ q.1 I) ∧ (@LT.lt Nat _ I D) ∧ (@LT.lt Nat _ D C)) → 1 ≤ tk →
      wpAny (model prog w) A (eval elt (compEnvC scope cl C env))
        (LEnd h₀ L m ⟨h,g,dr,tk,os⟩ I oI C oC D (lst ys) S (fun y news' => LRest prog w A h₀ L m env elt scope cl g os news₀ S P B Fin k (i + 1) (ys ++ [y]) news')) E' ⟨h,g,dr,tk,os⟩
section
variable {elt : PySem.Expr} {scope : Scope} {cl : List (Str × Addr)} {g : Array GenState} {os : OsState} {news₀ : List (Addr × Obj)} {S : List (Addr × Obj) → Prop} {P : Nat → Value → Prop} {B : Value → List (Addr × Obj) → (Str → Option Value) → Prop} {Fin : List Value → List (Addr × Obj) → Prop}
theorem LRest.zero {i : Nat} {ys : List Value} {news : List (Addr × Obj)} (h : Fin ys news) : LRest prog w A h₀ L m env elt scope cl g os news₀ S P B Fin 0 i ys news := h
theorem LRest.succ {k i : Nat} {ys : List Value} {news : List (Addr × Obj)}
    (h : ∀ v I oI C oC D m₂ h dr tk (E' : Value → Shared → Prop),P i v → NsObj oC m₂ → B v news m₂ → Fr h₀ L h m → News h₀ L h ((I,oI) :: (C,oC) :: (D,lst ys) :: news) → Off3 I C D news → ((∀ q ∈ news₀,@LT.lt Nat _ q.1 I) ∧ (@LT.lt Nat _ I D) ∧ (@LT.lt Nat _ D C)) → 1 ≤ tk →
      wpAny (model prog w) A (eval elt (compEnvC scope cl C env))
        (LEnd h₀ L m ⟨h,g,dr,tk,os⟩ I oI C oC D (lst ys) S (fun y news' => LRest prog w A h₀ L m env elt scope cl g os news₀ S P B Fin k (i + 1) (ys ++ [y]) news')) E' ⟨h,g,dr,tk,os⟩) :
    LRest prog w A h₀ L m env elt scope cl g os news₀ S P B Fin (k + 1) i ys news := h
theorem LEnd.pick {I C D : Addr} {s₁ : Shared} {oI oC oD : Obj} {rest : Value → List (Addr × Obj) → Prop} {y : Value} {h' : Heap} {dr : Drawn} {tk : Nat} {big r1 r2 r3 : List (Addr × Obj)}
    (F : Fr h₀ L h' m) (N : News h₀ L h' big) (p1 : Pick (I,oI) big r1) (p2 : Pick (C,oC) r1 r2) (p3 : Pick (D,oD) r2 r3) (off : Off3 I C D r3) (hS : S r3) (r : rest y r3) :
    LEnd h₀ L m s₁ I oI C oC D oD S rest y { s₁ with heap := h',drawn := dr,toks := tk } :=
  ⟨h',dr,tk,r3,rfl,F,News.cons_ (N _ p1.mem) (News.cons_ (N _ (p1.sub _ p2.mem)) (News.cons_ (N _ (p1.sub _ (p2.sub _ p3.mem))) (p3.news (p2.news (p1.news N))))),off,hS,r⟩
end
def Binds1 (prog : Program) (w : World) (A : Around) (h₀ : Heap) (L : Addr) (env : Env) (tgt : PySem.Expr) (scope : Scope) (cl : List (Str × Addr)) (I : Addr) (P : Nat → Value → Prop) (St : Nat → Heap → Prop) (S : List (Addr × Obj) → Prop) (B : Value → List (Addr × Obj) → (Str → Option Value) → Prop) : Prop :=
  ∀ (i : Nat) (v : Value) (s : Shared) (m' : Str → Option Value) (C : Addr) (nw : List (Addr × Obj)) (Q : Unit → Shared → Prop) (E' : Value → Shared → Prop),P i v → St (i + 1) s.heap → S nw → News h₀ L s.heap nw → s.heap.Ns C m' →
    (∀ h₃ m₃ tk₃,h₃.Ns C m₃ → B v nw m₃ → (∀ b o,b ≠ C → s.heap.get? b = some o → h₃.get? b = some o) → 1 ≤ tk₃ → Q () { s with heap := h₃,toks := tk₃ }) →
    wpAny (model prog w) A (letOwnedTupleGo tgt (.ref I) v) (fun _ s₁ => wpAny (model prog w) A (assign tgt (compEnvC scope cl C env) v) Q E' s₁) E' s
theorem binds_name {x : Str} {px : Pos} {scope : Scope} {cl : List (Str × Addr)} {I : Addr} {P : Nat → Value → Prop} {St : Nat → Heap → Prop} {S : List (Addr × Obj) → Prop} (hkind : scope.kind = .function) (hx : scope.names.lookup x = some .local) :
    Binds1 prog w A h₀ L env (.Name x px) scope cl I P St S (fun v _ m => m x = some v) := by
  intro i v s m' C nw Q E' _ _ _ _ hn k
  refine wpAny_of_eq (show letOwnedTupleGo (.Name x px) (.ref I) v = pure () from rfl) ?_
  exact wpAny_assign_Name (wpAny_storeName_local (lookup_relabel_local hx) hn (fun h₃ hn₃ hs₃ => k h₃ _ _ hn₃ (by simp) (fun b o hb e => hs₃.extBut b o hb e) (Nat.le_add_left 1 _)) (by simp [compEnvC,relabel,hkind]))
theorem binds_pair {x x₂ : Str} {px px₂ tp : Pos} {xk} {scope : Scope} {cl : List (Str × Addr)} {I : Addr} {P : Nat → Value → Prop} {St : Nat → Heap → Prop} {S : List (Addr × Obj) → Prop} (hkind : scope.kind = .function) (hx : scope.names.lookup x = some .local) (hx₂ : scope.names.lookup x₂ = some .local) (hxx : x ≠ x₂) (hh : A.handled = none)
    (hLI : ∀ i h,St i h → ∃ l j,h.IsListIter I l j) (hT : ∀ i v nw,P i v → S nw → ∃ (t : Addr) (ot : Obj) (v₁ v₂ : Value) (nt : Nat),v = .ref t ∧ (t,ot) ∈ nw ∧ ot.cls = .type "tuple" ∧ ot.data = .seq #[v₁,v₂] nt) :
    Binds1 prog w A h₀ L env (.Tuple [.Name x px, .Name x₂ px₂] xk tp) scope cl I P St S (fun v nw m => ∃ (t : Addr) (ot : Obj) (v₁ v₂ : Value) (nt : Nat),v = .ref t ∧ (t,ot) ∈ nw ∧ ot.cls = .type "tuple" ∧ ot.data = .seq #[v₁,v₂] nt ∧ m x = some v₁ ∧ m x₂ = some v₂) := by
  have u0_ : Unit := ();have u1_ : Unit := ();have u2_ : Unit := ();have u3_ : Unit := ();have u4_ : Unit := ();have u5_ : Unit := ()
  revert hkind hx hx₂ hxx hh hLI hT
  revert prog w A h₀ L env x x₂ px px₂ tp xk scope cl I P St S u0_ u1_ u2_ u3_ u4_ u5_
  k_extra "m:t24"
  intros prog w A h₀ L env x x₂ px px₂ tp xk scope cl I P St S _ _ _ _ _ _ hkind hx hx₂ hxx hh hLI hT
  intro i v s m' C nw Q E' hP hst hS N hn k
  obtain ⟨t,ot,v₁,v₂,nt,rfl,hmt,hct,hdt⟩ := hT i v nw hP hS
  have ht : IsTup s.heap t #[v₁,v₂] := ⟨ot,(N _ hmt).1,hct,nt,hdt⟩
  obtain ⟨lI,jI,hLi⟩ := hLI _ _ hst
  refine wpAny_letOwnedTupleGo_listiter hLi ?_
  refine assign_Tuple_tuple hh ht rfl rfl fun h₅ he => ?_
  have he' : ∀ b o,s.heap.get? b = some o → h₅.get? b = some o := fun b o e => he b o (Nat.ne_of_lt (Heap.lt_size e)) e
  refine assignInOrder_cons (wpAny_assign_Name (wpAny_storeName_local (lookup_relabel_local hx) (hn.at' fun o e => he' _ o e) (fun h₆ hn₆ hs₆ => ?_) (by simp [compEnvC,relabel,hkind])))
  refine assignInOrder_cons (wpAny_assign_Name (wpAny_storeName_local (lookup_relabel_local hx₂) hn₆ (fun h₃ hn₃ hs₃ => ?_) (by simp [compEnvC,relabel,hkind])))
  refine assignInOrder_nil ?_
  exact k h₃ _ _ hn₃ ⟨t,ot,v₁,v₂,nt,rfl,hmt,hct,hdt,by simp [hxx],by simp⟩ (fun b o hb e => hs₃.extBut b o hb (hs₆.extBut b o hb (he' b o e))) (Nat.le_add_left 1 _)
theorem block {elt iter tgt : PySem.Expr} {scope : Scope} {cl : List (Str × Addr)} {pos : Pos} {s₂ : Shared} {I : Addr} {fp : List Addr} {n : Nat} {P : Nat → Value → Prop} {St : Nat → Heap → Prop} {S : List (Addr × Obj) → Prop} {B : Value → List (Addr × Obj) → (Str → Option Value) → Prop} {news : List (Addr × Obj)}
    {Fin : List Value → List (Addr × Obj) → Prop} {RR : Value → Addr → Result → Shared → Prop}
    (W : Walks prog w A I fp [I] n P St) (hsz : n ≤ 100000) (hIo : ∀ i h,St i h → ∃ o,h.get? I = some o)
    (hSt : ∀ i h h' o nw,St i h → h.get? I = some o → h'.get? I = some o → (∀ b o,h₀.get? b = some o → h'.get? b = some o) → News h₀ L h' nw → S nw → St i h')
    (hb : Binds1 prog w A h₀ L env tgt scope cl I P St S B) (hcell : ∀ y ∈ scope.names,y.2 ≠ .cell) (hkind : scope.kind = .function) (hst : St 0 s₂.heap) (hfp : ∀ b ∈ fp,b < s₂.heap.objs.size)
    (F : Fr h₀ L s₂.heap m) (N : News h₀ L s₂.heap news) (hIL : L ≠ I) (hI₀ : h₀.get? I = none) (off : ∀ p ∈ news,p.1 ≠ I) (offl : ∀ p ∈ news,@LT.lt Nat _ p.1 I) (hS : S news) (ht : 1 ≤ s₂.toks)
    (R : LRest prog w A h₀ L m env elt scope cl s₂.gens s₂.os news S P B Fin n 0 [] news)
    (hRR : ∀ D C h dr tk m' ys news',Fr h₀ L h m → News h₀ L h ((D,lst ys) :: news') → Off1 D news' → h.Ns C m' → h₀.get? C = none → h₀.get? D = none → C ≠ L → D ≠ L → C ≠ D → (∀ p ∈ news',p.1 ≠ C) → Fin ys news' → 1 ≤ tk → RR (.ref D) C (.ok .next) ⟨h,s₂.gens,dr,tk,s₂.os⟩) :
    wpAny (model prog w) A (newList []) (fun acc s₃ => wpAny (model prog w) A (newFunctionEnv scope env.globals cl [] env.qual none .none (some env)) (fun cenv s₄ =>
      codeAny (model prog w) A (.compStart (.ListComp elt [⟨tgt,iter,[],0⟩] scope pos) 0 (.ref I) acc { cenv with scope := relabel scope env }) (RR acc cenv.locals) s₄) E s₃) E s₂ := by
  have u0_ : Unit := ();have u1_ : Unit := ();have u2_ : Unit := ();have u3_ : Unit := ();have u4_ : Unit := ();have u5_ : Unit := ();have u6_ : Unit := ()
  revert W hsz hIo hSt hb hcell hkind hst hfp F N hIL hI₀ off offl hS ht R hRR
  revert prog w A E h₀ L m env elt iter tgt scope cl pos s₂ I fp n P St S B news Fin RR u0_ u1_ u2_ u3_ u4_ u5_ u6_
  k_extra "m:t32"
  intros prog w A E h₀ L m env elt iter tgt scope cl pos s₂ I fp n P St S B news Fin RR _ _ _ _ _ _ _ W hsz hIo hSt hb hcell hkind hst hfp F N hIL hI₀ off offl hS ht R hRR
  refine wpAny_newObj_type (wpAny_newFunctionEnv hcell (by intro y hy;simp at hy) (fun h₁ hns₁ hsb₁ => ?_) hkind)
  dsimp only at hns₁ hsb₁ ⊢
  generalize hH2 : s₂.heap.push { cls := .type "list",dict := none,data := .seq ([] : List Value).toArray } = H2 at hns₁ hsb₁ ⊢
  have hC : H2.objs.size = s₂.heap.objs.size + 1 := by rw [← hH2,Heap.size_push]
  have hDC : s₂.heap.objs.size ≠ H2.objs.size := by rw [hC];exact Nat.ne_of_lt (Nat.lt_succ_self _)
  have below : ∀ b,b < s₂.heap.objs.size → b ≠ H2.objs.size ∧ b ≠ s₂.heap.objs.size := fun b hb => ⟨by rw [hC];exact Nat.ne_of_lt (Nat.lt_succ_of_lt hb),Nat.ne_of_lt hb⟩
  have hDf : s₂.heap.objs.size ∉ fp := fun hm => Nat.lt_irrefl _ (hfp _ hm)
  have hCf : H2.objs.size ∉ fp := fun hm => by have := hfp _ hm;rw [hC] at this;exact Nat.lt_irrefl _ (Nat.lt_of_succ_lt this)
  have hIf : I ∈ fp := W.sub I (List.mem_singleton.mpr rfl)
  have hIlt : I < s₂.heap.objs.size := hfp I hIf
  have old : ∀ b o,s₂.heap.get? b = some o → h₁.get? b = some o := fun b o e => hsb₁.extBut b o (below b (Heap.lt_size e)).1 (Heap.get?_push_of_some _ (hH2 ▸ Heap.get?_push_of_some _ e))
  have hacc : h₁.get? s₂.heap.objs.size = some (lst []) := hsb₁.extBut _ _ hDC (Heap.get?_push_of_some _ (hH2 ▸ Heap.get?_push_size _ rfl))
  have hst₁ : St 0 h₁ := W.frame _ _ _ hst fun b _ o e => old b o e
  have fresh : ∀ a,s₂.heap.objs.size ≤ a → s₂.heap.get? a = none := fun a ha => by
    cases e : s₂.heap.get? a with
    | none => rfl
    | some o' => exact absurd (Heap.lt_size e) (Nat.not_lt.mpr ha)
  have fresh₀ : ∀ a,s₂.heap.objs.size ≤ a → h₀.get? a = none := fun a ha => by
    cases e : h₀.get? a with
    | none => rfl
    | some o' => have := F.keep a o' e;rw [fresh a ha] at this;cases this
  have hD₀ : h₀.get? s₂.heap.objs.size = none := fresh₀ _ (Nat.le_refl _)
  have hC₀ : h₀.get? H2.objs.size = none := fresh₀ _ (by rw [hC];exact Nat.le_succ _)
  have hLlt : L < s₂.heap.objs.size := F.ns.lt
  have hDL : s₂.heap.objs.size ≠ L := Ne.symm (below L hLlt).2
  have hCL : H2.objs.size ≠ L := Ne.symm (below L hLlt).1
  have hCI : I ≠ H2.objs.size := (below I hIlt).1
  have hDI : I ≠ s₂.heap.objs.size := (below I hIlt).2
  have off₀ : Off3 I H2.objs.size s₂.heap.objs.size news := Off3.of fun p hp => ⟨off p hp,(below _ (Heap.lt_size (N p hp).1)).1,(below _ (Heap.lt_size (N p hp).1)).2⟩
  have loop : ∀ s₃ : Shared, s₃ = { s₂ with heap := h₁, toks := s₂.toks + ([] : List (Str × Value)).length } →
      codeAny (model prog w) A (.compLoop (.ListComp elt [⟨tgt,iter,[],0⟩] scope pos) 0 (.ref I) (.ref s₂.heap.objs.size) (compEnvC scope cl H2.objs.size env))
        (RR (.ref s₂.heap.objs.size) H2.objs.size) s₃ := by
    rintro s₃ rfl
    refine comp_loop
      (fun k s' => ∃ h' dr tk i ys m' news',s' = ⟨h',s₂.gens,dr,tk,s₂.os⟩ ∧ 1 ≤ tk ∧ i ≤ n ∧ k = n + 1 - i ∧ ys.length = i ∧ St i h' ∧ Fr h₀ L h' m ∧ h'.Ns H2.objs.size m' ∧ News h₀ L h' ((s₂.heap.objs.size,lst ys) :: news') ∧
        Off3 I H2.objs.size s₂.heap.objs.size news' ∧ S news' ∧ LRest prog w A h₀ L m env elt scope cl s₂.gens s₂.os news S P B Fin (n - i) i ys news') ?_ (n + 1)
      ⟨h₁,_,_,0,[],_,news,rfl,ht,Nat.zero_le _,rfl,rfl,hst₁,F.keeps old,hns₁,fun p hp => ?_,off₀,hS,R⟩
    · rintro k s' ⟨h',dr,tk,i,ys,m',news',rfl,htk,hi,rfl,hyl,hst',F',hn',N',off',hS',R'⟩
      by_cases hlt : i < n
      · obtain ⟨j,hj⟩ : ∃ j,n - i = j + 1 := ⟨n - i - 1,by omega⟩
        rw [hj] at R'
        refine wpAny_with_toks htk (W.item i _ _ _ hlt hst' fun v h₂ tk₂ hPv hst₂ hk₂ htk₂ => ?_)
        have off3 := off'.mem
        have N₂ : News h₀ L h₂ ((s₂.heap.objs.size,lst ys) :: news') := news_but N' hk₂ fun p hp => by
          rcases List.mem_cons.mp hp with rfl | hp
          · exact Ne.symm hDI
          · exact (off3 p hp).1
        refine hb i v _ m' H2.objs.size news' _ _ hPv hst₂ hS' (fun p hp => N₂ p (List.mem_cons_of_mem _ hp)) (hn'.at' fun o e => hk₂ _ o (by simpa using Ne.symm hCI) e) fun h₃ m₃ tk₃ hn₃ hB old3 ht₃ => ?_
        dsimp only at old3
        have hst₃ : St (i + 1) h₃ := W.frame _ _ _ hst₂ fun b hb o e => old3 b o (fun q => hCf (by have q' : b = H2.objs.size := q;rw [← q'];exact hb)) e
        obtain ⟨oI,heI⟩ := hIo _ _ hst₃
        obtain ⟨oC,heC,hoC⟩ := ns_obj hn₃
        have F₂ := fr_but F' hk₂ hIL hI₀
        have F₃ : Fr h₀ L h₃ m := ⟨F₂.ns.at' fun o e => old3 _ o (Ne.symm hCL) e,fun b o e => old3 b o (fun q => by rw [q,hC₀] at e;cases e) (F₂.keep b o e),F₂.above⟩
        have N₃ : News h₀ L h₃ ((I,oI) :: (H2.objs.size,oC) :: (s₂.heap.objs.size,lst ys) :: news') := fun p hp => by
          rcases List.mem_cons.mp hp with rfl | hp
          · exact ⟨heI,Ne.symm hIL,hI₀⟩
          · rcases List.mem_cons.mp hp with rfl | hp
            · exact ⟨heC,hCL,hC₀⟩
            · have z := N₂ p hp
              refine ⟨old3 _ _ ?_ z.1,z.2⟩
              rcases List.mem_cons.mp hp with rfl | hp
              · exact hDC
              · exact (off3 p hp).2.1
        refine wpAny_with_toks ht₃ (wpAny_mono (R' v I oI H2.objs.size oC s₂.heap.objs.size m₃ h₃ dr tk₃ (notedBy (model prog w) A (compEnvC scope cl H2.objs.size env) fun e s' => RR (.ref s₂.heap.objs.size) H2.objs.size (.error e) s') hPv hoC hB F₃ N₃ off' ⟨offl,hIlt,by rw [hC];exact Nat.lt_succ_self _⟩ ht₃) (fun y s₄ h₄ ht₄ => ?_) fun _ _ e _ => e)
        obtain ⟨h₄,dr₄,tk₄,news₄,rfl,F₄,N₄,off₄,hS₄,R₄⟩ := h₄
        have zI := (N₄ (I,oI) List.mem_cons_self).1
        have zC := (N₄ (H2.objs.size,oC) (List.mem_cons_of_mem _ List.mem_cons_self)).1
        have zD := (N₄ (s₂.heap.objs.size,lst ys) (List.mem_cons_of_mem _ (List.mem_cons_of_mem _ List.mem_cons_self))).1
        have N₄' : News h₀ L h₄ news₄ := fun p hp => N₄ p (List.mem_cons_of_mem _ (List.mem_cons_of_mem _ (List.mem_cons_of_mem _ hp)))
        have hst₄ : St (i + 1) h₄ := hSt _ _ _ _ _ hst₃ heI zI F₄.keep N₄' hS₄
        refine append_at (hsz := by rw [List.size_toArray,hyl,sizeLine_eq];omega) zD fun h₅ hs₅ hD₅ => ?_
        have off4 := off₄.mem
        refine ⟨n + 1 - (i + 1),by omega,h₅,dr₄,tk₄,i + 1,ys ++ [y],_,news₄,rfl,ht₄,hlt,rfl,by rw [List.length_append,List.length_singleton,hyl],W.frame _ _ _ hst₄ fun b hb o e => hs₅.extBut b o (fun q => hDf (q ▸ hb)) e,F₄.change hs₅ hDL hD₀,
          (hoC.ns zC).sameBut hs₅ (Ne.symm hDC),fun p hp => ?_,off₄,hS₄,?_⟩
        · rcases List.mem_cons.mp hp with rfl | hp
          · exact ⟨hD₅.trans (congrArg some (lst_snoc ys y)),hDL,hD₀⟩
          · exact ⟨hs₅.extBut _ _ (off4 p hp).2.2 (N₄' p hp).1,(N₄' p hp).2⟩
        · rw [show n - (i + 1) = j by omega]
          exact R₄
      · obtain rfl : i = n := Nat.le_antisymm hi (Nat.not_lt.mp hlt)
        rw [Nat.sub_self] at R'
        refine wpAny_with_toks htk (W.done _ _ _ hst' fun h₂ tk₂ hk₂ htk₂ => ?_)
        have off3 := off'.mem
        exact hRR _ _ h₂ dr tk₂ _ ys news' (fr_but F' hk₂ hIL hI₀) (news_but N' hk₂ fun p hp => by
          rcases List.mem_cons.mp hp with rfl | hp
          · exact Ne.symm hDI
          · exact (off3 p hp).1) off'.one (hn'.at' fun o e => hk₂ _ o (by simpa using Ne.symm hCI) e) hC₀ hD₀ hCL hDL (Ne.symm hDC) (fun p hp => (off3 p hp).2.1) R' htk₂
    · rcases List.mem_cons.mp hp with rfl | hp
      · exact ⟨hacc,hDL,hD₀⟩
      · exact ⟨old _ _ (N p hp).1,(N p hp).2⟩
  exact codeAny_compStart_list (loop _ rfl) (W.self 0 _ _ _ hst₁ (loop _ rfl))
theorem ListComp_L {elt iter tgt : PySem.Expr} {scope : Scope} {cl : List (Str × Addr)} {pos : Pos} {Q : Value → Shared → Prop} (B : Value → List (Addr × Obj) → (Str → Option Value) → Prop) (S : Addr → Array Value → List (Addr × Obj) → Prop) (hS : ∀ ax its nw, S ax its nw → SrcAt h₀ ax its nw) (F₀ : Fr h₀ L s.heap m) (ht : 1 ≤ s.toks)
    (hclos : closureFor scope env = pure cl) (hcell : ∀ z ∈ scope.names,z.2 ≠ .cell) (hkind : scope.kind = .function) (hnames : ∀ z ∈ scope.names,z.2 = .local → scope.names.lookup z.1 = some .local) (hh : A.handled = none)
    (hb : ∀ I ax its,Binds1 prog w A h₀ L env tgt scope cl I (fun i v => its[i]? = some v) (fun i h => h.IsListIter I ax i ∧ h.IsList ax its) (S ax its) B)
    (h : wpAny (model prog w) A (eval iter env) (fun xv s₁ => ∃ ax its n news,xv = .ref ax ∧ Fr h₀ L s₁.heap m ∧ News h₀ L s₁.heap news ∧ (ax,listOf its n) ∈ news ∧ S ax its news ∧ its.size ≤ 100000 ∧
      LRest prog w A h₀ L m env elt scope cl s₁.gens s₁.os news (S ax its) (fun i v => its[i]? = some v) B (fun ys news => ∀ D h dr tk,Fr h₀ L h m → News h₀ L h ((D,lst ys) :: news) → Off1 D news → 1 ≤ tk → Q (.ref D) ⟨h,s₁.gens,dr,tk,s₁.os⟩) its.size 0 [] news) E s)
    (hs : ∀ x,foldedSetIterable iter env x = pure x := by intro _;rfl) :
    wpAny (model prog w) A (eval (.ListComp elt [⟨tgt,iter,[],0⟩] scope pos) env) Q E s := by
  have u0_ : Unit := ();have u1_ : Unit := ();have u2_ : Unit := ();have u3_ : Unit := ();have u4_ : Unit := ();have u5_ : Unit := ()
  revert hS F₀ ht hclos hcell hkind hnames hh hb h hs
  revert prog w A E s h₀ L m env elt iter tgt scope cl pos Q B S u0_ u1_ u2_ u3_ u4_ u5_
  k_extra "m:t24"
  intros prog w A E s h₀ L m env elt iter tgt scope cl pos Q B S _ _ _ _ _ _ hS F₀ ht hclos hcell hkind hnames hh hb h hs
  rw [eval_ListComp]
  refine wpAny_comprehension_free (use := none) rfl hs hclos hkind hnames (wpAny_with_toks ht (wpAny_mono h (fun xv s₁ h₁ ht₁ => ?_) fun _ _ e _ => e))
  obtain ⟨ax,its,n,news,rfl,F,N,hin,hS1,hsz,R⟩ := h₁
  have hl : s₁.heap.IsList ax its := (hS _ _ _ hS1).list F.keep N
  have hlt : ax < s₁.heap.objs.size := by obtain ⟨_,e,_⟩ := hl;exact Heap.lt_size e
  refine wpAny_pyIter_list hl ?_
  have up : ∀ b o,s₁.heap.get? b = some o → (s₁.heap.push { cls := .type "list_iterator",data := .fields #[.ref ax, .int 0 0] }).get? b = some o := fun b o e => Heap.get?_push_of_some _ e
  refine block (s₂ := { s₁ with heap := s₁.heap.push { cls := .type "list_iterator",data := .fields #[.ref ax, .int 0 0] } }) (Walks.list hh s₁.heap.objs.size ax (Nat.ne_of_lt hlt) its) hsz (fun i h st => by obtain ⟨o,e,_⟩ := st.1;exact ⟨o,e⟩) (fun i h h' o nw st e1 e2 k N' s' => list_st i h h' o nw st e1 e2 k N' (hS _ _ _ s')) (hb _ ax its) hcell hkind ⟨⟨_,Heap.get?_push_size _ rfl,rfl,rfl⟩,hl.push _⟩ (fun b hb => ?_)
    (F.keeps up) (N.grown up) (Nat.ne_of_lt F.ns.lt) (next_is_new F) (fun p hp => Nat.ne_of_lt (Heap.lt_size (N p hp).1)) (fun p hp => Heap.lt_size (N p hp).1) hS1 ht₁ R ?_
  · show b < (s₁.heap.push _).objs.size
    rw [Heap.size_push]
    rcases List.mem_cons.mp hb with rfl | hb
    · exact Nat.lt_succ_self _
    · rw [List.mem_singleton.mp hb];exact Nat.lt_succ_of_lt hlt
  · intro D C h dr tk m' ys news' F' N' o1 hn hC₀ hD₀ hCL hDL hCD offC fin htk
    refine ⟨m',hn,fun h'' hs'' => fin D h'' dr tk (F'.change hs'' hCL hC₀) (fun p hp => ?_) o1 htk⟩
    refine ⟨hs''.extBut _ _ ?_ (N' p hp).1,(N' p hp).2⟩
    rcases List.mem_cons.mp hp with rfl | hp
    · exact Ne.symm hCD
    · exact offC p hp
theorem Assign_ListComp_L {elt iter tgt : PySem.Expr} {y : Str} {py : Pos} {scope : Scope} {cl : List (Str × Addr)} {pos spos : Pos} {Q : Flow → Shared → Prop} (B : Value → List (Addr × Obj) → (Str → Option Value) → Prop) (S : Addr → Array Value → List (Addr × Obj) → Prop) (hS : ∀ ax its nw, S ax its nw → SrcAt h₀ ax its nw) (F₀ : Fr h₀ L s.heap m) (hLe : env.locals = L) (ht : 1 ≤ s.toks)
    (hsw : swapsWith (.ListComp elt [⟨tgt,iter,[],0⟩] scope pos) (some (.Name y py)) spos.line env = pure true)
    (hclos : closureFor scope env = pure cl) (hcell : ∀ z ∈ scope.names,z.2 ≠ .cell) (hkind : scope.kind = .function) (hnames : ∀ z ∈ scope.names,z.2 = .local → scope.names.lookup z.1 = some .local)
    (hy : env.kindOf y = some .local) (hp : (env.scope.kind == .class || (env.scope.kind == .module && env.locals != env.globals)) = false) (hh : A.handled = none)
    (hb : ∀ I ax its,Binds1 prog w A h₀ L env tgt scope cl I (fun i v => its[i]? = some v) (fun i h => h.IsListIter I ax i ∧ h.IsList ax its) (S ax its) B)
    (h : wpAny (model prog w) A (eval iter env) (fun xv s₁ => ∃ ax its n news,xv = .ref ax ∧ Fr h₀ L s₁.heap m ∧ News h₀ L s₁.heap news ∧ (ax,listOf its n) ∈ news ∧ S ax its news ∧ its.size ≤ 100000 ∧
      LRest prog w A h₀ L m env elt scope cl s₁.gens s₁.os news (S ax its) (fun i v => its[i]? = some v) B (fun ys news => ∀ D h dr tk,Fr h₀ L h (fun z => if z = y then some (.ref D) else m z) → News h₀ L h ((D,lst ys) :: news) → Off1 D news → 1 ≤ tk → Q .next ⟨h,s₁.gens,dr,tk,s₁.os⟩) its.size 0 [] news) E s)
    (hs : ∀ x,foldedSetIterable iter env x = pure x := by intro _;rfl) :
    wpAny (model prog w) A (exec (.Assign [.Name y py] (.ListComp elt [⟨tgt,iter,[],0⟩] scope pos) spos) env) Q E s := by
  have u0_ : Unit := ();have u1_ : Unit := ();have u2_ : Unit := ()
  revert hS F₀ hLe ht hsw hclos hcell hkind hnames hy hp hh hb h hs
  revert prog w A E s h₀ L m env elt iter tgt y py scope cl pos spos Q B S u0_ u1_ u2_
  k_extra "m:t24"
  intros prog w A E s h₀ L m env elt iter tgt y py scope cl pos spos Q B S _ _ _ hS F₀ hLe ht hsw hclos hcell hkind hnames hy hp hh hb h hs
  subst hLe
  rw [exec_Assign_Name_used _ _ _ _ hsw]
  refine wpAny_bind (wpAny_standAt (wpAny_bind ?_))
  show wpAny _ A (do let _ ← comprehension (.ListComp elt [⟨tgt,iter,[],0⟩] scope pos) scope env _ (newList []) false (eval iter env) (some (assign (.Name y py) env))) _ _ s
  refine wpAny_bind (wpAny_mono (wpAny_comprehension_free (use := some (assign (.Name y py) env)) (Q := fun _ s' => Q .next s') rfl hs hclos hkind hnames
    (wpAny_with_toks ht (wpAny_mono h (fun xv s₁ h₁ ht₁ => ?_) fun _ _ e _ => e))) (fun _ s' hq => wpAny_pure (wpAny_pure hq)) fun _ _ e => e)
  obtain ⟨ax,its,n,news,rfl,F,N,hin,hS1,hsz,R⟩ := h₁
  have hl : s₁.heap.IsList ax its := (hS _ _ _ hS1).list F.keep N
  have hlt : ax < s₁.heap.objs.size := by obtain ⟨_,e,_⟩ := hl;exact Heap.lt_size e
  refine wpAny_pyIter_list hl ?_
  have up : ∀ b o,s₁.heap.get? b = some o → (s₁.heap.push { cls := .type "list_iterator",data := .fields #[.ref ax, .int 0 0] }).get? b = some o := fun b o e => Heap.get?_push_of_some _ e
  refine block (s₂ := { s₁ with heap := s₁.heap.push { cls := .type "list_iterator",data := .fields #[.ref ax, .int 0 0] } }) (Walks.list hh s₁.heap.objs.size ax (Nat.ne_of_lt hlt) its) hsz (fun i h st => by obtain ⟨o,e,_⟩ := st.1;exact ⟨o,e⟩) (fun i h h' o nw st e1 e2 k N' s' => list_st i h h' o nw st e1 e2 k N' (hS _ _ _ s')) (hb _ ax its) hcell hkind ⟨⟨_,Heap.get?_push_size _ rfl,rfl,rfl⟩,hl.push _⟩ (fun b hb => ?_)
    (F.keeps up) (N.grown up) (Nat.ne_of_lt F.ns.lt) (next_is_new F) (fun p hp => Nat.ne_of_lt (Heap.lt_size (N p hp).1)) (fun p hp => Heap.lt_size (N p hp).1) hS1 ht₁ R ?_
  · show b < (s₁.heap.push _).objs.size
    rw [Heap.size_push]
    rcases List.mem_cons.mp hb with rfl | hb
    · exact Nat.lt_succ_self _
    · rw [List.mem_singleton.mp hb];exact Nat.lt_succ_of_lt hlt
  · intro D C h' dr tk m' ys news' F' N' o1 hn hC₀ hD₀ hCL hDL hCD offC fin htk
    show wpAny _ A (assign (.Name y py) env (.ref D)) _ _ _
    refine wpAny_assign_Name (wpAny_storeName_local hy F'.ns (fun h₂ hn₂ hs₂ => ?_) hp)
    have hL₀ : h₀.get? env.locals = none := Heap.get?_none_of_le F'.above
    have F₂ : Fr h₀ env.locals h₂ (fun z => if z = y then some (.ref D) else m z) := ⟨hn₂,fun b o e => hs₂.extBut b o (fun q => by rw [q,hL₀] at e;cases e) (F'.keep b o e),F'.above⟩
    refine ⟨m',hn.sameBut hs₂ hCL,fun h'' hs'' => fin D h'' _ _ (F₂.change hs'' hCL hC₀) (fun p hp => ?_) o1 (Nat.le_add_left 1 _)⟩
    have z : h₂.get? p.1 = some p.2 := hs₂.extBut _ _ (N' p hp).2.1 (N' p hp).1
    refine ⟨hs''.extBut _ _ ?_ z,(N' p hp).2⟩
    rcases List.mem_cons.mp hp with rfl | hp
    · exact Ne.symm hCD
    · exact offC p hp
end LM
end
section
theorem WOk.cons {a : WA} {rest : List (Addr × Obj)} {p : Addr × Obj} (h : WOk a rest) (hp : @LT.lt Nat _ a.PS p.1 ∨ @LT.lt Nat _ p.1 a.wire) : WOk a (p :: rest) := by
  obtain ⟨l0,l1,l2,l3,l4,l5,o0,o1,o2,o3,o4,o5,o6,mw⟩ := h
  have e0 : @Ne Nat p.1 a.wire := by omega
  have e1 : @Ne Nat p.1 a.DW := by omega
  have e2 : @Ne Nat p.1 a.D := by omega
  have e3 : @Ne Nat p.1 a.DS := by omega
  have e4 : @Ne Nat p.1 a.NS := by omega
  have e5 : @Ne Nat p.1 a.PS := by omega
  have e6 : @Ne Nat p.1 a.W := by omega
  exact ⟨l0,l1,l2,l3,l4,l5,List.forall_mem_cons.mpr ⟨e0,o0⟩,List.forall_mem_cons.mpr ⟨e1,o1⟩,List.forall_mem_cons.mpr ⟨e2,o2⟩,List.forall_mem_cons.mpr ⟨e3,o3⟩,List.forall_mem_cons.mpr ⟨e4,o4⟩,List.forall_mem_cons.mpr ⟨e5,o5⟩,List.forall_mem_cons.mpr ⟨e6,o6⟩, .tail _ mw⟩
theorem Off3.cons' {I C D : Addr} {p : Addr × Obj} {r : List (Addr × Obj)} (h : LCg.Off3 I C D r) (h1 : @LT.lt Nat _ I D) (h2 : @LT.lt Nat _ D C) (hp : @LT.lt Nat _ p.1 I ∨ @LT.lt Nat _ C p.1) : LCg.Off3 I C D (p :: r) :=
  ⟨⟨by omega,by omega,by omega⟩,h⟩
theorem Off3.low {I C D : Addr} (h1 : @LT.lt Nat _ I D) (h2 : @LT.lt Nat _ D C) : ∀ {r : List (Addr × Obj)},AllLt I r → LCg.Off3 I C D r
  | [],_ => trivial
  | _ :: _,⟨a,b⟩ => Off3.cons' (Off3.low h1 h2 b) h1 h2 (.inl a)
theorem DEnd.pick {prog : Program} {w : World} {h₀ : Heap} {L I C D : Addr} {m : Str → Option Value} {s₁ : Shared} {oI oC oD : Obj} {S : List (Addr × Obj) → Prop} {rest : Str → Value → List (Addr × Obj) → Prop} {k : Str} {u : Tok} {y : Value} {h' : Heap} {dr : Drawn} {tk : Nat} {big r1 r2 r3 : List (Addr × Obj)}
    (F : Fr h₀ L h' m) (N : News h₀ L h' big) (p1 : Pick (I,oI) big r1) (p2 : Pick (C,oC) r1 r2) (p3 : Pick (D,oD) r2 r3) (off : LCg.Off3 I C D r3) (hS : S r3) (r : rest k y r3) :
    DCg.DEnd prog w h₀ L m s₁ I oI C oC D oD S rest (.str k u) y { s₁ with heap := h',drawn := dr,toks := tk } :=
  ⟨h',dr,tk,r3,k,u,rfl,rfl,F,News.cons_ (N _ p1.mem) (News.cons_ (N _ (p1.sub _ p2.mem)) (News.cons_ (N _ (p1.sub _ (p2.sub _ p3.mem))) (p3.news (p2.news (p1.news N))))),off,hS,r⟩
noncomputable abbrev lamQual : Str := (envOfC (Str.ofString "C14NWriterTarget._start") F126.2.2 0 126 (.ref 125)).qual ++ Str.ofString "<lambda>"
def LamOn : Prop := True
theorem with_toks {α : Type} {M : Model} {A : Around} {E : Value → Shared → Prop} {s : Shared} {t : Sem α} {Q : α → Shared → Prop} (ht : 1 ≤ s.toks) (h : wpAny M A t (fun v s' => 1 ≤ s'.toks → Q v s') E s) : wpAny M A t Q E s :=
  wpAny_with_toks ht (wpAny_mono h (fun _ _ x => x) fun _ _ e _ => e)
section
variable {w : World} {q : Addr} {news N2 : List (Addr × Obj)} {mean : ExcName → Option Value} {mg mb : Str → Option Value} {dp un : Nat} {gd : Option (List Code)} {cn : Str} {cs : Scope} {a : Addr} {ccd : Value} {cl : List (Str × Addr)} {outer : List Env} {A₀ : Around} {base h₀ : Heap} {L : Addr} {m : Str → Option Value} {s : Shared} {x : Str} {tx : Tok}
theorem key_turn (S : Spec w q 4 30 N2 [.str x tx] (fun v news' => ∃ D n t, v = .ref D ∧ news' = (D, listOf #[.str x t] n) :: N2 ∧ ∀ p ∈ N2, @LT.lt Nat _ p.1 D))
    (B : Below A₀ base outer h₀) (F : Fr h₀ L s.heap m) (X : (K w.params).In h₀) (N : News h₀ L s.heap N2) (T : Top topProg lw mean mg mb h₀) (hk : cs.kind = .function) (ht : 1 ≤ s.toks) (hd : dp + 4 < recursionLimit) (hu : un + 30 < cLine) :
    wpAny (model PySem.Challenge.rw_pg0304_01.row.prog w) (ktrTop dp un gd cn cs L a ccd cl outer) (call (.ref q) [.str x tx]) (KeyEnd h₀ L m N2 x s) (fun _ _ => False) s := by
  refine Spec.call S B F X N T hk ht hd hu fun v news' s' hr hs F' N' ht' => ?_
  obtain ⟨D,n,t,rfl,rfl,lt⟩ := hr
  obtain ⟨h',g',d',t',o'⟩ := s'
  obtain ⟨rfl,rfl⟩ := hs
  exact ⟨h',d',t',D,n,t,ht',rfl,rfl,F',N',fun p hp => Nat.ne_of_lt (lt p hp)⟩
end
section
variable {prog : Program} {w : World} {A : Around} {E : Value → Shared → Prop} {s : Shared} {h₀ : Heap} {L sd q : Addr} {m : Str → Option Value} {news : List (Addr × Obj)}
theorem sorted_oneK {hx : Int} {x : Str} {t : Tok} {j ep : Nat} {Q : Value → Shared → Prop} (F : Fr h₀ L s.heap m) (N : News h₀ L s.heap news) (hm : (sd, setO #[(hx, .str x t)] ep (oneT j (!(w.params.followText "set-order")))) ∈ news) (hh : A.handled = none) (ht : 1 ≤ s.toks)
    (turn : ∀ (h : Heap) (dr : Drawn) (tk : Nat) (N' : List (Addr × Obj)),1 ≤ tk → Fr h₀ L h m → News h₀ L h N' → (∀ p ∈ news,p ∈ N') →
      wpAny (model prog w) A.in1.in1 (call (.ref q) [.str x t]) (KeyEnd h₀ L m N' x ⟨h,s.gens,dr,tk,s.os⟩) (fun _ _ => False) ⟨h,s.gens,dr,tk,s.os⟩)
    (h : ∀ D h' dr tk c,1 ≤ tk → Fr h₀ L h' m → News h₀ L h' ((D,listOf #[.str x t] c) :: news) → (∀ p ∈ news,p.1 < D) → Q (.ref D) ⟨h',s.gens,dr,tk,s.os⟩) :
    wpAny (model prog w) A (call (.builtin "sorted") [.ref sd] [(Str.ofString "key", .ref q)]) Q E s :=
  sorted_one F N (N _ hm).1 rfl hh ht turn h
theorem sorted_twoK {o : Obj} {x y : Str} {t u : Tok} {Q : Value → Shared → Prop} (F : Fr h₀ L s.heap m) (N : News h₀ L s.heap news) (hm : (sd, o) ∈ news) (htwo : TwoSet o (.str x t) (.str y u)) (hxy : x.cps.toList < y.cps.toList) (hyx : ¬ y.cps.toList < x.cps.toList) (hne : x ≠ y) (hh : A.handled = none) (hu : A.in1.in1.units < cLine) (ht : 1 ≤ s.toks)
    (turn : ∀ z tz,(z,tz) = (x,t) ∨ (z,tz) = (y,u) → ∀ (h : Heap) (dr : Drawn) (tk : Nat) (N' : List (Addr × Obj)),1 ≤ tk → Fr h₀ L h m → News h₀ L h N' → (∀ p ∈ news,p ∈ N') →
      wpAny (model prog w) A.in1.in1 (call (.ref q) [.str z tz]) (KeyEnd h₀ L m N' z ⟨h,s.gens,dr,tk,s.os⟩) (fun _ _ => False) ⟨h,s.gens,dr,tk,s.os⟩)
    (h : ∀ D h' dr tk c,1 ≤ tk → Fr h₀ L h' m → News h₀ L h' ((D,listOf #[.str x t, .str y u] c) :: news) → (∀ p ∈ news,p.1 < D) → Q (.ref D) ⟨h',s.gens,dr,tk,s.os⟩) :
    wpAny (model prog w) A (call (.builtin "sorted") [.ref sd] [(Str.ofString "key", .ref q)]) Q E s :=
  sorted_two F N (N _ hm).1 htwo hxy hyx hne hh hu ht turn h
end
theorem rows_keyt_1 : True := by
  (k_with "keyt:call builtin:sorted cons" => (k_here;(with_reducible rename Mine.CutOn => hC9'1f);clear hC9'1f;refine Mine.Cut.go ?_))
  (k_with "keyt:eval Lambda Call" => (k_here;(with_reducible rename Mine.LamOn => hC9'1g);clear hC9'1g;refine Mine.with_toks ?ht9'1g ?_;(case ht9'1g => (refine Mine.leT ?_;(try dsimp only);omega))))
  trivial
end
section
theorem stored2 {x y : Str} {a b : Value} (h : y ≠ x) : stored (stored [] x a) y b = [(x,a),(y,b)] := by simp [stored,Ne.symm h]
theorem vA1 {x y : Str} {a b : Value} : valueAt [(x,a),(y,b)] x = some a := by simp [valueAt]
theorem vA2 {x y : Str} {a b : Value} (h : y ≠ x) : valueAt [(x,a),(y,b)] y = some b := by simp [valueAt,Ne.symm h]
section
variable {prog : Program} {w : World} {A : Around} {E : Value → Shared → Prop} {s : Shared} {h₀ : Heap} {L D : Addr} {o : Obj} {news : List (Addr × Obj)} {kvs : List (Str × Value)} {k : Str} {t : Tok} {v : Value} {n : Nat}
theorem dictO0 : (dictOf [] n).IsDictOf (PySem.strKind prog w) [] := ⟨#[],n,⟨rfl,rfl,rfl⟩,rfl,fun e he => by simp at he, .nil, .nil⟩
theorem dictO1 : (dictOf [wE w.params k t v] n).IsDictOf (PySem.strKind prog w) [(k,v)] :=
  ⟨_,n,⟨rfl,rfl,rfl⟩,rfl,fun e he => by simp at he;subst he;exact ⟨k,PySem.strKind_is prog w k t,rfl⟩, .cons (PySem.strKind_is prog w k t) rfl .nil,by simp⟩
theorem truthyD {b : Bool} {Q : Bool → Shared → Prop} (N : News h₀ L s.heap news) (hm : (D,o) ∈ news) (hd : o.IsDictOf (PySem.strKind prog w) kvs) (hs : (D == sysModules) = false) (hz : kvs.length ≤ 10) (hb : (!kvs.isEmpty) = b) (h : Q b { s with toks := s.toks + 1 + 1 }) : wpAny (model prog w) A (truthy (.ref D)) Q E s :=
  wpAny_truthy_dict (knd := PySem.strKind prog w) hs (Heap.dictOf_iff.mpr ⟨o,(N _ hm).1,hd⟩) (by omega) (by rw [hb];exact h)
theorem getD {r : Value} {Q : Value → Shared → Prop} (N : News h₀ L s.heap news) (hm : (D,o) ∈ news) (hd : o.IsDictOf (PySem.strKind prog w) kvs) (hs : (D == sysModules) = false) (hr : (valueAt kvs k).getD .none = r) (h : Q r { s with toks := s.toks + 1 }) : wpAny (model prog w) A (call (.builtin "dict.get") [.ref D, .str k t]) Q E s := by
  subst hr
  have hD : s.heap.DictOf (PySem.strKind prog w) D kvs := Heap.dictOf_iff.mpr ⟨o,(N _ hm).1,hd⟩
  exact call_meetsIn PySem.F.slot_dict_get hD.typeIs PySem.F.entry_dict_get (PySem.F.args_dict_get_2 _ _) (meets_dict_get (PySem.strKind prog w) D (PySem.strKind_is prog w k t) hs) ⟨_,hD.mapOf,h⟩
theorem methodD {name : Str} {id : String} {pl : Sem Bool} {Q : Value × List Value → Shared → Prop} (N : News h₀ L s.heap news) (hm : (D, o) ∈ news) (hd : o.IsDictOf (PySem.strKind prog w) kvs) (slot : Slot "dict" name id) (hty : typeOf (.builtin id) = pure (.type "method_descriptor"))
    (h : Q (.builtin id,[.ref D]) s) : wpAny (model prog w) A (getMethod (.ref D) name pl) Q E s := by
  have hD : s.heap.DictOf (PySem.strKind prog w) D kvs := Heap.dictOf_iff.mpr ⟨o,(N _ hm).1,hd⟩
  exact getMethod_builtin hD.typeIs PySem.F.plainAttrs_dict slot hty hD.mapOf.noDict h
theorem last_L {value slice : PySem.Expr} {its : Array Value} {k : Int} {u : Tok} {Q : Value → Shared → Prop} (N : News h₀ L s.heap news) (hm : (D, listOf its n) ∈ news) (hk : k = -1) (hx : its[its.size - 1]? = some v) (hz : its.size ≤ 100000) (h : Q v s)
    (hs : subscripted slice false (.ref D) (.int k u) = operate [.ref D, .int k u] (getItem (.ref D) (.int k u)) := by with_unfolding_all rfl) :
    wpAny (model prog w) A (subscriptTail value slice (.ref D) (.int k u)) Q E s := by
  subst hk
  have hl : s.heap.IsList D its := ⟨_,(N _ hm).1,rfl,_,rfl⟩
  have h0 : 0 < its.size := by
    rcases Nat.eq_zero_or_pos its.size with h | h
    · rw [Array.getElem?_eq_none (by omega)] at hx;cases hx
    · exact h
  refine tail_any hl.typeIs slot_list_getitem.lookup (wpAny_getItem_list_neg (x := v) hl (by decide) (by omega) (by omega) ?_ h) hs
  have : (-1 + ((its.size : Nat) : Int)).toNat = its.size - 1 := by omega
  rw [this];exact hx
theorem itemD {value slice : PySem.Expr} {r : Value} {Q : Value → Shared → Prop} (N : News h₀ L s.heap news) (hm : (D, o) ∈ news) (hd : o.IsDictOf (PySem.strKind prog w) kvs) (hr : valueAt kvs k = some r) (h : Q r { s with toks := s.toks + 1 })
    (hs : subscripted slice false (.ref D) (.str k t) = operate [.ref D, .str k t] (getItem (.ref D) (.str k t)) := by with_unfolding_all rfl) : wpAny (model prog w) A (subscriptTail value slice (.ref D) (.str k t)) Q E s := by
  have hD : s.heap.DictOf (PySem.strKind prog w) D kvs := Heap.dictOf_iff.mpr ⟨o,(N _ hm).1,hd⟩
  exact tail_any hD.typeIs PySem.F.slot_dict_getitem.lookup (wpAny_getItem_of (PySem.strKind_is prog w k t) hD.mapOf hr h) hs
end
theorem rows_dicts_1 : True := by
  (k_with "dicts:truthy ref" => (k_here;(with_reducible show wpAny _ _ (truthy (Value.ref _)) _ _ _);k_dflt (first | (refine' Mine.truthyD (b := true) ?N'1h ?M'1h ?D'1h ?S'1h ?Z'1h ?B'1h ?_;(case N'1h => k_asm);(case M'1h => k_mem);(case D'1h => first | exact Mine.dictO0 | exact Mine.dictO1 | with_reducible assumption);(case S'1h => with_reducible assumption);(case Z'1h => exact Nat.le_of_ble_eq_true rfl);(case B'1h => exact rfl);k_whole) | (refine' Mine.truthyD (b := false) ?N'1h ?M'1h ?D'1h ?S'1h ?Z'1h ?B'1h ?_;(case N'1h => k_asm);(case M'1h => k_mem);(case D'1h => first | exact Mine.dictO0 | exact Mine.dictO1 | with_reducible assumption);(case S'1h => with_reducible assumption);(case Z'1h => exact Nat.le_of_ble_eq_true rfl);(case B'1h => exact rfl);k_whole))))
  (k_with "dicts:call builtin:dict.get cons nil" => (k_here;(with_reducible show wpAny _ _ (call (Value.builtin "dict.get") [Value.ref _,Value.str _ _]) _ _ _);k_dflt (refine' Mine.getD (r := Value.none) ?N'1i ?M'1i ?D'1i ?S'1i ?R'1i ?_;(case N'1i => k_asm);(case M'1i => k_mem);(case D'1i => first | exact Mine.dictO0 | exact Mine.dictO1 | with_reducible assumption);(case S'1i => with_reducible assumption);(case R'1i => exact rfl);k_whole)))
  (k_with "dicts:subscriptTail" => (k_here;(with_reducible show wpAny _ _ (subscriptTail _ _ (Value.ref _) (Value.str _ _)) _ _ _);k_dflt (refine' Mine.itemD ?N'1j ?M'1j ?D'1j ?R'1j ?_ ?hs'1j;(case N'1j => k_asm);(case M'1j => k_mem);(case D'1j => first | exact Mine.dictO0 | exact Mine.dictO1 | with_reducible assumption);(case R'1j => first | exact rfl | exact Mine.vA1 | exact Mine.vA2 (by with_reducible assumption));(case hs'1j => with_unfolding_all rfl);k_whole)))
  (k_with "dicts:subscriptTail Name Name ref str" => (k_here;(with_reducible show wpAny _ _ (subscriptTail _ _ (Value.ref _) (Value.str _ _)) _ _ _);k_dflt (refine' Mine.itemD ?N'1k ?M'1k ?D'1k ?R'1k ?_ ?hs'1k;(case N'1k => k_asm);(case M'1k => k_mem);(case D'1k => first | exact Mine.dictO0 | exact Mine.dictO1 | with_reducible assumption);(case R'1k => first | exact rfl | exact Mine.vA1 | exact Mine.vA2 (by with_reducible assumption));(case hs'1k => with_unfolding_all rfl);k_whole)))
  (k_with "dicts:getMethod ref" => (k_here;(with_reducible show wpAny _ _ (getMethod (Value.ref _) (PySem.Str.ofString "get") _) _ _ _);k_dflt (refine' Mine.methodD ?N'1l ?M'1l ?D'1l PySem.F.slot_dict_get PySem.F.type_dict_get ?_;(case N'1l => k_asm);(case M'1l => k_mem);(case D'1l => first | exact Mine.dictO0 | exact Mine.dictO1 | with_reducible assumption);k_whole)))
  (k_with "dicts:subscriptTail" => (k_here;(with_reducible show wpAny _ _ (subscriptTail _ _ (Value.ref _) (Value.int _ _)) _ _ _);k_dflt (refine' Mine.last_L ?N'1m ?M'1m ?K'1m ?X'1m ?Z'1m ?_ ?hs'1m;(case K'1m => with_reducible_and_instances rfl);(case N'1m => k_asm);(case M'1m => k_mem);(case X'1m => with_reducible assumption);(case Z'1m => omega);(case hs'1m => with_unfolding_all rfl);k_whole)))
  (k_with "dicts:subscriptTail Name UnaryOp ref int" => (k_here;(with_reducible show wpAny _ _ (subscriptTail _ _ (Value.ref _) (Value.int _ _)) _ _ _);k_dflt (refine' Mine.last_L ?N'1n ?M'1n ?K'1n ?X'1n ?Z'1n ?_ ?hs'1n;(case K'1n => with_reducible_and_instances rfl);(case N'1n => k_asm);(case M'1n => k_mem);(case X'1n => with_reducible assumption);(case Z'1n => omega);(case hs'1n => with_unfolding_all rfl);k_whole)))
  (k_with "dicts:subscriptTail Attribute Name UnaryOp ref int" => (k_here;(with_reducible show wpAny _ _ (subscriptTail _ _ (Value.ref _) (Value.int _ _)) _ _ _);k_dflt (refine' Mine.last_L ?N'1o ?M'1o ?K'1o ?X'1o ?Z'1o ?_ ?hs'1o;(case K'1o => with_reducible_and_instances rfl);(case N'1o => k_asm);(case M'1o => k_mem);(case X'1o => with_reducible assumption);(case Z'1o => omega);(case hs'1o => with_unfolding_all rfl);k_whole)))
  (k_with "dicts:setDisplayStar ref" => (k_here;(with_reducible show wpAny _ _ (setDisplayStar _ (Value.ref _)) _ _ _);k_dflt (refine' Mine.star1K ?F'1p ?N'1p ?D'1p ?M'1p ?Ne'1p ?S'1p ?H'1p ?_;(case F'1p => k_asm);(case N'1p => k_asm);(case M'1p => k_mem);(case D'1p => k_all);(case Ne'1p => with_reducible assumption);(case S'1p => with_reducible assumption);(case H'1p => exact rfl);k_whole);intro h9'1p o9'1p tk9'1p t9'1p F9'1p N9'1p two9'1p le9'1p))
  trivial
end
section
section
variable {prog : Program} {w : World} {A : Around} {E : Value → Shared → Prop} {s : Shared} {K : Frag} {x C L : Addr} {h₀ : Heap} {m : Str → Option Value} {ox : Obj} {es : List DictEntry} {n : Nat} {name : Str} {v : Value}
theorem method_own {pl : Sem Bool} {Q : Value × List Value → Shared → Prop} {f : Addr} {g : Value} (F : Fr h₀ L s.heap m) (X₀ : K.In h₀) (I : InstAt s.heap x ox C (some (dictOf es n))) (hg : plainGet K C name = true) (hh : hasDictIn K C = true)
    (hf : findIn K (.ref C) name = some (some (.ref f))) (ht : isFn K (.ref f) = true) (hs : specialIn K (.ref f) "__get__" = some (some g)) (hd : takesIn K (.ref f) = some false) (hl : getL name es = some (some v)) (hv : handedIn v = true)
    (h : Q (v,[]) { s with toks := s.toks + 1 }) : wpAny (model prog w) A (getMethod (.ref x) name pl) Q E s := by
  have X := X₀.keeps F.keep
  have hga := (plainGet_of hg).1
  have hk := (plainGet_of hg).2
  have ht := beq_iff_eq.mp ht
  have hcan := PySem.F.canon_object_ga
  have hfo : findObj K C (some (dictOf es n)) name = some (.value v) := by
    obtain ⟨cd,hc,hdd⟩ := any_some hh
    unfold findObj
    rw [hc,Option.bind_some,hf,Option.bind_some]
    have ho : PySem.W.ownOf cd (some (dictOf es n)) name = some (some v) := by unfold PySem.W.ownOf;rw [if_pos hdd];show lookIn name (dictOf es n) = _;rw [lookIn_dict];exact hl
    simp [hs,hd,ho]
  have q : wpAny (model prog w) A (getAttr (.ref x) name) (fun v => Q (v,[])) E s := get_value X I hga hfo hv h
  unfold getMethod specialOf
  refine wpAny_bind (wpAny_bind (I.type.here ((looks_findIn X hga).here ?_)))
  dsimp only
  rw [hcan,if_neg (by decide)]
  refine wpAny_bind (wpAny_bind (I.type.here ((looks_findIn X hk).here ?_)))
  refine wpAny_bind (wpAny_bind (I.type.here ((looks_findIn X hf).here (wpAny_bind ((looks_typeIn X ht).here ?_)))))
  rw [if_neg (by decide +kernel)]
  refine wpAny_bind (wpAny_loadPart I.at_ ?_)
  have hdd := I.dict
  cases e : ox.dict with
  | none => rw [e] at hdd;exact hdd.elim
  | some dx =>
    rw [e] at hdd
    refine wpAny_bind (wpAny_bind (wpAny_loadPart hdd ?_))
    rw [nsLook_of (show lookIn name (dictOf es n) = some (some v) by rw [lookIn_dict];exact hl)]
    refine wpAny_pure ?_
    exact wpAny_bind (wpAny_mono q (fun _ _ x => wpAny_pure x) fun _ _ x => x)
end
theorem rows_mown_1 : True := by
  (k_with "mown:getMethod ref" => (k_here;(with_reducible show wpAny _ _ (getMethod (Value.ref _) (Str.ofString "_iter_namespaces") _) _ _ _);k_dflt (refine' Mine.method_own ?k1'1q ?k2'1q ?k3'1q ?k4'1q ?k5'1q ?k6'1q ?k7'1q ?k8'1q ?k9'1q ?ka'1q ?kb'1q ?_;(case k1'1q => k_asm);(case k2'1q => k_asm);(case k3'1q => k_inst);(case k4'1q => k_is);(case k5'1q => k_is);(case k6'1q => k_is);(case k7'1q => k_is);(case k8'1q => k_is);(case k9'1q => k_is);(case ka'1q => k_get);(case kb'1q => k_handed);k_whole);(try dsimp only)))
  trivial
def FnIn (q : Addr) (h : Heap) : Prop := ∃ o fd,h.get? q = some o ∧ o.data = .func fd
theorem FnIn.of {h₀ h : Heap} {L q : Addr} {o : Obj} {fd : FuncData} {news : List (Addr × Obj)} (N : News h₀ L h news) (hm : (q,o) ∈ news) (hd : o.data = .func fd) : FnIn q h := ⟨o,fd,(N _ hm).1,hd⟩
theorem FnIn.ofIt {h₀ h : Heap} {L q itc : Addr} {pm ctv : Value} {rest news : List (Addr × Obj)} (_h : (q,itObj pm itc ctv) ∈ rest) (hm : (q,itObj pm itc ctv) ∈ news) (N : News h₀ L h news) : FnIn q h := .of N hm rfl
section
variable {M : Model} {A : Around} {E : Value → Shared → Prop} {s : Shared} {env : Env} {pos : Pos} {first : List Value} {Q : Value → Shared → Prop} {q : Addr}
theorem keeps_Fn (h : Heap) (X : FnIn q h) : ∃ k,(k = Keeper.frame ∨ k = Keeper.machine ∨ k = Keeper.boundFrame) ∧ Looks M h (keeperOf (.ref q)) k := by
  obtain ⟨o,fd,e,hd⟩ := X
  refine ⟨.frame, .inl rfl,(Looks.ld (part := none) e).andThen ?_⟩
  rw [hd]
  exact .now
theorem callWith_Fn {e : PySem.Expr} {rest : List PySem.Expr} (_X : FnIn q s.heap) (h : wpAny M A (spliced (backTo pos (starEach (e :: rest) env))) (fun vs s₁ => FnIn q s₁.heap ∧ wpAny M A (call (.ref q) (first ++ vs)) Q E s₁) E s)
    (he : starEach (e :: rest) env = (false,eval e env) :: starEach rest env := by rfl) (hplain : (backTo pos (starEach rest env)).any (·.1) = false := by rfl) :
    wpAny M A (callWith pos (.ref q) first (backTo pos (starEach (e :: rest) env)) []) Q E s := by
  rw [he] at h ⊢
  exact callWith_of (by show ((false || (backTo pos (starEach rest env)).any (·.1)) || false) = false;rw [hplain];rfl) keeps_Fn (PySem.Calls.evalArgs_plain h)
end
theorem rows_mown_2 : True := by
  (k_with "mown:callWith ref" => (k_here;k_dflt (refine' Mine.callWith_Fn ?k1'1r ?_;(case k1'1r => refine' FnIn.ofIt ?h1'1r ?h2'1r ?h3'1r;(case h1'1r => with_reducible assumption);(case h3'1r => k_asm);(case h2'1r => k_mem));k_whole)))
  (k_with "mown:And" => ((with_reducible show Mine.FnIn _ _ ∧ _);refine ⟨by k_dflt (refine' FnIn.ofIt ?h1'1s ?h2'1s ?h3'1s;(case h1'1s => with_reducible assumption);(case h3'1s => k_asm);(case h2'1s => k_mem)),?_⟩;try dsimp only [List.nil_append,List.cons_append]))
  trivial
end
section
section
variable {prog : Program} {w : World} {A : Around} {E : Value → Shared → Prop} {s : Shared} {h₀ : Heap} {L D : Addr} {m : Str → Option Value} {news news' : List (Addr × Obj)} {its : Array Value} {n : Nat}
theorem isList_S (N : News h₀ L s.heap news) (hm : (D,listOf its n) ∈ news) : s.heap.IsList D its := ⟨_,(N _ hm).1,rfl,_,rfl⟩
theorem truthy_pos {Q : Bool → Shared → Prop} (N : News h₀ L s.heap news) (hm : (D,listOf its n) ∈ news) (hp : 0 < its.size) (hz : its.size ≤ 100000) (h : Q true { s with toks := s.toks + 1 + 1 }) : wpAny (model prog w) A (truthy (.ref D)) Q E s := by
  refine wpAny_truthy_list (isList_S N hm) (by omega) ?_
  have : its.isEmpty = false := by unfold Array.isEmpty;exact decide_eq_false (by omega)
  rw [this];exact h
theorem truthy_nil {Q : Bool → Shared → Prop} (N : News h₀ L s.heap news) (hm : (D,listOf its n) ∈ news) (hp : its.size = 0) (h : Q false { s with toks := s.toks + 1 + 1 }) : wpAny (model prog w) A (truthy (.ref D)) Q E s := by
  refine wpAny_truthy_list (isList_S N hm) (by omega) ?_
  have : its.isEmpty = true := by unfold Array.isEmpty;exact decide_eq_true hp
  rw [this];exact h
theorem len_S {Q : Value → Shared → Prop} (N : News h₀ L s.heap news) (hm : (D, listOf its n) ∈ news) (hz : its.size ≤ 100000) (h : ∀ k : Int, k = its.size → Q (.int k (s.toks + 1)) { s with toks := s.toks + 1 + 1 }) :
    wpAny (model prog w) A (call (.builtin "len") [.ref D]) Q E s :=
  PySem.Calls.call_len_list (isList_S N hm) (by omega) (h _ rfl)
theorem pop_S {v : Value} {Q : Value → Shared → Prop} (F : Fr h₀ L s.heap m) (N : News h₀ L s.heap news) (U : Upd D (listOf (its.push v) n) (listOf its (n + 1)) news news') (hz : its.size ≤ 100000)
    (h : ∀ h',Fr h₀ L h' m → News h₀ L h' news' → Q v { s with heap := h' }) : wpAny (model prog w) A (call (.builtin "list.pop") [.ref D]) Q E s := by
  have hline : sizeLine = 16777216 := by decide
  obtain ⟨pre,post,rfl,rfl,a,b⟩ := U.split
  have z := N (D,listOf (its.push v) n) (List.mem_append.mpr (.inr (.head _)))
  have hk : (its.push v).size - 1 = its.size := by rw [Array.size_push];omega
  have hy : (its.push v)[(its.push v).size - 1]? = some v := by rw [hk];simp
  have he : (its.push v).eraseIdxIfInBounds ((its.push v).size - 1) = its := by
    rw [hk]
    unfold Array.eraseIdxIfInBounds
    rw [dif_pos (by simp)]
    apply Array.toList_inj.mp
    rw [Array.toList_eraseIdx,Array.toList_push]
    have : its.size = its.toList.length := by simp
    rw [this,List.eraseIdx_append_of_length_le (Nat.le_refl _)]
    simp
  refine call_meets PySem.F.slot_list_pop ⟨_,z.1,rfl⟩ PySem.F.entry_list_pop (PySem.F.args_list_pop_1 _) (PySem.MeetsSeq.list_pop_last D _ n v hy (by rw [Array.size_push];omega)) ⟨z.1,h _ (F.change (Heap.SameBut.update ..) z.2.1 z.2.2) (kl_turn _ N a b he ?_)⟩
  simp
theorem last_S {value slice : PySem.Expr} {v : Value} {k : Int} {u : Tok} {Q : Value → Shared → Prop} (N : News h₀ L s.heap news) (hm : (D, listOf (its.push v) n) ∈ news) (hk : k = -1) (h : Q v s) (hz : its.size ≤ 100000)
    (hs : subscripted slice false (.ref D) (.int k u) = operate [.ref D, .int k u] (getItem (.ref D) (.int k u)) := by with_unfolding_all rfl) :
    wpAny (model prog w) A (subscriptTail value slice (.ref D) (.int k u)) Q E s := by
  subst hk
  have hl := isList_S N hm
  refine tail_any hl.typeIs slot_list_getitem.lookup (wpAny_getItem_list_neg (x := v) hl (by decide) (by simp;omega) (by decide) ?_ h) hs
  have : (-1 + (((its.push v).size : Nat) : Int)).toNat = its.size := by rw [Array.size_push];omega
  rw [this];simp
end
theorem rows_lst_1 : True := by
  (k_with "lst:truthy ref" => (k_here;(with_reducible show wpAny _ _ (truthy (Value.ref _)) _ _ _);k_dflt (first
    | (refine' Mine.truthy_pos ?N'1t ?M'1t ?P'1t ?Z'1t ?_;(case N'1t => k_asm);(case M'1t => k_mem);(case P'1t => first | (with_reducible assumption) | (simp only [Array.size_push,List.size_toArray,List.length_cons,List.length_nil];omega));(case Z'1t => (try simp only [Array.size_push,List.size_toArray,List.length_cons,List.length_nil]);omega);k_whole)
    | (refine' Mine.truthy_nil ?N'1t ?M'1t ?P'1t ?_;(case N'1t => k_asm);(case M'1t => k_mem);(case P'1t => with_reducible assumption);k_whole))))
  (k_with "lst:call builtin:len" => (k_here;(with_reducible show wpAny _ _ (call (Value.builtin "len") [Value.ref _]) _ _ _);k_dflt (refine' Mine.len_S ?N'1u ?M'1u ?Z'1u ?_;(case N'1u => k_asm);(case M'1u => k_mem);(case Z'1u => (try simp only [Array.size_push,List.size_toArray,List.length_cons,List.length_nil]);omega);k_whole);intro k''1u hk''1u))
  (k_with "lst:call builtin:list.pop" => (k_here;(try dsimp only);(with_reducible show wpAny _ _ (call (Value.builtin _) [Value.ref _]) _ _ _);k_dflt (refine' Mine.pop_S ?F'1v ?N'1v ?U'1v ?Z'1v ?_;(case F'1v => k_asm);(case N'1v => k_asm);(case U'1v => k_upd);(case Z'1v => (try simp only [Array.size_push,List.size_toArray,List.length_cons,List.length_nil]);omega);k_whole);intro h''1v F''1v N''1v;(try dsimp only at N''1v)))
  (k_with "lst:subscriptTail" => (k_here;(with_reducible show wpAny _ _ (subscriptTail _ _ (Value.ref _) (Value.int _ _)) _ _ _);k_dflt (refine' Mine.last_S ?N'1w ?M'1w ?K'1w ?_ ?Z'1w ?hs'1w;(case K'1w => with_reducible_and_instances rfl);(case N'1w => k_asm);(case M'1w => k_mem);(case Z'1w => omega);(case hs'1w => with_unfolding_all rfl);k_whole)))
  (k_with "lst:subscriptTail Name UnaryOp ref int" => (k_here;(with_reducible show wpAny _ _ (subscriptTail _ _ (Value.ref _) (Value.int _ _)) _ _ _);k_dflt (refine' Mine.last_S ?N'1x ?M'1x ?K'1x ?_ ?Z'1x ?hs'1x;(case K'1x => with_reducible_and_instances rfl);(case N'1x => k_asm);(case M'1x => k_mem);(case Z'1x => omega);(case hs'1x => with_unfolding_all rfl);k_whole)))
  (k_with "lst:subscriptTail Attribute Name UnaryOp ref int" => (k_here;(with_reducible show wpAny _ _ (subscriptTail _ _ (Value.ref _) (Value.int _ _)) _ _ _);k_dflt (refine' Mine.last_S ?N'1y ?M'1y ?K'1y ?_ ?Z'1y ?hs'1y;(case K'1y => with_reducible_and_instances rfl);(case N'1y => k_asm);(case M'1y => k_mem);(case Z'1y => omega);(case hs'1y => with_unfolding_all rfl);k_whole)))
  trivial
end
section
section
variable {prog : Program} {w : World} {A : Around} {E : Value → Shared → Prop} {s : Shared} {V d : Addr} {kvs : List (Str × Value)} {ep : Nat}
theorem collect_items {Q : List Value → Shared → Prop} (hh : A.handled = none) (hv : s.heap.IsItemsView V d) (hm : s.heap.DictAt (PySem.strKind prog w) d kvs ep) (hl : kvs.length ≤ 50)
    (h : ∀ h' tk as lo,(∀ b o,s.heap.get? b = some o → h'.get? b = some o) → as.length = kvs.length → s.heap.objs.size ≤ lo → KdxG (PySem.strKind prog w) kvs lo h' as → s.toks ≤ tk → Q (as.map Value.ref) ⟨h',s.gens,s.drawn,tk,s.os⟩) : wpAny (model prog w) A (collect (.ref V)) Q E s := by
  have hV : V < s.heap.objs.size := by obtain ⟨o,ho,_⟩ := hv;exact Heap.lt_size ho
  have hd : d < s.heap.objs.size := hm.lt_size
  refine wpAny_with_toks (Nat.le_refl s.toks) ?_
  unfold collect
  refine wpAny_bind (wpAny_runValue (codeAny_builtin PySem.F.entry_proto_collect ?_))
  rw [Around.under_plainId PySem.F.plain_proto_collect _]
  show wpAny _ A.in1 (newList [] >>= fun l => again (.builtin "list.__iadd__" ⟨[l, .ref V],[]⟩)) _ _ s
  refine wpAny_bind (wpAny_newObj_type ?_)
  refine wpAny_pure ⟨plainId_quiet PySem.F.plain_list_iadd _,codeAny_builtin PySem.F.entry_list_iadd ?_⟩
  rw [Around.under_plainId PySem.F.plain_list_iadd _]
  show wpAny _ A.in1 (Builtin.List.listExtendWith (.ref s.heap.objs.size) (.ref V) (.ref s.heap.objs.size)) _ _ _
  have hsz : (s.heap.push { cls := .type "list",data := .seq ([] : List Value).toArray }).objs.size = s.heap.objs.size + 1 := by rw [size_push']
  have hv1 : (s.heap.push { cls := .type "list",data := .seq ([] : List Value).toArray }).IsItemsView V d := by obtain ⟨o,ho,r⟩ := hv;exact ⟨o,Heap.get?_push_of_some _ ho,r⟩
  have hm1 : (s.heap.push { cls := .type "list",data := .seq ([] : List Value).toArray }).DictAt (PySem.strKind prog w) d kvs ep := hm.at' fun o e => Heap.get?_push_of_some _ e
  refine kdx_extend (R := fun r s' => match r with
    | .ok (.ret v) => wpAny (model prog w) A (match v with
        | .ref a => do
          match (← load a).data with
          | .seq xs _ => pure xs.toList
          | _ => unsupported "internal:collect"
        | _ => unsupported "internal:collect") (fun a s' => s.toks ≤ s'.toks → Q a s') (fun e s' => s.toks ≤ s'.toks → E e s') s'
    | .ok _ => False
    | .error e => s.toks ≤ s'.toks → E e s') (s := { s with heap := s.heap.push { cls := .type "list",data := .seq ([] : List Value).toArray } }) hh hv1 hm1 s.heap.objs.size (Nat.ne_of_gt hV) (Nat.ne_of_lt hd) (.ref s.heap.objs.size) 0 (Heap.get?_push_size _ rfl) (fun h' tk acc c as keep hS hlen hG hacc => ?_) (by rw [sizeLine_eq];omega)
  show wpAny _ A (load s.heap.objs.size >>= _) _ _ _
  refine wpAny_bind (wpAny_load hS ?_)
  refine wpAny_pure ?_
  intro htk
  rw [hacc]
  exact h h' tk as _ (fun b o e => keep b o (Nat.ne_of_lt (Heap.lt_size e)) (Heap.get?_push_of_some _ e)) hlen (by show s.heap.objs.size ≤ _;rw [hsz];exact Nat.le_succ _) hG htk
theorem sort_one {h₀ : Heap} {L a : Addr} {m : Str → Option Value} {news : List (Addr × Obj)} {v : Value} {n : Nat} {P : PySem.Fin → Shared → Prop} (F : Fr h₀ L s.heap m) (N : News h₀ L s.heap news) (ho : s.heap.get? a = some (seqObj "list" #[v] n)) (haL : a ≠ L) (ha0 : h₀.get? a = none) (hna : ∀ p ∈ news, p.1 ≠ a)
    (h : ∀ h' c,Fr h₀ L h' m → News h₀ L h' ((a,seqObj "list" #[v] c) :: news) → P (.done (.ret .none)) { s with heap := h' }) :
    wpAny (model prog w) A (Builtin.«list.sort» ⟨[.ref a],[]⟩) P E s := by
  have ha : a < s.heap.objs.size := Heap.lt_size ho
  have s1 := Heap.SameBut.update s.heap a (Obj.mapSeq fun _ => (#[] : Array Value))
  obtain ⟨e1,ho1⟩ : ∃ e1,(s.heap.update a (Obj.mapSeq fun _ => (#[] : Array Value))).get? a = some (seqObj "list" #[] e1) := ⟨_,get?_update_seq ho fun _ => #[]⟩
  have F3 : Fr h₀ L (((s.heap.update a (Obj.mapSeq fun _ => (#[] : Array Value))).push (seqObj "tuple" [v].toArray 0)).push (seqObj "list" #[] 0)) m := ((kas_fr F s1 haL ha0).push _).push _
  have N2 : News h₀ L (((s.heap.update a (Obj.mapSeq fun _ => (#[] : Array Value))).push (seqObj "tuple" [v].toArray 0)).push (seqObj "list" #[] 0)) news :=
    (kas_news N s1 hna).grown fun b x e => Heap.get?_push_of_some _ (Heap.get?_push_of_some _ e)
  have na : (((s.heap.update a (Obj.mapSeq fun _ => (#[] : Array Value))).push (seqObj "tuple" [v].toArray 0)).push (seqObj "list" #[] 0)).get? a = some (seqObj "list" #[] e1) := Heap.get?_push_of_some _ (Heap.get?_push_of_some _ ho1)
  rw [list_sort_plain]
  refine wpAny_bind (listItems_at ho rfl ?_)
  refine wpAny_bind (listUpdate_at ho rfl ?_ (by show 1 ≤ _;rw [sizeLine_eq];omega) (Nat.zero_le _))
  refine wpAny_bind (seqEpoch_at ho1 rfl ?_)
  refine wpAny_bind (wpAny_newTuple ?_ (by show 1 ≤ _;rw [sizeLine_eq];omega))
  refine wpAny_bind (wpAny_newList ?_ (Nat.zero_le _))
  refine wpAny_holding ?_
  dsimp only
  rw [if_pos (show (#[v] : Array Value).size < 2 from Nat.lt_succ_self 1),if_pos (show (#[v] : Array Value).size < 2 from Nat.lt_succ_self 1)]
  refine wpAny_bind (wpAny_pure ?_)
  rw [StateT.run_pure]
  refine wpAny_bind (wpAny_pure ?_)
  dsimp only
  have s2 := Heap.SameBut.update (((s.heap.update a (Obj.mapSeq fun _ => (#[] : Array Value))).push (seqObj "tuple" [v].toArray 0)).push (seqObj "list" #[] 0)) a (Obj.mapSeq fun _ => #[v])
  obtain ⟨c2,hc2⟩ : ∃ c2,((((s.heap.update a (Obj.mapSeq fun _ => (#[] : Array Value))).push (seqObj "tuple" [v].toArray 0)).push (seqObj "list" #[] 0)).update a (Obj.mapSeq fun _ => #[v])).get? a = some (seqObj "list" #[v] c2) := ⟨_,get?_update_seq na fun _ => #[v]⟩
  refine wpAny_bind (seqEpoch_at na rfl ?_)
  rw [show (fun _ : Array Value => Array.map (fun x : Keyed => x.2) (arrOf (SortSt.mk' general' (#[v].zip #[v]) #[] 7 none))) = fun _ => #[v] from funext fun _ => (by show Array.map (fun x : Keyed => x.2) (#[v].zip #[v]) = #[v];simp)]
  refine wpAny_bind (listUpdate_at na rfl ?_ (Nat.zero_le _) (by show 1 ≤ _;rw [sizeLine_eq];omega))
  simp only [bne_self_eq_false,Bool.false_eq_true,if_false]
  refine wpAny_pure (h _ c2 (kas_fr F3 s2 haL ha0) fun p hp => ?_)
  rcases List.mem_cons.mp hp with rfl | hp
  · exact ⟨hc2,haL,ha0⟩
  · exact ⟨(s2.2 p.1 (hna p hp)).trans (N2 p hp).1,(N2 p hp).2⟩
theorem sorted_items1 {h₀ : Heap} {L : Addr} {m : Str → Option Value} {news : List (Addr × Obj)} {k : Str} {tk0 : Tok} {v : Value} {n : Nat} {Q : Value → Shared → Prop} (F : Fr h₀ L s.heap m) (N : News h₀ L s.heap news) (hV : (V, ({ cls := .type "dict_items", data := .fields #[.ref d] } : Obj)) ∈ news) (hd : (d, dictOf [wE w.params k tk0 v] n) ∈ news) (hh : A.handled = none) (ht : 1 ≤ s.toks)
    (h : ∀ D T h' tk c u,1 ≤ tk → Fr h₀ L h' m → News h₀ L h' ((D,listOf #[.ref T] c) :: (T,({ cls := .type "tuple",data := .seq #[.str k u,v] 0 } : Obj)) :: news) → (∀ q ∈ news,q.1 < T) → T < D → Q (.ref D) ⟨h',s.gens,s.drawn,tk,s.os⟩) :
    wpAny (model prog w) A (call (.builtin "sorted") [.ref V]) Q E s := by
  refine Calls.call_function_entry kind_sorted plain_sorted entry_sorted (args_sorted1 _) ?_
  unfold Builtin.«sorted»
  refine wpAny_bind (m := checkCount "sorted" 1 1 _) (wpAny_pure ?_)
  have hm : s.heap.DictAt (PySem.strKind prog w) d [(k,v)] n := ⟨_,_,(N _ hd).1,⟨rfl,rfl,rfl⟩,rfl,fun e he => by simp at he;subst he;exact ⟨k,PySem.strKind_is prog w k tk0,rfl⟩, .cons (PySem.strKind_is prog w k tk0) rfl .nil,by simp⟩
  refine wpAny_bind (collect_items hh ⟨_,(N _ hV).1,rfl,rfl⟩ hm (show 1 ≤ 50 by decide) fun h1 tk1 as lo keep hlen hlo hG htk1 => ?_)
  obtain ⟨T,rfl⟩ : ∃ T,as = [T] := by
    match as,hlen with
    | [T],_ => exact ⟨T,rfl⟩
  obtain ⟨key,k',x',e1,hkey,hT⟩ := hG.pairs 0 T rfl
  obtain ⟨rfl,rfl⟩ : k = k' ∧ v = x' := by simpa using e1
  obtain ⟨u,rfl⟩ := Value.isStrOf_shape hkey
  have hTn : s.heap.objs.size ≤ T := Nat.le_of_lt (Nat.lt_of_le_of_lt hlo (hG.above T (.head _)))
  refine wpAny_bind (wpAny_newList ?_ (by show 1 ≤ _;rw [sizeLine_eq];omega))
  have keep2 : ∀ b x,s.heap.get? b = some x → (h1.push (seqObj "list" [Value.ref T].toArray 0)).get? b = some x := fun b x e => Heap.get?_push_of_some _ (keep b x e)
  have F2 : Fr h₀ L (h1.push (seqObj "list" [Value.ref T].toArray 0)) m := F.kept keep2
  have N2 : News h₀ L (h1.push (seqObj "list" [Value.ref T].toArray 0)) news := N.grown keep2
  have hL : L < s.heap.objs.size := F.ns.lt
  have hTlt : T < h1.objs.size := Heap.lt_size hT
  have hLT : L < T := Nat.lt_of_lt_of_le hL hTn
  have N3 : News h₀ L (h1.push (seqObj "list" [Value.ref T].toArray 0)) ((T,({ cls := .type "tuple",data := .seq #[.str k u,v] 0 } : Obj)) :: news) :=
    News.cons_ ⟨Heap.get?_push_of_some _ hT,Nat.ne_of_gt hLT,Heap.get?_none_of_le (Nat.le_trans F.above (Nat.le_of_lt hLT))⟩ N2
  have hD : ∀ p ∈ (T,({ cls := .type "tuple",data := .seq #[.str k u,v] 0 } : Obj)) :: news,p.1 < h1.objs.size := fun p hp => by
    rcases List.mem_cons.mp hp with rfl | hp
    · exact hTlt
    · exact Heap.lt_size (keep _ _ (N p hp).1)
  have hLD : L < h1.objs.size := Nat.lt_trans hLT hTlt
  have hoL : (h1.push (seqObj "list" [Value.ref T].toArray 0)).get? h1.objs.size = some (seqObj "list" [Value.ref T].toArray 0) := Heap.get?_push_size _ rfl
  refine wpAny_bind (wpAny_holding (wpAny_call_entry slot_list_sort ⟨_,hoL,rfl⟩ entry_list_sort ?body (args_list_sort _)))
  case body =>
    refine sort_one (v := .ref T) F2 N3 hoL (Nat.ne_of_gt hLD) (Heap.get?_none_of_le (Nat.le_trans F.above (Nat.le_of_lt hLD))) (fun p hp => Nat.ne_of_lt (hD p hp)) fun h' c F' N' => ⟨_,rfl,?_⟩
    exact wpAny_pure ⟨_,rfl,h _ T h' tk1 c u (Nat.le_trans ht htk1) F' N' (fun q hq => Nat.lt_of_lt_of_le (Heap.lt_size (N q hq).1) hTn) hTlt⟩
theorem itemsD {h₀ : Heap} {L : Addr} {m : Str → Option Value} {news : List (Addr × Obj)} {o : Obj} {Q : Value → Shared → Prop} (F : Fr h₀ L s.heap m) (N : News h₀ L s.heap news) (hm : (d, o) ∈ news) (hd : o.IsDictOf (PySem.strKind prog w) kvs) (hs : (d == sysModules) = false)
    (h : ∀ (V : Addr) h',Fr h₀ L h' m → News h₀ L h' ((V,{ cls := .type "dict_items",data := .fields #[.ref d] }) :: news) → (∀ q ∈ news,q.1 < V) → Q (.ref V) { s with heap := h' }) :
    wpAny (model prog w) A (call (.builtin "dict.items") [.ref d]) Q E s := by
  have hD : s.heap.DictOf (PySem.strKind prog w) d kvs := Heap.dictOf_iff.mpr ⟨o,(N _ hm).1,hd⟩
  exact call_meetsIn PySem.F.slot_dict_items hD.typeIs PySem.F.entry_dict_items (PySem.F.args_dict_items_1 _) (meets_dict_items (PySem.strKind prog w) d hs) ⟨⟨kvs,hD⟩,h _ _ (F.push _) (News.push F N _) fun q hq => Heap.lt_size (N q hq).1⟩
end
theorem rows_itemsort_1 : True := by
  (k_with "itemsort:getMethod ref" => (k_here;(with_reducible show wpAny _ _ (getMethod (Value.ref _) (PySem.Str.ofString "items") _) _ _ _);k_dflt (refine' Mine.methodD ?N'1z ?M'1z ?D'1z PySem.F.slot_dict_items PySem.F.type_dict_items ?_;(case N'1z => k_asm);(case M'1z => k_mem);(case D'1z => first | exact Mine.dictO0 | exact Mine.dictO1 | with_reducible assumption);k_whole)))
  (k_with "itemsort:call builtin:dict.items" => (k_here;(with_reducible show wpAny _ _ (call (Value.builtin "dict.items") [Value.ref _]) _ _ _);k_dflt (refine' Mine.itemsD ?F'20 ?N'20 ?M'20 ?D'20 ?S'20 ?_;(case F'20 => k_asm);(case N'20 => k_asm);(case M'20 => k_mem);(case D'20 => first | exact Mine.dictO0 | exact Mine.dictO1 | with_reducible assumption);(case S'20 => with_reducible assumption);k_whole);intro V9'20 h9'20 F9'20 N9'20 l9'20;(try k_lt l9'20)))
  (k_with "itemsort:call builtin:sorted cons" => (k_here;(with_reducible show wpAny _ _ (call (Value.builtin "sorted") [Value.ref _]) _ _ _);k_dflt (refine' Mine.sorted_items1 ?F'21 ?N'21 ?M'21 ?M2'21 ?H'21 ?T'21 ?_;(case F'21 => k_asm);(case N'21 => k_asm);(case M'21 => k_mem);(case M2'21 => k_mem);(case H'21 => exact rfl);(case T'21 => (refine Mine.leT ?_;(try dsimp only);omega));k_whole);intro SD9'21 T9'21 h9'21 tk9'21 c9'21 u9'21 ht9'21 F9'21 N9'21 l9'21 l8'21;(try k_lt l9'21);(try k_lt2 l8'21)))
  trivial
end
section
namespace LM
open LCg
variable {prog : Program} {w : World} {A : Around} {E : Value → Shared → Prop} {s : Shared} {h₀ : Heap} {L : Addr} {m : Str → Option Value} {env : Env}
def EEnd (h₀ : Heap) (L : Addr) (m : Str → Option Value) (g : Array GenState) (os : OsState) (big : List (Addr × Obj)) (Y : Value → Prop) (y : Value) (s₂ : Shared) : Prop :=
  ∃ h' dr tk,s₂ = ⟨h',g,dr,tk,os⟩ ∧ Fr h₀ L h' m ∧ News h₀ L h' big ∧ Y y
theorem EEnd.intro {g : Array GenState} {os : OsState} {big all : List (Addr × Obj)} {Y : Value → Prop} {y : Value} {h' : Heap} {dr : Drawn} {tk : Nat} (F : Fr h₀ L h' m) (N : News h₀ L h' all) (sub : ∀ p ∈ big, p ∈ all) (hY : Y y) :
    EEnd h₀ L m g os big Y y ⟨h',g,dr,tk,os⟩ := ⟨h',dr,tk,rfl,F,fun p hp => N p (sub p hp),hY⟩
def EnumSrc (prog : Program) (w : World) (A : Around) (h₀ : Heap) (L : Addr) (m : Str → Option Value) (env : Env) (elt : PySem.Expr) (x x₂ : Str) (scope : Scope) (cl : List (Str × Addr)) (Y : Value → Prop) (Fin : Addr → List Value → List (Addr × Obj) → Shared → Prop) (xv : Value) (s₁ : Shared) : Prop :=
  ∃ (e it l : Addr) (items : Array Value) (nl : Nat) (news : List (Addr × Obj)),xv = .ref e ∧ IsEnum s₁.heap e it 0 .none ∧ s₁.heap.IsListIter it l 0 ∧ Fr h₀ L s₁.heap m ∧ News h₀ L s₁.heap news ∧ (l,listOf items nl) ∈ news ∧ items.size ≤ 100000 ∧
    @LT.lt Nat _ L it ∧ @LT.lt Nat _ it e ∧ (∀ p ∈ news,@LT.lt Nat _ p.1 it) ∧ h₀.get? e = none ∧ h₀.get? it = none ∧
    (∀ i v t oe oi C oC D m₂ ys h dr tk (E' : Value → Shared → Prop),items[i]? = some v → NsObj oC m₂ → m₂ x = some (.int (i : Nat) t) → m₂ x₂ = some v → Fr h₀ L h m → News h₀ L h ((C,oC) :: (D,lst ys) :: (e,oe) :: (it,oi) :: news) → (@LT.lt Nat _ e D ∧ @LT.lt Nat _ D C) → 1 ≤ tk →
      wpAny (model prog w) A (eval elt (compEnvC scope cl C env)) (EEnd h₀ L m s₁.gens s₁.os ((C,oC) :: (D,lst ys) :: (e,oe) :: (it,oi) :: news) Y) E' ⟨h,s₁.gens,dr,tk,s₁.os⟩) ∧
    (∀ D ys h dr tk,Fr h₀ L h m → News h₀ L h ((D,lst ys) :: news) → (∀ p ∈ news,@LT.lt Nat _ p.1 D) → ys.length = items.size → (∀ y ∈ ys,Y y) → Fin D ys news ⟨h,s₁.gens,dr,tk,s₁.os⟩)
theorem enum_src {elt : PySem.Expr} {x x₂ : Str} {scope : Scope} {cl : List (Str × Addr)} {Y : Value → Prop} {Fin : Addr → List Value → List (Addr × Obj) → Shared → Prop} {l : Addr} {items : Array Value} {nl : Nat} {news : List (Addr × Obj)}
    (F : Fr h₀ L s.heap m) (N : News h₀ L s.heap news) (hm : (l,listOf items nl) ∈ news) (hz : items.size ≤ 100000)
    (turn : ∀ e it i v t oe oi C oC D m₂ ys h dr tk (E' : Value → Shared → Prop),items[i]? = some v → NsObj oC m₂ → m₂ x = some (.int (i : Nat) t) → m₂ x₂ = some v → Fr h₀ L h m → News h₀ L h ((C,oC) :: (D,lst ys) :: (e,oe) :: (it,oi) :: news) → (∀ p ∈ news,@LT.lt Nat _ p.1 it) → (@LT.lt Nat _ L it ∧ @LT.lt Nat _ it e ∧ @LT.lt Nat _ e D ∧ @LT.lt Nat _ D C) → 1 ≤ tk →
      wpAny (model prog w) A (eval elt (compEnvC scope cl C env)) (EEnd h₀ L m s.gens s.os ((C,oC) :: (D,lst ys) :: (e,oe) :: (it,oi) :: news) Y) E' ⟨h,s.gens,dr,tk,s.os⟩)
    (fin : ∀ D ys h dr tk,Fr h₀ L h m → News h₀ L h ((D,lst ys) :: news) → (∀ p ∈ news,@LT.lt Nat _ p.1 D) → ys.length = items.size → (∀ y ∈ ys,Y y) → Fin D ys news ⟨h,s.gens,dr,tk,s.os⟩) :
    wpAny (model prog w) A (call (.type "enumerate") [.ref l]) (EnumSrc prog w A h₀ L m env elt x x₂ scope cl Y Fin) E s := by
  have hl : s.heap.IsList l items := ⟨_,(N _ hm).1,rfl,_,rfl⟩
  refine call_enumerate_list hl fun h' hE hI hsz hk => ?_
  have fresh₀ : ∀ a,s.heap.objs.size ≤ a → h₀.get? a = none := fun a ha => by
    cases e : h₀.get? a with
    | none => rfl
    | some o' => exact absurd (Heap.lt_size (F.keep a o' e)) (Nat.not_lt.mpr ha)
  have lo : ∀ p ∈ news,@LT.lt Nat _ p.1 s.heap.objs.size := fun p hp => Heap.lt_size (N p hp).1
  exact ⟨_,s.heap.objs.size,l,items,nl,news,rfl,hE,hI,F.keeps hk,N.grown hk,hm,hz,F.ns.lt,Nat.lt_succ_self _,lo,fresh₀ _ (Nat.le_succ _),fresh₀ _ (Nat.le_refl _),
    fun i v t oe oi C oC D m₂ ys h dr tk E' a b c d F1 N1 o1 ht => turn _ _ i v t oe oi C oC D m₂ ys h dr tk E' a b c d F1 N1 lo ⟨F.ns.lt,Nat.lt_succ_self _,o1⟩ ht,fin⟩
theorem block_E {elt iter : PySem.Expr} {x x₂ : Str} {px px₂ tp : Pos} {xk} {scope : Scope} {cl : List (Str × Addr)} {pos : Pos} {s₂ : Shared} {e it l : Addr} {items : Array Value} {nl : Nat} {news : List (Addr × Obj)} {Y : Value → Prop} {RR : Value → Addr → Result → Shared → Prop}
    (hh : A.handled = none) (hcell : ∀ y ∈ scope.names,y.2 ≠ .cell) (hkind : scope.kind = .function) (hx : scope.names.lookup x = some .local) (hx₂ : scope.names.lookup x₂ = some .local) (hxx : x ≠ x₂)
    (hE : IsEnum s₂.heap e it 0 .none) (hI : s₂.heap.IsListIter it l 0) (F : Fr h₀ L s₂.heap m) (N : News h₀ L s₂.heap news) (hm : (l,listOf items nl) ∈ news) (hz : items.size ≤ 100000) (hLi : @LT.lt Nat _ L it) (hie : @LT.lt Nat _ it e) (hlo : ∀ p ∈ news,@LT.lt Nat _ p.1 it) (he₀ : h₀.get? e = none) (hi₀ : h₀.get? it = none)
    (turn : ∀ i v t oe oi C oC D m₂ ys h dr tk (E' : Value → Shared → Prop),items[i]? = some v → NsObj oC m₂ → m₂ x = some (.int (i : Nat) t) → m₂ x₂ = some v → Fr h₀ L h m → News h₀ L h ((C,oC) :: (D,lst ys) :: (e,oe) :: (it,oi) :: news) → (@LT.lt Nat _ e D ∧ @LT.lt Nat _ D C) → 1 ≤ tk →
      wpAny (model prog w) A (eval elt (compEnvC scope cl C env)) (EEnd h₀ L m s₂.gens s₂.os ((C,oC) :: (D,lst ys) :: (e,oe) :: (it,oi) :: news) Y) E' ⟨h,s₂.gens,dr,tk,s₂.os⟩)
    (hRR : ∀ D C h dr tk m' ys,Fr h₀ L h m → News h₀ L h ((D,lst ys) :: news) → (∀ p ∈ news,@LT.lt Nat _ p.1 D) → h.Ns C m' → h₀.get? C = none → h₀.get? D = none → C ≠ L → D ≠ L → C ≠ D → (∀ p ∈ news,p.1 ≠ C) → ys.length = items.size → (∀ y ∈ ys,Y y) → RR (.ref D) C (.ok .next) ⟨h,s₂.gens,dr,tk,s₂.os⟩) :
    wpAny (model prog w) A (newList []) (fun acc s₃ => wpAny (model prog w) A (newFunctionEnv scope env.globals cl [] env.qual none .none (some env)) (fun cenv s₄ =>
      codeAny (model prog w) A (.compStart (.ListComp elt [⟨.Tuple [.Name x px, .Name x₂ px₂] xk tp,iter,[],0⟩] scope pos) 0 (.ref e) acc { cenv with scope := relabel scope env }) (RR acc cenv.locals) s₄) E s₃) E s₂ := by
  have u0_ : Unit := ();have u1_ : Unit := ();have u2_ : Unit := ();have u3_ : Unit := ()
  revert hh hcell hkind hx hx₂ hxx hE hI F N hm hz hLi hie hlo he₀ hi₀ turn hRR
  revert prog w A E h₀ L m env elt iter x x₂ px px₂ tp xk scope cl pos s₂ e it l items nl news Y RR u0_ u1_ u2_ u3_
  k_extra "m:t32"
  intros prog w A E h₀ L m env elt iter x x₂ px px₂ tp xk scope cl pos s₂ e it l items nl news Y RR _ _ _ _ hh hcell hkind hx hx₂ hxx hE hI F N hm hz hLi hie hlo he₀ hi₀ turn hRR
  refine wpAny_newObj_type (wpAny_newFunctionEnv hcell (by intro y hy;simp at hy) (fun h₁ hns₁ hsb₁ => ?_) hkind)
  dsimp only at hns₁ hsb₁ ⊢
  generalize hH2 : s₂.heap.push { cls := .type "list",dict := none,data := .seq ([] : List Value).toArray } = H2 at hns₁ hsb₁ ⊢
  have hC : H2.objs.size = s₂.heap.objs.size + 1 := by rw [← hH2,Heap.size_push]
  generalize hDz : s₂.heap.objs.size = D at hC
  generalize hCz : H2.objs.size = C at hns₁ hsb₁ hC ⊢
  have elt' : @LT.lt Nat _ e D := by rw [← hDz];exact Heap.lt_size hE
  have hDC : @LT.lt Nat _ D C := by rw [hC];exact Nat.lt_succ_self _
  have lo : ∀ p ∈ news,@LT.lt Nat _ p.1 e := fun p hp => Nat.lt_trans (hlo p hp) hie
  have ll : @LT.lt Nat _ l it := hlo _ hm
  have hacc : h₁.get? D = some (lst []) := hsb₁.extBut _ _ (Nat.ne_of_lt hDC) (Heap.get?_push_of_some _ (by rw [← hDz,← hH2];exact Heap.get?_push_size _ rfl))
  have old : ∀ b o,s₂.heap.get? b = some o → h₁.get? b = some o := fun b o q => hsb₁.extBut b o (fun z => by have := Heap.lt_size q;rw [hDz] at this;rw [z] at this;exact Nat.lt_irrefl _ (Nat.lt_trans this hDC)) (Heap.get?_push_of_some _ (by rw [← hH2];exact Heap.get?_push_of_some _ q))
  have fresh₀ : ∀ a,@LE.le Nat _ D a → h₀.get? a = none := fun a ha => by
    cases q : h₀.get? a with
    | none => rfl
    | some o' => exact absurd (Heap.lt_size (F.keep a o' q)) (Nat.not_lt.mpr (by rw [hDz];exact ha))
  have hD₀ := fresh₀ D (Nat.le_refl _)
  have hC₀ := fresh₀ C (Nat.le_of_lt hDC)
  have hLe : @LT.lt Nat _ L e := Nat.lt_trans hLi hie
  have hLD : @LT.lt Nat _ L D := Nat.lt_trans hLe elt'
  have hl : s₂.heap.IsList l items := ⟨_,(N _ hm).1,rfl,_,rfl⟩
  have W := WalksT.enumerate (prog := prog) (w := w) hh e it l (Ne.symm (Nat.ne_of_lt hie)) (Nat.ne_of_lt (Nat.lt_trans ll hie)) (Nat.ne_of_lt ll) items
  have offT : ∀ b,b ∉ [e,it] → ∀ p : Addr × Obj,p.1 = b → p.1 ∉ [e,it] := fun b hb p hp => hp ▸ hb
  have nin : ∀ b : Addr,@LT.lt Nat _ b it ∨ @LT.lt Nat _ e b → b ∉ [e,it] := fun b hb hm => by
    rcases List.mem_cons.mp hm with rfl | hm
    · rcases hb with hb | hb
      · exact Nat.lt_irrefl _ (Nat.lt_trans hb hie)
      · exact Nat.lt_irrefl _ hb
    · have := List.mem_singleton.mp hm
      subst this
      rcases hb with hb | hb
      · exact Nat.lt_irrefl _ hb
      · exact Nat.lt_irrefl _ (Nat.lt_trans hb hie)
  have old₀ : ∀ b o,h₀.get? b = some o → b ∉ [e,it] := fun b o q hb => by
    rcases List.mem_cons.mp hb with rfl | hb
    · rw [he₀] at q;cases q
    · have := List.mem_singleton.mp hb
      subst this
      rw [hi₀] at q;cases q
  have stay : ∀ {h h' : Heap} {nw : List (Addr × Obj)},Fr h₀ L h m → News h₀ L h nw → (∀ p ∈ nw,p.1 ∉ [e,it]) → (∀ b o,b ∉ [e,it] → h.get? b = some o → h'.get? b = some o) → Fr h₀ L h' m ∧ News h₀ L h' nw := fun F' N' hn hk =>
    ⟨⟨F'.ns.at' fun o q => hk _ o (nin _ (.inl hLi)) q,fun b o q => hk b o (old₀ b o q) (F'.keep b o q),F'.above⟩,fun p hp => ⟨hk _ _ (hn p hp) (N' p hp).1,(N' p hp).2⟩⟩
  have st₁ : ((∃ old,IsEnum h₁ e it (0 : Nat) old) ∧ h₁.IsListIter it l 0 ∧ h₁.IsList l items) := ⟨⟨_,old _ _ hE⟩,hI.at fun o q => old _ o q,hl.at fun o q => old _ o q⟩
  have offD : ∀ ys : List Value,∀ p ∈ (D,lst ys) :: news,p.1 ∉ [e,it] := fun ys p hp => by
    rcases List.mem_cons.mp hp with rfl | hp
    · exact nin _ (.inr elt')
    · exact nin _ (.inl (hlo p hp))
  have loop : ∀ s₃ : Shared, s₃ = { s₂ with heap := h₁, toks := s₂.toks + ([] : List (Str × Value)).length } →
      codeAny (model prog w) A (.compLoop (.ListComp elt [⟨.Tuple [.Name x px, .Name x₂ px₂] xk tp,iter,[],0⟩] scope pos) 0 (.ref e) (.ref D) (compEnvC scope cl C env)) (RR (.ref D) C) s₃ := by
    rintro s₃ rfl
    refine comp_loop
      (fun k s' => ∃ h' dr tk i ys m',s' = ⟨h',s₂.gens,dr,tk,s₂.os⟩ ∧ i ≤ items.size ∧ k = items.size + 1 - i ∧ ys.length = i ∧ ((∃ old,IsEnum h' e it (i : Nat) old) ∧ h'.IsListIter it l i ∧ h'.IsList l items) ∧ Fr h₀ L h' m ∧ h'.Ns C m' ∧ News h₀ L h' ((D,lst ys) :: news) ∧ (∀ y ∈ ys,Y y)) ?_ (items.size + 1)
      ⟨h₁,_,_,0,[],_,rfl,Nat.zero_le _,rfl,rfl,st₁,F.keeps old,hns₁,?_,fun _ hy => nomatch hy⟩
    · rintro k s' ⟨h',dr,tk,i,ys,m',rfl,hi,rfl,hyl,hst',F',hn',N',hY⟩
      by_cases hlt : i < items.size
      · refine W.item i _ _ _ hlt hst' fun T vals h₂ tk₂ hPv hTz hT hMid hk₂ => ?_
        obtain ⟨F₂,N₂⟩ := stay F' N' (offD ys) hk₂
        have hn₂ : h₂.Ns C m' := hn'.at' fun o q => hk₂ _ o (nin _ (.inr (Nat.lt_trans elt' hDC))) q
        refine W.go _ _ _ i T _ _ _ hMid fun h₃ hst₃ hk₃ => ?_
        obtain ⟨F₃,N₃⟩ := stay F₂ N₂ (offD ys) hk₃
        have hn₃ : h₃.Ns C m' := hn₂.at' fun o q => hk₃ _ o (nin _ (.inr (Nat.lt_trans elt' hDC))) q
        obtain ⟨t,v,hv,rfl⟩ := hPv
        have hT₃ : IsTup h₃ T #[.int (i : Nat) t,v] := hT.at fun o q => hk₃ T o (W.apart i T _ hMid) q
        refine assign_Tuple_tuple hh hT₃ rfl rfl fun h₅ he => ?_
        have he' : ∀ b o,h₃.get? b = some o → h₅.get? b = some o := fun b o q => he b o (Nat.ne_of_lt (Heap.lt_size q)) q
        refine assignInOrder_cons (wpAny_assign_Name (wpAny_storeName_local (lookup_relabel_local hx) (hn₃.at' fun o q => he' _ o q) (fun h₆ hn₆ hs₆ => ?_) (by simp [compEnvC,relabel,hkind])))
        refine assignInOrder_cons (wpAny_assign_Name (wpAny_storeName_local (lookup_relabel_local hx₂) hn₆ (fun h₇ hn₇ hs₇ => ?_) (by simp [compEnvC,relabel,hkind])))
        refine assignInOrder_nil ?_
        dsimp only at hs₆ hs₇ hn₆ hn₇
        have k₇ : ∀ b o,b ≠ C → h₃.get? b = some o → h₇.get? b = some o := fun b o hb q => hs₇.extBut b o hb (hs₆.extBut b o hb (he' b o q))
        have hst₇ : ((∃ old,IsEnum h₇ e it ((i + 1 : Nat) : Int) old) ∧ h₇.IsListIter it l (i + 1) ∧ h₇.IsList l items) := W.frame (i + 1) _ _ hst₃ fun b hb o q => k₇ b o (fun z => by
          have hb' : b = e ∨ b = it ∨ b = l := by simpa using hb
          have h1 : @LT.lt Nat _ e C := Nat.lt_trans elt' hDC
          have h2 : @LT.lt Nat _ it C := Nat.lt_trans hie h1
          rcases hb' with rfl | rfl | rfl
          · rw [z] at h1;exact Nat.lt_irrefl _ h1
          · rw [z] at h2;exact Nat.lt_irrefl _ h2
          · rw [z] at ll;exact Nat.lt_irrefl _ (Nat.lt_trans ll h2)) q
        have F₇ : Fr h₀ L h₇ m := ⟨F₃.ns.at' fun o q => k₇ _ o (fun z => Nat.lt_irrefl _ (z ▸ Nat.lt_trans hLD hDC)) q,fun b o q => k₇ b o (fun z => by rw [z,hC₀] at q;cases q) (F₃.keep b o q),F₃.above⟩
        obtain ⟨⟨oldv,hEn⟩,⟨oi,hoi,hoi2⟩,hLs⟩ := id hst₇
        obtain ⟨oe,hEn,hEk⟩ : ∃ oe : Obj,h₇.get? e = some oe ∧ ∀ h : Heap,h.get? e = some oe → IsEnum h e it ((i + 1 : Nat) : Int) oldv := ⟨_,hEn,fun _ q => q⟩
        obtain ⟨oC,heC,hoC⟩ := ns_obj hn₇
        have lC : ∀ p ∈ (D,lst ys) :: news,@LT.lt Nat _ p.1 C := fun p hp => by
          rcases List.mem_cons.mp hp with rfl | hp
          · exact hDC
          · exact Nat.lt_trans (lo p hp) (Nat.lt_trans elt' hDC)
        have N₇ : News h₀ L h₇ ((C,oC) :: (D,lst ys) :: (e,oe) :: (it,oi) :: news) := by
          have g : ∀ p ∈ (D,lst ys) :: news,h₇.get? p.1 = some p.2 ∧ p.1 ≠ L ∧ h₀.get? p.1 = none := fun p hp => ⟨k₇ _ _ (Nat.ne_of_lt (lC p hp)) (N₃ p hp).1,(N₃ p hp).2⟩
          intro p hp
          rcases List.mem_cons.mp hp with rfl | hp
          · exact ⟨heC,Ne.symm (Nat.ne_of_lt (Nat.lt_trans hLD hDC)),hC₀⟩
          rcases List.mem_cons.mp hp with rfl | hp
          · exact g _ (.head _)
          rcases List.mem_cons.mp hp with rfl | hp
          · exact ⟨hEn,Ne.symm (Nat.ne_of_lt hLe),he₀⟩
          rcases List.mem_cons.mp hp with rfl | hp
          · exact ⟨hoi,Ne.symm (Nat.ne_of_lt hLi),hi₀⟩
          · exact g _ (.tail _ hp)
        refine wpAny_with_toks (Nat.le_add_left 1 _) (wpAny_mono (turn i v t oe oi C oC D _ ys h₇ dr _ (notedBy (model prog w) A (compEnvC scope cl C env) fun e s' => RR (.ref D) C (.error e) s') hv hoC (by simp [hxx]) (by simp) F₇ N₇ ⟨elt',hDC⟩ (Nat.le_add_left 1 _)) (fun y s₄ h₄ ht₄ => ?_) fun _ _ q _ => q)
        obtain ⟨h₈,dr₈,tk₈,rfl,F₈,N₈,hy⟩ := h₄
        have zC := (N₈ _ (.head _)).1
        have zD := (N₈ _ (.tail _ (.head _))).1
        have zE := (N₈ _ (.tail _ (.tail _ (.head _)))).1
        have zI := (N₈ _ (.tail _ (.tail _ (.tail _ (.head _))))).1
        have zN : News h₀ L h₈ news := fun p hp => N₈ p (.tail _ (.tail _ (.tail _ (.tail _ hp))))
        have hst₈ : ((∃ old,IsEnum h₈ e it ((i + 1 : Nat) : Int) old) ∧ h₈.IsListIter it l (i + 1) ∧ h₈.IsList l items) := ⟨⟨oldv,hEk _ zE⟩,⟨oi,zI,hoi2⟩,⟨_,(zN _ hm).1,rfl,_,rfl⟩⟩
        refine append_at (hsz := by rw [List.size_toArray,hyl,sizeLine_eq];omega) zD fun h₉ hs₉ hD₉ => ?_
        refine ⟨items.size + 1 - (i + 1),by omega,h₉,dr₈,tk₈,i + 1,ys ++ [y],_,rfl,hlt,rfl,by rw [List.length_append,List.length_singleton,hyl],W.frame (i + 1) _ _ hst₈ fun b hb o q => hs₉.extBut b o (fun z => by
          have hb' : b = e ∨ b = it ∨ b = l := by simpa using hb
          have h2 : @LT.lt Nat _ it D := Nat.lt_trans hie elt'
          rcases hb' with rfl | rfl | rfl
          · rw [z] at elt';exact Nat.lt_irrefl _ elt'
          · rw [z] at h2;exact Nat.lt_irrefl _ h2
          · rw [z] at ll;exact Nat.lt_irrefl _ (Nat.lt_trans ll h2)) q,F₈.change hs₉ (Ne.symm (Nat.ne_of_lt hLD)) hD₀,(hoC.ns zC).sameBut hs₉ (Nat.ne_of_lt hDC).symm,fun p hp => ?_,fun y' hy' => ?_⟩
        · rcases List.mem_cons.mp hp with rfl | hp
          · exact ⟨hD₉.trans (congrArg some (lst_snoc ys y)),Ne.symm (Nat.ne_of_lt hLD),hD₀⟩
          · exact ⟨hs₉.extBut _ _ (fun z => Nat.lt_irrefl _ (Nat.lt_trans (z ▸ lo p hp) elt')) (zN p hp).1,(zN p hp).2⟩
        · rcases List.mem_append.mp hy' with h | h
          · exact hY _ h
          · rw [List.mem_singleton.mp h];exact hy
      · obtain rfl : i = items.size := Nat.le_antisymm hi (Nat.not_lt.mp hlt)
        refine W.done _ _ _ hst' fun h₂ tk₂ hk₂ => ?_
        obtain ⟨F₂,N₂⟩ := stay F' N' (offD ys) hk₂
        exact hRR D C h₂ dr tk₂ m' ys F₂ N₂ (fun p hp => Nat.lt_trans (lo p hp) elt') (hn'.at' fun o q => hk₂ _ o (nin _ (.inr (Nat.lt_trans elt' hDC))) q) hC₀ hD₀ (Ne.symm (Nat.ne_of_lt (Nat.lt_trans hLD hDC))) (Ne.symm (Nat.ne_of_lt hLD)) (Ne.symm (Nat.ne_of_lt hDC)) (fun p hp z => Nat.lt_irrefl _ (Nat.lt_trans (Nat.lt_trans (z ▸ lo p hp) elt') hDC)) hyl hY
    · intro p hp
      rcases List.mem_cons.mp hp with rfl | hp
      · exact ⟨hacc,Ne.symm (Nat.ne_of_lt hLD),hD₀⟩
      · exact ⟨old _ _ (N p hp).1,(N p hp).2⟩
  subst hDz
  exact codeAny_compStart_list (loop _ rfl) (W.self 0 _ _ _ st₁ (loop _ rfl))
theorem Assign_ListComp_E {elt iter : PySem.Expr} {y x x₂ : Str} {py px px₂ tp : Pos} {xk} {scope : Scope} {cl : List (Str × Addr)} {pos spos : Pos} {Q : Flow → Shared → Prop} (Y : Value → Prop) (F₀ : Fr h₀ L s.heap m) (hLe : env.locals = L)
    (hsw : swapsWith (.ListComp elt [⟨.Tuple [.Name x px, .Name x₂ px₂] xk tp,iter,[],0⟩] scope pos) (some (.Name y py)) spos.line env = pure true)
    (hclos : closureFor scope env = pure cl) (hcell : ∀ z ∈ scope.names,z.2 ≠ .cell) (hkind : scope.kind = .function) (hnames : ∀ z ∈ scope.names,z.2 = .local → scope.names.lookup z.1 = some .local)
    (hy : env.kindOf y = some .local) (hp : (env.scope.kind == .class || (env.scope.kind == .module && env.locals != env.globals)) = false) (hh : A.handled = none)
    (hx : scope.names.lookup x = some .local) (hx₂ : scope.names.lookup x₂ = some .local) (hxx : x ≠ x₂)
    (h : wpAny (model prog w) A (eval iter env) (EnumSrc prog w A h₀ L m env elt x x₂ scope cl Y (fun D ys news s₂ => ∀ h tk,Fr h₀ L h (fun z => if z = y then some (.ref D) else m z) → News h₀ L h ((D,lst ys) :: news) → 1 ≤ tk → Q .next { s₂ with heap := h,toks := tk })) E s)
    (hs : ∀ x,foldedSetIterable iter env x = pure x := by intro _;rfl) :
    wpAny (model prog w) A (exec (.Assign [.Name y py] (.ListComp elt [⟨.Tuple [.Name x px, .Name x₂ px₂] xk tp,iter,[],0⟩] scope pos) spos) env) Q E s := by
  have u0_ : Unit := ();have u1_ : Unit := ();have u2_ : Unit := ();have u3_ : Unit := ();have u4_ : Unit := ();have u5_ : Unit := ();have u6_ : Unit := ()
  revert F₀ hLe hsw hclos hcell hkind hnames hy hp hh hx hx₂ hxx h hs
  revert prog w A E s h₀ L m env elt iter y x x₂ py px px₂ tp xk scope cl pos spos Q Y u0_ u1_ u2_ u3_ u4_ u5_ u6_
  k_extra "m:t32"
  intros prog w A E s h₀ L m env elt iter y x x₂ py px px₂ tp xk scope cl pos spos Q Y _ _ _ _ _ _ _ F₀ hLe hsw hclos hcell hkind hnames hy hp hh hx hx₂ hxx h hs
  subst hLe
  rw [exec_Assign_Name_used _ _ _ _ hsw]
  refine wpAny_bind (wpAny_standAt (wpAny_bind ?_))
  show wpAny _ A (do let _ ← comprehension (.ListComp elt [⟨.Tuple [.Name x px, .Name x₂ px₂] xk tp,iter,[],0⟩] scope pos) scope env _ (newList []) false (eval iter env) (some (assign (.Name y py) env))) _ _ s
  refine wpAny_bind (wpAny_mono (wpAny_comprehension_free (use := some (assign (.Name y py) env)) (Q := fun _ s' => Q .next s') rfl hs hclos hkind hnames
    (wpAny_mono h (fun xv s₁ h₁ => ?_) fun _ _ e => e)) (fun _ s' hq => wpAny_pure (wpAny_pure hq)) fun _ _ e => e)
  obtain ⟨e,it,l,items,nl,news,rfl,hE,hI,F,N,hm,hz,hLi,hie,hlo,he₀,hi₀,turn,fin⟩ := h₁
  refine wpAny_pyIter_enum hE ?_
  refine block_E hh hcell hkind hx hx₂ hxx hE hI F N hm hz hLi hie hlo he₀ hi₀ turn ?_
  intro D C h' dr tk m' ys F' N' lD hn hC₀ hD₀ hCL hDL hCD offC hyl hY
  show wpAny _ A (assign (.Name y py) env (.ref D)) _ _ _
  refine wpAny_assign_Name (wpAny_storeName_local hy F'.ns (fun h₂ hn₂ hs₂ => ?_) hp)
  have hL₀ : h₀.get? env.locals = none := Heap.get?_none_of_le F'.above
  have F₂ : Fr h₀ env.locals h₂ (fun z => if z = y then some (.ref D) else m z) := ⟨hn₂,fun b o e => hs₂.extBut b o (fun q => by rw [q,hL₀] at e;cases e) (F'.keep b o e),F'.above⟩
  refine ⟨m',hn.sameBut hs₂ hCL,fun h'' hs'' => fin D ys h' dr tk F' N' lD hyl hY h'' _ (F₂.change hs'' hCL hC₀) (fun p hp => ?_) (Nat.le_add_left 1 _)⟩
  have z : h₂.get? p.1 = some p.2 := hs₂.extBut _ _ (N' p hp).2.1 (N' p hp).1
  refine ⟨hs''.extBut _ _ ?_ z,(N' p hp).2⟩
  rcases List.mem_cons.mp hp with rfl | hp
  · exact Ne.symm hCD
  · exact offC p hp
section
variable {elt : PySem.Expr} {scope : Scope} {cl : List (Str × Addr)} {g : Array GenState} {os : OsState} {news : List (Addr × Obj)} {S : List (Addr × Obj) → Prop} {P : Nat → Value → Prop} {B : Value → List (Addr × Obj) → (Str → Option Value) → Prop} {Fin : List Value → List (Addr × Obj) → Prop}
theorem LRest.all {n : Nat} (Pv Y : Value → Prop) (hP : ∀ i v, P i v → Pv v) (hS : S news)
    (turn : ∀ v I oI C oC D m₂ ys h dr tk (E' : Value → Shared → Prop),Pv v → NsObj oC m₂ → B v news m₂ → Fr h₀ L h m → News h₀ L h ((I,oI) :: (C,oC) :: (D,lst ys) :: news) → ((∀ q ∈ news,@LT.lt Nat _ q.1 I) ∧ (@LT.lt Nat _ I D) ∧ (@LT.lt Nat _ D C)) → 1 ≤ tk →
      wpAny (model prog w) A (eval elt (compEnvC scope cl C env)) (EEnd h₀ L m g os ((I,oI) :: (C,oC) :: (D,lst ys) :: news) Y) E' ⟨h,g,dr,tk,os⟩)
    (fin : ∀ ys,ys.length = n → (∀ y ∈ ys,Y y) → Fin ys news) : LRest prog w A h₀ L m env elt scope cl g os news S P B Fin n 0 [] news := by
  have gen : ∀ (k i : Nat) (ys : List Value),i + k = n → ys.length = i → (∀ y ∈ ys,Y y) → LRest prog w A h₀ L m env elt scope cl g os news S P B Fin k i ys news := by
    intro k
    induction k with
    | zero => intro i ys e1 e2 hY;exact fin ys (by omega) hY
    | succ k ih =>
      intro i ys e1 e2 hY
      refine LRest.succ fun v I oI C oC D m₂ h dr tk E' hp hoC hB F N off ord ht => ?_
      refine wpAny_mono (turn v I oI C oC D m₂ ys h dr tk E' (hP i v hp) hoC hB F N ord ht) (fun y s₂ hy => ?_) fun _ _ q => q
      obtain ⟨h',dr',tk',rfl,F',N',hy⟩ := hy
      exact ⟨h',dr',tk',news,rfl,F',N',off,hS,ih (i + 1) (ys ++ [y]) (by omega) (by rw [List.length_append,List.length_singleton,e2]) (fun z hz => by
        rcases List.mem_append.mp hz with h | h
        · exact hY _ h
        · rw [List.mem_singleton.mp h];exact hy)⟩
  exact gen n 0 [] (by omega) rfl fun _ h => nomatch h
theorem LRest.allI {n : Nat} (Y : Nat → Value → Prop) (hS : S news)
    (turn : ∀ i v I oI C oC D m₂ ys h dr tk (E' : Value → Shared → Prop),P i v → NsObj oC m₂ → B v news m₂ → Fr h₀ L h m → News h₀ L h ((I,oI) :: (C,oC) :: (D,lst ys) :: news) → ((∀ q ∈ news,@LT.lt Nat _ q.1 I) ∧ (@LT.lt Nat _ I D) ∧ (@LT.lt Nat _ D C)) → 1 ≤ tk →
      wpAny (model prog w) A (eval elt (compEnvC scope cl C env)) (EEnd h₀ L m g os ((I,oI) :: (C,oC) :: (D,lst ys) :: news) (Y i)) E' ⟨h,g,dr,tk,os⟩)
    (fin : ∀ ys : List Value,ys.length = n → (∀ (i : Nat) (y : Value),ys[i]? = some y → Y i y) → Fin ys news) : LRest prog w A h₀ L m env elt scope cl g os news S P B Fin n 0 [] news := by
  have gen : ∀ (k i : Nat) (ys : List Value),i + k = n → ys.length = i → (∀ (i : Nat) (y : Value),ys[i]? = some y → Y i y) → LRest prog w A h₀ L m env elt scope cl g os news S P B Fin k i ys news := by
    intro k
    induction k with
    | zero => intro i ys e1 e2 hY;exact fin ys (by omega) hY
    | succ k ih =>
      intro i ys e1 e2 hY
      refine LRest.succ fun v I oI C oC D m₂ h dr tk E' hp hoC hB F N off ord ht => ?_
      refine wpAny_mono (turn i v I oI C oC D m₂ ys h dr tk E' hp hoC hB F N ord ht) (fun y s₂ hy => ?_) fun _ _ q => q
      obtain ⟨h',dr',tk',rfl,F',N',hy⟩ := hy
      exact ⟨h',dr',tk',news,rfl,F',N',off,hS,ih (i + 1) (ys ++ [y]) (by omega) (by rw [List.length_append,List.length_singleton,e2]) (fun k z hz => by
        rcases Nat.lt_or_ge k ys.length with h | h
        · rw [List.getElem?_append_left h] at hz;exact hY k z hz
        · rw [List.getElem?_append_right h] at hz
          have : k - ys.length = 0 := by
            rcases Nat.eq_zero_or_pos (k - ys.length) with h0 | h0
            · exact h0
            · rw [List.getElem?_eq_none (by rw [List.length_singleton];exact h0)] at hz;cases hz
          rw [this] at hz
          have ez : y = z := Option.some.inj hz
          have ek : k = i := by omega
          rw [ek,← ez];exact hy)⟩
  exact gen n 0 [] (by omega) rfl fun _ _ h => by simp at h
end
theorem ints_of : ∀ {ys : List Value} (b : Int),0 ≤ b → (∀ y ∈ ys,∃ a t,y = Value.int a t ∧ 0 ≤ a ∧ a < b) → ∃ ns,IntsAre ys ns ∧ 0 ≤ ns.sum ∧ ns.sum ≤ ys.length * b
  | [],b,hb,_ => ⟨[], .nil,by simp,by simp⟩
  | y :: r,b,hb,h => by
    obtain ⟨a,t,rfl,a0,a1⟩ := h y (.head _)
    obtain ⟨ns,i,s0,s1⟩ := ints_of b hb fun z hz => h z (.tail _ hz)
    refine ⟨a :: ns, .cons a t i,?_,?_⟩
    · rw [List.sum_cons];omega
    · rw [List.sum_cons,List.length_cons]
      have e : ((r.length + 1 : Nat) : Int) * b = r.length * b + b := by
        rw [Int.natCast_add,Int.add_mul];simp
      rw [e];omega
theorem pick63 {vs : List Value} {ns : List Int} (h : IntsAre vs ns) (hl : ns.length ≤ 63) (lo hi st : Option Int) : ∃ sl : Array Value,sl = slicePick vs.toArray lo hi st ∧ (∀ v ∈ sl.toList,∃ a t,v = Value.int a t) ∧ sl.size ≤ 63 :=
  ⟨_,rfl,(h.pick lo hi st).all,by
    have a := slicePick_size_le vs.toArray lo hi st
    have b := h.length
    simp only [List.size_toArray] at a
    omega⟩
end LM
end
section
local macro_rules (kind := PySem.W.tacticK_extra_) | x => topOf "oo mac0 om" x
theorem neL {a b : Nat} (h : a < b) : a ≠ b := Nat.ne_of_lt h
theorem neR {a b : Nat} (h : b < a) : a ≠ b := Nat.ne_of_gt h
theorem neL1 {a b k : Nat} (h : a < b) : a ≠ b + k := Nat.ne_of_lt (Nat.lt_of_lt_of_le h (Nat.le_add_right b k))
theorem neR1 {a b k : Nat} (h : a < b) : b + k ≠ a := Nat.ne_of_gt (Nat.lt_of_lt_of_le h (Nat.le_add_right b k))
theorem neL2 {a b k j : Nat} (h : a < b) : a ≠ b + k + j := neL1 (Nat.lt_of_lt_of_le h (Nat.le_add_right b k))
theorem neR2 {a b k j : Nat} (h : a < b) : b + k + j ≠ a := neR1 (Nat.lt_of_lt_of_le h (Nat.le_add_right b k))
theorem leB {a b : Nat} [OfNat Nat a] [OfNat Nat b] (h : Nat.ble (@OfNat.ofNat Nat a _) (@OfNat.ofNat Nat b _) = true) : @OfNat.ofNat Nat a _ ≤ @OfNat.ofNat Nat b _ := Nat.le_of_ble_eq_true h
theorem neK {a b : Nat} (h : Nat.beq a b = false) : a ≠ b := Nat.ne_of_beq_eq_false h
theorem room0 {d n l : Nat} (h : d + n < l) : d < l := Nat.lt_of_le_of_lt (Nat.le_add_right d n) h
theorem room1 {d n l k : Nat} (h : d + n < l) (e : Nat.ble k n = true) : d + k < l := Nat.lt_of_le_of_lt (Nat.add_le_add_left (Nat.le_of_ble_eq_true e) d) h
theorem room2 {d n l i k : Nat} (h : d + n < l) (e : Nat.ble (i + k) n = true) : d + i + k < l := by rw [Nat.add_assoc];exact room1 h e
theorem room3 {d n l i j k : Nat} (h : d + n < l) (e : Nat.ble (i + j + k) n = true) : d + i + j + k < l := by rw [Nat.add_assoc d i j];exact room2 h e
theorem room4 {d n l i j g k : Nat} (h : d + n < l) (e : Nat.ble (i + j + g + k) n = true) : d + i + j + g + k < l := by rw [Nat.add_assoc d i j];exact room3 h e
theorem leK {a b c : Nat} (h : a ≤ b) (e : Nat.ble b c = true) : a ≤ c := Nat.le_trans h (Nat.le_of_ble_eq_true e)
abbrev LtK (d : Nat) : List (Addr × Obj) → Prop → Prop
  | [],G => G
  | (a,_) :: r,G => @LT.lt Nat _ a d → LtK d r G
theorem ltK {d : Nat} : ∀ {l : List (Addr × Obj)} {G : Prop},AllLt d l → LtK d l G → G
  | [],_,_,g => g
  | _ :: _,_,h,g => ltK h.2 (g h.1)
theorem ltK_end {d : Nat} {G : Prop} : ∀ {l : List (Addr × Obj)},(AllLt d l → G) → LtK d l G
  | [],g => g trivial
  | _ :: _,g => fun h => ltK_end fun h' => g ⟨h,h'⟩
abbrev OffK (d : Nat) : List (Addr × Obj) → Prop → Prop
  | [],G => G
  | (a,_) :: r,G => @Ne Nat a d → OffK d r G
theorem offK {d : Addr} : ∀ {l : List (Addr × Obj)} {G : Prop},LCg.Off1 d l → OffK d l G → G
  | [],_,_,g => g
  | _ :: _,_,h,g => offK h.2 (g h.1)
theorem offK_end {d : Addr} {G : Prop} : ∀ {l : List (Addr × Obj)},(LCg.Off1 d l → G) → OffK d l G
  | [],g => g trivial
  | _ :: _,g => fun h => offK_end fun h' => g ⟨h,h'⟩
abbrev Asc : List Nat → Prop
  | a :: b :: r => a < b ∧ Asc (b :: r)
  | _ => True
abbrev AboveK (a : Nat) : List Nat → Prop → Prop
  | [],G => G
  | b :: r,G => a < b → AboveK a r G
abbrev PairsK : List Nat → Prop → Prop
  | [],G => G
  | a :: r,G => AboveK a r (PairsK r G)
theorem aboveK {a : Nat} : ∀ {l : List Nat} {G : Prop},(∀ b ∈ l,a < b) → AboveK a l G → G
  | [],_,_,g => g
  | _ :: _,_,h,g => aboveK (fun b hb => h b (.tail _ hb)) (g (h _ (.head _)))
theorem Asc.all : ∀ {l : List Nat} {a : Nat},Asc (a :: l) → ∀ b ∈ l,a < b
  | [],_,_,_,hb => nomatch hb
  | c :: _,a,h,b,hb => by
    rcases List.mem_cons.mp hb with rfl | hb
    · exact h.1
    · exact Nat.lt_trans h.1 (Asc.all (a := c) h.2 b hb)
theorem pairsK : ∀ {l : List Nat} {G : Prop},Asc l → PairsK l G → G
  | [],_,_,g => g
  | [_],_,_,g => g
  | _ :: _ :: _,_,h,g => pairsK h.2 (aboveK (Asc.all h) g)
theorem neT {a b c : Nat} (h : c < b) (h' : a < c) : a ≠ b := Nat.ne_of_lt (Nat.lt_trans h' h)
theorem neT' {a b c : Nat} (h : c < b) (h' : a < c) : b ≠ a := Nat.ne_of_gt (Nat.lt_trans h' h)
theorem ltT {a b c : Nat} (h : c < b) (h' : a < c) : a < b := Nat.lt_trans h' h
theorem neU {a b c : Nat} (h' : a < c) (h : c < b) : a ≠ b := neT h h'
theorem neU' {a b c : Nat} (h' : a < c) (h : c < b) : b ≠ a := neT' h h'
theorem ltA {a b k : Nat} (h : a < b) : a < b + k := Nat.lt_add_right k h
theorem ltA2 {a b k j : Nat} (h : a < b) : a < b + k + j := Nat.lt_add_right j (Nat.lt_add_right k h)
theorem neS {a : Nat} : a ≠ a + 1 := Nat.ne_of_lt (Nat.lt_succ_self a)
theorem neS' {a : Nat} : a + 1 ≠ a := Nat.succ_ne_self a
theorem exC {α : Type} {p : α → Prop} {G : Prop} (h : ∃ x,p x) (k : ∀ x,p x → G) : G := h.elim k
theorem andC {a b G : Prop} (h : a ∧ b) (k : a → b → G) : G := k h.1 h.2
theorem tauD {P : Drawn → Prop} (h : P (ep ⟨{}⟩ P)) (x : Drawn) : P x := @tau1 _ ⟨{}⟩ _ h x
theorem tauS {P : Shared → Prop} (h : P (ep ⟨⟨default,#[],{},0,{}⟩⟩ P)) (x : Shared) : P x := @tau1 _ ⟨⟨default,#[],{},0,{}⟩⟩ _ h x
theorem tauF {P : Flow → Prop} (h : P (ep ⟨.next⟩ P)) (x : Flow) : P x := @tau1 _ ⟨.next⟩ _ h x
theorem tauO {P : OsState → Prop} (h : P (ep ⟨{}⟩ P)) (x : OsState) : P x := @tau1 _ ⟨{}⟩ _ h x
theorem tauW {P : World → Prop} (h : P (ep ⟨⟨fun _ _ => 0,{ strHash := fun _ => 0,shareClass := fun _ => 0,mergeTok := id,idOf := fun _ => 0,idOfShared := fun _ _ => 0,followText := fun _ => true,idOfImm := fun _ => 0 }⟩⟩ P)) (x : World) : P x := @tau1 _ ⟨x⟩ _ h x
section
variable {w : World} {f : Addr} {d u : Nat} {news : List (Addr × Obj)} {args : List Value} {Ret : Value → List (Addr × Obj) → Prop} {mean : ExcName → Option Value} {mg mb : Str → Option Value} {dp un : Nat} {gd : Option (List Code)} {cn : Str} {cs : Scope} {a : Addr} {ccd : Value} {cl : List (Str × Addr)} {outer : List Env} {A₀ : Around} {base h₀ : Heap} {L : Addr} {m : Str → Option Value} {s : Shared} {Q E : Value → Shared → Prop}
theorem Spec.callC (S : Spec w f d u news args Ret) (B : Below A₀ base outer h₀) (F : Fr h₀ L s.heap m) (X : (K w.params).In h₀) (N : News h₀ L s.heap news) (T : Top topProg lw mean mg mb h₀) (hk : cs.kind = .function) (ht : 1 ≤ s.toks) (hd : dp + d < recursionLimit) (hu : un + u < cLine)
    (h : ∀ v news' h' dr tk,Ret v news' → Fr h₀ L h' m → News h₀ L h' news' → 1 ≤ tk → Q v ⟨h',s.gens,dr,tk,s.os⟩) :
    wpAny (model PySem.Challenge.rw_pg0304_01.row.prog w) (ktrTop dp un gd cn cs L a ccd cl outer) (PySem.call (.ref f) args) Q E s :=
  Spec.call S B F X N T hk ht hd hu fun v news' s' r e F' N' tk => by
    obtain ⟨h',g',d',t',o'⟩ := s'
    obtain ⟨e1,e2⟩ := e
    dsimp only at e1 e2 F' N' tk
    subst e1 e2
    exact h v news' h' d' t' r F' N' tk
theorem Spec.methC {q : Addr} {self : Value} {rest : List Value} (S : Spec w f d u news (self :: rest) Ret) (B : Below A₀ base outer h₀) (F : Fr h₀ L s.heap m) (X : (K w.params).In h₀) (N : News h₀ L s.heap news) (hq : (q, methodObj (.ref f) self) ∈ news) (T : Top topProg lw mean mg mb h₀) (hk : cs.kind = .function) (ht : 1 ≤ s.toks) (hd : dp + d < recursionLimit) (hu : un + u < cLine)
    (h : ∀ v news' h' dr tk,Ret v news' → Fr h₀ L h' m → News h₀ L h' news' → 1 ≤ tk → Q v ⟨h',s.gens,dr,tk,s.os⟩) :
    wpAny (model PySem.Challenge.rw_pg0304_01.row.prog w) (ktrTop dp un gd cn cs L a ccd cl outer) (PySem.call (.ref q) rest) Q E s :=
  Spec.meth S B F X N hq T hk ht hd hu fun v news' s' r e F' N' tk => by
    obtain ⟨h',g',d',t',o'⟩ := s'
    obtain ⟨e1,e2⟩ := e
    dsimp only at e1 e2 F' N' tk
    subst e1 e2
    exact h v news' h' d' t' r F' N' tk
end
theorem neA1 {a b : Nat} {P : Prop} (h : a ≠ b ∧ P) : a ≠ b := h.1
theorem neA2 {a b : Nat} {P R : Prop} (h : P ∧ a ≠ b ∧ R) : a ≠ b := h.2.1
theorem neA3 {a b : Nat} {P R : Prop} (h : P ∧ R ∧ a ≠ b) : a ≠ b := h.2.2
theorem neLA {a b : Nat} {P : Prop} (h : b < a ∧ P) : a ≠ b := Nat.ne_of_gt h.1
theorem neTA {a b c : Nat} {P : Prop} (h : c < b ∧ P) (h' : a < c) : b ≠ a := neT' h.1 h'
theorem ltA1 {a b : Nat} {P : Prop} (h : a < b ∧ P) : a < b := h.1
theorem ltA3 {a b : Nat} {P : Prop} (h : P ∧ a < b) : a < b := h.2
theorem ltCl {a l c : Nat} (h : l = c) (e : Nat.ble (a + 1) c = true) : a < l := h ▸ Nat.le_of_ble_eq_true e
theorem eqL {a k c : Nat} (h : a = k + c) (e : Nat.ble 1 c = true) : 0 < a := by have := Nat.le_of_ble_eq_true e;omega
theorem eqM {a k c : Nat} (h : a = k + c) (e : Nat.ble 1 c = true) : a - 1 < a := by have := Nat.le_of_ble_eq_true e;omega
theorem leD {a d m n : Nat} (h : a ≤ m) (e : Nat.ble (m + d) n = true) : a + d ≤ n := Nat.le_trans (Nat.add_le_add_right h d) (Nat.le_of_ble_eq_true e)
theorem le2 {a b c m n : Nat} (h : a ≤ b + c) (h' : b ≤ m) (e : Nat.ble (m + c) n = true) : a ≤ n := Nat.le_trans h (leD h' e)
theorem le3 {a d b c m n : Nat} (h : a ≤ b + c) (h' : b ≤ m) (e : Nat.ble (m + c + d) n = true) : a + d ≤ n := leD (Nat.le_trans h (Nat.add_le_add_right h' c)) e
theorem leAA {a d b c k : Nat} (h : a ≤ b + c) (e : Nat.ble (c + d) k = true) : a + d ≤ b + k := Nat.le_trans (Nat.add_le_add_right h d) (Nat.add_assoc b c d ▸ Nat.add_le_add_left (Nat.le_of_ble_eq_true e) b)
theorem leA0 {a b c k : Nat} (h : a ≤ b + c) (e : Nat.ble c k = true) : a ≤ b + k := Nat.le_trans h (Nat.add_le_add_left (Nat.le_of_ble_eq_true e) b)
theorem leSf {a d k : Nat} (e : Nat.ble d k = true) : a + d ≤ a + k := Nat.add_le_add_left (Nat.le_of_ble_eq_true e) a
theorem lePr {a b c k : Nat} (h : a + 1 ≤ b + c) (e : Nat.ble c (k + 1) = true) : a ≤ b + k := Nat.le_of_succ_le_succ (leA0 (k := k + 1) h e)
theorem leC3 {a b c x y k : Nat} (h : a ≤ c + x) (h' : c ≤ b + y) (e : Nat.ble (y + x) k = true) : a ≤ b + k := Nat.le_trans h (leAA h' e)
theorem ltB {a i c m n : Nat} (h : a ≤ i + c) (h' : i < m) (e : Nat.ble (m + c) (n + 1) = true) : a ≤ n := by have := Nat.le_of_ble_eq_true e;omega
theorem ltB0 {a i m n : Nat} (h' : i < m) (h : a ≤ i) (e : Nat.ble m (n + 1) = true) : a ≤ n := by have := Nat.le_of_ble_eq_true e;omega
theorem ltBP {a i c m n : Nat} (h : a + 1 ≤ i + c) (h' : i < m) (e : Nat.ble (m + c) (n + 2) = true) : a ≤ n := by have := Nat.le_of_ble_eq_true e;omega
theorem ltBK {a i k m n : Nat} (h : a ≤ k * i) (h' : i < m) (e : Nat.ble (k * m) (n + k) = true) : a ≤ n := by
  have e' := Nat.le_of_ble_eq_true e
  have h2 : k * i + k ≤ k * m := Nat.mul_succ k i ▸ Nat.mul_le_mul_left k h'
  omega
theorem ltBA {a b i k m c n : Nat} (h : a ≤ k * i) (h2 : b ≤ c) (h' : i < m) (e : Nat.ble (k * m + c) (n + k) = true) : a + b ≤ n := by
  have e' := Nat.le_of_ble_eq_true e
  have h3 : k * i + k ≤ k * m := Nat.mul_succ k i ▸ Nat.mul_le_mul_left k h'
  omega
theorem lnEq {a b n : Nat} (h : a = b) (e : Nat.ble b n = true) : a ≤ n := h ▸ Nat.le_of_ble_eq_true e
theorem eqP {a k c i m n : Nat} (h : a = k + c) (h1 : k ≤ i) (h2 : i < m) (e : Nat.ble (m + c) (n + 1) = true) : a ≤ n := by have := Nat.le_of_ble_eq_true e;omega
theorem eqPP {a d b k c i m n : Nat} (h0 : a + d = b) (h : b = k + c) (h1 : k ≤ i) (h2 : i < m) (e : Nat.ble (m + c) (n + 1) = true) : a ≤ n := by have := Nat.le_of_ble_eq_true e;omega
theorem mulK {a c m n : Nat} (h : a ≤ m) (e : Nat.ble (m * c) n = true) : a * c ≤ n := Nat.le_trans (Nat.mul_le_mul_right c h) (Nat.le_of_ble_eq_true e)
theorem leM0 {a k i : Nat} (h : a ≤ k * i) : a ≤ k * (i + 1) := Nat.le_trans h (Nat.mul_succ k i ▸ Nat.le_add_right _ _)
theorem leMS {a d k i : Nat} (h : a ≤ k * i) (e : Nat.ble d k = true) : a + d ≤ k * (i + 1) := Nat.mul_succ k i ▸ Nat.add_le_add h (Nat.le_of_ble_eq_true e)
theorem isZZ (h : 0 < 0) : 0 < 0 := h
theorem jpNil {M : Model} {A : Around} {E : Value → Shared → Prop} {s : Shared} {out : Str} {Q : Value → Shared → Prop} (hsz : out.length ≤ sizeLine) (h : Q (.str out s.toks) { s with toks := s.toks + 1 }) : wpAny M A (joinParts out []) Q E s := joinParts_nil h hsz
theorem jpNilE {M : Model} {A : Around} {E : Value → Shared → Prop} {s : Shared} {env : Env} {out : Str} {Q : Value → Shared → Prop} (hsz : out.length ≤ sizeLine) (h : Q (.str out s.toks) { s with toks := s.toks + 1 }) : wpAny M A (joinParts out (evalEach [] env)) Q E s := joinParts_nilE (joinParts_nil h hsz)
def obC (x : Lean.Ident) (h : Lean.Term) (t r : Lean.TSyntax `tactic) : Lean.MacroM (Lean.TSyntax `tactic) := do
  let c ← match h with | `($i:ident) => `(tactic| (try clear $i)) | _ => `(tactic| skip)
  `(tactic| first | (with_reducible refine' Mine.exC $h ?_;$c:tactic;intro $x:ident;$t:tactic) | (with_reducible refine' Mine.andC $h ?_;$c:tactic;intros $x:ident;$t:tactic) | (refine' Mine.exC $h ?_;$c:tactic;intro $x:ident;$t:tactic) | (refine' Mine.andC $h ?_;$c:tactic;intros $x:ident;$t:tactic) | $r:tactic)
theorem rows_oo_1 : True := by
  (k_with "m:iklt" => ((intros hx9'22;first
    | ((try replace hx9'22 := allLt_of hx9'22);(with_reducible refine Mine.ltK hx9'22 ?_);clear hx9'22;(repeat with_reducible refine fun _ => ?_);(try (with_reducible refine Mine.ltK_end ?_;intro _)))
    | ((with_reducible refine Mine.offK hx9'22 ?_);clear hx9'22;(repeat with_reducible refine fun _ => ?_);(try (with_reducible refine Mine.offK_end ?_;intro _))))))
  (k_with "m:itau" => ((first | refine' Mine.tau1 ?_ | refine' Mine.tauD ?_ | refine' Mine.tauW ?_ | refine' Mine.tauO ?_ | refine' Mine.tauS ?_ | refine' Mine.tauF ?_)))
  trivial
theorem rows_oo_2 : True := by
  (k_with "m:has_oo" => ((skip)))
  (k_with "m:ltq" => (((refine ltN ?_);(try dsimp only);with_reducible first | assumption | exact Nat.lt_trans (by assumption) (by assumption) | exact Mine.ltT (by assumption) (by assumption))))
  (k_with "m:omega" => (first
    | ((with_reducible show Ne _ _);with_reducible first
      | exact Mine.neL (by assumption)
      | exact Mine.neR (by assumption)
      | assumption
      | exact Ne.symm (by assumption)
      | exact Mine.neL1 (by assumption)
      | exact Mine.neR1 (by assumption)
      | exact Mine.neL2 (by assumption)
      | exact Mine.neR2 (by assumption)
      | exact Mine.neS | exact Mine.neS'
      | exact Mine.neT (by assumption) (by assumption)
      | exact Mine.neT' (by assumption) (by assumption)
      | exact Mine.neU (by assumption) (by assumption)
      | exact Mine.neU' (by assumption) (by assumption)
      | exact Mine.neK (a := @OfNat.ofNat Nat _ _) (b := @OfNat.ofNat Nat _ _) (by k_dflt exact rfl)
      | exact Nat.succ_ne_zero _
      | exact Mine.neZ9 (by assumption)
      | exact Mine.neA1 (by assumption)
      | exact Mine.neA2 (by assumption)
      | exact Mine.neA3 (by assumption)
      | exact Mine.neLA (by assumption)
      | exact Mine.neTA (by assumption) (by assumption))
    | ((with_reducible show LT.lt _ _);with_reducible first
      | assumption
      | (k_dflt decide)
      | exact Nat.lt_succ_self _
      | exact Mine.ltA (by assumption)
      | exact Mine.room1 (by assumption) (by k_dflt exact rfl)
      | exact Mine.room2 (by assumption) (by k_dflt exact rfl)
      | exact Mine.room3 (by assumption) (by k_dflt exact rfl)
      | exact Mine.room4 (by assumption) (by k_dflt exact rfl)
      | exact Mine.room0 (by assumption)
      | exact Mine.ltA2 (by assumption)
      | exact Nat.lt_trans (by assumption) (by assumption)
      | exact Mine.ltT (by assumption) (by assumption)
      | exact Nat.lt_of_lt_of_le (by assumption) (by assumption)
      | exact Nat.lt_of_le_of_lt (by assumption) (by assumption)
      | exact Nat.two_pow_pos _
      | exact Mine.om2 (by assumption)
      | exact Mine.ltA1 (by assumption)
      | exact Mine.ltA3 (by assumption)
      | exact Mine.eqL (c := @OfNat.ofNat Nat _ _) (by assumption) (by k_dflt exact rfl)
      | exact Mine.eqM (c := @OfNat.ofNat Nat _ _) (by assumption) (by k_dflt exact rfl)
      | exact Mine.ltCl (c := @OfNat.ofNat Nat _ _) (by assumption) (by k_dflt exact rfl))
    | ((with_reducible show @LE.le Nat _ 1 _);with_reducible first
      | assumption
      | exact Nat.le_add_left 1 _
      | exact Nat.le_add_right_of_le (by assumption)
      | exact Nat.le_add_right_of_le (Nat.le_add_left 1 _)
      | (k_dflt decide))
    | ((with_reducible show LE.le _ _);(fail_if_success (with_reducible show @LE.le Nat _ 1 _));with_reducible first
      | assumption
      | exact Nat.le_add_left 1 _
      | (k_dflt decide)
      | exact Nat.le_refl _
      | exact Mine.nilLe
      | exact Nat.le_add_right_of_le (by assumption)
      | exact Nat.le_add_right_of_le (Nat.le_add_left 1 _)
      | exact Mine.leK (b := @OfNat.ofNat Nat _ _) (c := @OfNat.ofNat Nat _ _) (by assumption) (by k_dflt exact rfl)
      | exact Mine.lenK (l := _ :: _) (by k_dflt exact rfl)
      | exact Mine.pu1
      | exact Mine.pu2
      | exact Mine.leD (d := @OfNat.ofNat Nat _ _) (m := @OfNat.ofNat Nat _ _) (n := @OfNat.ofNat Nat _ _) (by assumption) (by k_dflt exact rfl)
      | exact Mine.leSf (d := @OfNat.ofNat Nat _ _) (k := @OfNat.ofNat Nat _ _)  (by k_dflt exact rfl)
      | exact Mine.leAA (c := @OfNat.ofNat Nat _ _) (d := @OfNat.ofNat Nat _ _) (k := @OfNat.ofNat Nat _ _) (by assumption) (by k_dflt exact rfl)
      | exact Mine.leA0 (c := @OfNat.ofNat Nat _ _) (k := @OfNat.ofNat Nat _ _) (by assumption) (by k_dflt exact rfl)
      | exact Mine.lnEq (b := @OfNat.ofNat Nat _ _) (n := @OfNat.ofNat Nat _ _) (by assumption) (by k_dflt exact rfl)
      | exact Mine.le2 (c := @OfNat.ofNat Nat _ _) (m := @OfNat.ofNat Nat _ _) (n := @OfNat.ofNat Nat _ _) (by assumption) (by assumption) (by k_dflt exact rfl)
      | exact Mine.le3 (c := @OfNat.ofNat Nat _ _) (d := @OfNat.ofNat Nat _ _) (m := @OfNat.ofNat Nat _ _) (n := @OfNat.ofNat Nat _ _) (by assumption) (by assumption) (by k_dflt exact rfl)
      | exact Nat.le_of_lt (by assumption)
      | exact Nat.le_trans (by assumption) (by assumption)
      | exact Mine.leM0 (by assumption)
      | exact Mine.leMS (by assumption) (by k_dflt exact rfl)
      | exact Mine.mulK (c := @OfNat.ofNat Nat _ _) (m := @OfNat.ofNat Nat _ _) (n := @OfNat.ofNat Nat _ _) (by assumption) (by k_dflt exact rfl)
      | exact Mine.lePr (c := @OfNat.ofNat Nat _ _) (k := @OfNat.ofNat Nat _ _) (by assumption) (by k_dflt exact rfl)
      | exact Mine.ltB (c := @OfNat.ofNat Nat _ _) (m := @OfNat.ofNat Nat _ _) (n := @OfNat.ofNat Nat _ _) (by assumption) (by assumption) (by k_dflt exact rfl)
      | exact Mine.ltBK (k := @OfNat.ofNat Nat _ _) (m := @OfNat.ofNat Nat _ _) (n := @OfNat.ofNat Nat _ _) (by assumption) (by assumption) (by k_dflt exact rfl)
      | exact Mine.ltB0 (m := @OfNat.ofNat Nat _ _) (n := @OfNat.ofNat Nat _ _) (by assumption) (by assumption) (by k_dflt exact rfl)
      | exact Mine.leC3 (x := @OfNat.ofNat Nat _ _) (y := @OfNat.ofNat Nat _ _) (k := @OfNat.ofNat Nat _ _) (by assumption) (by assumption) (by k_dflt exact rfl)
      | exact Mine.ltBP (c := @OfNat.ofNat Nat _ _) (m := @OfNat.ofNat Nat _ _) (n := @OfNat.ofNat Nat _ _) (by assumption) (by assumption) (by k_dflt exact rfl)
      | exact Mine.eqP (c := @OfNat.ofNat Nat _ _) (m := @OfNat.ofNat Nat _ _) (n := @OfNat.ofNat Nat _ _) (by assumption) (by assumption) (by assumption) (by k_dflt exact rfl)
      | exact Mine.eqPP (c := @OfNat.ofNat Nat _ _) (d := @OfNat.ofNat Nat _ _) (m := @OfNat.ofNat Nat _ _) (n := @OfNat.ofNat Nat _ _) (by assumption) (by assumption) (by assumption) (by assumption) (by k_dflt exact rfl)
      | exact Mine.ltBA (k := @OfNat.ofNat Nat _ _) (m := @OfNat.ofNat Nat _ _) (c := @OfNat.ofNat Nat _ _) (n := @OfNat.ofNat Nat _ _) (by assumption) (by assumption) (by assumption) (by k_dflt exact rfl)
      | exact Nat.le_of_add_right_le (by assumption))
    | ((with_reducible show Eq _ _);with_reducible first
      | assumption
      | exact Mine.om1 (by assumption)
      | exact Mine.om3 (by assumption))
    | with_reducible assumption
    | ((fail_if_success (with_reducible first | refine Mine.isTok ?_ | refine Mine.isT ?_ | refine Mine.isF ?_ | refine Mine.isZZ ?_));lia)
    | fail "none"))
  (k_with "oo:execs cons" => (k_here;(with_reducible refine' Mine.toksC ?ht9'27 ?_);(case ht9'27 => (try dsimp only);k_dflt omega);intro tk'27 htk'27;(try dsimp only)))
  trivial
theorem rows_oo_3 : True := by
  (k_with "m:k_fold" => (skip))
  (k_with "oo:evalPairs" => (k_here;dsimp only;walk1))
  (k_with "oo:storeName" => (k_here;dsimp only;walk1))
  (k_with "oo:ite" => (k_closed;with_reducible first | refine ite_pos (by decide) ?_ | refine ite_neg (by decide) ?_))
  (k_with "oo:joinParts" => (k_here;(with_reducible first | refine' Mine.jpNil ?h9'2c ?_ | refine' Mine.jpNilE ?h9'2c ?_);(case h9'2c => k_dflt kt_le)))
  trivial
end
local macro_rules | `(tactic| k_lt $h:ident) => `(tactic| (revert $h:ident;k_extra "m:iklt"))
local macro_rules
  | `(tactic| intro $x:ident) => `(tactic| first | (k_extra "m:itau";generalize Mine.ep _ _ = $x) | intros $x:ident)
  | `(tactic| intro $x:ident $y $ys*) => `(tactic| (intro $x:ident;intro $y $ys*))
  | `(tactic| intro _) => `(tactic| intro x9)
  | `(tactic| intro _ $y $ys*) => `(tactic| (intro x9;intro $y $ys*))
local macro_rules
  | `(tactic| obtain ⟨$x:ident,$p⟩ := $h:term) => do
    if x.getId == `rfl then Lean.Macro.throwUnsupported
    let t ← if p.raw.getNumArgs == 2 && p.raw[0].getNumArgs == 1 && p.raw[0][0].getNumArgs == 1 && p.raw[0][0][0].getKind == ``Lean.Parser.Tactic.rcasesPat.one && p.raw[0][0][0][0].getId != `rfl && p.raw[1].getNumArgs == 0 then `(tactic| intros $(⟨p.raw[0][0][0][0]⟩):ident) else `(tactic| (intros hx9;obtain $(⟨p.raw[0]⟩):rcasesPatMed := hx9))
    Mine.obC x h t (← `(tactic| rcases $h:term with ⟨$x:ident,$p⟩))
  | `(tactic| obtain ⟨$x:ident,$p,$ps,*⟩ := $h:term) => do
    if x.getId == `rfl then Lean.Macro.throwUnsupported
    Mine.obC x h (← `(tactic| (intros hx9;obtain ⟨$p,$ps,*⟩ := hx9))) (← `(tactic| rcases $h:term with ⟨$x:ident,$p,$ps,*⟩))
section
local macro_rules (kind := PySem.W.tacticK_extra_) | x => topOf "lt wr0 bound oo mac0 om" x
set_option genInjectivity false in
set_option genSizeOf false in
structure Lt where
  (w : World) (wa : WA) (q : WQ) (rest : Nat → List (Addr × Obj))
  (b : Nat → Addr) (n : Nat → Nat) (x : Nat → Str) (t : Nat → Tok) (v : Nat → Value) (vs : Nat → Array Value) (o : Nat → Obj) (i : Nat → Int) (f : Nat → Bool) (ys : Nat → List Str) (kv : Nat → List (Str × Value)) (tb : Nat → Nat → Option (List Nat)) (lc : Nat → List (Int × Str × Str)) (cont : Value → List Value)
  (mean : ExcName → Option Value) (mg mb : Str → Option Value) (dp un : Nat) (gd : Option (List Code)) (cn : Str) (cs : Scope) (a : Addr) (ccd : Value) (cl : List (Str × Addr)) (outer : List Env) (A₀ : Around) (base h₀ : Heap) (L : Addr) (m : Str → Option Value) (s : Shared) (R : Result → Shared → Prop)
noncomputable def ltL0 : Lt :=
  ⟨⟨fun _ _ => 0,{ strHash := fun _ => 0,shareClass := fun _ => 0,mergeTok := id,idOf := fun _ => 0,idOfShared := fun _ _ => 0,followText := fun _ => true,idOfImm := fun _ => 0 }⟩,
    ⟨0,0,0,0,0,0,0,0,0,0,0,0,0,0,0,0,0,0,0,0,0,0,0,0,0,0,0,0,0,0,0⟩,⟨#[],#[],#[],#[],#[],0,0,0,0,0,true,true,0⟩,fun _ => [],
    fun _ => 0,fun _ => 0,fun _ => default,fun _ => 0,fun _ => .none,fun _ => #[],fun _ => default,fun _ => 0,fun _ => true,fun _ => [],fun _ => [],fun _ _ => none,fun _ => [],fun _ => [],
    fun _ => none,fun _ => none,fun _ => none,0,0,none,default,default,0, .none,[],[],{},default,default,0,fun _ => none,⟨default,#[],{},0,{}⟩,fun _ _ => True⟩
noncomputable abbrev nth {α : Type} (d : α) (l : List α) (i : Nat) : α := l.getD i d
theorem Lt.ex (P : Lt → Prop) : ∃ c : Lt,P c → ∀ l,P l :=
  Classical.byCases (fun h : ∀ l,P l => ⟨ltL0,fun _ => h⟩) fun h => let ⟨l,hl⟩ := Classical.not_forall.mp h;⟨l,fun x => absurd x hl⟩
theorem tau {P : Lt → Prop} {c : Lt} (e : c = Classical.choose (Lt.ex P)) (h : P c) (l : Lt) : P l :=
  Classical.choose_spec (Lt.ex P) (by subst e;exact h) l
def SpecQ (w : World) (f : Addr) (d u : Nat) (news : List (Addr × Obj)) (args : List Value) (Ret : Value → List (Addr × Obj) → Prop) (mean : ExcName → Option Value) (mg mb : Str → Option Value) (dp un : Nat) (gd : Option (List Code)) (cn : Str) (cs : Scope) (a : Addr) (ccd : Value) (cl : List (Str × Addr)) (outer : List Env) (A₀ : Around) (base h₀ : Heap) (L : Addr) (m : Str → Option Value) (s : Shared) (R : Result → Shared → Prop) : Prop :=
    Below A₀ base outer h₀ → Fr h₀ L s.heap m → (K w.params).In h₀ → News h₀ L s.heap news → Top topProg lw mean mg mb h₀ → cs.kind = .function → 1 ≤ s.toks → dp + d < recursionLimit → un + u < cLine →
    (∀ v news' s',Ret v news' → Same s s' → Fr h₀ L s'.heap m → News h₀ L s'.heap news' → R (.ok (.ret v)) s') →
    codeAny (model PySem.Challenge.rw_pg0304_01.row.prog w) (ktrTop dp un gd cn cs L a ccd cl outer) (.call (.ref f) ⟨args,[]⟩) R s
abbrev SpecL (l : Lt) (f : Addr) (d u : Nat) (news : List (Addr × Obj)) (args : List Value) (Ret : Value → List (Addr × Obj) → Prop) : Prop :=
  SpecQ l.w f d u news args Ret l.mean l.mg l.mb l.dp l.un l.gd l.cn l.cs l.a l.ccd l.cl l.outer l.A₀ l.base l.h₀ l.L l.m l.s l.R
theorem Spec.close {w : World} {f : Addr} {d u : Nat} {news : List (Addr × Obj)} {args : List Value} {Ret : Value → List (Addr × Obj) → Prop}
    (h : ∀ mean mg mb dp un gd cn cs a ccd cl outer A₀ base h₀ L m s R,SpecQ w f d u news args Ret mean mg mb dp un gd cn cs a ccd cl outer A₀ base h₀ L m s R) : Spec w f d u news args Ret := h
noncomputable abbrev waL (l : Lt) : WA := ⟨l.b 0,l.b 1,l.b 2,l.b 3,l.b 4,l.b 5,l.b 6,l.b 7,l.b 8,l.b 9,l.b 10,l.b 11,l.b 12,l.t 0,l.t 1,l.t 2,l.t 3,l.t 4,l.t 5,l.t 6,l.t 7,l.t 8,l.t 9,l.t 10,l.t 11,l.t 12,l.t 13,l.t 14,l.t 15,l.t 16,l.t 17⟩
noncomputable abbrev wqL (l : Lt) : WQ := ⟨l.vs 0,l.vs 1,l.vs 2,l.vs 3,l.vs 4,l.n 0,l.n 1,l.n 2,l.n 3,l.n 4,l.f 0,l.f 1,l.t 18⟩
theorem wqSome : Nonempty WQ := ⟨⟨#[],#[],#[],#[],#[],0,0,0,0,0,true,true,0⟩⟩
theorem WQ.elE {P : WQ → Prop} (h : P ⟨(ep wqSome P).its,(ep wqSome P).das,(ep wqSome P).dss,(ep wqSome P).nss,(ep wqSome P).pss,(ep wqSome P).n,(ep wqSome P).nd,(ep wqSome P).nds,(ep wqSome P).nns,(ep wqSome P).nps,(ep wqSome P).seen,(ep wqSome P).done,(ep wqSome P).ti⟩) (q : WQ) : P q := @tau1 _ wqSome P h q
theorem callSome : Nonempty (Int × Str × Str) := ⟨(0,default,default)⟩
theorem callEl {P : Int × Str × Str → Prop} (h : P ((ep callSome P).1,(ep callSome P).2.1,(ep callSome P).2.2)) (c : Int × Str × Str) : P c := @tau1 _ callSome P h c
end
section
local macro_rules (kind := PySem.W.tacticK_extra_) | x => topOf "esc pure1 lt wr0 bound oo mac0 om" x
def esc_cP (l : Lt) : Prop :=
  ((l.x 0).length ≤ 50) →
  SpecL l 161 2 20 (l.rest 0) [.str (l.x 0) (l.t 19)] (fun v news' => ∃ t,v = .str (repl 13 "&#xD;" (repl 62 "&gt;" (repl 60 "&lt;" (repl 38 "&amp;" (l.x 0))))) t ∧ news' = (l.rest 0))
@[irreducible] noncomputable def cEc : Lt := Classical.choose (Lt.ex esc_cP)
theorem esc_c_c : esc_cP cEc := by
  unfold esc_cP SpecL SpecQ
  k_fill
  generalize cEc.w = w;generalize cEc.rest 0 = news;generalize cEc.x 0 = x;generalize cEc.t 19 = tx;generalize cEc.mean = mean;generalize cEc.mg = mg;generalize cEc.mb = mb;generalize cEc.dp = dp
  generalize cEc.un = un;generalize cEc.gd = gd;generalize cEc.cn = cn;generalize cEc.cs = cs;generalize cEc.a = a;generalize cEc.ccd = ccd;generalize cEc.cl = cl;generalize cEc.outer = outer
  generalize cEc.A₀ = A₀;generalize cEc.base = base;generalize cEc.h₀ = h₀;generalize cEc.L = L;generalize cEc.m = m;generalize cEc.s = s;generalize cEc.R = R
  intros hx B F X N T hk hts hd1 hu hret
  k_dflt (refine' code_def (binds := [("text", .str x tx)]) ?k1 ?k2 ?k3 ?k4 ?k5 ?kA ?kF ?kK ?k6 ?k7 ?k8 ?k9 ?kB ?_ ?c2 ?c3 ?c4 ?c5;(case kA => exact rfl);(case kF => exact rfl);(case kK => assumption);(case k1 => k_asm);(case k2 => k_asm);(case k3 => k_asm);(case k4 => k_asm);(case k5 => k_asm);(case k6 => k_is);(case k7 => k_is);(case k8 => ktr_room);(case k9 => exact BindsTo.of_eq rfl);(case c5 => decide);(case kB => exact locs rfl);(case c2 => exact rfl);(case c3 => exact rfl);(case c4 => exact rfl);k_whole;intro g' L' h' FG' F' N' B' X' T';(try dsimp only);(try k_lift B');(try k_fold))
  walk1
  walk1
  have F2 := Fr.same (x := "text") (v := .str x tx) rfl F'
  clear F'
  have l0 : (repl 38 "&amp;" x).length ≤ 250 := repl_len (by decide) (by show _ * 5 ≤ _;omega)
  have l1 : (repl 60 "&lt;" (repl 38 "&amp;" x)).length ≤ 1000 := repl_len (by decide) (by show _ * 4 ≤ _;omega)
  have l2 : (repl 62 "&gt;" (repl 60 "&lt;" (repl 38 "&amp;" x))).length ≤ 4000 := repl_len (by decide) (by show _ * 4 ≤ _;omega)
  have l3 : (repl 13 "&#xD;" (repl 62 "&gt;" (repl 60 "&lt;" (repl 38 "&amp;" x)))).length ≤ 20000 := repl_len (by decide) (by show _ * 5 ≤ _;omega)
  refine cut_text (x := "text") (repl 38 "&amp;" x) F2 N' (by first | assumption | (refine Mine.leT ?_;(try dsimp only);omega)) ?_ ?_
  · k_steps
    · exact ⟨rfl,⟨rfl,rfl⟩,⟨_,by rw [repl_none (notin_of (c := "&") (by decide) (by assumption))];assumption⟩,by assumption⟩
    · exact ⟨rfl,⟨rfl,rfl⟩,⟨_,by rw [← replace_repl];exact Fr.over (by assumption)⟩,by assumption⟩
  clear F2 N'
  intro s3 t3 S3 hs3 F3 N3
  refine cut_text (x := "text") (repl 60 "&lt;" (repl 38 "&amp;" x)) F3 N3 (by first | assumption | (refine Mine.leT ?_;(try dsimp only);omega)) ?_ ?_
  · k_steps
    · exact ⟨rfl,⟨rfl,rfl⟩,⟨_,by rw [repl_none (notin_of (c := "<") (by decide) (by assumption))];assumption⟩,by assumption⟩
    · exact ⟨rfl,⟨rfl,rfl⟩,⟨_,by rw [← replace_repl];exact Fr.over (by assumption)⟩,by assumption⟩
  clear F3 N3
  intro s4 t4 S4 hs4 F4 N4
  refine cut_text (x := "text") (repl 62 "&gt;" (repl 60 "&lt;" (repl 38 "&amp;" x))) F4 N4 (by first | assumption | (refine Mine.leT ?_;(try dsimp only);omega)) ?_ ?_
  · k_steps
    · exact ⟨rfl,⟨rfl,rfl⟩,⟨_,by rw [repl_none (notin_of (c := ">") (by decide) (by assumption))];assumption⟩,by assumption⟩
    · exact ⟨rfl,⟨rfl,rfl⟩,⟨_,by rw [← replace_repl];exact Fr.over (by assumption)⟩,by assumption⟩
  clear F4 N4
  intro s5 t5 S5 hs5 F5 N5
  refine cut_text (x := "text") (repl 13 "&#xD;" (repl 62 "&gt;" (repl 60 "&lt;" (repl 38 "&amp;" x)))) F5 N5 (by first | assumption | (refine Mine.leT ?_;(try dsimp only);omega)) ?_ ?_
  · k_steps
    · exact ⟨rfl,⟨rfl,rfl⟩,⟨_,by rw [repl_none (notin_of (c := "\r") (by decide) (by assumption))];assumption⟩,by assumption⟩
    · exact ⟨rfl,⟨rfl,rfl⟩,⟨_,by rw [← replace_repl];exact Fr.over (by assumption)⟩,by assumption⟩
  clear F5 N5
  intro s6 t6 S6 hs6 F6 N6
  k_steps
  exact hret _ _ _ ⟨_,rfl,rfl⟩ (Same.trans (show Same s s3 from S3) (Same.trans S4 (Same.trans S5 (Same.trans S6 ⟨rfl,rfl⟩)))) (by assumption) (by assumption)
theorem esc_c : ∀ (w : World) (news : List (Addr × Obj)) (x : Str) (tx : Tok) (hx : x.length ≤ 50),Spec w 161 2 20 news [.str x tx] (fun v news' => ∃ t,v = .str (repl 13 "&#xD;" (repl 62 "&gt;" (repl 60 "&lt;" (repl 38 "&amp;" x)))) t ∧ news' = news) := by
  intros w news x tx hx
  refine Spec.close fun mean mg mb dp un gd cn cs a ccd cl outer A₀ base h₀ L m s R => ?_
  exact tau (by unfold cEc;rfl) esc_c_c { ltL0 with w := w,x := nth default [x],t := nth 0 [0,0,0,0,0,0,0,0,0,0,0,0,0,0,0,0,0,0,0,tx],rest := nth [] [news],mean,mg,mb,dp,un,gd,cn,cs,a,ccd,cl,outer,A₀,base,h₀,L,m,s,R } hx
def esc_aP (l : Lt) : Prop :=
  ((l.x 0).length ≤ 50) →
  SpecL l 168 2 20 (l.rest 0) [.str (l.x 0) (l.t 19)] (fun v news' => ∃ t,v = .str (repl 13 "&#xD;" (repl 10 "&#xA;" (repl 9 "&#x9;" (repl 34 "&quot;" (repl 60 "&lt;" (repl 38 "&amp;" (l.x 0))))))) t ∧ news' = (l.rest 0))
@[irreducible] noncomputable def cEa : Lt := Classical.choose (Lt.ex esc_aP)
theorem esc_a_c : esc_aP cEa := by
  unfold esc_aP SpecL SpecQ
  k_fill
  generalize cEa.w = w;generalize cEa.rest 0 = news;generalize cEa.x 0 = x;generalize cEa.t 19 = tx;generalize cEa.mean = mean;generalize cEa.mg = mg;generalize cEa.mb = mb;generalize cEa.dp = dp
  generalize cEa.un = un;generalize cEa.gd = gd;generalize cEa.cn = cn;generalize cEa.cs = cs;generalize cEa.a = a;generalize cEa.ccd = ccd;generalize cEa.cl = cl;generalize cEa.outer = outer
  generalize cEa.A₀ = A₀;generalize cEa.base = base;generalize cEa.h₀ = h₀;generalize cEa.L = L;generalize cEa.m = m;generalize cEa.s = s;generalize cEa.R = R
  intros hx B F X N T hk hts hd1 hu hret
  k_dflt (refine' code_def (binds := [("text", .str x tx)]) ?k1 ?k2 ?k3 ?k4 ?k5 ?kA ?kF ?kK ?k6 ?k7 ?k8 ?k9 ?kB ?_ ?c2 ?c3 ?c4 ?c5;(case kA => exact rfl);(case kF => exact rfl);(case kK => assumption);(case k1 => k_asm);(case k2 => k_asm);(case k3 => k_asm);(case k4 => k_asm);(case k5 => k_asm);(case k6 => k_is);(case k7 => k_is);(case k8 => ktr_room);(case k9 => exact BindsTo.of_eq rfl);(case c5 => decide);(case kB => exact locs rfl);(case c2 => exact rfl);(case c3 => exact rfl);(case c4 => exact rfl);k_whole;intro g' L' h' FG' F' N' B' X' T';(try dsimp only);(try k_lift B');(try k_fold))
  walk1
  walk1
  have F2 := Fr.same (x := "text") (v := .str x tx) rfl F'
  clear F'
  have l0 : (repl 38 "&amp;" x).length ≤ 250 := repl_len (by decide) (by show _ * 5 ≤ _;omega)
  have l1 : (repl 60 "&lt;" (repl 38 "&amp;" x)).length ≤ 1000 := repl_len (by decide) (by show _ * 4 ≤ _;omega)
  have l2 : (repl 34 "&quot;" (repl 60 "&lt;" (repl 38 "&amp;" x))).length ≤ 6000 := repl_len (by decide) (by show _ * 6 ≤ _;omega)
  have l3 : (repl 9 "&#x9;" (repl 34 "&quot;" (repl 60 "&lt;" (repl 38 "&amp;" x)))).length ≤ 30000 := repl_len (by decide) (by show _ * 5 ≤ _;omega)
  have l4 : (repl 10 "&#xA;" (repl 9 "&#x9;" (repl 34 "&quot;" (repl 60 "&lt;" (repl 38 "&amp;" x))))).length ≤ 150000 := repl_len (by decide) (by show _ * 5 ≤ _;omega)
  have l5 : (repl 13 "&#xD;" (repl 10 "&#xA;" (repl 9 "&#x9;" (repl 34 "&quot;" (repl 60 "&lt;" (repl 38 "&amp;" x)))))).length ≤ 750000 := repl_len (by decide) (by show _ * 5 ≤ _;omega)
  refine cut_text (x := "text") (repl 38 "&amp;" x) F2 N' (by first | assumption | (refine Mine.leT ?_;(try dsimp only);omega)) ?_ ?_
  · k_steps
    · exact ⟨rfl,⟨rfl,rfl⟩,⟨_,by rw [repl_none (notin_of (c := "&") (by decide) (by assumption))];assumption⟩,by assumption⟩
    · exact ⟨rfl,⟨rfl,rfl⟩,⟨_,by rw [← replace_repl];exact Fr.over (by assumption)⟩,by assumption⟩
  clear F2 N'
  intro s3 t3 S3 hs3 F3 N3
  refine cut_text (x := "text") (repl 60 "&lt;" (repl 38 "&amp;" x)) F3 N3 (by first | assumption | (refine Mine.leT ?_;(try dsimp only);omega)) ?_ ?_
  · k_steps
    · exact ⟨rfl,⟨rfl,rfl⟩,⟨_,by rw [repl_none (notin_of (c := "<") (by decide) (by assumption))];assumption⟩,by assumption⟩
    · exact ⟨rfl,⟨rfl,rfl⟩,⟨_,by rw [← replace_repl];exact Fr.over (by assumption)⟩,by assumption⟩
  clear F3 N3
  intro s4 t4 S4 hs4 F4 N4
  refine cut_text (x := "text") (repl 34 "&quot;" (repl 60 "&lt;" (repl 38 "&amp;" x))) F4 N4 (by first | assumption | (refine Mine.leT ?_;(try dsimp only);omega)) ?_ ?_
  · k_steps
    · exact ⟨rfl,⟨rfl,rfl⟩,⟨_,by rw [repl_none (notin_of (c := "\"") (by decide) (by assumption))];assumption⟩,by assumption⟩
    · exact ⟨rfl,⟨rfl,rfl⟩,⟨_,by rw [← replace_repl];exact Fr.over (by assumption)⟩,by assumption⟩
  clear F4 N4
  intro s5 t5 S5 hs5 F5 N5
  refine cut_text (x := "text") (repl 9 "&#x9;" (repl 34 "&quot;" (repl 60 "&lt;" (repl 38 "&amp;" x)))) F5 N5 (by first | assumption | (refine Mine.leT ?_;(try dsimp only);omega)) ?_ ?_
  · k_steps
    · exact ⟨rfl,⟨rfl,rfl⟩,⟨_,by rw [repl_none (notin_of (c := "\t") (by decide) (by assumption))];assumption⟩,by assumption⟩
    · exact ⟨rfl,⟨rfl,rfl⟩,⟨_,by rw [← replace_repl];exact Fr.over (by assumption)⟩,by assumption⟩
  clear F5 N5
  intro s6 t6 S6 hs6 F6 N6
  refine cut_text (x := "text") (repl 10 "&#xA;" (repl 9 "&#x9;" (repl 34 "&quot;" (repl 60 "&lt;" (repl 38 "&amp;" x))))) F6 N6 (by first | assumption | (refine Mine.leT ?_;(try dsimp only);omega)) ?_ ?_
  · k_steps
    · exact ⟨rfl,⟨rfl,rfl⟩,⟨_,by rw [repl_none (notin_of (c := "\n") (by decide) (by assumption))];assumption⟩,by assumption⟩
    · exact ⟨rfl,⟨rfl,rfl⟩,⟨_,by rw [← replace_repl];exact Fr.over (by assumption)⟩,by assumption⟩
  clear F6 N6
  intro s7 t7 S7 hs7 F7 N7
  refine cut_text (x := "text") (repl 13 "&#xD;" (repl 10 "&#xA;" (repl 9 "&#x9;" (repl 34 "&quot;" (repl 60 "&lt;" (repl 38 "&amp;" x)))))) F7 N7 (by first | assumption | (refine Mine.leT ?_;(try dsimp only);omega)) ?_ ?_
  · k_steps
    · exact ⟨rfl,⟨rfl,rfl⟩,⟨_,by rw [repl_none (notin_of (c := "\r") (by decide) (by assumption))];assumption⟩,by assumption⟩
    · exact ⟨rfl,⟨rfl,rfl⟩,⟨_,by rw [← replace_repl];exact Fr.over (by assumption)⟩,by assumption⟩
  clear F7 N7
  intro s8 t8 S8 hs8 F8 N8
  k_steps
  exact hret _ _ _ ⟨_,rfl,rfl⟩ (Same.trans (show Same s s3 from S3) (Same.trans S4 (Same.trans S5 (Same.trans S6 (Same.trans S7 (Same.trans S8 ⟨rfl,rfl⟩)))))) (by assumption) (by assumption)
theorem esc_a : ∀ (w : World) (news : List (Addr × Obj)) (x : Str) (tx : Tok) (hx : x.length ≤ 50),Spec w 168 2 20 news [.str x tx] (fun v news' => ∃ t,v = .str (repl 13 "&#xD;" (repl 10 "&#xA;" (repl 9 "&#x9;" (repl 34 "&quot;" (repl 60 "&lt;" (repl 38 "&amp;" x)))))) t ∧ news' = news) := by
  intros w news x tx hx
  refine Spec.close fun mean mg mb dp un gd cn cs a ccd cl outer A₀ base h₀ L m s R => ?_
  exact tau (by unfold cEa;rfl) esc_a_c { ltL0 with w := w,x := nth default [x],t := nth 0 [0,0,0,0,0,0,0,0,0,0,0,0,0,0,0,0,0,0,0,tx],rest := nth [] [news],mean,mg,mb,dp,un,gd,cn,cs,a,ccd,cl,outer,A₀,base,h₀,L,m,s,R } hx
theorem rows_esc_1 : True := by
  (k_with "esc:call ref" => (k_here;(with_reducible show wpAny _ _ (call (Value.ref 161) [Value.str _ _]) _ _ _);k_dflt (refine' Mine.Spec.callC (Mine.esc_c _ _ _ _ ?P1'2d) ?B9'2d ?F9'2d ?X9'2d ?N9'2d ?T9'2d ?hk9'2d ?ht9'2d ?hd9'2d ?hu9'2d ?_;(case B9'2d => k_asm);(case F9'2d => k_asm);(case X9'2d => k_asm);(case N9'2d => k_asm);(case T9'2d => k_asm);(case hk9'2d => first | assumption | exact rfl);(case ht9'2d => (refine Mine.leT ?_;(try dsimp only);omega));(case hd9'2d => ktr_room);(case hu9'2d => ktr_units);(case P1'2d => omega);k_whole;intro v''2d news9''2d h9''2d dr9''2d tk9''2d hr'2d F''2d N''2d tk''2d;(obtain ⟨t''2d,hv'2d,hn'2d⟩ := hr'2d);(subst hv'2d);(subst hn'2d);(try dsimp only at N''2d);(try dsimp only))))
  (k_with "esc:call ref" => (k_here;(with_reducible show wpAny _ _ (call (Value.ref 168) [Value.str _ _]) _ _ _);k_dflt (refine' Mine.Spec.callC (Mine.esc_a _ _ _ _ ?P1'2e) ?B9'2e ?F9'2e ?X9'2e ?N9'2e ?T9'2e ?hk9'2e ?ht9'2e ?hd9'2e ?hu9'2e ?_;(case B9'2e => k_asm);(case F9'2e => k_asm);(case X9'2e => k_asm);(case N9'2e => k_asm);(case T9'2e => k_asm);(case hk9'2e => first | assumption | exact rfl);(case ht9'2e => (refine Mine.leT ?_;(try dsimp only);omega));(case hd9'2e => ktr_room);(case hu9'2e => ktr_units);(case P1'2e => omega);k_whole;intro v''2e news9''2e h9''2e dr9''2e tk9''2e hr'2e F''2e N''2e tk''2e;(obtain ⟨t''2e,hv'2e,hn'2e⟩ := hr'2e);(subst hv'2e);(subst hn'2e);(try dsimp only at N''2e);(try dsimp only))))
  trivial
end
section
local macro_rules (kind := PySem.W.tacticK_extra_) | x => topOf "quote quote0 lt wr0 bound oo mac0 om" x
theorem rows_quote_1 : True := by
  (k_with "quote:getMethod ref" => (k_here;(with_reducible show wpAny _ _ (getMethod (Value.ref _) (Str.ofString "sub") _) _ _ _);k_dflt (refine' Mine.gm_pat ?F'2f ?X'2f ?l'2f ?c'2f ?d'2f ?_;(case F'2f => k_asm);(case X'2f => k_asm);(case l'2f => exact rfl);(case c'2f => exact rfl);(case d'2f => exact rfl))))
  (k_with "quote:call builtin:re.Pattern.sub" => (k_here;first
    | (k_dflt (refine' Mine.sub_nl ?F'2g ?N'2g ?X'2g ?hx'2g ?_;(case F'2g => k_asm);(case N'2g => k_asm);(case X'2g => k_asm);(case hx'2g => assumption);k_whole);intro t''2g h''2g tk''2g F''2g N''2g)
    | (k_dflt (refine' Mine.sub_dot ?F'2g ?N'2g ?X'2g ?hx'2g ?_;(case F'2g => k_asm);(case N'2g => k_asm);(case X'2g => k_asm);(case hx'2g => assumption);k_whole);intro t''2g h''2g tk''2g F''2g N''2g)))
  trivial
def quotedP (l : Lt) : Prop :=
  ((l.x 0).length ≤ 2 ^ 18) →
  SpecL l 185 2 20 (l.rest 0) [.str (l.x 0) (l.t 19)] (fun v news' => ∃ t,v = .str (ofL (mail (l.x 0).cps.toList)) t ∧ news' = (l.rest 0))
@[irreducible] noncomputable def cQd : Lt := Classical.choose (Lt.ex quotedP)
theorem quoted_c : quotedP cQd := by
  unfold quotedP SpecL SpecQ
  k_fill
  generalize cQd.w = w;generalize cQd.rest 0 = news;generalize cQd.x 0 = x;generalize cQd.t 19 = tx;generalize cQd.mean = mean;generalize cQd.mg = mg;generalize cQd.mb = mb;generalize cQd.dp = dp
  generalize cQd.un = un;generalize cQd.gd = gd;generalize cQd.cn = cn;generalize cQd.cs = cs;generalize cQd.a = a;generalize cQd.ccd = ccd;generalize cQd.cl = cl;generalize cQd.outer = outer
  generalize cQd.A₀ = A₀;generalize cQd.base = base;generalize cQd.h₀ = h₀;generalize cQd.L = L;generalize cQd.m = m;generalize cQd.s = s;generalize cQd.R = R
  intros hx B F X N T hk hts hd1 hu hret
  k_dflt (refine' code_def (binds := [("data", .str x tx)]) ?k1 ?k2 ?k3 ?k4 ?k5 ?kA ?kF ?kK ?k6 ?k7 ?k8 ?k9 ?kB ?_ ?c2 ?c3 ?c4 ?c5;(case kA => exact rfl);(case kF => exact rfl);(case kK => assumption);(case k1 => k_asm);(case k2 => k_asm);(case k3 => k_asm);(case k4 => k_asm);(case k5 => k_asm);(case k6 => k_is);(case k7 => k_is);(case k8 => ktr_room);(case k9 => exact BindsTo.of_eq rfl);(case c5 => decide);(case kB => exact locs rfl);(case c2 => exact rfl);(case c3 => exact rfl);(case c4 => exact rfl);k_whole;intro g' L' h' FG' F' N' B' X' T';(try dsimp only);(try k_lift B');(try k_fold))
  have h1 : x.length ≤ 2 ^ 20 := by omega
  have h2 : (ofL (crlf x.cps.toList)).length ≤ 2 ^ 20 := by
    rw [ofL_len]
    have := crlf_len x.cps.toList
    have : x.cps.toList.length = x.length := by show _ = x.cps.size;simp
    omega
  k_steps
  exact hret _ _ _ ⟨_,rfl,rfl⟩ ⟨rfl,rfl⟩ (by assumption) (by assumption)
theorem quoted : ∀ (w : World) (news : List (Addr × Obj)) (x : Str) (tx : Tok) (hx : x.length ≤ 2 ^ 18),Spec w 185 2 20 news [.str x tx] (fun v news' => ∃ t,v = .str (ofL (mail x.cps.toList)) t ∧ news' = news) := by
  intros w news x tx hx
  refine Spec.close fun mean mg mb dp un gd cn cs a ccd cl outer A₀ base h₀ L m s R => ?_
  exact tau (by unfold cQd;rfl) quoted_c { ltL0 with w := w,x := nth default [x],t := nth 0 [0,0,0,0,0,0,0,0,0,0,0,0,0,0,0,0,0,0,0,tx],rest := nth [] [news],mean,mg,mb,dp,un,gd,cn,cs,a,ccd,cl,outer,A₀,base,h₀,L,m,s,R } hx
theorem rows_quote_2 : True := by
  (k_with "quote:call ref" => (k_here;(with_reducible show wpAny _ _ (call (Value.ref 185) [Value.str _ _]) _ _ _);k_dflt (refine' Mine.Spec.callC (Mine.quoted _ _ _ _ ?P1'2h) ?B9'2h ?F9'2h ?X9'2h ?N9'2h ?T9'2h ?hk9'2h ?ht9'2h ?hd9'2h ?hu9'2h ?_;(case B9'2h => k_asm);(case F9'2h => k_asm);(case X9'2h => k_asm);(case N9'2h => k_asm);(case T9'2h => k_asm);(case hk9'2h => first | assumption | exact rfl);(case ht9'2h => (refine Mine.leT ?_;(try dsimp only);omega));(case hd9'2h => ktr_room);(case hu9'2h => ktr_units);(case P1'2h => omega);k_whole;intro v''2h news9''2h h9''2h dr9''2h tk9''2h hr'2h F''2h N''2h tk''2h;(obtain ⟨t''2h,hv'2h,hn'2h⟩ := hr'2h);(subst hv'2h);(subst hn'2h);(try dsimp only at N''2h);(try dsimp only))))
  trivial
end
section
local macro_rules (kind := PySem.W.tacticK_extra_) | x => topOf "ltext ints fast lt wr0 bound oo mac0 om" x
noncomputable def pc (c : Nat) : Nat → Str
  | 0 => "."
  | 1 => "\n"
  | 2 => "\r"
  | 3 => "&"
  | 4 => "<"
  | 5 => ">"
  | 6 => "\""
  | 7 => "\t"
  | 9 => ⟨#[c]⟩
  | _ => ""
theorem pc_len (c n : Nat) : (pc c n).length ≤ 1 := by
  unfold pc
  split <;> exact Nat.le_of_ble_eq_true rfl
noncomputable def tellText (q : Int) : Str := pc ((q.fdiv 100).fmod 55296).toNat (q.fmod 10).toNat ++ pc ((q.fdiv 100).fmod 55296).toNat ((q.fdiv 10).fmod 10).toNat
theorem News.drop1 {h₀ h : Heap} {L : Addr} {p : Addr × Obj} {r : List (Addr × Obj)} (N : News h₀ L h (p :: r)) : News h₀ L h r := fun q hq => N q (.tail _ hq)
theorem tens {p : Nat → Prop} (h0 : p 0) (h1 : p 1) (h2 : p 2) (h3 : p 3) (h4 : p 4) (h5 : p 5) (h6 : p 6) (h7 : p 7) (h8 : p 8) (h9 : p 9) : ∀ i,i < 10 → p i
  | 0,_ => h0 | 1,_ => h1 | 2,_ => h2 | 3,_ => h3 | 4,_ => h4 | 5,_ => h5 | 6,_ => h6 | 7,_ => h7 | 8,_ => h8 | 9,_ => h9 | n + 10,h => absurd h (by omega)
theorem item_piece {prog : Program} {w : World} {A : Around} {E : Value → Shared → Prop} {s : Shared} {h₀ : Heap} {L : Addr} {news : List (Addr × Obj)} {value slice : PySem.Expr} {l : Addr} {its : Array Value} {n : Nat} {y : Int} {u : Tok} {c : Nat} {Q : Value → Shared → Prop}
    (N : News h₀ L s.heap news) (hm : (l,listOf its n) ∈ news) (hp : ∀ i,i < 10 → ∃ t,its[i]? = some (.str (pc c i) t)) (h : ∀ t,(pc c (y.fmod 10).toNat).length ≤ 1 → Q (.str (pc c (y.fmod 10).toNat) t) s)
    (hs : subscripted slice false (.ref l) (.int (y.fmod 10) u) = operate [.ref l, .int k u] (getItem (.ref l) (.int (y.fmod 10) u)) := by with_unfolding_all rfl) :
    wpAny (model prog w) A (subscriptTail value slice (.ref l) (.int (y.fmod 10) u)) Q E s := by
  have h0 : 0 ≤ y.fmod 10 := Int.fmod_nonneg_of_pos _ (by decide)
  have h10 : y.fmod 10 < 10 := Int.fmod_lt_of_pos _ (by decide)
  obtain ⟨t,ht⟩ := hp (y.fmod 10).toNat (by omega)
  have hl : s.heap.IsList l its := ⟨_,(N _ hm).1,rfl,_,rfl⟩
  exact tail_any hl.typeIs slot_list_getitem.lookup (wpAny_getItem_list hl h0 (by omega) ht (h t (pc_len _ _))) hs
theorem rows_ltext_1 : True := by
  (k_with "ltext:subscriptTail" => (k_here;(with_reducible show wpAny _ _ (subscriptTail _ _ (Value.ref _) (Value.int _ _)) _ _ _);(k_dflt (refine' Mine.item_piece ?k1'2i ?k2'2i ?k5'2i ?_ ?k6'2i;(case k1'2i => k_asm);(case k2'2i => k_mem);(case k5'2i => exact Mine.tens ⟨_,rfl⟩ ⟨_,rfl⟩ ⟨_,rfl⟩ ⟨_,rfl⟩ ⟨_,rfl⟩ ⟨_,rfl⟩ ⟨_,rfl⟩ ⟨_,rfl⟩ ⟨_,rfl⟩ ⟨_,rfl⟩);(case k6'2i => with_unfolding_all rfl);k_whole));intro t''2i hl''2i))
  trivial
def lawTextP (l : Lt) : Prop :=
  (0 ≤ (l.i 0)) →
  ((l.i 0) < 2 ^ 50) →
  SpecL l 192 2 20 (l.rest 0) [.int (l.i 0) (l.t 19)] (fun v news' => ∃ t,v = .str (tellText (l.i 0)) t ∧ news' = (l.rest 0))
@[irreducible] noncomputable def cLx : Lt := Classical.choose (Lt.ex lawTextP)
theorem lawText_c : lawTextP cLx := by
  unfold lawTextP SpecL SpecQ
  k_fill
  generalize cLx.w = w;generalize cLx.rest 0 = news;generalize cLx.i 0 = x;generalize cLx.t 19 = tx;generalize cLx.mean = mean;generalize cLx.mg = mg;generalize cLx.mb = mb;generalize cLx.dp = dp
  generalize cLx.un = un;generalize cLx.gd = gd;generalize cLx.cn = cn;generalize cLx.cs = cs;generalize cLx.a = a;generalize cLx.ccd = ccd;generalize cLx.cl = cl;generalize cLx.outer = outer
  generalize cLx.A₀ = A₀;generalize cLx.base = base;generalize cLx.h₀ = h₀;generalize cLx.L = L;generalize cLx.m = m;generalize cLx.s = s;generalize cLx.R = R
  intros hx hx2 B F X N T hk hts hd1 hu hret
  k_dflt (refine' code_def (binds := [("q", .int x tx)]) ?k1 ?k2 ?k3 ?k4 ?k5 ?kA ?kF ?kK ?k6 ?k7 ?k8 ?k9 ?kB ?_ ?c2 ?c3 ?c4 ?c5;(case kA => exact rfl);(case kF => exact rfl);(case kK => assumption);(case k1 => k_asm);(case k2 => k_asm);(case k3 => k_asm);(case k4 => k_asm);(case k5 => k_asm);(case k6 => k_is);(case k7 => k_is);(case k8 => ktr_room);(case k9 => exact BindsTo.of_eq rfl);(case c5 => decide);(case kB => exact locs rfl);(case c2 => exact rfl);(case c3 => exact rfl);(case c4 => exact rfl);k_whole;intro g' L' h' FG' F' N' B' X' T';(try dsimp only);(try k_lift B');(try k_fold))
  k_steps
  exact hret _ _ _ ⟨_,rfl,rfl⟩ ⟨rfl,rfl⟩ (by assumption) (News.drop1 (by assumption))
theorem lawText : ∀ (w : World) (news : List (Addr × Obj)) (q : Int) (tx : Tok) (hx : 0 ≤ q) (hq : q < 2 ^ 50),Spec w 192 2 20 news [.int q tx] (fun v news' => ∃ t,v = .str (tellText q) t ∧ news' = news) := by
  intros w news q tx hx hq
  refine Spec.close fun mean mg mb dp un gd cn cs a ccd cl outer A₀ base h₀ L m s R => ?_
  exact tau (by unfold cLx;rfl) lawText_c { ltL0 with w := w,t := nth 0 [0,0,0,0,0,0,0,0,0,0,0,0,0,0,0,0,0,0,0,tx],i := nth 0 [q],rest := nth [] [news],mean,mg,mb,dp,un,gd,cn,cs,a,ccd,cl,outer,A₀,base,h₀,L,m,s,R } hx hq
theorem rows_ltext_2 : True := by
  (k_with "ltext:call ref" => (k_here;(with_reducible show wpAny _ _ (call (Value.ref 192) [Value.int _ _]) _ _ _);k_dflt (refine' Mine.Spec.callC (Mine.lawText _ _ _ _ ?P1'2j ?P2'2j) ?B9'2j ?F9'2j ?X9'2j ?N9'2j ?T9'2j ?hk9'2j ?ht9'2j ?hd9'2j ?hu9'2j ?_;(case B9'2j => k_asm);(case F9'2j => k_asm);(case X9'2j => k_asm);(case N9'2j => k_asm);(case T9'2j => k_asm);(case hk9'2j => first | assumption | exact rfl);(case ht9'2j => (refine Mine.leT ?_;(try dsimp only);omega));(case hd9'2j => ktr_room);(case hu9'2j => ktr_units);(case P1'2j => first | exact Mine.fdiv_nn (by decide) (by omega) | omega);(case P2'2j => first | exact Mine.fdiv_lt (by decide) (by omega) (by omega) | omega);k_whole;intro v''2j news9''2j h9''2j dr9''2j tk9''2j hr'2j F''2j N''2j tk''2j;(obtain ⟨t''2j,hv'2j,hn'2j⟩ := hr'2j);(subst hv'2j);(subst hn'2j);(try dsimp only at N''2j);(try dsimp only))))
  trivial
end
section
local macro_rules (kind := PySem.W.tacticK_extra_) | x => topOf "lam_call lam nest cut fast lt wr0 bound oo mac0 om" x
def iterCallP (l : Lt) : Prop :=
  (((l.b 13),itObj (l.v 0) (l.b 14) (l.v 1)) ∈ (l.rest 0)) →
  (((l.b 14),(l.o 0)) ∈ (l.rest 0)) →
  ((l.o 0).data = .fields (l.vs 5)) →
  ((l.vs 5)[1]? = some (.str "_law_writer.<locals>.<lambda>" (l.t 19))) →
  (((l.b 15),listOf (l.vs 6) (l.n 5)) ∈ (l.rest 0)) →
  ((l.vs 6).size ≤ 1000) →
  ((l.vs 6).toList.reverse.flatMap l.cont = [.ref (l.b 16)]) →
  (∀ h : Heap,(∀ p ∈ (l.rest 0),h.get? p.1 = some p.2) → Rows h (l.vs 6).toList l.cont) →
  SpecL l (l.b 13) 4 30 (l.rest 0) [.ref (l.b 15)] (fun v news' => ∃ D n,v = .ref D ∧ news' = (D,listOf #[.ref (l.b 16)] n) :: (l.rest 0) ∧ ∀ p ∈ (l.rest 0),@LT.lt Nat _ p.1 D)
@[irreducible] noncomputable def cIt : Lt := Classical.choose (Lt.ex iterCallP)
theorem iterCall_c : iterCallP cIt := by
  unfold iterCallP SpecL SpecQ
  k_fill
  generalize cIt.w = w;generalize cIt.rest 0 = news;generalize cIt.b 13 = it;generalize cIt.b 14 = itc;generalize cIt.b 15 = DS;generalize cIt.v 0 = pm;generalize cIt.v 1 = ctv;generalize cIt.o 0 = oc
  generalize cIt.vs 5 = vs;generalize cIt.t 19 = tq;generalize cIt.vs 6 = dss;generalize cIt.n 5 = nds;generalize cIt.cont = cont;generalize cIt.b 16 = T0;generalize cIt.mean = mean;generalize cIt.mg = mg
  generalize cIt.mb = mb;generalize cIt.dp = dp;generalize cIt.un = un;generalize cIt.gd = gd;generalize cIt.cn = cn;generalize cIt.cs = cs;generalize cIt.a = a;generalize cIt.ccd = ccd
  generalize cIt.cl = cl;generalize cIt.outer = outer;generalize cIt.A₀ = A₀;generalize cIt.base = base;generalize cIt.h₀ = h₀;generalize cIt.L = L;generalize cIt.m = m;generalize cIt.s = s
  generalize cIt.R = R
  intros hi hc hv hq hd hz hf hR B F X N T hk hts hd1 hu hret
  k_dflt (refine' kla_code (binds := [("levels", .ref DS)]) ?k1 ?k2 ?k3 ?k4 ?k5 ?kA ?kF ?kK ?k6 ?k7 ?k8 ?k9 ?kB ?_ ?c2 ?c3 ?c4 ?c5;(case kA => exact rfl);(case kF => exact rfl);(case kK => assumption);(case k1 => k_asm);(case k2 => k_asm);(case k3 => k_asm);(case k4 => k_asm);(case k5 => k_asm);(case k6 => exact hi);(case k7 => exact codeRec_news (by k_asm) hc (by assumption) (by assumption));(case k8 => ktr_room);(case k9 => exact rfl);(case c5 => decide);(case kB => exact locs rfl);(case c2 => exact rfl);(case c3 => exact rfl);(case c4 => exact rfl);k_whole;intro g' L' h' FG' F' N' B' X' T';(try dsimp only);(try k_lift B');(try k_fold))
  k_dflt (refine' nested_comp (cont := cont) ?h1 ?h2 ?h3 ?h4 ?h5 ?h6 ?h7 ?h8 ?h9 ?_)
  (case h1 => exact rfl)
  (case h2 => decide)
  (case h3 => decide)
  (case h4 => exact rfl)
  (case h5 => decide)
  (case h6 => decide)
  (case h7 => decide)
  (case h8 => decide)
  (case h9 => decide)
  have cutOn : CutOn := trivial
  k_steps
  unfold Cut
  k_dflt (refine' rev_tail ?F ?N ?M ?Z ?_ ?hs)
  (case F => k_asm)
  (case N => k_asm)
  (case M => k_dflt exact hd)
  (case Z => omega)
  (case hs => with_unfolding_all rfl)
  intro r h' F' N' l1
  refine ⟨r,dss.toList.reverse.toArray,rfl,⟨_,(N' _ (.head _)).1,rfl,_,rfl⟩,?_,?_,?_⟩
  · intro v hv
    exact hR _ (fun p hp => (N' p (.tail _ hp)).1) v (by simpa using hv)
  · rw [show (dss.toList.reverse.toArray.toList.flatMap cont) = [.ref T0] from hf]
    exact Nat.le_of_ble_eq_true rfl
  · intro D h2 tk2 hD hP hk2
    rw [show (dss.toList.reverse.toArray.toList.flatMap cont) = [.ref T0] from hf] at hP
    obtain ⟨nD,hP⟩ := hP
    have F2 := F'.grownK hk2
    have hlt : ∀ p ∈ news,@LT.lt Nat _ p.1 D := fun p hp => Nat.lt_of_lt_of_le (Heap.lt_size (N' p (.tail _ hp)).1) hD
    have N2 : News g' L' h2 ((D,listOf #[.ref T0] nD) :: news) := by
      intro p hp
      rcases List.mem_cons.mp hp with rfl | hp
      · refine ⟨hP,?_,?_⟩
        · have := F'.ns.lt
          exact Nat.ne_of_gt (Nat.lt_of_lt_of_le this hD)
        · exact Heap.get?_none_of_le (Nat.le_trans F'.above (Nat.le_trans (Nat.le_of_lt F'.ns.lt) hD))
      · exact ⟨hk2 _ _ (N' p (.tail _ hp)).1,(N' p (.tail _ hp)).2⟩
    k_steps
    exact hret _ _ _ ⟨D,nD,rfl,rfl,hlt⟩ ⟨rfl,rfl⟩ (by assumption) (by assumption)
theorem iterCall : ∀ (w : World) (news : List (Addr × Obj)) (it itc DS : Addr) (pm ctv : Value) (oc : Obj) (vs : Array Value) (tq : Tok) (dss : Array Value) (nds : Nat) (cont : Value → List Value)
    (hi : (it,itObj pm itc ctv) ∈ news) (hc : (itc,oc) ∈ news) (hv : oc.data = .fields vs) (hq : vs[1]? = some (.str "_law_writer.<locals>.<lambda>" tq)) (hd : (DS,listOf dss nds) ∈ news) (hz : dss.size ≤ 1000) (T0 : Addr) (hf : dss.toList.reverse.flatMap cont = [.ref T0]) (hR : ∀ h : Heap,(∀ p ∈ news,h.get? p.1 = some p.2) → Rows h dss.toList cont),
    Spec w it 4 30 news [.ref DS] (fun v news' => ∃ D n,v = .ref D ∧ news' = (D,listOf #[.ref T0] n) :: news ∧ ∀ p ∈ news,@LT.lt Nat _ p.1 D) := by
  intros w news it itc DS pm ctv oc vs tq dss nds cont hi hc hv hq hd hz T0 hf hR
  refine Spec.close fun mean mg mb dp un gd cn cs a ccd cl outer A₀ base h₀ L m s R => ?_
  exact tau (by unfold cIt;rfl) iterCall_c { ltL0 with w := w,cont := cont,b := nth 0 [0,0,0,0,0,0,0,0,0,0,0,0,0,it,itc,DS,T0],n := nth 0 [0,0,0,0,0,nds],t := nth 0 [0,0,0,0,0,0,0,0,0,0,0,0,0,0,0,0,0,0,0,tq],v := nth .none [pm,ctv],vs := nth #[] [#[],#[],#[],#[],#[],vs,dss],o := nth default [oc],rest := nth [] [news],mean,mg,mb,dp,un,gd,cn,cs,a,ccd,cl,outer,A₀,base,h₀,L,m,s,R } hi hc hv hq hd hz hf hR
theorem rows_lam_call_1 : True := by
  (k_with "lam_call:call ref" => (k_here;(with_reducible show wpAny _ _ (call (Value.ref _) [Value.ref _]) _ _ _);k_dflt (refine' Mine.Spec.callC (Mine.iterCall _ _ _ _ _ _ _ _ _ _ _ _ _ ?P1'2k ?P2'2k ?P3'2k ?P4'2k ?P5'2k ?P6'2k _ ?P7'2k ?P8'2k) ?B9'2k ?F9'2k ?X9'2k ?N9'2k ?T9'2k ?hk9'2k ?ht9'2k ?hd9'2k ?hu9'2k ?_;(case B9'2k => k_asm);(case F9'2k => k_asm);(case X9'2k => k_asm);(case N9'2k => k_asm);(case T9'2k => k_asm);(case hk9'2k => first | assumption | exact rfl);(case ht9'2k => (refine Mine.leT ?_;(try dsimp only);omega));(case hd9'2k => ktr_room);(case hu9'2k => ktr_units);(case P1'2k => k_mem);(case P2'2k => k_mem);(case P3'2k => assumption);(case P4'2k => assumption);(case P5'2k => k_mem);(case P6'2k => assumption);(case P7'2k => assumption);(case P8'2k => exact fun h8'2k hh8'2k => ‹∀ h : Heap,(∀ p ∈ _,h.get? p.1 = some p.2) → Mine.Rows h _ _› h8'2k fun p8'2k hp8'2k => hh8'2k p8'2k (by k_mem));k_whole;intro v''2k news9''2k h9''2k dr9''2k tk9''2k hr'2k F''2k N''2k tk''2k;(obtain ⟨D''2k,n''2k,hv'2k,hn'2k,hl''2k⟩ := hr'2k);(subst hv'2k);(subst hn'2k);(try dsimp only at N''2k);(try dsimp only));(try k_lt hl''2k)))
  trivial
end
section
local macro_rules (kind := PySem.W.tacticK_extra_) | x => topOf "flush del wru wr1 wr2 esc pure1 lt wr0 bound oo mac0 om" x
def wflushP (l : Lt) : Prop :=
  (WOk (waL l) (l.rest 0)) →
  ((wqL l).das.size ≤ 1000) →
  ((wqL l).its.size ≤ 1000) →
  (StrsAre (wqL l).das.toList (l.ys 0)) →
  (Txt.join "" (l.ys 0) = (l.x 0)) →
  ((l.x 0).length ≤ 50) →
  (((l.ys 0).map (·.length)).sum ≤ 100000) →
  (0 < (wqL l).das.size) →
  ((wqL l).seen = true) →
  SpecL l 106 6 60 (wr l.w.params (waL l) (wqL l) (l.rest 0)) [.ref (waL l).W] (fun v news' => v = .none ∧ ∃ n' nn its',news' = wr l.w.params (waL l) { (wqL l) with das := #[],nd := n',its := its',n := nn } (l.rest 0) ∧ Wrote (wqL l).its its' (if (l.x 0).length = 0 then [] else [escC (l.x 0)]) ∧ its'.size ≤ (wqL l).its.size + 1)
@[irreducible] noncomputable def cF : Lt := Classical.choose (Lt.ex wflushP)
theorem wflush_c : wflushP cF := by
  unfold wflushP SpecL SpecQ
  k_fill
  dsimp only [waL,wqL]
  generalize cF.b 0 = W;generalize cF.b 1 = DW;generalize cF.b 2 = wrt;generalize cF.b 3 = wire;generalize cF.b 4 = D;generalize cF.b 5 = L0;generalize cF.b 6 = T0;generalize cF.b 7 = DS
  generalize cF.b 8 = NS;generalize cF.b 9 = PM;generalize cF.b 10 = PS;generalize cF.b 11 = it;generalize cF.b 12 = itc;generalize cF.t 0 = t0;generalize cF.t 1 = t1;generalize cF.t 2 = t2
  generalize cF.t 3 = t3;generalize cF.t 4 = t4;generalize cF.t 5 = t5;generalize cF.t 6 = t6;generalize cF.t 7 = t7;generalize cF.t 8 = t8;generalize cF.t 9 = t9;generalize cF.t 10 = t10
  generalize cF.t 11 = t11;generalize cF.t 12 = t12;generalize cF.t 13 = t13;generalize cF.t 14 = t14;generalize cF.t 15 = t15;generalize cF.t 16 = t16;generalize cF.t 17 = t17;generalize cF.vs 0 = its
  generalize cF.vs 1 = das;generalize cF.vs 2 = dss;generalize cF.vs 3 = nss;generalize cF.vs 4 = pss;generalize cF.n 0 = n;generalize cF.n 1 = nd;generalize cF.n 2 = nds;generalize cF.n 3 = nns
  generalize cF.n 4 = nps;generalize cF.f 0 = seen;generalize cF.f 1 = done;generalize cF.t 18 = ti;generalize cF.w = w;generalize cF.rest 0 = rest;generalize cF.ys 0 = ys;generalize cF.x 0 = x
  generalize cF.mean = mean;generalize cF.mg = mg;generalize cF.mb = mb;generalize cF.dp = dp;generalize cF.un = un;generalize cF.gd = gd;generalize cF.cn = cn;generalize cF.cs = cs
  generalize cF.a = a;generalize cF.ccd = ccd;generalize cF.cl = cl;generalize cF.outer = outer;generalize cF.A₀ = A₀;generalize cF.base = base;generalize cF.h₀ = h₀;generalize cF.L = L
  generalize cF.m = m;generalize cF.s = s;generalize cF.R = R
  intros ok hs hi hy hj hx ho hs0 hse B F X N T hk hts hd1 hu hret
  obtain ⟨l0,l1,l2,l3,l4,l5,o0,o1,o2,o3,o4,o5,o6,mw⟩ := ok
  dsimp only [wr,wrDict,wE] at *
  refine pairsK (l := [wire,DW,W,D,DS,NS,PS]) ⟨l0,l1,l2,l3,l4,l5,trivial⟩ ?_
  (repeat with_reducible refine fun _ => ?_)
  k_dflt (refine' code_def (binds := [("self", .ref W),("_join_text", .ref 98)]) ?k1 ?k2 ?k3 ?k4 ?k5 ?kA ?kF ?kK ?k6 ?k7 ?k8 ?k9 ?kB ?_ ?c2 ?c3 ?c4 ?c5;(case kA => exact rfl);(case kF => exact rfl);(case kK => assumption);(case k1 => k_asm);(case k2 => k_asm);(case k3 => k_asm);(case k4 => k_asm);(case k5 => k_asm);(case k6 => k_is);(case k7 => k_is);(case k8 => ktr_room);(case k9 => exact binds_K (by k_in) rfl (by k_is) rfl rfl rfl);(case c5 => decide);(case kB => exact locs rfl);(case c2 => exact rfl);(case c3 => exact rfl);(case c4 => exact rfl);k_whole;intro g' L' h' FG' F' N' B' X' T';(try dsimp only);(try k_lift B');(try k_fold))
  subst hse
  rcases Nat.eq_zero_or_pos x.length with hz | hz
  · k_steps
    refine hret _ _ _ ⟨rfl,_,_,_,rfl,?_⟩ ⟨rfl,rfl⟩ (by assumption) (by assumption)
    rw [if_pos hz];exact ⟨Wrote.nil,Nat.le_succ _⟩
  · k_steps
    refine hret _ _ _ ⟨rfl,_,_,_,rfl,?_⟩ ⟨rfl,rfl⟩ (by assumption) (by assumption)
    rw [if_neg (Nat.ne_of_gt hz)];exact ⟨Wrote.nil.push _ _,by simp⟩
theorem wflush : ∀ (w : World) (wa : WA) (q : WQ) (rest : List (Addr × Obj)) (ys : List Str) (x : Str) (ok : WOk wa rest) (hs : q.das.size ≤ 1000) (hi : q.its.size ≤ 1000) (hy : StrsAre q.das.toList ys) (hj : Txt.join "" ys = x) (hx : x.length ≤ 50) (ho : (ys.map (·.length)).sum ≤ 100000) (hs0 : 0 < q.das.size) (hse : q.seen = true),Spec w 106 6 60 (wr w.params wa q rest) [.ref wa.W] (fun v news' => v = .none ∧ ∃ n' nn its',news' = wr w.params wa { q with das := #[],nd := n',its := its',n := nn } rest ∧ Wrote q.its its' (if x.length = 0 then [] else [escC x]) ∧ its'.size ≤ q.its.size + 1) := by
  intros w wa q rest ys x ok hs hi hy hj hx ho hs0 hse
  refine Spec.close fun mean mg mb dp un gd cn cs a ccd cl outer A₀ base h₀ L m s R => ?_
  exact tau (by unfold cF;rfl) wflush_c { ltL0 with w := w,b := nth 0 [wa.W,wa.DW,wa.wrt,wa.wire,wa.D,wa.L0,wa.T0,wa.DS,wa.NS,wa.PM,wa.PS,wa.it,wa.itc],n := nth 0 [q.n,q.nd,q.nds,q.nns,q.nps],x := nth default [x],t := nth 0 [wa.t0,wa.t1,wa.t2,wa.t3,wa.t4,wa.t5,wa.t6,wa.t7,wa.t8,wa.t9,wa.t10,wa.t11,wa.t12,wa.t13,wa.t14,wa.t15,wa.t16,wa.t17,q.ti],vs := nth #[] [q.its,q.das,q.dss,q.nss,q.pss],f := nth true [q.seen,q.done],rest := nth [] [rest],ys := nth [] [ys],mean,mg,mb,dp,un,gd,cn,cs,a,ccd,cl,outer,A₀,base,h₀,L,m,s,R } ok hs hi hy hj hx ho hs0 hse
theorem rows_flush_1 : True := by
  (k_with "flush:call ref" => (k_here;(with_reducible show wpAny _ _ (call (Value.ref 106) [Value.ref _]) _ _ _);k_dflt (refine' Mine.Spec.callC (Mine.wflush _ ⟨_,_,_,_,_,0,0,_,_,_,_,_,0,_,_,_,_,_,_,_,_,_,_,_,_,_,_,_,_,_,_⟩ ⟨_,_,_,_,_,_,_,_,_,_,_,_,_⟩ _ _ _ ?ok'2l ?hs'2l ?hi'2l ?hy'2l ?hj'2l ?hx'2l ?ho'2l ?hs0'2l ?hse'2l) ?B9'2l ?F9'2l ?X9'2l (Mine.wr_pick ?N9'2l ?P1'2l ?P2'2l ?P3'2l ?P4'2l ?P5'2l ?P6'2l ?Pm'2l ?P7'2l) ?T9'2l ?hk9'2l ?ht9'2l ?hd9'2l ?hu9'2l ?_;(case B9'2l => k_asm);(case F9'2l => k_asm);(case X9'2l => k_asm);(case N9'2l => k_asm);(case P1'2l => k_upd);(case P2'2l => k_upd);(case P3'2l => k_upd);(case P4'2l => k_upd);(case P5'2l => k_upd);(case P6'2l => k_upd);(case Pm'2l => assumption);(case P7'2l => k_upd);(case T9'2l => k_asm);(case hk9'2l => first | assumption | exact rfl);(case ht9'2l => (refine Mine.leT ?_;(try dsimp only);omega));(case hd9'2l => ktr_room);(case hu9'2l => ktr_units);(case ok'2l => exact ⟨by (refine ltN ?_);(try dsimp only);omega,by (refine ltN ?_);(try dsimp only);omega,by (refine ltN ?_);(try dsimp only);omega,by (refine ltN ?_);(try dsimp only);omega,by (refine ltN ?_);(try dsimp only);omega,by (refine ltN ?_);(try dsimp only);omega,by (try dsimp only);k_all,by (try dsimp only);k_all,by (try dsimp only);k_all,by (try dsimp only);k_all,by (try dsimp only);k_all,by (try dsimp only);k_all,by (try dsimp only);k_all,by (try dsimp only);k_mem⟩);(case hs'2l => (try dsimp only);omega);(case hi'2l => (try dsimp only);omega);(case hy'2l => assumption);(case hj'2l => assumption);(case hx'2l => assumption);(case ho'2l => assumption);(case hs0'2l => (try dsimp only);omega);(case hse'2l => first | assumption | rfl);k_whole;intro v''2l news9''2l h9''2l dr9''2l tk9''2l hr'2l F''2l N''2l tk''2l;(obtain ⟨hv'2l,n''2l,nn''2l,its''2l,hn'2l,hw''2l,hz''2l⟩ := hr'2l);(subst hv'2l);(subst hn'2l);(dsimp only at hw''2l hz''2l);(try dsimp only [Mine.wr,Mine.wrDict,Mine.wE] at N''2l);(try dsimp only))))
  trivial
end
section
local macro_rules (kind := PySem.W.tacticK_extra_) | x => topOf "data wru wr1 lt wr0 bound oo mac0 om" x
def wdataP (l : Lt) : Prop :=
  (WOk (waL l) (l.rest 0)) →
  ((wqL l).das.size ≤ 1000) →
  SpecL l 97 6 60 (wr l.w.params (waL l) (wqL l) (l.rest 0)) [.ref (waL l).W, .str (l.x 0) (l.t 19)] (fun v news' => v = .none ∧ ∃ n' tx',news' = wr l.w.params (waL l) { (wqL l) with das := (wqL l).das.push (.str (l.x 0) tx'),nd := n' } (l.rest 0))
@[irreducible] noncomputable def cD : Lt := Classical.choose (Lt.ex wdataP)
theorem wdata_c : wdataP cD := by
  unfold wdataP SpecL SpecQ
  k_fill
  dsimp only [waL,wqL]
  generalize cD.b 0 = W;generalize cD.b 1 = DW;generalize cD.b 2 = wrt;generalize cD.b 3 = wire;generalize cD.b 4 = D;generalize cD.b 5 = L0;generalize cD.b 6 = T0;generalize cD.b 7 = DS
  generalize cD.b 8 = NS;generalize cD.b 9 = PM;generalize cD.b 10 = PS;generalize cD.b 11 = it;generalize cD.b 12 = itc;generalize cD.t 0 = t0;generalize cD.t 1 = t1;generalize cD.t 2 = t2
  generalize cD.t 3 = t3;generalize cD.t 4 = t4;generalize cD.t 5 = t5;generalize cD.t 6 = t6;generalize cD.t 7 = t7;generalize cD.t 8 = t8;generalize cD.t 9 = t9;generalize cD.t 10 = t10
  generalize cD.t 11 = t11;generalize cD.t 12 = t12;generalize cD.t 13 = t13;generalize cD.t 14 = t14;generalize cD.t 15 = t15;generalize cD.t 16 = t16;generalize cD.t 17 = t17;generalize cD.vs 0 = its
  generalize cD.vs 1 = das;generalize cD.vs 2 = dss;generalize cD.vs 3 = nss;generalize cD.vs 4 = pss;generalize cD.n 0 = n;generalize cD.n 1 = nd;generalize cD.n 2 = nds;generalize cD.n 3 = nns
  generalize cD.n 4 = nps;generalize cD.f 0 = seen;generalize cD.f 1 = done;generalize cD.t 18 = ti;generalize cD.w = w;generalize cD.rest 0 = rest;generalize cD.x 0 = x;generalize cD.t 19 = tx
  generalize cD.mean = mean;generalize cD.mg = mg;generalize cD.mb = mb;generalize cD.dp = dp;generalize cD.un = un;generalize cD.gd = gd;generalize cD.cn = cn;generalize cD.cs = cs
  generalize cD.a = a;generalize cD.ccd = ccd;generalize cD.cl = cl;generalize cD.outer = outer;generalize cD.A₀ = A₀;generalize cD.base = base;generalize cD.h₀ = h₀;generalize cD.L = L
  generalize cD.m = m;generalize cD.s = s;generalize cD.R = R
  intros ok hs B F X N T hk hts hd1 hu hret
  obtain ⟨l0,l1,l2,l3,l4,l5,o0,o1,o2,o3,o4,o5,o6,mw⟩ := ok
  dsimp only [wr,wrDict,wE] at *
  refine pairsK (l := [wire,DW,W,D,DS,NS,PS]) ⟨l0,l1,l2,l3,l4,l5,trivial⟩ ?_
  (repeat with_reducible refine fun _ => ?_)
  k_dflt (refine' code_def (binds := [("self", .ref W),("data", .str x tx)]) ?k1 ?k2 ?k3 ?k4 ?k5 ?kA ?kF ?kK ?k6 ?k7 ?k8 ?k9 ?kB ?_ ?c2 ?c3 ?c4 ?c5;(case kA => exact rfl);(case kF => exact rfl);(case kK => assumption);(case k1 => k_asm);(case k2 => k_asm);(case k3 => k_asm);(case k4 => k_asm);(case k5 => k_asm);(case k6 => k_is);(case k7 => k_is);(case k8 => ktr_room);(case k9 => exact BindsTo.of_eq rfl);(case c5 => decide);(case kB => exact locs rfl);(case c2 => exact rfl);(case c3 => exact rfl);(case c4 => exact rfl);k_whole;intro g' L' h' FG' F' N' B' X' T';(try dsimp only);(try k_lift B');(try k_fold))
  k_steps
  exact hret _ _ _ ⟨rfl,_,_,rfl⟩ ⟨rfl,rfl⟩ (by assumption) (by assumption)
theorem wdata : ∀ (w : World) (wa : WA) (q : WQ) (rest : List (Addr × Obj)) (x : Str) (tx : Tok) (ok : WOk wa rest) (hs : q.das.size ≤ 1000),Spec w 97 6 60 (wr w.params wa q rest) [.ref wa.W, .str x tx] (fun v news' => v = .none ∧ ∃ n' tx',news' = wr w.params wa { q with das := q.das.push (.str x tx'),nd := n' } rest) := by
  intros w wa q rest x tx ok hs
  refine Spec.close fun mean mg mb dp un gd cn cs a ccd cl outer A₀ base h₀ L m s R => ?_
  exact tau (by unfold cD;rfl) wdata_c { ltL0 with w := w,b := nth 0 [wa.W,wa.DW,wa.wrt,wa.wire,wa.D,wa.L0,wa.T0,wa.DS,wa.NS,wa.PM,wa.PS,wa.it,wa.itc],n := nth 0 [q.n,q.nd,q.nds,q.nns,q.nps],x := nth default [x],t := nth 0 [wa.t0,wa.t1,wa.t2,wa.t3,wa.t4,wa.t5,wa.t6,wa.t7,wa.t8,wa.t9,wa.t10,wa.t11,wa.t12,wa.t13,wa.t14,wa.t15,wa.t16,wa.t17,q.ti,tx],vs := nth #[] [q.its,q.das,q.dss,q.nss,q.pss],f := nth true [q.seen,q.done],rest := nth [] [rest],mean,mg,mb,dp,un,gd,cn,cs,a,ccd,cl,outer,A₀,base,h₀,L,m,s,R } ok hs
end
section
local macro_rules (kind := PySem.W.tacticK_extra_) | x => topOf "qname mown loop lam_call lam nest wru wr1 wr2 pure1 cut fast lt wr0 bound oo mac0 om" x
structure WIt (wa : WA) (q : WQ) (rest : List (Addr × Obj)) (pm ctv : Value) (oc : Obj) (vs : Array Value) (tq : Tok) (cont : Value → List Value) (tx ty : Tok) : Prop where
  hi : (wa.it,itObj pm wa.itc ctv) ∈ rest
  hc : (wa.itc,oc) ∈ rest
  hv : oc.data = .fields vs
  hq : vs[1]? = some (.str "_law_writer.<locals>.<lambda>" tq)
  hz : q.dss.size ≤ 1000
  hf : q.dss.toList.reverse.flatMap cont = [.ref wa.T0]
  hR : ∀ h : Heap,(∀ p ∈ rest,h.get? p.1 = some p.2) → Rows h q.dss.toList cont
  ht : (wa.T0,({ cls := .type "tuple",data := .seq #[.str "http://www.w3.org/XML/1998/namespace" tx, .str "xml" ty] 0 } : Obj)) ∈ rest
noncomputable abbrev qtup (x : Str) (t1 t2 t3 : Tok) : Obj := { cls := .type "tuple",data := .seq #[.str x t1, .str x t2, .str "" t3] 0 }
def qnameP (l : Lt) : Prop :=
  (WOk (waL l) (l.rest 0)) →
  ((l.x 0).length ≤ 1048576) →
  ((Txt.slice (l.x 0) none (some 1) == Str.ofString "{") = false) →
  (WIt (waL l) (wqL l) (l.rest 0) (l.v 0) (l.v 1) (l.o 0) (l.vs 5) (l.t 20) l.cont (l.t 21) (l.t 22)) →
  SpecL l 90 6 60 (wr l.w.params (waL l) (wqL l) (l.rest 0)) [.ref (waL l).W, .str (l.x 0) (l.t 19)] (fun v news' => ∃ T t1 t2 t3,v = .ref T ∧ (@LT.lt Nat _ (waL l).PS T ∧ AllLt T (l.rest 0)) ∧ news' = wr l.w.params (waL l) (wqL l) ((T,qtup (l.x 0) t1 t2 t3) :: (l.rest 0)))
@[irreducible] noncomputable def cQ : Lt := Classical.choose (Lt.ex qnameP)
theorem qname_c : qnameP cQ := by
  unfold qnameP SpecL SpecQ
  k_fill
  dsimp only [waL,wqL]
  generalize cQ.b 0 = W;generalize cQ.b 1 = DW;generalize cQ.b 2 = wrt;generalize cQ.b 3 = wire;generalize cQ.b 4 = D;generalize cQ.b 5 = L0;generalize cQ.b 6 = T0;generalize cQ.b 7 = DS
  generalize cQ.b 8 = NS;generalize cQ.b 9 = PM;generalize cQ.b 10 = PS;generalize cQ.b 11 = it;generalize cQ.b 12 = itc;generalize cQ.t 0 = t0;generalize cQ.t 1 = t1;generalize cQ.t 2 = t2
  generalize cQ.t 3 = t3;generalize cQ.t 4 = t4;generalize cQ.t 5 = t5;generalize cQ.t 6 = t6;generalize cQ.t 7 = t7;generalize cQ.t 8 = t8;generalize cQ.t 9 = t9;generalize cQ.t 10 = t10
  generalize cQ.t 11 = t11;generalize cQ.t 12 = t12;generalize cQ.t 13 = t13;generalize cQ.t 14 = t14;generalize cQ.t 15 = t15;generalize cQ.t 16 = t16;generalize cQ.t 17 = t17;generalize cQ.vs 0 = its
  generalize cQ.vs 1 = das;generalize cQ.vs 2 = dss;generalize cQ.vs 3 = nss;generalize cQ.vs 4 = pss;generalize cQ.n 0 = n;generalize cQ.n 1 = nd;generalize cQ.n 2 = nds;generalize cQ.n 3 = nns
  generalize cQ.n 4 = nps;generalize cQ.f 0 = seen;generalize cQ.f 1 = done;generalize cQ.t 18 = ti;generalize cQ.w = w;generalize cQ.rest 0 = rest;generalize cQ.x 0 = x;generalize cQ.t 19 = tx
  generalize cQ.v 0 = pm;generalize cQ.v 1 = ctv;generalize cQ.o 0 = oc;generalize cQ.vs 5 = vs;generalize cQ.t 20 = tq;generalize cQ.cont = cont;generalize cQ.t 21 = u1;generalize cQ.t 22 = u2
  generalize cQ.mean = mean;generalize cQ.mg = mg;generalize cQ.mb = mb;generalize cQ.dp = dp;generalize cQ.un = un;generalize cQ.gd = gd;generalize cQ.cn = cn;generalize cQ.cs = cs
  generalize cQ.a = a;generalize cQ.ccd = ccd;generalize cQ.cl = cl;generalize cQ.outer = outer;generalize cQ.A₀ = A₀;generalize cQ.base = base;generalize cQ.h₀ = h₀;generalize cQ.L = L
  generalize cQ.m = m;generalize cQ.s = s;generalize cQ.R = R
  intros ok hx hb wi B F X N T hk hts hd1 hu hret
  obtain ⟨l0,l1,l2,l3,l4,l5,o0,o1,o2,o3,o4,o5,o6,mw⟩ := ok
  dsimp only [wr,wrDict,wE] at *
  refine pairsK (l := [wire,DW,W,D,DS,NS,PS]) ⟨l0,l1,l2,l3,l4,l5,trivial⟩ ?_
  (repeat with_reducible refine fun _ => ?_)
  k_dflt (refine' code_def (binds := [("self", .ref W),("qname", .str x tx),("uri", .none)]) ?k1 ?k2 ?k3 ?k4 ?k5 ?kA ?kF ?kK ?k6 ?k7 ?k8 ?k9 ?kB ?_ ?c2 ?c3 ?c4 ?c5;(case kA => exact rfl);(case kF => exact rfl);(case kK => assumption);(case k1 => k_asm);(case k2 => k_asm);(case k3 => k_asm);(case k4 => k_asm);(case k5 => k_asm);(case k6 => k_is);(case k7 => k_is);(case k8 => ktr_room);(case k9 => exact binds_K (by k_in) rfl (by k_is) rfl rfl rfl);(case c5 => decide);(case kB => exact locs rfl);(case c2 => exact rfl);(case c3 => exact rfl);(case c4 => exact rfl);k_whole;intro g' L' h' FG' F' N' B' X' T';(try dsimp only);(try k_lift B');(try k_fold))
  obtain ⟨w1,w2,w3,w4,w5,w6,w7,w8⟩ := wi
  (try dsimp only at w1 w2 w5 w6 w7 w8)
  k_steps
  refine' hret _ _ _ ⟨_,_,_,_,rfl,⟨?g1,?g2⟩,rfl⟩ ⟨rfl,rfl⟩ (by assumption) ?gN
  (case gN => (rename News _ _ _ _ => N9);exact Mine.News.cons_ (N9 _ (by k_mem)) (Mine.News.cons_ (N9 _ (by k_mem)) (Mine.News.cons_ (N9 _ (by k_mem)) (Mine.News.cons_ (N9 _ (by k_mem)) (Mine.News.cons_ (N9 _ (by k_mem)) (Mine.News.cons_ (N9 _ (by k_mem)) (Mine.News.cons_ (N9 _ (by k_mem)) (Mine.News.cons_ (N9 _ (by k_mem)) (fun p hp => N9 p (by k_mem))))))))))
  (case g1 => (refine ltN ?_;(try dsimp only);omega))
  (case g2 => tb_lt)
theorem qname : ∀ (w : World) (wa : WA) (q : WQ) (rest : List (Addr × Obj)) (x : Str) (tx : Tok) (pm ctv : Value) (oc : Obj) (vs : Array Value) (tq : Tok) (cont : Value → List Value) (u1 u2 : Tok) (ok : WOk wa rest) (hx : x.length ≤ 1048576) (hb : (Txt.slice x none (some 1) == Str.ofString "{") = false) (wi : WIt wa q rest pm ctv oc vs tq cont u1 u2),Spec w 90 6 60 (wr w.params wa q rest) [.ref wa.W, .str x tx] (fun v news' => ∃ T t1 t2 t3,v = .ref T ∧ (@LT.lt Nat _ wa.PS T ∧ AllLt T rest) ∧ news' = wr w.params wa q ((T,qtup x t1 t2 t3) :: rest)) := by
  intros w wa q rest x tx pm ctv oc vs tq cont u1 u2 ok hx hb wi
  refine Spec.close fun mean mg mb dp un gd cn cs a ccd cl outer A₀ base h₀ L m s R => ?_
  exact tau (by unfold cQ;rfl) qname_c { ltL0 with w := w,cont := cont,b := nth 0 [wa.W,wa.DW,wa.wrt,wa.wire,wa.D,wa.L0,wa.T0,wa.DS,wa.NS,wa.PM,wa.PS,wa.it,wa.itc],n := nth 0 [q.n,q.nd,q.nds,q.nns,q.nps],x := nth default [x],t := nth 0 [wa.t0,wa.t1,wa.t2,wa.t3,wa.t4,wa.t5,wa.t6,wa.t7,wa.t8,wa.t9,wa.t10,wa.t11,wa.t12,wa.t13,wa.t14,wa.t15,wa.t16,wa.t17,q.ti,tx,tq,u1,u2],v := nth .none [pm,ctv],vs := nth #[] [q.its,q.das,q.dss,q.nss,q.pss,vs],o := nth default [oc],f := nth true [q.seen,q.done],rest := nth [] [rest],mean,mg,mb,dp,un,gd,cn,cs,a,ccd,cl,outer,A₀,base,h₀,L,m,s,R } ok hx hb wi
theorem rows_qname_1 : True := by
  (k_with "qname:call ref" => (k_here;(with_reducible show wpAny _ _ (call (Value.ref 90) [Value.ref _,Value.str _ _]) _ _ _);k_dflt (refine' Mine.Spec.callC (Mine.qname _ ⟨_,_,_,_,_,0,_,_,_,_,_,_,_,_,_,_,_,_,_,_,_,_,_,_,_,_,_,_,_,_,_⟩ ⟨_,_,_,_,_,_,_,_,_,_,_,_,_⟩ _ _ _ _ _ _ _ _ _ _ _ ?ok'2m ?hx'2m ?hb'2m ?wi'2m) ?B9'2m ?F9'2m ?X9'2m (Mine.wr_pick ?N9'2m ?P1'2m ?P2'2m ?P3'2m ?P4'2m ?P5'2m ?P6'2m ?Pm'2m ?P7'2m) ?T9'2m ?hk9'2m ?ht9'2m ?hd9'2m ?hu9'2m ?_;(case B9'2m => k_asm);(case F9'2m => k_asm);(case X9'2m => k_asm);(case N9'2m => k_asm);(case P1'2m => k_upd);(case P2'2m => k_upd);(case P3'2m => k_upd);(case P4'2m => k_upd);(case P5'2m => k_upd);(case P6'2m => k_upd);(case Pm'2m => assumption);(case P7'2m => k_upd);(case T9'2m => k_asm);(case hk9'2m => first | assumption | exact rfl);(case ht9'2m => (refine Mine.leT ?_;(try dsimp only);omega));(case hd9'2m => ktr_room);(case hu9'2m => ktr_units);(case ok'2m => exact ⟨by (refine ltN ?_);(try dsimp only);omega,by (refine ltN ?_);(try dsimp only);omega,by (refine ltN ?_);(try dsimp only);omega,by (refine ltN ?_);(try dsimp only);omega,by (refine ltN ?_);(try dsimp only);omega,by (refine ltN ?_);(try dsimp only);omega,by (try dsimp only);k_all,by (try dsimp only);k_all,by (try dsimp only);k_all,by (try dsimp only);k_all,by (try dsimp only);k_all,by (try dsimp only);k_all,by (try dsimp only);k_all,by (try dsimp only);k_mem⟩);(case hx'2m => first | assumption | omega | decide);(case hb'2m => first | assumption | decide +kernel);(case wi'2m => exact ⟨by (try dsimp only);k_mem,by (try dsimp only);k_mem,by assumption,by assumption,by (try dsimp only);assumption,by (try dsimp only);assumption,fun h8'2m hh8'2m => ‹∀ h : Heap,(∀ p ∈ _,h.get? p.1 = some p.2) → Mine.Rows h _ _› h8'2m fun p8'2m hp8'2m => hh8'2m p8'2m (by k_mem),by (try dsimp only);k_mem⟩);k_whole;intro v''2m news9''2m h9''2m dr9''2m tk9''2m hr'2m F''2m N''2m tk''2m;(obtain ⟨T''2m,u1''2m,u2''2m,u3''2m,hv'2m,hl''2m,hn'2m⟩ := hr'2m);(subst hv'2m);(subst hn'2m);(dsimp only at hl''2m);(obtain ⟨hp''2m,hl''2m⟩ := hl''2m);(try dsimp only [Mine.wr,Mine.wrDict,Mine.wE,Mine.qtup] at N''2m);(try dsimp only))))
  trivial
end
section
local macro_rules (kind := PySem.W.tacticK_extra_) | x => topOf "wend qname flush lst mown loop lam_call lam nest del wru wr1 wr2 esc pure1 cut fast lt wr0 bound oo mac0 om" x
def wendP (l : Lt) : Prop :=
  (WOk (waL l) (l.rest 0)) →
  ((wqL l).das.size ≤ 1000) →
  ((wqL l).its.size ≤ 1000) →
  (StrsAre (wqL l).das.toList (l.ys 0)) →
  (Txt.join "" (l.ys 0) = (l.x 0)) →
  ((l.x 0).length ≤ 50) →
  (((l.ys 0).map (·.length)).sum ≤ 100000) →
  ((wqL l).seen = true) →
  ((l.x 1).length ≤ 10) →
  ((Txt.slice (l.x 1) none (some 1) == Str.ofString "{") = false) →
  ((wqL l).pss = (l.vs 5).push (l.v 0)) →
  ((wqL l).dss = (l.vs 6).push (l.v 1)) →
  ((wqL l).nss = (l.vs 7).push (l.v 2)) →
  ((l.vs 5).size ≤ 1000) →
  ((l.vs 6).size ≤ 1000) →
  ((l.vs 7).size ≤ 1000) →
  (WIt (waL l) (wqL l) (l.rest 0) (l.v 3) (l.v 4) (l.o 0) (l.vs 8) (l.t 20) l.cont (l.t 21) (l.t 22)) →
  SpecL l 133 10 100 (wr l.w.params (waL l) (wqL l) (l.rest 0)) [.ref (waL l).W, .str (l.x 1) (l.t 19)] (fun v news' => v = .none ∧ ∃ q',news' = wr l.w.params (waL l) q' (l.rest 0) ∧ WDid (wqL l) q' ((if (l.x 0).length = 0 then [] else [escC (l.x 0)]) ++ [endMark (l.x 1)]) 2 ∧ q'.dss = (l.vs 6) ∧ q'.nss = (l.vs 7) ∧ q'.pss = (l.vs 5) ∧ q'.seen = true ∧ q'.done = decide ((l.vs 5).size = 1))
@[irreducible] noncomputable def cE : Lt := Classical.choose (Lt.ex wendP)
theorem wend_c : wendP cE := by
  unfold wendP SpecL SpecQ
  k_fill
  dsimp only [waL,wqL]
  generalize cE.b 0 = W;generalize cE.b 1 = DW;generalize cE.b 2 = wrt;generalize cE.b 3 = wire;generalize cE.b 4 = D;generalize cE.b 5 = L0;generalize cE.b 6 = T0;generalize cE.b 7 = DS
  generalize cE.b 8 = NS;generalize cE.b 9 = PM;generalize cE.b 10 = PS;generalize cE.b 11 = it;generalize cE.b 12 = itc;generalize cE.t 0 = t0;generalize cE.t 1 = t1;generalize cE.t 2 = t2
  generalize cE.t 3 = t3;generalize cE.t 4 = t4;generalize cE.t 5 = t5;generalize cE.t 6 = t6;generalize cE.t 7 = t7;generalize cE.t 8 = t8;generalize cE.t 9 = t9;generalize cE.t 10 = t10
  generalize cE.t 11 = t11;generalize cE.t 12 = t12;generalize cE.t 13 = t13;generalize cE.t 14 = t14;generalize cE.t 15 = t15;generalize cE.t 16 = t16;generalize cE.t 17 = t17;generalize cE.vs 0 = its
  generalize cE.vs 1 = das;generalize cE.vs 2 = dss;generalize cE.vs 3 = nss;generalize cE.vs 4 = pss;generalize cE.n 0 = n;generalize cE.n 1 = nd;generalize cE.n 2 = nds;generalize cE.n 3 = nns
  generalize cE.n 4 = nps;generalize cE.f 0 = seen;generalize cE.f 1 = done;generalize cE.t 18 = ti;generalize cE.w = w;generalize cE.rest 0 = rest;generalize cE.ys 0 = ys;generalize cE.x 0 = x
  generalize cE.x 1 = z;generalize cE.t 19 = tz;generalize cE.vs 5 = p0;generalize cE.vs 6 = d0;generalize cE.vs 7 = n0;generalize cE.v 0 = v1;generalize cE.v 1 = v2;generalize cE.v 2 = v3
  generalize cE.v 3 = pm;generalize cE.v 4 = ctv;generalize cE.o 0 = oc;generalize cE.vs 8 = vs;generalize cE.t 20 = tq;generalize cE.cont = cont;generalize cE.t 21 = u1;generalize cE.t 22 = u2
  generalize cE.mean = mean;generalize cE.mg = mg;generalize cE.mb = mb;generalize cE.dp = dp;generalize cE.un = un;generalize cE.gd = gd;generalize cE.cn = cn;generalize cE.cs = cs
  generalize cE.a = a;generalize cE.ccd = ccd;generalize cE.cl = cl;generalize cE.outer = outer;generalize cE.A₀ = A₀;generalize cE.base = base;generalize cE.h₀ = h₀;generalize cE.L = L
  generalize cE.m = m;generalize cE.s = s;generalize cE.R = R
  intros ok hs hi hy hj hx ho hse hz hb hp hd hn hp0 hd0 hn0 wi B F X N T hk hts hd1 hu hret
  obtain ⟨l0,l1,l2,l3,l4,l5,o0,o1,o2,o3,o4,o5,o6,mw⟩ := ok
  dsimp only [wr,wrDict,wE] at *
  refine pairsK (l := [wire,DW,W,D,DS,NS,PS]) ⟨l0,l1,l2,l3,l4,l5,trivial⟩ ?_
  (repeat with_reducible refine fun _ => ?_)
  k_dflt (refine' code_def (binds := [("self", .ref W),("tag", .str z tz)]) ?k1 ?k2 ?k3 ?k4 ?k5 ?kA ?kF ?kK ?k6 ?k7 ?k8 ?k9 ?kB ?_ ?c2 ?c3 ?c4 ?c5;(case kA => exact rfl);(case kF => exact rfl);(case kK => assumption);(case k1 => k_asm);(case k2 => k_asm);(case k3 => k_asm);(case k4 => k_asm);(case k5 => k_asm);(case k6 => k_is);(case k7 => k_is);(case k8 => ktr_room);(case k9 => exact BindsTo.of_eq rfl);(case c5 => decide);(case kB => exact locs rfl);(case c2 => exact rfl);(case c3 => exact rfl);(case c4 => exact rfl);k_whole;intro g' L' h' FG' F' N' B' X' T';(try dsimp only);(try k_lift B');(try k_fold))
  obtain ⟨w1,w2,w3,w4,w5,w6,w7,w8⟩ := wi
  (try dsimp only at w1 w2 w5 w6 w7 w8)
  subst hse hp hd hn
  rcases Nat.eq_zero_or_pos das.size with hq0 | hq0
  · have hx0 := held_none hq0 hy hj
    have hd0' : das = #[] := Array.eq_empty_of_size_eq_zero hq0
    subst hd0'
    k_steps
    refine' hret _ _ _ ⟨rfl,⟨_,_,_,_,_,_,_,_,_,_,_,_,_⟩,rfl,?g1,rfl,rfl,rfl,rfl,?g2⟩ ⟨rfl,rfl⟩ (by assumption) ?gN
    (case gN => (rename News _ _ _ _ => N9);exact Mine.News.cons_ (N9 _ (by k_mem)) (Mine.News.cons_ (N9 _ (by k_mem)) (Mine.News.cons_ (N9 _ (by k_mem)) (Mine.News.cons_ (N9 _ (by k_mem)) (Mine.News.cons_ (N9 _ (by k_mem)) (Mine.News.cons_ (N9 _ (by k_mem)) (Mine.News.cons_ (N9 _ (by k_mem)) (fun p hp => N9 p (by k_mem)))))))))
    (case g1 => exact ⟨rfl,push_le (by dsimp only;omega),by rw [if_pos hx0];exact Wrote.nil.push _ _⟩)
    (case g2 => exact int_eq_one (by assumption))
  · k_steps
    refine' hret _ _ _ ⟨rfl,⟨_,_,_,_,_,_,_,_,_,_,_,_,_⟩,rfl,?g1,rfl,rfl,rfl,rfl,?g2⟩ ⟨rfl,rfl⟩ (by assumption) ?gN
    (case gN => (rename News _ _ _ _ => N9);exact Mine.News.cons_ (N9 _ (by k_mem)) (Mine.News.cons_ (N9 _ (by k_mem)) (Mine.News.cons_ (N9 _ (by k_mem)) (Mine.News.cons_ (N9 _ (by k_mem)) (Mine.News.cons_ (N9 _ (by k_mem)) (Mine.News.cons_ (N9 _ (by k_mem)) (Mine.News.cons_ (N9 _ (by k_mem)) (fun p hp => N9 p (by k_mem)))))))))
    (case g1 => exact ⟨rfl,push_le (by dsimp only;omega),Wrote.push (by assumption) _ _⟩)
    (case g2 => exact int_eq_one (by assumption))
theorem wend : ∀ (w : World) (wa : WA) (q : WQ) (rest : List (Addr × Obj)) (ys : List Str) (x : Str) (z : Str) (tz : Tok) (p0 d0 n0 : Array Value) (v1 v2 v3 : Value) (pm ctv : Value) (oc : Obj) (vs : Array Value) (tq : Tok) (cont : Value → List Value) (u1 u2 : Tok) (ok : WOk wa rest) (hs : q.das.size ≤ 1000) (hi : q.its.size ≤ 1000) (hy : StrsAre q.das.toList ys) (hj : Txt.join "" ys = x) (hx : x.length ≤ 50) (ho : (ys.map (·.length)).sum ≤ 100000) (hse : q.seen = true) (hz : z.length ≤ 10) (hb : (Txt.slice z none (some 1) == Str.ofString "{") = false) (hp : q.pss = p0.push v1) (hd : q.dss = d0.push v2) (hn : q.nss = n0.push v3) (hp0 : p0.size ≤ 1000) (hd0 : d0.size ≤ 1000) (hn0 : n0.size ≤ 1000) (wi : WIt wa q rest pm ctv oc vs tq cont u1 u2),Spec w 133 10 100 (wr w.params wa q rest) [.ref wa.W, .str z tz] (fun v news' => v = .none ∧ ∃ q',news' = wr w.params wa q' rest ∧ WDid q q' ((if x.length = 0 then [] else [escC x]) ++ [endMark z]) 2 ∧ q'.dss = d0 ∧ q'.nss = n0 ∧ q'.pss = p0 ∧ q'.seen = true ∧ q'.done = decide (p0.size = 1)) := by
  intros w wa q rest ys x z tz p0 d0 n0 v1 v2 v3 pm ctv oc vs tq cont u1 u2 ok hs hi hy hj hx ho hse hz hb hp hd hn hp0 hd0 hn0 wi
  refine Spec.close fun mean mg mb dp un gd cn cs a ccd cl outer A₀ base h₀ L m s R => ?_
  exact tau (by unfold cE;rfl) wend_c { ltL0 with w := w,cont := cont,b := nth 0 [wa.W,wa.DW,wa.wrt,wa.wire,wa.D,wa.L0,wa.T0,wa.DS,wa.NS,wa.PM,wa.PS,wa.it,wa.itc],n := nth 0 [q.n,q.nd,q.nds,q.nns,q.nps],x := nth default [x,z],t := nth 0 [wa.t0,wa.t1,wa.t2,wa.t3,wa.t4,wa.t5,wa.t6,wa.t7,wa.t8,wa.t9,wa.t10,wa.t11,wa.t12,wa.t13,wa.t14,wa.t15,wa.t16,wa.t17,q.ti,tz,tq,u1,u2],v := nth .none [v1,v2,v3,pm,ctv],vs := nth #[] [q.its,q.das,q.dss,q.nss,q.pss,p0,d0,n0,vs],o := nth default [oc],f := nth true [q.seen,q.done],rest := nth [] [rest],ys := nth [] [ys],mean,mg,mb,dp,un,gd,cn,cs,a,ccd,cl,outer,A₀,base,h₀,L,m,s,R } ok hs hi hy hj hx ho hse hz hb hp hd hn hp0 hd0 hn0 wi
end
section
local macro_rules (kind := PySem.W.tacticK_extra_) | x => topOf "comment flush lst del wru wr1 wr2 esc pure1 cut fast lt wr0 bound oo mac0 om" x
def wcommentP (l : Lt) : Prop :=
  (WOk (waL l) (l.rest 0)) →
  ((wqL l).das.size ≤ 1000) →
  ((wqL l).its.size ≤ 1000) →
  (StrsAre (wqL l).das.toList (l.ys 0)) →
  (Txt.join "" (l.ys 0) = (l.x 0)) →
  ((l.x 0).length ≤ 50) →
  (((l.ys 0).map (·.length)).sum ≤ 100000) →
  ((l.x 1).length ≤ 50) →
  ((wqL l).seen = false → (wqL l).das.size = 0 ∧ (wqL l).done = false) →
  ((wqL l).done = true → (wqL l).das.size = 0) →
  SpecL l 140 10 100 (wr l.w.params (waL l) (wqL l) (l.rest 0)) [.ref (waL l).W, .str (l.x 1) (l.t 19)] (fun v news' => v = .none ∧ ∃ q',news' = wr l.w.params (waL l) q' (l.rest 0) ∧ WDid (wqL l) q' ((if (wqL l).done = true then [Str.ofString "\n"] else if (l.x 0).length = 0 then [] else [escC (l.x 0)]) ++ [remMark (escC (l.x 1))] ++ if (wqL l).seen = true then [] else [Str.ofString "\n"]) 3 ∧ q'.dss = (wqL l).dss ∧ q'.nss = (wqL l).nss ∧ q'.pss = (wqL l).pss ∧ q'.seen = (wqL l).seen ∧ q'.done = (wqL l).done)
@[irreducible] noncomputable def cCo : Lt := Classical.choose (Lt.ex wcommentP)
theorem wcomment_c : wcommentP cCo := by
  unfold wcommentP SpecL SpecQ
  k_fill
  dsimp +instances only [waL,wqL]
  generalize cCo.b 0 = W;generalize cCo.b 1 = DW;generalize cCo.b 2 = wrt;generalize cCo.b 3 = wire;generalize cCo.b 4 = D;generalize cCo.b 5 = L0;generalize cCo.b 6 = T0;generalize cCo.b 7 = DS
  generalize cCo.b 8 = NS;generalize cCo.b 9 = PM;generalize cCo.b 10 = PS;generalize cCo.b 11 = it;generalize cCo.b 12 = itc;generalize cCo.t 0 = t0;generalize cCo.t 1 = t1;generalize cCo.t 2 = t2
  generalize cCo.t 3 = t3;generalize cCo.t 4 = t4;generalize cCo.t 5 = t5;generalize cCo.t 6 = t6;generalize cCo.t 7 = t7;generalize cCo.t 8 = t8;generalize cCo.t 9 = t9;generalize cCo.t 10 = t10
  generalize cCo.t 11 = t11;generalize cCo.t 12 = t12;generalize cCo.t 13 = t13;generalize cCo.t 14 = t14;generalize cCo.t 15 = t15;generalize cCo.t 16 = t16;generalize cCo.t 17 = t17;generalize cCo.vs 0 = its
  generalize cCo.vs 1 = das;generalize cCo.vs 2 = dss;generalize cCo.vs 3 = nss;generalize cCo.vs 4 = pss;generalize cCo.n 0 = n;generalize cCo.n 1 = nd;generalize cCo.n 2 = nds;generalize cCo.n 3 = nns
  generalize cCo.n 4 = nps;generalize cCo.f 0 = seen;generalize cCo.f 1 = done;generalize cCo.t 18 = ti;generalize cCo.w = w;generalize cCo.rest 0 = rest;generalize cCo.ys 0 = ys;generalize cCo.x 0 = x
  generalize cCo.x 1 = z;generalize cCo.t 19 = tz;generalize cCo.mean = mean;generalize cCo.mg = mg;generalize cCo.mb = mb;generalize cCo.dp = dp;generalize cCo.un = un;generalize cCo.gd = gd
  generalize cCo.cn = cn;generalize cCo.cs = cs;generalize cCo.a = a;generalize cCo.ccd = ccd;generalize cCo.cl = cl;generalize cCo.outer = outer;generalize cCo.A₀ = A₀;generalize cCo.base = base
  generalize cCo.h₀ = h₀;generalize cCo.L = L;generalize cCo.m = m;generalize cCo.s = s;generalize cCo.R = R
  intros ok hs hi hy hj hx ho hz hb hc B F X N T hk hts hd1 hu hret
  obtain ⟨l0,l1,l2,l3,l4,l5,o0,o1,o2,o3,o4,o5,o6,mw⟩ := ok
  dsimp only [wr,wrDict,wE] at *
  refine pairsK (l := [wire,DW,W,D,DS,NS,PS]) ⟨l0,l1,l2,l3,l4,l5,trivial⟩ ?_
  (repeat with_reducible refine fun _ => ?_)
  k_dflt (refine' code_def (binds := [("self", .ref W),("text", .str z tz)]) ?k1 ?k2 ?k3 ?k4 ?k5 ?kA ?kF ?kK ?k6 ?k7 ?k8 ?k9 ?kB ?_ ?c2 ?c3 ?c4 ?c5;(case kA => exact rfl);(case kF => exact rfl);(case kK => assumption);(case k1 => k_asm);(case k2 => k_asm);(case k3 => k_asm);(case k4 => k_asm);(case k5 => k_asm);(case k6 => k_is);(case k7 => k_is);(case k8 => ktr_room);(case k9 => exact BindsTo.of_eq rfl);(case c5 => decide);(case kB => exact locs rfl);(case c2 => exact rfl);(case c3 => exact rfl);(case c4 => exact rfl);k_whole;intro g' L' h' FG' F' N' B' X' T';(try dsimp only);(try k_lift B');(try k_fold))
  have cutOn : CutOn := trivial
  k_steps
  unfold Cut
  refine' cut_at (fun f s1 => f = Flow.next ∧ ∃ (its1 : Array Value) (n1 nd1 nds1 nns1 nps1 : Nat) (ti1 : Tok),Same s s1 ∧ Fr g' L' s1.heap (fun y => List.lookup y [(Str.ofString "self",Value.ref W),(Str.ofString "text",Value.str z tz)].reverse) ∧ News g' L' s1.heap (wr w.params ⟨W,DW,wrt,wire,D,L0,T0,DS,NS,PM,PS,it,itc,t0,t1,t2,t3,t4,t5,t6,t7,t8,t9,t10,t11,t12,t13,t14,t15,t16,t17⟩ ⟨its1,#[],dss,nss,pss,n1,nd1,nds1,nns1,nps1,seen,done,ti1⟩ rest) ∧ its1.size ≤ its.size + 1 ∧ Wrote its its1 (if done = true then [Str.ofString "\n"] else if x.length = 0 then [] else [escC x])) ?ht ?h1 ?h2
  (case ht => first | assumption | (refine Mine.leT ?_;(try dsimp only);omega))
  (case h1 =>
    have hnd : seen = false → done = false := fun h => (hb h).2
    cases done with
    | true =>
      have hq0 := hc rfl
      cases seen with
      | false => exact absurd (hnd rfl) Bool.noConfusion
      | true =>
        have hd0' : das = #[] := Array.eq_empty_of_size_eq_zero hq0
        subst hd0'
        k_steps
        unfold At
        refine' ⟨rfl,_,_,_,_,_,_,_,⟨rfl,rfl⟩,(by assumption),?gN,?g1,?g2⟩
        (case gN => (rename News _ _ _ _ => N9);exact Mine.News.cons_ (N9 _ (by k_mem)) (Mine.News.cons_ (N9 _ (by k_mem)) (Mine.News.cons_ (N9 _ (by k_mem)) (Mine.News.cons_ (N9 _ (by k_mem)) (Mine.News.cons_ (N9 _ (by k_mem)) (Mine.News.cons_ (N9 _ (by k_mem)) (Mine.News.cons_ (N9 _ (by k_mem)) (fun p hp => N9 p (by k_mem)))))))))
        (case g1 => exact push_le (Nat.le_refl _))
        (case g2 => exact Wrote.nil.push _ _)
    | false =>
      cases seen with
      | false =>
        have hq0 := (hb rfl).1
        have hx0 := held_none hq0 hy hj
        have hd0' : das = #[] := Array.eq_empty_of_size_eq_zero hq0
        subst hd0'
        k_steps
        unfold At
        refine' ⟨rfl,_,_,_,_,_,_,_,⟨rfl,rfl⟩,(by assumption),?gN,?g1,?g2⟩
        (case gN => (rename News _ _ _ _ => N9);exact Mine.News.cons_ (N9 _ (by k_mem)) (Mine.News.cons_ (N9 _ (by k_mem)) (Mine.News.cons_ (N9 _ (by k_mem)) (Mine.News.cons_ (N9 _ (by k_mem)) (Mine.News.cons_ (N9 _ (by k_mem)) (Mine.News.cons_ (N9 _ (by k_mem)) (Mine.News.cons_ (N9 _ (by k_mem)) (fun p hp => N9 p (by k_mem)))))))))
        (case g1 => exact Nat.le_succ _)
        (case g2 => rw [if_neg Bool.false_ne_true,if_pos hx0];exact Wrote.nil)
      | true =>
        rcases Nat.eq_zero_or_pos das.size with hq0 | hq0
        · have hx0 := held_none hq0 hy hj
          have hd0' : das = #[] := Array.eq_empty_of_size_eq_zero hq0
          subst hd0'
          k_steps
          unfold At
          refine' ⟨rfl,_,_,_,_,_,_,_,⟨rfl,rfl⟩,(by assumption),?gN,?g1,?g2⟩
          (case gN => (rename News _ _ _ _ => N9);exact Mine.News.cons_ (N9 _ (by k_mem)) (Mine.News.cons_ (N9 _ (by k_mem)) (Mine.News.cons_ (N9 _ (by k_mem)) (Mine.News.cons_ (N9 _ (by k_mem)) (Mine.News.cons_ (N9 _ (by k_mem)) (Mine.News.cons_ (N9 _ (by k_mem)) (Mine.News.cons_ (N9 _ (by k_mem)) (fun p hp => N9 p (by k_mem)))))))))
          (case g1 => exact Nat.le_succ _)
          (case g2 => rw [if_neg Bool.false_ne_true,if_pos hx0];exact Wrote.nil)
        · k_steps
          unfold At
          refine' ⟨rfl,_,_,_,_,_,_,_,⟨rfl,rfl⟩,(by assumption),?gN,?g1,?g2⟩
          (case gN => (rename News _ _ _ _ => N9);exact Mine.News.cons_ (N9 _ (by k_mem)) (Mine.News.cons_ (N9 _ (by k_mem)) (Mine.News.cons_ (N9 _ (by k_mem)) (Mine.News.cons_ (N9 _ (by k_mem)) (Mine.News.cons_ (N9 _ (by k_mem)) (Mine.News.cons_ (N9 _ (by k_mem)) (Mine.News.cons_ (N9 _ (by k_mem)) (fun p hp => N9 p (by k_mem)))))))))
          (case g1 => assumption)
          (case g2 => rw [if_neg Bool.false_ne_true];assumption))
  (case h2 =>
    intro f s1 hP tk1
    unfold At at hP
    obtain ⟨hf,its1,n1,nd1,nds1,nns1,nps1,ti1,S1,F1,N1,z1,w1⟩ := hP
    subst hf
    clear F' N' N hy hj hs hc hb
    dsimp only [wr,wrDict,wE] at N1
    obtain ⟨i1,i2⟩ := S1
    (try dsimp only)
    have hl0 : (escC z).length ≤ 20000 := escC_len hz
    delta escC at hl0
    cases seen with
    | true =>
      k_steps
      refine' hret _ _ _ ⟨rfl,⟨_,_,_,_,_,_,_,_,_,_,_,_,_⟩,rfl,?g1,rfl,rfl,rfl,rfl,rfl⟩ ⟨i1,i2⟩ (by assumption) ?gN
      (case gN => (rename News _ _ _ _ => N9);exact Mine.News.cons_ (N9 _ (by k_mem)) (Mine.News.cons_ (N9 _ (by k_mem)) (Mine.News.cons_ (N9 _ (by k_mem)) (Mine.News.cons_ (N9 _ (by k_mem)) (Mine.News.cons_ (N9 _ (by k_mem)) (Mine.News.cons_ (N9 _ (by k_mem)) (Mine.News.cons_ (N9 _ (by k_mem)) (fun p hp => N9 p (by k_mem)))))))))
      (case g1 => exact ⟨rfl,push_le (by dsimp only;omega),by rw [if_pos rfl,List.append_nil];exact w1.push _ _⟩)
    | false =>
      k_steps
      refine' hret _ _ _ ⟨rfl,⟨_,_,_,_,_,_,_,_,_,_,_,_,_⟩,rfl,?g1,rfl,rfl,rfl,rfl,rfl⟩ ⟨i1,i2⟩ (by assumption) ?gN
      (case gN => (rename News _ _ _ _ => N9);exact Mine.News.cons_ (N9 _ (by k_mem)) (Mine.News.cons_ (N9 _ (by k_mem)) (Mine.News.cons_ (N9 _ (by k_mem)) (Mine.News.cons_ (N9 _ (by k_mem)) (Mine.News.cons_ (N9 _ (by k_mem)) (Mine.News.cons_ (N9 _ (by k_mem)) (Mine.News.cons_ (N9 _ (by k_mem)) (fun p hp => N9 p (by k_mem)))))))))
      (case g1 => exact ⟨rfl,push_le2 (by dsimp only;omega),by rw [if_neg Bool.false_ne_true];exact (w1.push _ _).push _ _⟩))
theorem wcomment : ∀ (w : World) (wa : WA) (q : WQ) (rest : List (Addr × Obj)) (ys : List Str) (x : Str) (z : Str) (tz : Tok) (ok : WOk wa rest) (hs : q.das.size ≤ 1000) (hi : q.its.size ≤ 1000) (hy : StrsAre q.das.toList ys) (hj : Txt.join "" ys = x) (hx : x.length ≤ 50) (ho : (ys.map (·.length)).sum ≤ 100000) (hz : z.length ≤ 50) (hb : q.seen = false → q.das.size = 0 ∧ q.done = false) (hc : q.done = true → q.das.size = 0),Spec w 140 10 100 (wr w.params wa q rest) [.ref wa.W, .str z tz] (fun v news' => v = .none ∧ ∃ q',news' = wr w.params wa q' rest ∧ WDid q q' ((if q.done = true then [Str.ofString "\n"] else if x.length = 0 then [] else [escC x]) ++ [remMark (escC z)] ++ if q.seen = true then [] else [Str.ofString "\n"]) 3 ∧ q'.dss = q.dss ∧ q'.nss = q.nss ∧ q'.pss = q.pss ∧ q'.seen = q.seen ∧ q'.done = q.done) := by
  intros w wa q rest ys x z tz ok hs hi hy hj hx ho hz hb hc
  refine Spec.close fun mean mg mb dp un gd cn cs a ccd cl outer A₀ base h₀ L m s R => ?_
  exact tau (by unfold cCo;rfl) wcomment_c { ltL0 with w := w,b := nth 0 [wa.W,wa.DW,wa.wrt,wa.wire,wa.D,wa.L0,wa.T0,wa.DS,wa.NS,wa.PM,wa.PS,wa.it,wa.itc],n := nth 0 [q.n,q.nd,q.nds,q.nns,q.nps],x := nth default [x,z],t := nth 0 [wa.t0,wa.t1,wa.t2,wa.t3,wa.t4,wa.t5,wa.t6,wa.t7,wa.t8,wa.t9,wa.t10,wa.t11,wa.t12,wa.t13,wa.t14,wa.t15,wa.t16,wa.t17,q.ti,tz],vs := nth #[] [q.its,q.das,q.dss,q.nss,q.pss],f := nth true [q.seen,q.done],rest := nth [] [rest],ys := nth [] [ys],mean,mg,mb,dp,un,gd,cn,cs,a,ccd,cl,outer,A₀,base,h₀,L,m,s,R } ok hs hi hy hj hx ho hz hb hc
end
section
local macro_rules (kind := PySem.W.tacticK_extra_) | x => topOf "pi flush lst del wru wr1 wr2 esc pure1 cut fast lt wr0 bound oo mac0 om" x
def wpiP (l : Lt) : Prop :=
  (WOk (waL l) (l.rest 0)) →
  ((wqL l).das.size ≤ 1000) →
  ((wqL l).its.size ≤ 1000) →
  (StrsAre (wqL l).das.toList (l.ys 0)) →
  (Txt.join "" (l.ys 0) = (l.x 0)) →
  ((l.x 0).length ≤ 50) →
  (((l.ys 0).map (·.length)).sum ≤ 100000) →
  ((l.x 1).length ≤ 50) →
  ((wqL l).seen = false → (wqL l).das.size = 0 ∧ (wqL l).done = false) →
  ((wqL l).done = true → (wqL l).das.size = 0) →
  ((l.x 2).length ≤ 10) →
  SpecL l 147 10 100 (wr l.w.params (waL l) (wqL l) (l.rest 0)) [.ref (waL l).W, .str (l.x 2) (l.t 20), .str (l.x 1) (l.t 19)] (fun v news' => v = .none ∧ ∃ q',news' = wr l.w.params (waL l) q' (l.rest 0) ∧ WDid (wqL l) q' ((if (wqL l).done = true then [Str.ofString "\n"] else if (l.x 0).length = 0 then [] else [escC (l.x 0)]) ++ [piMark (l.x 2) (l.x 1)] ++ if (wqL l).seen = true then [] else [Str.ofString "\n"]) 3 ∧ q'.dss = (wqL l).dss ∧ q'.nss = (wqL l).nss ∧ q'.pss = (wqL l).pss ∧ q'.seen = (wqL l).seen ∧ q'.done = (wqL l).done)
@[irreducible] noncomputable def cPi : Lt := Classical.choose (Lt.ex wpiP)
theorem wpi_c : wpiP cPi := by
  unfold wpiP SpecL SpecQ
  k_fill
  dsimp +instances only [waL,wqL]
  generalize cPi.b 0 = W;generalize cPi.b 1 = DW;generalize cPi.b 2 = wrt;generalize cPi.b 3 = wire;generalize cPi.b 4 = D;generalize cPi.b 5 = L0;generalize cPi.b 6 = T0;generalize cPi.b 7 = DS
  generalize cPi.b 8 = NS;generalize cPi.b 9 = PM;generalize cPi.b 10 = PS;generalize cPi.b 11 = it;generalize cPi.b 12 = itc;generalize cPi.t 0 = t0;generalize cPi.t 1 = t1;generalize cPi.t 2 = t2
  generalize cPi.t 3 = t3;generalize cPi.t 4 = t4;generalize cPi.t 5 = t5;generalize cPi.t 6 = t6;generalize cPi.t 7 = t7;generalize cPi.t 8 = t8;generalize cPi.t 9 = t9;generalize cPi.t 10 = t10
  generalize cPi.t 11 = t11;generalize cPi.t 12 = t12;generalize cPi.t 13 = t13;generalize cPi.t 14 = t14;generalize cPi.t 15 = t15;generalize cPi.t 16 = t16;generalize cPi.t 17 = t17;generalize cPi.vs 0 = its
  generalize cPi.vs 1 = das;generalize cPi.vs 2 = dss;generalize cPi.vs 3 = nss;generalize cPi.vs 4 = pss;generalize cPi.n 0 = n;generalize cPi.n 1 = nd;generalize cPi.n 2 = nds;generalize cPi.n 3 = nns
  generalize cPi.n 4 = nps;generalize cPi.f 0 = seen;generalize cPi.f 1 = done;generalize cPi.t 18 = ti;generalize cPi.w = w;generalize cPi.rest 0 = rest;generalize cPi.ys 0 = ys;generalize cPi.x 0 = x
  generalize cPi.x 1 = z;generalize cPi.t 19 = tz;generalize cPi.x 2 = p;generalize cPi.t 20 = tp;generalize cPi.mean = mean;generalize cPi.mg = mg;generalize cPi.mb = mb;generalize cPi.dp = dp
  generalize cPi.un = un;generalize cPi.gd = gd;generalize cPi.cn = cn;generalize cPi.cs = cs;generalize cPi.a = a;generalize cPi.ccd = ccd;generalize cPi.cl = cl;generalize cPi.outer = outer
  generalize cPi.A₀ = A₀;generalize cPi.base = base;generalize cPi.h₀ = h₀;generalize cPi.L = L;generalize cPi.m = m;generalize cPi.s = s;generalize cPi.R = R
  intros ok hs hi hy hj hx ho hz hb hc hpl B F X N T hk hts hd1 hu hret
  obtain ⟨l0,l1,l2,l3,l4,l5,o0,o1,o2,o3,o4,o5,o6,mw⟩ := ok
  dsimp only [wr,wrDict,wE] at *
  refine pairsK (l := [wire,DW,W,D,DS,NS,PS]) ⟨l0,l1,l2,l3,l4,l5,trivial⟩ ?_
  (repeat with_reducible refine fun _ => ?_)
  k_dflt (refine' code_def (binds := [("self", .ref W),("target", .str p tp),("data", .str z tz)]) ?k1 ?k2 ?k3 ?k4 ?k5 ?kA ?kF ?kK ?k6 ?k7 ?k8 ?k9 ?kB ?_ ?c2 ?c3 ?c4 ?c5;(case kA => exact rfl);(case kF => exact rfl);(case kK => assumption);(case k1 => k_asm);(case k2 => k_asm);(case k3 => k_asm);(case k4 => k_asm);(case k5 => k_asm);(case k6 => k_is);(case k7 => k_is);(case k8 => ktr_room);(case k9 => exact BindsTo.of_eq rfl);(case c5 => decide);(case kB => exact locs rfl);(case c2 => exact rfl);(case c3 => exact rfl);(case c4 => exact rfl);k_whole;intro g' L' h' FG' F' N' B' X' T';(try dsimp only);(try k_lift B');(try k_fold))
  have cutOn : CutOn := trivial
  k_steps
  unfold Cut
  refine' cut_at (fun f s1 => f = Flow.next ∧ ∃ (its1 : Array Value) (n1 nd1 nds1 nns1 nps1 : Nat) (ti1 : Tok),Same s s1 ∧ Fr g' L' s1.heap (fun y => List.lookup y [(Str.ofString "self",Value.ref W),(Str.ofString "target",Value.str p tp),(Str.ofString "data",Value.str z tz)].reverse) ∧ News g' L' s1.heap (wr w.params ⟨W,DW,wrt,wire,D,L0,T0,DS,NS,PM,PS,it,itc,t0,t1,t2,t3,t4,t5,t6,t7,t8,t9,t10,t11,t12,t13,t14,t15,t16,t17⟩ ⟨its1,#[],dss,nss,pss,n1,nd1,nds1,nns1,nps1,seen,done,ti1⟩ rest) ∧ its1.size ≤ its.size + 1 ∧ Wrote its its1 (if done = true then [Str.ofString "\n"] else if x.length = 0 then [] else [escC x])) ?ht ?h1 ?h2
  (case ht => first | assumption | (refine Mine.leT ?_;(try dsimp only);omega))
  (case h1 =>
    have hnd : seen = false → done = false := fun h => (hb h).2
    cases done with
    | true =>
      have hq0 := hc rfl
      cases seen with
      | false => exact absurd (hnd rfl) Bool.noConfusion
      | true =>
        have hd0' : das = #[] := Array.eq_empty_of_size_eq_zero hq0
        subst hd0'
        k_steps
        unfold At
        refine' ⟨rfl,_,_,_,_,_,_,_,⟨rfl,rfl⟩,(by assumption),?gN,?g1,?g2⟩
        (case gN => (rename News _ _ _ _ => N9);exact Mine.News.cons_ (N9 _ (by k_mem)) (Mine.News.cons_ (N9 _ (by k_mem)) (Mine.News.cons_ (N9 _ (by k_mem)) (Mine.News.cons_ (N9 _ (by k_mem)) (Mine.News.cons_ (N9 _ (by k_mem)) (Mine.News.cons_ (N9 _ (by k_mem)) (Mine.News.cons_ (N9 _ (by k_mem)) (fun p hp => N9 p (by k_mem)))))))))
        (case g1 => exact push_le (Nat.le_refl _))
        (case g2 => exact Wrote.nil.push _ _)
    | false =>
      cases seen with
      | false =>
        have hq0 := (hb rfl).1
        have hx0 := held_none hq0 hy hj
        have hd0' : das = #[] := Array.eq_empty_of_size_eq_zero hq0
        subst hd0'
        k_steps
        unfold At
        refine' ⟨rfl,_,_,_,_,_,_,_,⟨rfl,rfl⟩,(by assumption),?gN,?g1,?g2⟩
        (case gN => (rename News _ _ _ _ => N9);exact Mine.News.cons_ (N9 _ (by k_mem)) (Mine.News.cons_ (N9 _ (by k_mem)) (Mine.News.cons_ (N9 _ (by k_mem)) (Mine.News.cons_ (N9 _ (by k_mem)) (Mine.News.cons_ (N9 _ (by k_mem)) (Mine.News.cons_ (N9 _ (by k_mem)) (Mine.News.cons_ (N9 _ (by k_mem)) (fun p hp => N9 p (by k_mem)))))))))
        (case g1 => exact Nat.le_succ _)
        (case g2 => rw [if_neg Bool.false_ne_true,if_pos hx0];exact Wrote.nil)
      | true =>
        rcases Nat.eq_zero_or_pos das.size with hq0 | hq0
        · have hx0 := held_none hq0 hy hj
          have hd0' : das = #[] := Array.eq_empty_of_size_eq_zero hq0
          subst hd0'
          k_steps
          unfold At
          refine' ⟨rfl,_,_,_,_,_,_,_,⟨rfl,rfl⟩,(by assumption),?gN,?g1,?g2⟩
          (case gN => (rename News _ _ _ _ => N9);exact Mine.News.cons_ (N9 _ (by k_mem)) (Mine.News.cons_ (N9 _ (by k_mem)) (Mine.News.cons_ (N9 _ (by k_mem)) (Mine.News.cons_ (N9 _ (by k_mem)) (Mine.News.cons_ (N9 _ (by k_mem)) (Mine.News.cons_ (N9 _ (by k_mem)) (Mine.News.cons_ (N9 _ (by k_mem)) (fun p hp => N9 p (by k_mem)))))))))
          (case g1 => exact Nat.le_succ _)
          (case g2 => rw [if_neg Bool.false_ne_true,if_pos hx0];exact Wrote.nil)
        · k_steps
          unfold At
          refine' ⟨rfl,_,_,_,_,_,_,_,⟨rfl,rfl⟩,(by assumption),?gN,?g1,?g2⟩
          (case gN => (rename News _ _ _ _ => N9);exact Mine.News.cons_ (N9 _ (by k_mem)) (Mine.News.cons_ (N9 _ (by k_mem)) (Mine.News.cons_ (N9 _ (by k_mem)) (Mine.News.cons_ (N9 _ (by k_mem)) (Mine.News.cons_ (N9 _ (by k_mem)) (Mine.News.cons_ (N9 _ (by k_mem)) (Mine.News.cons_ (N9 _ (by k_mem)) (fun p hp => N9 p (by k_mem)))))))))
          (case g1 => assumption)
          (case g2 => rw [if_neg Bool.false_ne_true];assumption))
  (case h2 =>
    intro f s1 hP tk1
    unfold At at hP
    obtain ⟨hf,its1,n1,nd1,nds1,nns1,nps1,ti1,S1,F1,N1,z1,w1⟩ := hP
    subst hf
    clear F' N' N hy hj hs hc hb
    dsimp only [wr,wrDict,wE] at N1
    obtain ⟨i1,i2⟩ := S1
    (try dsimp only)
    have hl0 : (escC z).length ≤ 20000 := escC_len hz
    delta escC at hl0
    rcases Nat.eq_zero_or_pos z.length with hz0 | hz0
    · cases seen with
      | true =>
        k_steps
        refine' hret _ _ _ ⟨rfl,⟨_,_,_,_,_,_,_,_,_,_,_,_,_⟩,rfl,?g1,rfl,rfl,rfl,rfl,rfl⟩ ⟨i1,i2⟩ (by assumption) ?gN
        (case gN => (rename News _ _ _ _ => N9);exact Mine.News.cons_ (N9 _ (by k_mem)) (Mine.News.cons_ (N9 _ (by k_mem)) (Mine.News.cons_ (N9 _ (by k_mem)) (Mine.News.cons_ (N9 _ (by k_mem)) (Mine.News.cons_ (N9 _ (by k_mem)) (Mine.News.cons_ (N9 _ (by k_mem)) (Mine.News.cons_ (N9 _ (by k_mem)) (fun p hp => N9 p (by k_mem)))))))))
        (case g1 => exact ⟨rfl,push_le (by dsimp only;omega),by rw [if_pos rfl,List.append_nil,piMark_nil hz0];exact w1.push _ _⟩)
      | false =>
        k_steps
        refine' hret _ _ _ ⟨rfl,⟨_,_,_,_,_,_,_,_,_,_,_,_,_⟩,rfl,?g1,rfl,rfl,rfl,rfl,rfl⟩ ⟨i1,i2⟩ (by assumption) ?gN
        (case gN => (rename News _ _ _ _ => N9);exact Mine.News.cons_ (N9 _ (by k_mem)) (Mine.News.cons_ (N9 _ (by k_mem)) (Mine.News.cons_ (N9 _ (by k_mem)) (Mine.News.cons_ (N9 _ (by k_mem)) (Mine.News.cons_ (N9 _ (by k_mem)) (Mine.News.cons_ (N9 _ (by k_mem)) (Mine.News.cons_ (N9 _ (by k_mem)) (fun p hp => N9 p (by k_mem)))))))))
        (case g1 => exact ⟨rfl,push_le2 (by dsimp only;omega),by rw [if_neg Bool.false_ne_true,piMark_nil hz0];exact (w1.push _ _).push _ _⟩)
    · cases seen with
      | true =>
        k_steps
        refine' hret _ _ _ ⟨rfl,⟨_,_,_,_,_,_,_,_,_,_,_,_,_⟩,rfl,?g1,rfl,rfl,rfl,rfl,rfl⟩ ⟨i1,i2⟩ (by assumption) ?gN
        (case gN => (rename News _ _ _ _ => N9);exact Mine.News.cons_ (N9 _ (by k_mem)) (Mine.News.cons_ (N9 _ (by k_mem)) (Mine.News.cons_ (N9 _ (by k_mem)) (Mine.News.cons_ (N9 _ (by k_mem)) (Mine.News.cons_ (N9 _ (by k_mem)) (Mine.News.cons_ (N9 _ (by k_mem)) (Mine.News.cons_ (N9 _ (by k_mem)) (fun p hp => N9 p (by k_mem)))))))))
        (case g1 => exact ⟨rfl,push_le (by dsimp only;omega),by rw [if_pos rfl,List.append_nil,piMark_pos hz0];exact w1.push _ _⟩)
      | false =>
        k_steps
        refine' hret _ _ _ ⟨rfl,⟨_,_,_,_,_,_,_,_,_,_,_,_,_⟩,rfl,?g1,rfl,rfl,rfl,rfl,rfl⟩ ⟨i1,i2⟩ (by assumption) ?gN
        (case gN => (rename News _ _ _ _ => N9);exact Mine.News.cons_ (N9 _ (by k_mem)) (Mine.News.cons_ (N9 _ (by k_mem)) (Mine.News.cons_ (N9 _ (by k_mem)) (Mine.News.cons_ (N9 _ (by k_mem)) (Mine.News.cons_ (N9 _ (by k_mem)) (Mine.News.cons_ (N9 _ (by k_mem)) (Mine.News.cons_ (N9 _ (by k_mem)) (fun p hp => N9 p (by k_mem)))))))))
        (case g1 => exact ⟨rfl,push_le2 (by dsimp only;omega),by rw [if_neg Bool.false_ne_true,piMark_pos hz0];exact (w1.push _ _).push _ _⟩))
theorem wpi : ∀ (w : World) (wa : WA) (q : WQ) (rest : List (Addr × Obj)) (ys : List Str) (x : Str) (z : Str) (tz : Tok) (p : Str) (tp : Tok) (ok : WOk wa rest) (hs : q.das.size ≤ 1000) (hi : q.its.size ≤ 1000) (hy : StrsAre q.das.toList ys) (hj : Txt.join "" ys = x) (hx : x.length ≤ 50) (ho : (ys.map (·.length)).sum ≤ 100000) (hz : z.length ≤ 50) (hb : q.seen = false → q.das.size = 0 ∧ q.done = false) (hc : q.done = true → q.das.size = 0) (hpl : p.length ≤ 10),Spec w 147 10 100 (wr w.params wa q rest) [.ref wa.W, .str p tp, .str z tz] (fun v news' => v = .none ∧ ∃ q',news' = wr w.params wa q' rest ∧ WDid q q' ((if q.done = true then [Str.ofString "\n"] else if x.length = 0 then [] else [escC x]) ++ [piMark p z] ++ if q.seen = true then [] else [Str.ofString "\n"]) 3 ∧ q'.dss = q.dss ∧ q'.nss = q.nss ∧ q'.pss = q.pss ∧ q'.seen = q.seen ∧ q'.done = q.done) := by
  intros w wa q rest ys x z tz p tp ok hs hi hy hj hx ho hz hb hc hpl
  refine Spec.close fun mean mg mb dp un gd cn cs a ccd cl outer A₀ base h₀ L m s R => ?_
  exact tau (by unfold cPi;rfl) wpi_c { ltL0 with w := w,b := nth 0 [wa.W,wa.DW,wa.wrt,wa.wire,wa.D,wa.L0,wa.T0,wa.DS,wa.NS,wa.PM,wa.PS,wa.it,wa.itc],n := nth 0 [q.n,q.nd,q.nds,q.nns,q.nps],x := nth default [x,z,p],t := nth 0 [wa.t0,wa.t1,wa.t2,wa.t3,wa.t4,wa.t5,wa.t6,wa.t7,wa.t8,wa.t9,wa.t10,wa.t11,wa.t12,wa.t13,wa.t14,wa.t15,wa.t16,wa.t17,q.ti,tz,tp],vs := nth #[] [q.its,q.das,q.dss,q.nss,q.pss],f := nth true [q.seen,q.done],rest := nth [] [rest],ys := nth [] [ys],mean,mg,mb,dp,un,gd,cn,cs,a,ccd,cl,outer,A₀,base,h₀,L,m,s,R } ok hs hi hy hj hx ho hz hb hc hpl
end
section
local macro_rules (kind := PySem.W.tacticK_extra_) | x => topOf "startr qname flush lst mown dicts keyt keyc dcomp setrows setdisp skey listlt setcol setwk setit setfx sets loop lam_call lam nest del wru wr1 wr2 esc pure1 cut fast lt wr0 bound oo mac0 om" x
theorem rows_startr_1 : True := by
  (k_with "startr:exec Assign cons DictComp" => (k_here;(with_reducible show wpAny _ _ (exec (Stmt.Assign _ _ _) _) _ _ _);(with_reducible rename Mine.CutOn => hC9'2n);clear hC9'2n;refine Mine.Cut.go ?_))
  (k_with "startr:And" => ((with_reducible show MethP _ _ _ _ _ ∧ _);k_dflt (refine' ⟨?mp9'2o,?_⟩;(case mp9'2o => k_meth));(try dsimp only [List.nil_append,List.cons_append])))
  (k_with "startr:call ref" => (k_here;(with_reducible show wpAny _ _ (call (Value.ref _) [Value.str _ _]) _ _ _);k_dflt (refine' Mine.Spec.methC (Mine.qname _ _ ⟨_,_,_,_,_,_,_,_,_,_,_,_,_⟩ _ _ _ _ _ _ _ _ _ _ _ ?ok'2p ?hx'2p ?hb'2p ?wi'2p) ?B9'2p ?F9'2p ?X9'2p (Mine.wr_pick ?N9'2p ?P1'2p ?P2'2p ?P3'2p ?P4'2p ?P5'2p ?P6'2p ?Pm'2p ?P7'2p) ?Q9'2p ?T9'2p ?hk9'2p ?ht9'2p ?hd9'2p ?hu9'2p ?_;(case B9'2p => k_asm);(case F9'2p => k_asm);(case X9'2p => k_asm);(case N9'2p => k_asm);(case P1'2p => k_upd);(case P2'2p => k_upd);(case P3'2p => k_upd);(case P4'2p => k_upd);(case P5'2p => k_upd);(case P6'2p => k_upd);(case Pm'2p => assumption);(case P7'2p => k_upd);(case Q9'2p => k_mem);(case T9'2p => k_asm);(case hk9'2p => first | assumption | exact rfl);(case ht9'2p => (refine Mine.leT ?_;(try dsimp only);omega));(case hd9'2p => ktr_room);(case hu9'2p => ktr_units);(case ok'2p => ((try dsimp only);repeat' first | (with_reducible assumption) | (refine Mine.WOk.cons ?_ ?_) | (with_reducible refine Or.inl ?_;k_extra "m:ltq") | (with_reducible refine Or.inr ?_;k_extra "m:ltq") | (exact Or.inl (by (refine ltN ?_);(try dsimp only);omega)) | (exact Or.inr (by (refine ltN ?_);(try dsimp only);omega))));(case hx'2p => first | assumption | omega | decide);(case hb'2p => first | assumption | decide +kernel);(case wi'2p => exact ⟨by (try dsimp only);k_mem,by (try dsimp only);k_mem,by assumption,by assumption,by (try dsimp only);assumption,by (try dsimp only);assumption,fun h8'2p hh8'2p => ‹∀ h : Heap,h.get? _ = some _ → (∀ p ∈ _,h.get? p.1 = some p.2) → Mine.Rows h _ _› h8'2p (hh8'2p (_,_) (by k_mem)) fun p8'2p hp8'2p => hh8'2p p8'2p (by k_mem),by (try dsimp only);k_mem⟩);k_whole;intro v''2p news9''2p h9''2p dr9''2p tk9''2p hr'2p F''2p N''2p tk''2p;(obtain ⟨T''2p,u1''2p,u2''2p,u3''2p,hv'2p,hl''2p,hn'2p⟩ := hr'2p);(subst hv'2p);(subst hn'2p);(obtain ⟨hp''2p,hl''2p⟩ := hl''2p);(try dsimp only at hp''2p);(k_lt hl''2p);(have hq''2p := hp''2p);(clear hp''2p);(try dsimp only [Mine.wr,Mine.wrDict,Mine.wE,Mine.qtup] at N''2p);(try dsimp only))))
  trivial
structure WItN (wa : WA) (q : WQ) (rest : List (Addr × Obj)) (NL : Addr) (nl : Nat) (pm ctv : Value) (oc : Obj) (vs : Array Value) (tq : Tok) (cont : Value → List Value) (tx ty : Tok) : Prop where
  hi : (wa.it,itObj pm wa.itc ctv) ∈ rest
  hc : (wa.itc,oc) ∈ rest
  hv : oc.data = .fields vs
  hq : vs[1]? = some (.str "_law_writer.<locals>.<lambda>" tq)
  hz : q.dss.size ≤ 1000
  hf : q.dss.toList.reverse.flatMap cont = [.ref wa.T0]
  hR : ∀ h : Heap,h.get? NL = some (listOf #[] nl) → (∀ p ∈ rest,h.get? p.1 = some p.2) → Rows h q.dss.toList cont
  ht : (wa.T0,({ cls := .type "tuple",data := .seq #[.str "http://www.w3.org/XML/1998/namespace" tx, .str "xml" ty] 0 } : Obj)) ∈ rest
def startrP (l : Lt) : Prop :=
  (WOk l.wa (l.rest 0)) →
  (l.q.its.size ≤ 1000) →
  (l.q.pss[l.q.pss.size - 1]? = some (l.v 1)) →
  (l.q.pss.size ≤ 1000) →
  (l.q.nss.size ≤ 1000) →
  (∀ p ∈ (l.rest 0),p.1 ≠ (l.b 1)) →
  (∀ p ∈ (l.rest 0),p.1 ≠ (l.b 2)) →
  (∀ p ∈ (l.rest 0),p.1 ≠ 123) →
  (@LT.lt Nat _ l.wa.PS (l.b 1)) →
  (@LT.lt Nat _ (l.b 1) (l.b 2)) →
  (@LT.lt Nat _ 123 l.wa.wire) →
  (WItN l.wa l.q (l.rest 0) (l.b 2) (l.n 1) (l.v 2) (l.v 3) (l.o 1) (l.vs 1) (l.t 2) l.cont (l.t 3) (l.t 4)) →
  SpecL l 126 16 160 (wr l.w.params l.wa l.q (((l.b 2),listOf #[] (l.n 1)) :: ((l.b 1),dictOf [] (l.n 2)) :: (123,tabObj #[]) :: (l.rest 0))) [.ref l.wa.W, .str "r" (l.t 1), .ref (l.b 1), .ref (l.b 2)] (fun v news' => v = .none ∧ ∃ (its' : Array Value) (n' : Nat) (X c : Addr) (oc' : Obj) (vs' : Array Value) (tq' : Tok),news' = wr l.w.params l.wa ⟨its',l.q.das,l.q.dss,l.q.nss.push (.ref X),l.q.pss.push (l.v 1),n',l.q.nd,l.q.nds,l.q.nns + 1,l.q.nps + 1,true,l.q.done,l.q.ti⟩ ((X,listOf #[] 0) :: (c,oc') :: ((l.b 2),listOf #[] (l.n 1)) :: (123,tabObj #[rawInt 135,rawInt 71, .ref c]) :: (l.rest 0)) ∧ oc'.data = .fields vs' ∧ vs'[1]? = some (.str lamQual tq') ∧ (@LT.lt Nat _ l.wa.PS X ∧ @LT.lt Nat _ l.wa.PS c) ∧ Wrote l.q.its its' [Str.ofString "<r",Str.ofString ">"] ∧ its'.size ≤ l.q.its.size + 2)
@[irreducible] noncomputable def cR : Lt := Classical.choose (Lt.ex startrP)
theorem startr_c : startrP cR := by
  unfold startrP SpecL SpecQ
  k_fill
  generalize cR.w = w;generalize cR.wa = wa;generalize cR.q = q;generalize cR.rest 0 = rest;generalize cR.b 1 = AD;generalize cR.b 2 = NL;generalize cR.n 1 = nl;generalize cR.n 2 = na
  generalize cR.t 1 = tg;generalize cR.v 1 = v1;generalize cR.v 2 = pm;generalize cR.v 3 = ctv;generalize cR.o 1 = oc;generalize cR.vs 1 = vs;generalize cR.t 2 = tq;generalize cR.cont = cont
  generalize cR.t 3 = u1;generalize cR.t 4 = u2;generalize cR.mean = mean;generalize cR.mg = mg;generalize cR.mb = mb;generalize cR.dp = dp;generalize cR.un = un;generalize cR.gd = gd
  generalize cR.cn = cn;generalize cR.cs = cs;generalize cR.a = a;generalize cR.ccd = ccd;generalize cR.cl = cl;generalize cR.outer = outer;generalize cR.A₀ = A₀;generalize cR.base = base
  generalize cR.h₀ = h₀;generalize cR.L = L;generalize cR.m = m;generalize cR.s = s;generalize cR.R = R
  intros ok hi hp hp0 hn k0 k1 k2 k3 k4 k5 wi B F X N T hk hts hd1 hu hret
  have ok0 := ok
  obtain ⟨l0,l1,l2,l3,l4,l5,o0,o1,o2,o3,o4,o5,o6,mw⟩ := ok
  dsimp only [wr,wrDict,wE] at *
  refine pairsK (l := [123,wa.wire,wa.DW,wa.W,wa.D,wa.DS,wa.NS,wa.PS,AD,NL]) ⟨k5,l0,l1,l2,l3,l4,l5,k3,k4,trivial⟩ ?_
  (repeat with_reducible refine fun _ => ?_)
  k_dflt (refine' code_defC (binds := [("self", .ref wa.W),("tag", .str "r" tg),("attrs", .ref AD),("new_namespaces", .ref NL),("qname_text", .none)]) ?k1 ?k2 ?k3 ?k4 ?k5 ?kA ?kF ?kK ?k6 ?k7 ?k8 ?k9 ?kB ?kD ?_ ?c2 ?c3 ?c4;(case kA => exact rfl);(case kF => exact rfl);(case kK => assumption);(case k1 => k_asm);(case k2 => k_asm);(case k3 => k_asm);(case k4 => k_asm);(case k5 => k_asm);(case k6 => k_is);(case k7 => k_is);(case k8 => ktr_room);(case k9 => exact binds_K (by k_in) rfl (by k_is) rfl rfl rfl);(case kB => exact rfl);(case kD => decide +kernel);(case c2 => exact rfl);(case c3 => exact rfl);(case c4 => exact rfl);k_whole;intro g' L' h' tk' cells' FG' F' N' Y' B' X' T' l1;(try k_lt l1);k_cells Y';(try simp only [List.cons_append,List.nil_append] at N');(try dsimp only);(try k_lift B');(try k_fold))
  obtain ⟨w1,w2,w3,w4,w5,w6,w7,w8⟩ := wi
  (try dsimp only at w1 w2 w5 w6 w7 w8)
  have l2 : AllLt (L' + 1 + 1) rest := AllLt.up (Nat.le_add_right L' 2) (by with_reducible assumption)
  have hsys : (AD == sysModules) = false := beq_eq_false_iff_ne.mpr (fun e => by have : @Eq Nat AD 1 := e;omega)
  have C123 := codeHd_of_K (c := 125) (P := 123) X' (by kernel_rfl)
  have cutOn : CutOn := trivial
  k_steps
  unfold Cut
  k_dflt (refine' DCg.Assign_DictComp ?F₀ ?hLe ?ht ?hsw ?hclos ?hcell ?hkind ?hnames ?hx ?hy ?hp ?hh ?h ?hs)
  (case F₀ => k_asm)
  (case hLe => exact rfl)
  (case ht => (refine Mine.leT ?_;(try dsimp only);omega))
  (case hsw => with_unfolding_all rfl)
  (case hclos => with_unfolding_all rfl)
  (case hcell => decide)
  (case hkind => rfl)
  (case hnames => decide)
  (case hx => rfl)
  (case hy => rfl)
  (case hp => rfl)
  (case hh => rfl)
  (case hs => intro _;rfl)
  have cutOn : CutOn := trivial
  have lamOn : LamOn := trivial
  k_steps
  unfold Cut
  (rename News _ _ _ _ => N5);(rename Fr _ _ _ _ => F5)
  k_dflt (refine' sorted_oneK F5 N5 ?hm5 rfl ?ht5 ?tn5 ?_)
  (case hm5 => k_mem)
  (case ht5 => (refine Mine.leT ?_;(try dsimp only);omega))
  (case tn5 =>
    intro h9 d9 t9 N9 ht9 F9 M9 sub
    k_dflt (refine' key_turn (Mine.keyCall _ _ _ _ _ _ _ _ _ _ _ _ ?P1 ?P2 ?P3 ?P4 ?P5 ?P6) ?B9 F9 ?X9 M9 ?T9 ?hk9 ht9 ?hd9 ?hu9)
    (case P1 => exact sub _ (by k_mem))
    (case P2 => exact sub _ (by k_mem))
    (case P3 => assumption)
    (case P4 => assumption)
    (case P5 => kernel_rfl)
    (case P6 => decide)
    (case B9 => k_asm)
    (case X9 => k_asm)
    (case T9 => k_asm)
    (case hk9 => first | assumption | exact rfl)
    (case hd9 => ktr_room)
    (case hu9 => ktr_units))
  intro SD h5 d5 t5 c5 ht5 F6 N6 lt5
  (try k_lt lt5)
  refine ⟨SD,_,_,_,rfl,F6,N6, .head _,(show 1 ≤ 1000 by decide),?_⟩
  refine DCg.DRest.succ (k := 0) ?_
  intro v9 I9 oI9 C9 oC9 D9 oD9 m9 h9 dr9 tk9 E9 hv9 hoC hm9 F7 hoD N7 off7 ne7 ht7
  obtain rfl : Value.str (Str.ofString "r") tg = v9 := by simpa using hv9
  obtain ⟨ne1,ne2,ne3⟩ := ne7
  k_lt ne1
  clear off7
  k_steps
  (rename News _ _ _ _ => N8);(rename Fr _ _ _ _ => F8)
  k_dflt (refine' DEnd.pick F8 N8 ?p1 ?p2 ?p3 ?off ?src (DCg.DRest.zero ?fin))
  (case p1 => k_upd)
  (case p2 => k_upd)
  (case p3 => k_upd)
  (case off => repeat' first | (with_reducible refine Off3.cons' ?_ ne2 ne3 ?_) | (with_reducible refine Off3.low ne2 ne3 ?_;tb_lt) | (with_reducible refine Or.inl ?_;k_extra "m:ltq") | (with_reducible refine Or.inr ?_;k_extra "m:ltq") | ((with_reducible refine Or.inl ?_);(refine ltN ?_);(try dsimp only);omega) | ((with_reducible refine Or.inr ?_);(refine ltN ?_);(try dsimp only);omega))
  (case src => exact .inr ⟨_,(by k_mem),rfl,_,rfl⟩)
  intro DD oDD h10 dr10 t10 F10 hdd N10 off10 ht10
  k_lt off10
  have hdd : oDD.IsDictOf _ [(Str.ofString "r",Value.ref _)] := hdd
  k_steps
  (rename News _ _ _ _ => kN);(rename Fr _ _ _ _ => kF)
  refine' hret _ _ _ ⟨rfl,(q.its.push _).push _,q.n + 1 + 1,?X,?c,?oc,?vs,?tq,rfl,?d1,?d2,⟨?o1,?o2⟩,?w,?z⟩ ⟨rfl,rfl⟩ kF (News.cons_ ?a1 (News.cons_ ?a2 (News.cons_ ?a3 (News.cons_ ?a4 (News.cons_ ?a5 (News.cons_ ?a6 (News.cons_ ?a7 (News.cons_ ?a8 (News.cons_ ?a9 (News.cons_ ?a10 (News.cons_ ?a11 (?a12))))))))))))
  case' a1 => exact kN _ (by k_mem)
  case' a2 => exact kN _ (by k_mem)
  case' a3 => exact kN _ (by k_mem)
  case' a4 => exact kN _ (by k_mem)
  case' a5 => exact kN _ (by k_mem)
  case' a6 => exact kN _ (by k_mem)
  case' a7 => exact kN _ (by k_mem)
  case' a8 => exact kN _ (by k_mem)
  case' a11 => exact kN _ (by k_mem)
  case' a9 => exact kN _ (by k_mem)
  case' a10 => exact kN _ (by k_mem)
  case' a12 => exact fun p hp => kN p (by k_mem)
  case' d1 => assumption
  case' d2 => assumption
  case' o1 => (refine ltN ?_;(try dsimp only);omega)
  case' o2 => (refine ltN ?_;(try dsimp only);omega)
  case' w => exact (Wrote.nil.push _ _).push _ _
  case' z => simp only [Array.size_push];omega
theorem startr : ∀ (w : World) (wa : WA) (q : WQ) (rest : List (Addr × Obj)) (AD NL : Addr) (nl na : Nat) (tg : Tok) (v1 : Value) (pm ctv : Value) (oc : Obj) (vs : Array Value) (tq : Tok) (cont : Value → List Value) (u1 u2 : Tok) (ok : WOk wa rest) (hi : q.its.size ≤ 1000) (hp : q.pss[q.pss.size - 1]? = some v1) (hp0 : q.pss.size ≤ 1000) (hn : q.nss.size ≤ 1000) (k0 : ∀ p ∈ rest,p.1 ≠ AD) (k1 : ∀ p ∈ rest,p.1 ≠ NL) (k2 : ∀ p ∈ rest,p.1 ≠ 123) (k3 : @LT.lt Nat _ wa.PS AD) (k4 : @LT.lt Nat _ AD NL) (k5 : @LT.lt Nat _ 123 wa.wire) (wi : WItN wa q rest NL nl pm ctv oc vs tq cont u1 u2),Spec w 126 16 160 (wr w.params wa q ((NL,listOf #[] nl) :: (AD,dictOf [] na) :: (123,tabObj #[]) :: rest)) [.ref wa.W, .str "r" tg, .ref AD, .ref NL] (fun v news' => v = .none ∧ ∃ (its' : Array Value) (n' : Nat) (X c : Addr) (oc' : Obj) (vs' : Array Value) (tq' : Tok),news' = wr w.params wa ⟨its',q.das,q.dss,q.nss.push (.ref X),q.pss.push v1,n',q.nd,q.nds,q.nns + 1,q.nps + 1,true,q.done,q.ti⟩ ((X,listOf #[] 0) :: (c,oc') :: (NL,listOf #[] nl) :: (123,tabObj #[rawInt 135,rawInt 71, .ref c]) :: rest) ∧ oc'.data = .fields vs' ∧ vs'[1]? = some (.str lamQual tq') ∧ (@LT.lt Nat _ wa.PS X ∧ @LT.lt Nat _ wa.PS c) ∧ Wrote q.its its' [Str.ofString "<r",Str.ofString ">"] ∧ its'.size ≤ q.its.size + 2) := by
  intros w wa q rest AD NL nl na tg v1 pm ctv oc vs tq cont u1 u2 ok hi hp hp0 hn k0 k1 k2 k3 k4 k5 wi
  refine Spec.close fun mean mg mb dp un gd cn cs a ccd cl outer A₀ base h₀ L m s R => ?_
  exact tau (by unfold cR;rfl) startr_c { ltL0 with w := w,wa := wa,q := q,rest := nth [] [rest],cont := cont,mean,mg,mb,dp,un,gd,cn,cs,a,ccd,cl,outer,A₀,base,h₀,L,m,s,R,b := nth 0 [0,AD,NL],n := nth 0 [0,nl,na],t := nth 0 [0,tg,tq,u1,u2],v := nth .none [.none,v1,pm,ctv],o := nth default [default,oc],vs := nth #[] [#[],vs] } ok hi hp hp0 hn k0 k1 k2 k3 k4 k5 wi
end
section
local macro_rules (kind := PySem.W.tacticK_extra_) | x => topOf "starta startr itemsort qname flush lst mown dicts keyt keyc lcomp dcomp setrows setdisp skey listlt setcol setwk setit setfx sets loop lam_call lam nest del wru wr1 wr2 esc pure1 cut fast lt wr0 bound oo mac0 om" x
theorem rows_starta_1 : True := by
  (k_with "starta:eval ListComp" => (k_here;(with_reducible show wpAny _ _ (eval (Expr.ListComp _ _ _ _) _) _ _ _);(with_reducible rename Mine.CutOn => hC9'2q);clear hC9'2q;refine Mine.Cut.go ?_))
  trivial
theorem escA_len {x : Str} (hx : x.length ≤ 50) : (escA x).length ≤ 1000000 := by
  have l0 : (repl 38 "&amp;" x).length ≤ 250 := repl_len (by decide) (by show _ * 5 ≤ _;omega)
  have l1 : (repl 60 "&lt;" (repl 38 "&amp;" x)).length ≤ 1000 := repl_len (by decide) (by show _ * 4 ≤ _;omega)
  have l2 : (repl 34 "&quot;" (repl 60 "&lt;" (repl 38 "&amp;" x))).length ≤ 6000 := repl_len (by decide) (by show _ * 6 ≤ _;omega)
  have l3 : (repl 9 "&#x9;" (repl 34 "&quot;" (repl 60 "&lt;" (repl 38 "&amp;" x)))).length ≤ 30000 := repl_len (by decide) (by show _ * 5 ≤ _;omega)
  have l4 : (repl 10 "&#xA;" (repl 9 "&#x9;" (repl 34 "&quot;" (repl 60 "&lt;" (repl 38 "&amp;" x))))).length ≤ 150000 := repl_len (by decide) (by show _ * 5 ≤ _;omega)
  exact repl_len (by decide) (by show _ * 5 ≤ _;omega)
theorem attr_size {x a : Str} (hx : x.length ≤ 10) (h : a.length ≤ 1000000) : (Str.empty ++ Str.ofString " " ++ x ++ Str.ofString "=\"" ++ a ++ Str.ofString "\"").length ≤ sizeLine := by
  rw [PySem.Str.length_append,PySem.Str.length_append,PySem.Str.length_append,PySem.Str.length_append,PySem.Str.length_append,sizeLine_eq]
  have e0 : Str.empty.length = 0 := rfl
  have e1 : (Str.ofString " ").length = 1 := by decide +kernel
  have e2 : (Str.ofString "=\"").length = 2 := by decide +kernel
  have e3 : (Str.ofString "\"").length = 1 := by decide +kernel
  omega
theorem attr_size2 {x a : Str} (hx : x.length ≤ 10) (h : a.length ≤ 1000000) : (Str.empty ++ Str.ofString " " ++ x ++ Str.ofString "=\"" ++ a ++ Str.ofString "\"").length ≤ 10000000 := by
  rw [PySem.Str.length_append,PySem.Str.length_append,PySem.Str.length_append,PySem.Str.length_append,PySem.Str.length_append]
  have e0 : Str.empty.length = 0 := rfl
  have e1 : (Str.ofString " ").length = 1 := by decide +kernel
  have e2 : (Str.ofString "=\"").length = 2 := by decide +kernel
  have e3 : (Str.ofString "\"").length = 1 := by decide +kernel
  omega
theorem rows_starta_2 : True := by
  (k_with "starta:joinParts" => (k_here;(try (with_reducible refine joinParts_nilE ?_));(with_reducible refine' joinParts_nil ?r9'2r ?hsz9'2r);(case hsz9'2r => (with_reducible refine' Mine.attr_size ?ha9'2r ?hb9'2r;(case hb9'2r => with_reducible assumption);(case ha9'2r => decide +kernel)))))
  trivial
def PairsIn (its : Array Value) (nw : List (Addr × Obj)) : Prop := ∀ (i : Nat) (v : Value),its[i]? = some v → ∃ (t : Addr) (ot : Obj) (v₁ v₂ : Value) (nt : Nat),v = .ref t ∧ (t,ot) ∈ nw ∧ ot.cls = .type "tuple" ∧ ot.data = .seq #[v₁,v₂] nt
theorem Off3.consM {I C D : Addr} {p : Addr × Obj} {r news : List (Addr × Obj)} (hn : ∀ q ∈ news,@LT.lt Nat _ q.1 I) (hp : p ∈ news) (h1 : @LT.lt Nat _ I D) (h2 : @LT.lt Nat _ D C) (h : LCg.Off3 I C D r) : LCg.Off3 I C D (p :: r) := Off3.cons' h h1 h2 (.inl (hn p hp))
theorem Off3.sub {I C D : Addr} {news : List (Addr × Obj)} (hn : ∀ q ∈ news,@LT.lt Nat _ q.1 I) : ∀ {r : List (Addr × Obj)},(∀ p ∈ r,p ∈ news) → @LT.lt Nat _ I D → @LT.lt Nat _ D C → LCg.Off3 I C D r
  | [],_,_,_ => trivial
  | _ :: _,h,h1,h2 => Off3.consM hn (h _ (.head _)) h1 h2 (Off3.sub hn (fun q hq => h q (.tail _ hq)) h1 h2)
theorem joinS {prog : Program} {w : World} {A : Around} {E : Value → Shared → Prop} {s : Shared} {h₀ : Heap} {L D : Addr} {news : List (Addr × Obj)} {x : Str} {t u : Tok} {n : Nat} {Q : Value → Shared → Prop} (N : News h₀ L s.heap news) (hm : (D, listOf #[.str x t] n) ∈ news) (hx : x.length ≤ 10000000)
    (h : ∀ t' k,Q (.str x t') { s with toks := k }) : wpAny (model prog w) A (call (.builtin "str.join") [.str "" u, .ref D]) Q E s :=
  SC.join (l := [(x, t)]) (texts := [x]) ⟨_, (N _ hm).1, rfl, _, rfl⟩ rfl (joinOk_of (by show (x.length + 0) + _ ≤ _; have : ("" : Str).length = 0 := by decide +kernel
                                                                                         simp only [this];simp;omega)) h
theorem rows_starta_3 : True := by
  (k_with "starta:call builtin:str.join" => (k_here;(with_reducible show wpAny _ _ (call (Value.builtin "str.join") [Value.str _ _,Value.ref _]) _ _ _);k_dflt (refine' Mine.joinS ?N'2s ?M'2s ?X'2s ?_;(case N'2s => k_asm);(case M'2s => k_mem);(case X'2s => with_reducible assumption);k_whole);intro t''2s k''2s))
  trivial
def startaP (l : Lt) : Prop :=
  (WOk l.wa (l.rest 0)) →
  (l.q.its.size ≤ 1000) →
  (l.q.pss[l.q.pss.size - 1]? = some (l.v 1)) →
  (l.q.pss.size ≤ 1000) →
  (l.q.nss.size ≤ 1000) →
  (∀ p ∈ (l.rest 0),p.1 ≠ (l.b 1)) →
  (∀ p ∈ (l.rest 0),p.1 ≠ (l.b 2)) →
  (∀ p ∈ (l.rest 0),p.1 ≠ 123) →
  (@LT.lt Nat _ l.wa.PS (l.b 1)) →
  (@LT.lt Nat _ (l.b 1) (l.b 2)) →
  (@LT.lt Nat _ 123 l.wa.wire) →
  (Str.ofString "k" ≠ (l.x 1)) →
  ((l.x 1).cps.toList < (Str.ofString "k").cps.toList) →
  (¬ (Str.ofString "k").cps.toList < (l.x 1).cps.toList) →
  (Txt.splitMax (l.x 1) (Str.ofString "}") 1 = [(l.x 1)]) →
  ((l.x 1).length ≤ 10) →
  ((Txt.slice (l.x 1) none (some 1) == Str.ofString "{") = false) →
  ((l.x 2).length ≤ 50) →
  (((l.b 3),(l.o 1)) ∈ (l.rest 0)) →
  ((l.o 1).data = .fields (l.vs 1)) →
  ((l.vs 1)[1]? = some (.str lamQual (l.t 4))) →
  (WItN l.wa l.q (l.rest 0) (l.b 2) (l.n 1) (l.v 2) (l.v 3) (l.o 2) (l.vs 2) (l.t 5) l.cont (l.t 6) (l.t 7)) →
  SpecL l 126 16 160 (wr l.w.params l.wa l.q (((l.b 2),listOf #[] (l.n 1)) :: ((l.b 1),dictOf [wE l.w.params "k" (l.t 2) (.str (l.x 2) (l.t 3))] (l.n 2)) :: (123,tabObj #[rawInt 135,rawInt 71, .ref (l.b 3)]) :: (l.rest 0))) [.ref l.wa.W, .str (l.x 1) (l.t 1), .ref (l.b 1), .ref (l.b 2)] (fun v news' => v = .none ∧ ∃ (its' : Array Value) (n' : Nat) (X : Addr),news' = wr l.w.params l.wa ⟨its',l.q.das,l.q.dss,l.q.nss.push (.ref X),l.q.pss.push (l.v 1),n',l.q.nd,l.q.nds,l.q.nns + 1,l.q.nps + 1,true,l.q.done,l.q.ti⟩ ((X,listOf #[] 0) :: ((l.b 2),listOf #[] (l.n 1)) :: (123,tabObj #[rawInt 135,rawInt 71, .ref (l.b 3)]) :: (l.rest 0)) ∧ @LT.lt Nat _ l.wa.PS X ∧ Wrote l.q.its its' [Str.ofString "<" ++ (l.x 1),attrMark (l.x 2),Str.ofString ">"] ∧ its'.size ≤ l.q.its.size + 3)
@[irreducible] noncomputable def cA : Lt := Classical.choose (Lt.ex startaP)
theorem starta_c : startaP cA := by
  unfold startaP SpecL SpecQ
  k_fill
  generalize cA.w = w;generalize cA.wa = wa;generalize cA.q = q;generalize cA.rest 0 = rest;generalize cA.b 1 = AD;generalize cA.b 2 = NL;generalize cA.n 1 = nl;generalize cA.n 2 = na
  generalize cA.x 1 = x;generalize cA.x 2 = z;generalize cA.t 1 = tg;generalize cA.t 2 = tk;generalize cA.t 3 = tz;generalize cA.v 1 = v1;generalize cA.b 3 = c;generalize cA.o 1 = oc1
  generalize cA.vs 1 = vs1;generalize cA.t 4 = tq1;generalize cA.v 2 = pm;generalize cA.v 3 = ctv;generalize cA.o 2 = oc;generalize cA.vs 2 = vs;generalize cA.t 5 = tq;generalize cA.cont = cont
  generalize cA.t 6 = u1;generalize cA.t 7 = u2;generalize cA.mean = mean;generalize cA.mg = mg;generalize cA.mb = mb;generalize cA.dp = dp;generalize cA.un = un;generalize cA.gd = gd
  generalize cA.cn = cn;generalize cA.cs = cs;generalize cA.a = a;generalize cA.ccd = ccd;generalize cA.cl = cl;generalize cA.outer = outer;generalize cA.A₀ = A₀;generalize cA.base = base
  generalize cA.h₀ = h₀;generalize cA.L = L;generalize cA.m = m;generalize cA.s = s;generalize cA.R = R
  intros ok hi hp hp0 hn k0 k1 k2 k3 k4 k5 x1 x2 x3 x4 x5 x6 z1 c1 c2 c3 wi B F X N T hk hts hd1 hu hret
  have ok0 := ok
  obtain ⟨l0,l1,l2,l3,l4,l5,o0,o1,o2,o3,o4,o5,o6,mw⟩ := ok
  dsimp only [wr,wrDict,wE] at *
  refine pairsK (l := [123,wa.wire,wa.DW,wa.W,wa.D,wa.DS,wa.NS,wa.PS,AD,NL]) ⟨k5,l0,l1,l2,l3,l4,l5,k3,k4,trivial⟩ ?_
  (repeat with_reducible refine fun _ => ?_)
  k_dflt (refine' code_defC (binds := [("self", .ref wa.W),("tag", .str x tg),("attrs", .ref AD),("new_namespaces", .ref NL),("qname_text", .none)]) ?k1 ?k2 ?k3 ?k4 ?k5 ?kA ?kF ?kK ?k6 ?k7 ?k8 ?k9 ?kB ?kD ?_ ?c2 ?c3 ?c4;(case kA => exact rfl);(case kF => exact rfl);(case kK => assumption);(case k1 => k_asm);(case k2 => k_asm);(case k3 => k_asm);(case k4 => k_asm);(case k5 => k_asm);(case k6 => k_is);(case k7 => k_is);(case k8 => ktr_room);(case k9 => exact binds_K (by k_in) rfl (by k_is) rfl rfl rfl);(case kB => exact rfl);(case kD => decide +kernel);(case c2 => exact rfl);(case c3 => exact rfl);(case c4 => exact rfl);k_whole;intro g' L' h' tk' cells' FG' F' N' Y' B' X' T' l1;(try k_lt l1);k_cells Y';(try simp only [List.cons_append,List.nil_append] at N');(try dsimp only);(try k_lift B');(try k_fold))
  obtain ⟨w1,w2,w3,w4,w5,w6,w7,w8⟩ := wi
  (try dsimp only at w1 w2 w5 w6 w7 w8)
  have l2 : AllLt (L' + 1 + 1) rest := AllLt.up (Nat.le_add_right L' 2) (by with_reducible assumption)
  have hsys : (AD == sysModules) = false := beq_eq_false_iff_ne.mpr (fun e => by have : @Eq Nat AD 1 := e;omega)
  have C123 := codeHd_of_K (c := 125) (P := 123) X' (by kernel_rfl)
  have cutOn : CutOn := trivial
  k_steps
  unfold Cut
  k_dflt (refine' DCg.Assign_DictComp ?F₀ ?hLe ?ht ?hsw ?hclos ?hcell ?hkind ?hnames ?hx ?hy ?hp ?hh ?h ?hs)
  (case F₀ => k_asm)
  (case hLe => exact rfl)
  (case ht => (refine Mine.leT ?_;(try dsimp only);omega))
  (case hsw => with_unfolding_all rfl)
  (case hclos => with_unfolding_all rfl)
  (case hcell => decide)
  (case hkind => rfl)
  (case hnames => decide)
  (case hx => rfl)
  (case hy => rfl)
  (case hp => rfl)
  (case hh => rfl)
  (case hs => intro _;rfl)
  have cutOn : CutOn := trivial
  have lamOn : LamOn := trivial
  k_steps
  unfold Cut
  (rename News _ _ _ _ => N5);(rename Fr _ _ _ _ => F5)
  k_dflt (refine' sorted_twoK F5 N5 ?hm5 ?two5 x2 x3 (Ne.symm x1) rfl ?hu5 ?ht5 ?tn5 ?_)
  (case' hm5 => k_mem)
  (case two5 => assumption)
  (case hu5 => (have hu9 := hu;show un + 3 + 1 + 1 < cLine;omega))
  (case ht5 => (refine Mine.leT ?_;(try dsimp only);omega))
  (case tn5 =>
    intro z9 tz9 hz9 h9 d9 t9 N9 ht9 F9 M9 sub
    have hz9' : Txt.splitMax z9 (Str.ofString "}") 1 = [z9] ∧ z9.length ≤ 1048576 := by
      rcases hz9 with e | e
      · rw [(Prod.mk.inj e).1];exact ⟨x4,by omega⟩
      · rw [(Prod.mk.inj e).1];exact ⟨by kernel_rfl,by decide⟩
    k_dflt (refine' key_turn (Mine.keyCall _ _ _ _ _ _ _ _ _ _ _ _ ?P1 ?P2 ?P3 ?P4 hz9'.1 hz9'.2) ?B9 F9 ?X9 M9 ?T9 ?hk9 ht9 ?hd9 ?hu9)
    (case P1 => exact sub _ (by k_mem))
    (case P2 => exact sub _ (by k_mem))
    (case P3 => assumption)
    (case P4 => assumption)
    (case B9 => k_asm)
    (case X9 => k_asm)
    (case T9 => k_asm)
    (case hk9 => first | assumption | exact rfl)
    (case hd9 => ktr_room)
    (case hu9 => ktr_units))
  intro SD h5 d5 t5 c5 ht5 F6 N6 lt5
  (try k_lt lt5)
  refine ⟨SD,_,_,_,rfl,F6,N6, .head _,(show 2 ≤ 1000 by decide),?_⟩
  refine DCg.DRest.succ (k := 1) ?_
  intro v9 I9 oI9 C9 oC9 D9 oD9 m9 h9 dr9 tk9 E9 hv9 hoC hm9 F7 hoD N7 off7 ne7 ht7
  obtain rfl : Value.str x tg = v9 := by simpa using hv9
  obtain ⟨ne1,ne2,ne3⟩ := ne7
  have ne0 := ne1
  k_lt ne1
  clear off7
  k_steps
  (rename News _ _ _ _ => N8);(rename Fr _ _ _ _ => F8)
  k_dflt (refine' DEnd.pick F8 N8 ?p1 ?p2 ?p3 ?off ?src (DCg.DRest.succ (k := 0) ?fin))
  (case p1 => k_upd)
  (case p2 => k_upd)
  (case p3 => k_upd)
  (case off => repeat' first | (refine Off3.consM ne0 (by k_dflt k_mem) ne2 ne3 ?_) | (refine Off3.cons' ?_ ne2 ne3 (Or.inr (by (refine ltN ?_);(try dsimp only);omega))) | (refine ⟨⟨by (try dsimp only);omega,by (try dsimp only);omega,by (try dsimp only);omega⟩,?_⟩) | (refine Off3.sub ne0 ?_ ne2 ne3;intro p hp;(repeat (refine List.mem_cons_of_mem _ ?_));exact hp))
  (case src => exact .inr ⟨_,(by k_mem),rfl,_,rfl⟩)
  clear ne0 ne2 ne3 hoC hm9 hoD
  intro v9 I9 oI9 C9 oC9 D9 oD9 m9 h9 dr9 tk9 E9 hv9 hoC hm9 F7 hoD N7 off7 ne7 ht7
  obtain rfl : Value.str (Str.ofString "k") _ = v9 := by simpa using hv9
  obtain ⟨ne1,ne2,ne3⟩ := ne7
  have ne0 := ne1
  k_lt ne1
  have o8 : @Ne Nat _ I9 ∧ @Ne Nat _ C9 ∧ @Ne Nat _ D9 := LCg.Off3.mem off7 (_,({ cls := .type "tuple",data := .seq #[.str x _, .str x _, .str "" _] 0 } : Obj)) (by k_dflt k_mem)
  clear off7
  dsimp only at o8
  k_steps
  (rename News _ _ _ _ => N8);(rename Fr _ _ _ _ => F8)
  k_dflt (refine' DEnd.pick F8 N8 ?p1b ?p2b ?p3b ?offb ?srcb (DCg.DRest.zero ?finb))
  (case p1b => k_upd)
  (case p2b => k_upd)
  (case p3b => k_upd)
  (case offb => repeat' first | (refine Off3.consM ne0 (by k_dflt k_mem) ne2 ne3 ?_) | (refine Off3.cons' ?_ ne2 ne3 (Or.inr (by (refine ltN ?_);(try dsimp only);omega))) | (refine ⟨⟨by (try dsimp only);omega,by (try dsimp only);omega,by (try dsimp only);omega⟩,?_⟩) | (refine Off3.sub ne0 ?_ ne2 ne3;intro p hp;(repeat (refine List.mem_cons_of_mem _ ?_));exact hp))
  (case srcb => exact .inr ⟨_,(by k_mem),rfl,_,rfl⟩)
  clear ne0 ne2 ne3 hoC hm9 hoD
  clear o8
  intro DD oDD h10 dr10 t10 F10 hdd N10 off10 ht10
  k_lt off10
  rw [stored2 x1] at hdd
  have cutOn : CutOn := trivial
  k_steps
  unfold Cut
  k_dflt (refine' LM.ListComp_L (fun v nw m => ∃ (t : Addr) (ot : Obj) (v₁ v₂ : Value) (nt : Nat),v = .ref t ∧ (t,ot) ∈ nw ∧ ot.cls = .type "tuple" ∧ ot.data = .seq #[v₁,v₂] nt ∧ m (Str.ofString "k") = some v₁ ∧ m (Str.ofString "v") = some v₂) (fun ax it9 nw => LCg.SrcAt g' ax it9 nw ∧ PairsIn it9 nw) (fun _ _ _ h => h.1) ?F₀_q ?ht_q ?hclos_q ?hcell_q ?hkind_q ?hnames_q ?hh_q ?hb_q ?h_q ?hs_q)
  (case F₀_q => k_asm)
  (case ht_q => (refine Mine.leT ?_;(try dsimp only);omega))
  (case hclos_q => with_unfolding_all rfl)
  (case hcell_q => decide)
  (case hkind_q => rfl)
  (case hnames_q => decide)
  (case hh_q => rfl)
  (case hb_q => intros I ax it9;exact LM.binds_pair rfl rfl rfl (by decide) rfl (fun i h st => ⟨_,_,st.1⟩) (fun i v nw hi hs => hs.2 i v hi))
  (case hs_q => intro _;rfl)
  walk1
  (rename News _ _ _ _ => N5);(rename Fr _ _ _ _ => F5)
  k_dflt (refine' ⟨_,_,_,_,rfl,F5,N5,?mm,⟨?sA,?sS⟩,?sz,?rest⟩)
  (case' mm => k_dflt k_mem)
  (case sA => exact .inr ⟨_,(by k_dflt k_mem),rfl,_,rfl⟩)
  (case sz => exact Nat.le_of_ble_eq_true rfl)
  (case sS =>
    intro i v hi
    have hi0 : i = 0 := by
      rcases Nat.lt_or_ge i 1 with h | h
      · omega
      · rw [Array.getElem?_eq_none (by simpa using h)] at hi;cases hi
    subst hi0
    have hi := Option.some.inj hi
    exact ⟨_,_,_,_,_,hi.symm,(by k_dflt k_mem),rfl,rfl⟩)
  k_dflt (refine' LM.LRest.succ (k := 0) ?_)
  intro v9 I9 oI9 C9 oC9 D9 oD9 m9 h9 dr9 tk9 hv9 hoC hB F7 N7 off7 ne7 ht7
  have hv9 := Option.some.inj hv9
  subst hv9
  obtain ⟨t0',ot',y1,y2,nt',e0',hm',hc',hd',hx1,hx2⟩ := hB
  have e0' := Value.ref.inj e0'
  subst e0'
  have hm2 := (N7 _ (List.mem_cons_of_mem _ (List.mem_cons_of_mem _ (List.mem_cons_of_mem _ hm')))).1
  dsimp only at hm2
  clear hm'
  have eot := Option.some.inj (hm2.symm.trans (N7 (_,_) (by k_dflt k_mem)).1)
  dsimp only at eot
  subst eot
  cases hd'
  clear hm2 hc'
  obtain ⟨ne1,ne2,ne3⟩ := ne7
  have ne0 := ne1
  k_lt ne1
  clear off7
  have hA0 : (repl 13 "&#xD;" (repl 10 "&#xA;" (repl 9 "&#x9;" (repl 34 "&quot;" (repl 60 "&lt;" (repl 38 "&amp;" z)))))).length ≤ 1000000 := escA_len z1
  k_steps
  (rename News _ _ _ _ => N8);(rename Fr _ _ _ _ => F8)
  k_dflt (refine' LM.LEnd.pick F8 N8 ?q1 ?q2 ?q3 ?offc ?srcc (LM.LRest.zero ?finc))
  (case q1 => k_upd)
  (case q2 => k_upd)
  (case q3 => k_upd)
  (case offc => exact Off3.sub ne0 (fun p hp => hp) ne2 ne3)
  (case srcc =>
    refine ⟨.inr ⟨_,(by k_dflt k_mem),rfl,_,rfl⟩,?_⟩
    intro i v hi
    have hi0 : i = 0 := by
      rcases Nat.lt_or_ge i 1 with h | h
      · omega
      · rw [Array.getElem?_eq_none (by simpa using h)] at hi;cases hi
    subst hi0
    have hi := Option.some.inj hi
    exact ⟨_,_,_,_,_,hi.symm,(by k_dflt k_mem),rfl,rfl⟩)
  clear ne0 ne2 ne3 hoC
  intro D10 h11 dr11 tk11 F11 N11 off11 ht11
  clear off11
  have hax0 : ∃ ax : Str,ax = attrMark z := ⟨_,rfl⟩
  obtain ⟨ax,hax⟩ := hax0
  have hAl : ax.length ≤ 10000000 := by rw [hax];exact attr_size2 (by decide +kernel) hA0
  have N11 : News g' L' h11 ((D10,listOf #[.str (attrMark z) _] 1) :: _) := N11
  rw [← hax] at N11
  walk1
  k_dflt (refine' Mine.joinS N11 (.head _) hAl ?_)
  intro t12 k12
  have N12 : News g' L' h11 _ := fun p hp => N11 p (List.mem_cons_of_mem _ hp)
  clear N11 hA0
  k_steps
  (rename News _ _ _ _ => kN);(rename Fr _ _ _ _ => kF)
  refine' hret _ _ _ ⟨rfl,((q.its.push _).push _).push _,q.n + 1 + 1 + 1,?X,rfl,?o1,?w,?z⟩ ⟨rfl,rfl⟩ kF (News.cons_ ?a1 (News.cons_ ?a2 (News.cons_ ?a3 (News.cons_ ?a4 (News.cons_ ?a5 (News.cons_ ?a6 (News.cons_ ?a7 (News.cons_ ?a8 (News.cons_ ?a9 (News.cons_ ?a10 (?a11)))))))))))
  case' a1 => exact kN _ (by k_mem)
  case' a2 => exact kN _ (by k_mem)
  case' a3 => exact kN _ (by k_mem)
  case' a4 => exact kN _ (by k_mem)
  case' a5 => exact kN _ (by k_mem)
  case' a6 => exact kN _ (by k_mem)
  case' a7 => exact kN _ (by k_mem)
  case' a8 => exact kN _ (by k_mem)
  case' a9 => exact kN _ (by k_mem)
  case' a10 => exact kN _ (by k_mem)
  case' a11 => exact fun p hp => kN p (by k_mem)
  case' o1 => (refine ltN ?_;(try dsimp only);omega)
  case' w => rw [← hax];exact ((Wrote.nil.push _ _).push _ _).push _ _
  case' z => simp only [Array.size_push];omega
theorem starta : ∀ (w : World) (wa : WA) (q : WQ) (rest : List (Addr × Obj)) (AD NL : Addr) (nl na : Nat) (x z : Str) (tg tk tz : Tok) (v1 : Value) (c : Addr) (oc1 : Obj) (vs1 : Array Value) (tq1 : Tok) (pm ctv : Value) (oc : Obj) (vs : Array Value) (tq : Tok) (cont : Value → List Value) (u1 u2 : Tok) (ok : WOk wa rest) (hi : q.its.size ≤ 1000) (hp : q.pss[q.pss.size - 1]? = some v1) (hp0 : q.pss.size ≤ 1000) (hn : q.nss.size ≤ 1000) (k0 : ∀ p ∈ rest,p.1 ≠ AD) (k1 : ∀ p ∈ rest,p.1 ≠ NL) (k2 : ∀ p ∈ rest,p.1 ≠ 123) (k3 : @LT.lt Nat _ wa.PS AD) (k4 : @LT.lt Nat _ AD NL) (k5 : @LT.lt Nat _ 123 wa.wire) (x1 : Str.ofString "k" ≠ x) (x2 : x.cps.toList < (Str.ofString "k").cps.toList) (x3 : ¬ (Str.ofString "k").cps.toList < x.cps.toList) (x4 : Txt.splitMax x (Str.ofString "}") 1 = [x]) (x5 : x.length ≤ 10) (x6 : (Txt.slice x none (some 1) == Str.ofString "{") = false) (z1 : z.length ≤ 50) (c1 : (c,oc1) ∈ rest) (c2 : oc1.data = .fields vs1) (c3 : vs1[1]? = some (.str lamQual tq1)) (wi : WItN wa q rest NL nl pm ctv oc vs tq cont u1 u2),Spec w 126 16 160 (wr w.params wa q ((NL,listOf #[] nl) :: (AD,dictOf [wE w.params "k" tk (.str z tz)] na) :: (123,tabObj #[rawInt 135,rawInt 71, .ref c]) :: rest)) [.ref wa.W, .str x tg, .ref AD, .ref NL] (fun v news' => v = .none ∧ ∃ (its' : Array Value) (n' : Nat) (X : Addr),news' = wr w.params wa ⟨its',q.das,q.dss,q.nss.push (.ref X),q.pss.push v1,n',q.nd,q.nds,q.nns + 1,q.nps + 1,true,q.done,q.ti⟩ ((X,listOf #[] 0) :: (NL,listOf #[] nl) :: (123,tabObj #[rawInt 135,rawInt 71, .ref c]) :: rest) ∧ @LT.lt Nat _ wa.PS X ∧ Wrote q.its its' [Str.ofString "<" ++ x,attrMark z,Str.ofString ">"] ∧ its'.size ≤ q.its.size + 3) := by
  intros w wa q rest AD NL nl na x z tg tk tz v1 c oc1 vs1 tq1 pm ctv oc vs tq cont u1 u2 ok hi hp hp0 hn k0 k1 k2 k3 k4 k5 x1 x2 x3 x4 x5 x6 z1 c1 c2 c3 wi
  refine Spec.close fun mean mg mb dp un gd cn cs a ccd cl outer A₀ base h₀ L m s R => ?_
  exact tau (by unfold cA;rfl) starta_c { ltL0 with w := w,wa := wa,q := q,rest := nth [] [rest],cont := cont,mean,mg,mb,dp,un,gd,cn,cs,a,ccd,cl,outer,A₀,base,h₀,L,m,s,R,b := nth 0 [0,AD,NL,c],n := nth 0 [0,nl,na],x := nth default [default,x,z],t := nth 0 [0,tg,tk,tz,tq1,tq,u1,u2],v := nth .none [.none,v1,pm,ctv],o := nth default [default,oc1,oc],vs := nth #[] [#[],vs1,vs] } ok hi hp hp0 hn k0 k1 k2 k3 k4 k5 x1 x2 x3 x4 x5 x6 z1 c1 c2 c3 wi
end
section
local macro_rules (kind := PySem.W.tacticK_extra_) | x => topOf "start starta startr itemsort qname flush lst mown dicts keyt keyc lcomp dcomp setrows setdisp skey listlt setcol setwk setit setfx sets loop lam_call lam nest del wru wr1 wr2 esc pure1 cut fast lt wr0 bound oo mac0 om" x
noncomputable def contL (L0 T0 : Addr) : Value → List Value := fun v => if v = .ref L0 then [.ref T0] else []
theorem contL_ne {L0 T0 NL : Addr} (h : NL ≠ L0) : contL L0 T0 (.ref NL) = [] := by
  unfold contL;rw [if_neg];intro e;exact h (Value.ref.inj e)
theorem WIt.push {wa wa' : WA} {q q' : WQ} {rest : List (Addr × Obj)} {NL : Addr} {nl : Nat} {pm ctv : Value} {oc : Obj} {vs : Array Value} {tq : Tok} {cont : Value → List Value} {u1 u2 : Tok} {L0 T0 : Addr} (wi : WIt wa q rest pm ctv oc vs tq cont u1 u2) (hc : cont = contL L0 T0) (hL : (L0, listOf #[.ref T0] 0) ∈ rest) (hn : @LT.lt Nat _ L0 NL)
    (e1 : wa'.it = wa.it) (e2 : (wa'.itc,wa'.T0) = (wa.itc,wa.T0)) (e3 : q'.dss = q.dss.push (.ref NL)) (hz : q.dss.size + 1 ≤ 1000) : WItN wa' q' rest NL nl pm ctv oc vs tq cont u1 u2 := by
  obtain ⟨e4,e5⟩ := Prod.mk.inj e2
  obtain ⟨w1,w2,w3,w4,w5,w6,w7,w8⟩ := wi
  have hne : NL ≠ L0 := fun e => by have e : @Eq Nat NL L0 := e;omega
  have hcn : cont (.ref NL) = [] := by rw [hc];exact contL_ne hne
  refine ⟨by rw [e1,e4];exact w1,by rw [e4];exact w2,w3,w4,by rw [e3,Array.size_push];omega,?_,?_,by rw [e5];exact w8⟩
  · rw [e3,e5,Array.toList_push,List.reverse_append]
    show cont (.ref NL) ++ q.dss.toList.reverse.flatMap cont = _
    rw [hcn,w6];rfl
  · intro h h1 h2
    rw [e3,Array.toList_push]
    intro v hv
    rcases List.mem_append.mp hv with hv | hv
    · exact w7 h h2 v hv
    · rw [List.mem_singleton.mp hv]
      exact ⟨NL,#[],rfl,⟨_,h1,rfl,_,rfl⟩,hcn.symm⟩
theorem rows_start_1 : True := by
  (k_with "start:call ref" => (k_here;(with_reducible show wpAny _ _ (call (Value.ref 126) [Value.ref _,Value.str _ _,Value.ref _,Value.ref _]) _ _ _);k_dflt (refine' Mine.Spec.callC (Mine.startr _ ⟨_,_,_,_,_,_,_,_,_,_,_,_,_,_,_,_,_,_,_,_,_,_,_,_,_,_,_,_,_,_,_⟩ ⟨_,_,_,_,_,_,_,_,_,_,_,_,_⟩ _ _ _ _ _ _ _ _ _ _ _ _ _ _ _ ?ok'2t ?hi'2t ?hp'2t ?hp0'2t ?hn'2t ?k0'2t ?k1'2t ?k2'2t ?k3'2t ?k4'2t ?k5'2t ?wi'2t) ?B9'2t ?F9'2t ?X9'2t (Mine.wr_pick ?N9'2t ?P1'2t ?P2'2t ?P3'2t ?P4'2t ?P5'2t ?P6'2t ?Pm'2t ?P7'2t) ?T9'2t ?hk9'2t ?ht9'2t ?hd9'2t ?hu9'2t ?_;(case B9'2t => k_asm);(case F9'2t => k_asm);(case X9'2t => k_asm);(case N9'2t => k_asm);(case P1'2t => k_upd);(case P2'2t => k_upd);(case P3'2t => k_upd);(case P4'2t => k_upd);(case P5'2t => k_upd);(case P6'2t => k_upd);(case Pm'2t => assumption);(case P7'2t => k_upd);(case T9'2t => k_asm);(case hk9'2t => first | assumption | exact rfl);(case ht9'2t => (refine Mine.leT ?_;(try dsimp only);omega));(case hd9'2t => ktr_room);(case hu9'2t => ktr_units);(case ok'2t => with_reducible assumption);(case hi'2t => first | with_reducible assumption | ((try dsimp only);omega));(case hp'2t => with_reducible assumption);(case hp0'2t => with_reducible assumption);(case hn'2t => with_reducible assumption);(case k0'2t => with_reducible assumption);(case k1'2t => (exact ne_of_allLt (lt_of_allLt (by tb_lt))));(case k2'2t => with_reducible assumption);(case k3'2t => with_reducible assumption);(case k4'2t => (refine ltN ?_;(try dsimp only);omega));(case k5'2t => with_reducible assumption);(case wi'2t => exact WIt.push (by with_reducible assumption) (by with_reducible assumption) (by with_reducible assumption) (lt_of_allLt (by tb_lt) (_,_) (by with_reducible assumption)) rfl rfl rfl (by (try dsimp only);omega));k_whole;intro v''2t news9''2t h9''2t dr9''2t tk9''2t hr'2t F''2t N''2t tk''2t;(obtain ⟨hv'2t,its''2t,n''2t,X''2t,c''2t,oc''2t,vs''2t,tq''2t,hn''2t,d1''2t,d2''2t,o1''2t,hw''2t,hz''2t⟩ := hr'2t);(subst hv'2t);(subst hn''2t);(dsimp only at hw''2t hz''2t o1''2t);(try dsimp only [Mine.wr,Mine.wrDict,Mine.wE] at N''2t);(try dsimp only))))
  (k_with "start:call ref" => (k_here;(with_reducible show wpAny _ _ (call (Value.ref 126) [Value.ref _,Value.str _ _,Value.ref _,Value.ref _]) _ _ _);k_dflt (refine' Mine.Spec.callC (Mine.starta _ ⟨_,_,_,_,_,_,_,_,_,_,_,_,_,_,_,_,_,_,_,_,_,_,_,_,_,_,_,_,_,_,_⟩ ⟨_,_,_,_,_,_,_,_,_,_,_,_,_⟩ _ _ _ _ _ _ _ _ _ _ _ _ _ _ _ _ _ _ _ _ _ _ _ ?ok'2u ?hi'2u ?hp'2u ?hp0'2u ?hn'2u ?k0'2u ?k1'2u ?k2'2u ?k3'2u ?k4'2u ?k5'2u ?x1'2u ?x2'2u ?x3'2u ?x4'2u ?x5'2u ?x6'2u ?z1'2u ?c1'2u ?c2'2u ?c3'2u ?wi'2u) ?B9'2u ?F9'2u ?X9'2u (Mine.wr_pick ?N9'2u ?P1'2u ?P2'2u ?P3'2u ?P4'2u ?P5'2u ?P6'2u ?Pm'2u ?P7'2u) ?T9'2u ?hk9'2u ?ht9'2u ?hd9'2u ?hu9'2u ?_;(case B9'2u => k_asm);(case F9'2u => k_asm);(case X9'2u => k_asm);(case N9'2u => k_asm);(case P1'2u => k_upd);(case P2'2u => k_upd);(case P3'2u => k_upd);(case P4'2u => k_upd);(case P5'2u => k_upd);(case P6'2u => k_upd);(case Pm'2u => assumption);(case P7'2u => k_upd);(case T9'2u => k_asm);(case hk9'2u => first | assumption | exact rfl);(case ht9'2u => (refine Mine.leT ?_;(try dsimp only);omega));(case hd9'2u => ktr_room);(case hu9'2u => ktr_units);(case ok'2u => with_reducible assumption);(case hi'2u => first | with_reducible assumption | ((try dsimp only);omega));(case hp'2u => with_reducible assumption);(case hp0'2u => with_reducible assumption);(case hn'2u => with_reducible assumption);(case k0'2u => with_reducible assumption);(case k1'2u => (exact ne_of_allLt (lt_of_allLt (by tb_lt))));(case k2'2u => with_reducible assumption);(case k3'2u => with_reducible assumption);(case k4'2u => (refine ltN ?_;(try dsimp only);omega));(case k5'2u => with_reducible assumption);(case x1'2u => with_reducible assumption);(case x2'2u => with_reducible assumption);(case x3'2u => with_reducible assumption);(case x4'2u => with_reducible assumption);(case x5'2u => with_reducible assumption);(case x6'2u => with_reducible assumption);(case z1'2u => with_reducible assumption);(case c1'2u => with_reducible assumption);(case c2'2u => with_reducible assumption);(case c3'2u => with_reducible assumption);(case wi'2u => exact WIt.push (by with_reducible assumption) (by with_reducible assumption) (by with_reducible assumption) (lt_of_allLt (by tb_lt) (_,_) (by with_reducible assumption)) rfl rfl rfl (by (try dsimp only);omega));k_whole;intro v''2u news9''2u h9''2u dr9''2u tk9''2u hr'2u F''2u N''2u tk''2u;(obtain ⟨hv'2u,its''2u,n''2u,X''2u,hn''2u,o1''2u,hw''2u,hz''2u⟩ := hr'2u);(subst hv'2u);(subst hn''2u);(dsimp only at hw''2u hz''2u o1''2u);(try dsimp only [Mine.wr,Mine.wrDict,Mine.wE] at N''2u);(try dsimp only))))
  trivial
def wstartrP (l : Lt) : Prop :=
  (WOk (waL l) (l.rest 0)) →
  ((wqL l).its.size ≤ 900) →
  ((wqL l).pss[(wqL l).pss.size - 1]? = some (l.v 0)) →
  ((wqL l).pss.size ≤ 1000) →
  ((wqL l).nss.size ≤ 1000) →
  ((wqL l).dss.size ≤ 900) →
  (∀ p ∈ (l.rest 0),p.1 ≠ (l.b 13)) →
  (∀ p ∈ (l.rest 0),p.1 ≠ 123) →
  (@LT.lt Nat _ (waL l).PS (l.b 13)) →
  (@LT.lt Nat _ 123 (waL l).wire) →
  (l.cont = contL (waL l).L0 (waL l).T0) →
  (((waL l).L0,listOf #[.ref (waL l).T0] 0) ∈ (l.rest 0)) →
  ((wqL l).das = #[]) →
  ((wqL l).seen = false) →
  (WIt (waL l) (wqL l) (l.rest 0) (l.v 1) (l.v 2) (l.o 0) (l.vs 5) (l.t 20) l.cont (l.t 21) (l.t 22)) →
  SpecL l 120 18 200 (wr l.w.params (waL l) (wqL l) (((l.b 13),dictOf [] (l.n 5)) :: (123,tabObj #[]) :: (l.rest 0))) [.ref (waL l).W, .str "r" (l.t 19), .ref (l.b 13)] (fun v news' => v = .none ∧ ∃ (its' : Array Value) (n' : Nat) (NL X c : Addr) (oc' : Obj) (vs' : Array Value) (tq' : Tok),news' = wr l.w.params (waL l) ⟨its',(wqL l).das,(wqL l).dss.push (.ref NL),(wqL l).nss.push (.ref X),(wqL l).pss.push (l.v 0),n',(wqL l).nd,(wqL l).nds + 1,(wqL l).nns + 1,(wqL l).nps + 1,true,(wqL l).done,(wqL l).ti⟩ ((X,listOf #[] 0) :: (c,oc') :: (NL,listOf #[] 0) :: (123,tabObj #[rawInt 135,rawInt 71, .ref c]) :: (l.rest 0)) ∧ oc'.data = .fields vs' ∧ vs'[1]? = some (.str lamQual tq') ∧ (@LT.lt Nat _ (waL l).PS X ∧ @LT.lt Nat _ (waL l).PS c ∧ @LT.lt Nat _ (waL l).PS NL) ∧ Wrote (wqL l).its its' [Str.ofString "<r",Str.ofString ">"] ∧ its'.size ≤ (wqL l).its.size + 2)
@[irreducible] noncomputable def cSr : Lt := Classical.choose (Lt.ex wstartrP)
theorem wstartr_c : wstartrP cSr := by
  unfold wstartrP SpecL SpecQ
  k_fill
  dsimp only [waL,wqL]
  generalize cSr.b 0 = W;generalize cSr.b 1 = DW;generalize cSr.b 2 = wrt;generalize cSr.b 3 = wire;generalize cSr.b 4 = D;generalize cSr.b 5 = L0;generalize cSr.b 6 = T0;generalize cSr.b 7 = DS
  generalize cSr.b 8 = NS;generalize cSr.b 9 = PM;generalize cSr.b 10 = PS;generalize cSr.b 11 = it;generalize cSr.b 12 = itc;generalize cSr.t 0 = t0;generalize cSr.t 1 = t1;generalize cSr.t 2 = t2
  generalize cSr.t 3 = t3;generalize cSr.t 4 = t4;generalize cSr.t 5 = t5;generalize cSr.t 6 = t6;generalize cSr.t 7 = t7;generalize cSr.t 8 = t8;generalize cSr.t 9 = t9;generalize cSr.t 10 = t10
  generalize cSr.t 11 = t11;generalize cSr.t 12 = t12;generalize cSr.t 13 = t13;generalize cSr.t 14 = t14;generalize cSr.t 15 = t15;generalize cSr.t 16 = t16;generalize cSr.t 17 = t17;generalize cSr.vs 0 = its
  generalize cSr.vs 1 = das;generalize cSr.vs 2 = dss;generalize cSr.vs 3 = nss;generalize cSr.vs 4 = pss;generalize cSr.n 0 = n;generalize cSr.n 1 = nd;generalize cSr.n 2 = nds;generalize cSr.n 3 = nns
  generalize cSr.n 4 = nps;generalize cSr.f 0 = seen;generalize cSr.f 1 = done;generalize cSr.t 18 = ti;generalize cSr.w = w;generalize cSr.rest 0 = rest;generalize cSr.b 13 = AD;generalize cSr.n 5 = na
  generalize cSr.t 19 = tg;generalize cSr.v 0 = v1;generalize cSr.v 1 = pm;generalize cSr.v 2 = ctv;generalize cSr.o 0 = oc;generalize cSr.vs 5 = vs;generalize cSr.t 20 = tq;generalize cSr.cont = cont
  generalize cSr.t 21 = u1;generalize cSr.t 22 = u2;generalize cSr.mean = mean;generalize cSr.mg = mg;generalize cSr.mb = mb;generalize cSr.dp = dp;generalize cSr.un = un;generalize cSr.gd = gd
  generalize cSr.cn = cn;generalize cSr.cs = cs;generalize cSr.a = a;generalize cSr.ccd = ccd;generalize cSr.cl = cl;generalize cSr.outer = outer;generalize cSr.A₀ = A₀;generalize cSr.base = base
  generalize cSr.h₀ = h₀;generalize cSr.L = L;generalize cSr.m = m;generalize cSr.s = s;generalize cSr.R = R
  intros ok hi hp hp0 hn hd k0 k2 k3 k5 hct hL h0 hse wi B F X N T hk hts hd1 hu hret
  have ok0 := ok
  obtain ⟨l0,l1,l2,l3,l4,l5,o0,o1,o2,o3,o4,o5,o6,mw⟩ := ok
  dsimp only [wr,wrDict,wE] at *
  refine pairsK (l := [wire,DW,W,D,DS,NS,PS]) ⟨l0,l1,l2,l3,l4,l5,trivial⟩ ?_
  (repeat with_reducible refine fun _ => ?_)
  k_dflt (refine' code_def (binds := [("self", .ref W),("tag", .str "r" tg),("attrs", .ref AD)]) ?k1 ?k2 ?k3 ?k4 ?k5 ?kA ?kF ?kK ?k6 ?k7 ?k8 ?k9 ?kB ?_ ?c2 ?c3 ?c4 ?c5;(case kA => exact rfl);(case kF => exact rfl);(case kK => assumption);(case k1 => k_asm);(case k2 => k_asm);(case k3 => k_asm);(case k4 => k_asm);(case k5 => k_asm);(case k6 => k_is);(case k7 => k_is);(case k8 => ktr_room);(case k9 => exact BindsTo.of_eq rfl);(case c5 => decide);(case kB => exact locs rfl);(case c2 => exact rfl);(case c3 => exact rfl);(case c4 => exact rfl);k_whole;intro g' L' h' FG' F' N' B' X' T';(try dsimp only);(try k_lift B');(try k_fold))
  subst hse h0
  have hi' : its.size ≤ 1000 := by omega
  k_steps
  (rename News _ _ _ _ => kN);(rename Fr _ _ _ _ => kF)
  refine' hret _ _ _ ⟨rfl,_,_,?NL,?X,?c,?oc,?vs,?tq,rfl,?d1,?d2,⟨?o1,?o2,?o3⟩,?w,?z⟩ ⟨rfl,rfl⟩ kF (News.cons_ ?a1 (News.cons_ ?a2 (News.cons_ ?a3 (News.cons_ ?a4 (News.cons_ ?a5 (News.cons_ ?a6 (News.cons_ ?a7 (News.cons_ ?a8 (News.cons_ ?a9 (News.cons_ ?a10 (News.cons_ ?a11 (?a12))))))))))))
  case' a1 => exact kN _ (by k_mem)
  case' a2 => exact kN _ (by k_mem)
  case' a3 => exact kN _ (by k_mem)
  case' a4 => exact kN _ (by k_mem)
  case' a5 => exact kN _ (by k_mem)
  case' a6 => exact kN _ (by k_mem)
  case' a7 => exact kN _ (by k_mem)
  case' a8 => exact kN _ (by k_mem)
  case' a11 => exact kN _ (by k_mem)
  case' a9 => exact kN _ (by k_mem)
  case' a10 => exact kN _ (by k_mem)
  case' a12 => exact fun p hp => kN p (by k_mem)
  case' d1 => assumption
  case' d2 => assumption
  case' o1 => (refine ltN ?_;(try dsimp only);omega)
  case' o2 => (refine ltN ?_;(try dsimp only);omega)
  case' o3 => (refine ltN ?_;(try dsimp only);omega)
  case' w => assumption
  case' z => assumption
theorem wstartr : ∀ (w : World) (wa : WA) (q : WQ) (rest : List (Addr × Obj)) (AD : Addr) (na : Nat) (tg : Tok) (v1 : Value) (pm ctv : Value) (oc : Obj) (vs : Array Value) (tq : Tok) (cont : Value → List Value) (u1 u2 : Tok) (ok : WOk wa rest) (hi : q.its.size ≤ 900) (hp : q.pss[q.pss.size - 1]? = some v1) (hp0 : q.pss.size ≤ 1000) (hn : q.nss.size ≤ 1000) (hd : q.dss.size ≤ 900) (k0 : ∀ p ∈ rest,p.1 ≠ AD) (k2 : ∀ p ∈ rest,p.1 ≠ 123) (k3 : @LT.lt Nat _ wa.PS AD) (k5 : @LT.lt Nat _ 123 wa.wire) (hct : cont = contL wa.L0 wa.T0) (hL : (wa.L0,listOf #[.ref wa.T0] 0) ∈ rest) (h0 : q.das = #[]) (hse : q.seen = false) (wi : WIt wa q rest pm ctv oc vs tq cont u1 u2),Spec w 120 18 200 (wr w.params wa q ((AD,dictOf [] na) :: (123,tabObj #[]) :: rest)) [.ref wa.W, .str "r" tg, .ref AD] (fun v news' => v = .none ∧ ∃ (its' : Array Value) (n' : Nat) (NL X c : Addr) (oc' : Obj) (vs' : Array Value) (tq' : Tok),news' = wr w.params wa ⟨its',q.das,q.dss.push (.ref NL),q.nss.push (.ref X),q.pss.push v1,n',q.nd,q.nds + 1,q.nns + 1,q.nps + 1,true,q.done,q.ti⟩ ((X,listOf #[] 0) :: (c,oc') :: (NL,listOf #[] 0) :: (123,tabObj #[rawInt 135,rawInt 71, .ref c]) :: rest) ∧ oc'.data = .fields vs' ∧ vs'[1]? = some (.str lamQual tq') ∧ (@LT.lt Nat _ wa.PS X ∧ @LT.lt Nat _ wa.PS c ∧ @LT.lt Nat _ wa.PS NL) ∧ Wrote q.its its' [Str.ofString "<r",Str.ofString ">"] ∧ its'.size ≤ q.its.size + 2) := by
  intros w wa q rest AD na tg v1 pm ctv oc vs tq cont u1 u2 ok hi hp hp0 hn hd k0 k2 k3 k5 hct hL h0 hse wi
  refine Spec.close fun mean mg mb dp un gd cn cs a ccd cl outer A₀ base h₀ L m s R => ?_
  exact tau (by unfold cSr;rfl) wstartr_c { ltL0 with w := w,cont := cont,b := nth 0 [wa.W,wa.DW,wa.wrt,wa.wire,wa.D,wa.L0,wa.T0,wa.DS,wa.NS,wa.PM,wa.PS,wa.it,wa.itc,AD],n := nth 0 [q.n,q.nd,q.nds,q.nns,q.nps,na],t := nth 0 [wa.t0,wa.t1,wa.t2,wa.t3,wa.t4,wa.t5,wa.t6,wa.t7,wa.t8,wa.t9,wa.t10,wa.t11,wa.t12,wa.t13,wa.t14,wa.t15,wa.t16,wa.t17,q.ti,tg,tq,u1,u2],v := nth .none [v1,pm,ctv],vs := nth #[] [q.its,q.das,q.dss,q.nss,q.pss,vs],o := nth default [oc],f := nth true [q.seen,q.done],rest := nth [] [rest],mean,mg,mb,dp,un,gd,cn,cs,a,ccd,cl,outer,A₀,base,h₀,L,m,s,R } ok hi hp hp0 hn hd k0 k2 k3 k5 hct hL h0 hse wi
def wstartaP (l : Lt) : Prop :=
  (WOk (waL l) (l.rest 0)) →
  ((wqL l).its.size ≤ 900) →
  ((wqL l).pss[(wqL l).pss.size - 1]? = some (l.v 0)) →
  ((wqL l).pss.size ≤ 1000) →
  ((wqL l).nss.size ≤ 1000) →
  ((wqL l).dss.size ≤ 900) →
  (∀ p ∈ (l.rest 0),p.1 ≠ (l.b 13)) →
  (∀ p ∈ (l.rest 0),p.1 ≠ 123) →
  (@LT.lt Nat _ (waL l).PS (l.b 13)) →
  (@LT.lt Nat _ 123 (waL l).wire) →
  (l.cont = contL (waL l).L0 (waL l).T0) →
  (((waL l).L0,listOf #[.ref (waL l).T0] 0) ∈ (l.rest 0)) →
  (Str.ofString "k" ≠ (l.x 0)) →
  ((l.x 0).cps.toList < (Str.ofString "k").cps.toList) →
  (¬ (Str.ofString "k").cps.toList < (l.x 0).cps.toList) →
  (Txt.splitMax (l.x 0) (Str.ofString "}") 1 = [(l.x 0)]) →
  ((l.x 0).length ≤ 10) →
  ((Txt.slice (l.x 0) none (some 1) == Str.ofString "{") = false) →
  ((l.x 1).length ≤ 50) →
  (((l.b 14),(l.o 0)) ∈ (l.rest 0)) →
  ((l.o 0).data = .fields (l.vs 5)) →
  ((l.vs 5)[1]? = some (.str lamQual (l.t 22))) →
  ((wqL l).das.size ≤ 1000) →
  (StrsAre (wqL l).das.toList (l.ys 0)) →
  (Txt.join "" (l.ys 0) = (l.x 2)) →
  ((l.x 2).length ≤ 50) →
  (((l.ys 0).map (·.length)).sum ≤ 100000) →
  ((wqL l).seen = true) →
  (WIt (waL l) (wqL l) (l.rest 0) (l.v 1) (l.v 2) (l.o 1) (l.vs 6) (l.t 23) l.cont (l.t 24) (l.t 25)) →
  SpecL l 120 18 200 (wr l.w.params (waL l) (wqL l) (((l.b 13),dictOf [wE l.w.params "k" (l.t 20) (.str (l.x 1) (l.t 21))] (l.n 5)) :: (123,tabObj #[rawInt 135,rawInt 71, .ref (l.b 14)]) :: (l.rest 0))) [.ref (waL l).W, .str (l.x 0) (l.t 19), .ref (l.b 13)] (fun v news' => v = .none ∧ ∃ (its' : Array Value) (n' nd' : Nat) (NL X : Addr),news' = wr l.w.params (waL l) ⟨its',#[],(wqL l).dss.push (.ref NL),(wqL l).nss.push (.ref X),(wqL l).pss.push (l.v 0),n',nd',(wqL l).nds + 1,(wqL l).nns + 1,(wqL l).nps + 1,true,(wqL l).done,(wqL l).ti⟩ ((X,listOf #[] 0) :: (NL,listOf #[] 0) :: (123,tabObj #[rawInt 135,rawInt 71, .ref (l.b 14)]) :: (l.rest 0)) ∧ (@LT.lt Nat _ (waL l).PS X ∧ @LT.lt Nat _ (waL l).PS NL) ∧ Wrote (wqL l).its its' ((if (l.x 2).length = 0 then [] else [escC (l.x 2)]) ++ [Str.ofString "<" ++ (l.x 0),attrMark (l.x 1),Str.ofString ">"]) ∧ its'.size ≤ (wqL l).its.size + 4)
@[irreducible] noncomputable def cSa : Lt := Classical.choose (Lt.ex wstartaP)
theorem wstarta_c : wstartaP cSa := by
  unfold wstartaP SpecL SpecQ
  k_fill
  dsimp only [waL,wqL]
  generalize cSa.b 0 = W;generalize cSa.b 1 = DW;generalize cSa.b 2 = wrt;generalize cSa.b 3 = wire;generalize cSa.b 4 = D;generalize cSa.b 5 = L0;generalize cSa.b 6 = T0;generalize cSa.b 7 = DS
  generalize cSa.b 8 = NS;generalize cSa.b 9 = PM;generalize cSa.b 10 = PS;generalize cSa.b 11 = it;generalize cSa.b 12 = itc;generalize cSa.t 0 = t0;generalize cSa.t 1 = t1;generalize cSa.t 2 = t2
  generalize cSa.t 3 = t3;generalize cSa.t 4 = t4;generalize cSa.t 5 = t5;generalize cSa.t 6 = t6;generalize cSa.t 7 = t7;generalize cSa.t 8 = t8;generalize cSa.t 9 = t9;generalize cSa.t 10 = t10
  generalize cSa.t 11 = t11;generalize cSa.t 12 = t12;generalize cSa.t 13 = t13;generalize cSa.t 14 = t14;generalize cSa.t 15 = t15;generalize cSa.t 16 = t16;generalize cSa.t 17 = t17;generalize cSa.vs 0 = its
  generalize cSa.vs 1 = das;generalize cSa.vs 2 = dss;generalize cSa.vs 3 = nss;generalize cSa.vs 4 = pss;generalize cSa.n 0 = n;generalize cSa.n 1 = nd;generalize cSa.n 2 = nds;generalize cSa.n 3 = nns
  generalize cSa.n 4 = nps;generalize cSa.f 0 = seen;generalize cSa.f 1 = done;generalize cSa.t 18 = ti;generalize cSa.w = w;generalize cSa.rest 0 = rest;generalize cSa.b 13 = AD;generalize cSa.n 5 = na
  generalize cSa.x 0 = x;generalize cSa.x 1 = z;generalize cSa.t 19 = tg;generalize cSa.t 20 = tk;generalize cSa.t 21 = tz;generalize cSa.v 0 = v1;generalize cSa.b 14 = c;generalize cSa.o 0 = oc1
  generalize cSa.vs 5 = vs1;generalize cSa.t 22 = tq1;generalize cSa.ys 0 = ys;generalize cSa.x 2 = xx;generalize cSa.v 1 = pm;generalize cSa.v 2 = ctv;generalize cSa.o 1 = oc;generalize cSa.vs 6 = vs
  generalize cSa.t 23 = tq;generalize cSa.cont = cont;generalize cSa.t 24 = u1;generalize cSa.t 25 = u2;generalize cSa.mean = mean;generalize cSa.mg = mg;generalize cSa.mb = mb;generalize cSa.dp = dp
  generalize cSa.un = un;generalize cSa.gd = gd;generalize cSa.cn = cn;generalize cSa.cs = cs;generalize cSa.a = a;generalize cSa.ccd = ccd;generalize cSa.cl = cl;generalize cSa.outer = outer
  generalize cSa.A₀ = A₀;generalize cSa.base = base;generalize cSa.h₀ = h₀;generalize cSa.L = L;generalize cSa.m = m;generalize cSa.s = s;generalize cSa.R = R
  intros ok hi hp hp0 hn hd k0 k2 k3 k5 hct hL x1 x2 x3 x4 x5 x6 z1 c1 c2 c3 hs hy hj hx ho hse wi B F X N T hk hts hd1 hu hret
  have ok0 := ok
  obtain ⟨l0,l1,l2,l3,l4,l5,o0,o1,o2,o3,o4,o5,o6,mw⟩ := ok
  dsimp only [wr,wrDict,wE] at *
  refine pairsK (l := [wire,DW,W,D,DS,NS,PS]) ⟨l0,l1,l2,l3,l4,l5,trivial⟩ ?_
  (repeat with_reducible refine fun _ => ?_)
  k_dflt (refine' code_def (binds := [("self", .ref W),("tag", .str x tg),("attrs", .ref AD)]) ?k1 ?k2 ?k3 ?k4 ?k5 ?kA ?kF ?kK ?k6 ?k7 ?k8 ?k9 ?kB ?_ ?c2 ?c3 ?c4 ?c5;(case kA => exact rfl);(case kF => exact rfl);(case kK => assumption);(case k1 => k_asm);(case k2 => k_asm);(case k3 => k_asm);(case k4 => k_asm);(case k5 => k_asm);(case k6 => k_is);(case k7 => k_is);(case k8 => ktr_room);(case k9 => exact BindsTo.of_eq rfl);(case c5 => decide);(case kB => exact locs rfl);(case c2 => exact rfl);(case c3 => exact rfl);(case c4 => exact rfl);k_whole;intro g' L' h' FG' F' N' B' X' T';(try dsimp only);(try k_lift B');(try k_fold))
  subst hse
  have hi' : its.size ≤ 1000 := by omega
  rcases Nat.eq_zero_or_pos das.size with hq0 | hq0
  · have hx0 := held_none hq0 hy hj
    have hd0' : das = #[] := Array.eq_empty_of_size_eq_zero hq0
    subst hd0'
    k_steps
    (rename News _ _ _ _ => kN);(rename Fr _ _ _ _ => kF)
    refine' hret _ _ _ ⟨rfl,_,_,_,?NL,?X,rfl,⟨?o1,?o2⟩,?w,?z⟩ ⟨rfl,rfl⟩ kF (News.cons_ ?a1 (News.cons_ ?a2 (News.cons_ ?a3 (News.cons_ ?a4 (News.cons_ ?a5 (News.cons_ ?a6 (News.cons_ ?a7 (News.cons_ ?a8 (News.cons_ ?a9 (News.cons_ ?a10 (?a11)))))))))))
    case' a1 => exact kN _ (by k_mem)
    case' a2 => exact kN _ (by k_mem)
    case' a3 => exact kN _ (by k_mem)
    case' a4 => exact kN _ (by k_mem)
    case' a5 => exact kN _ (by k_mem)
    case' a6 => exact kN _ (by k_mem)
    case' a7 => exact kN _ (by k_mem)
    case' a8 => exact kN _ (by k_mem)
    case' a9 => exact kN _ (by k_mem)
    case' a10 => exact kN _ (by k_mem)
    case' a11 => exact fun p hp => kN p (by k_mem)
    case' o1 => (refine ltN ?_;(try dsimp only);omega)
    case' o2 => (refine ltN ?_;(try dsimp only);omega)
    case' w => (rw [if_pos hx0];assumption)
    case' z => omega
  · k_steps
    (rename News _ _ _ _ => kN);(rename Fr _ _ _ _ => kF)
    refine' hret _ _ _ ⟨rfl,_,_,_,?NLb,?Xb,rfl,⟨?o1b,?o2b⟩,?wb,?zb⟩ ⟨rfl,rfl⟩ kF (News.cons_ ?b1 (News.cons_ ?b2 (News.cons_ ?b3 (News.cons_ ?b4 (News.cons_ ?b5 (News.cons_ ?b6 (News.cons_ ?b7 (News.cons_ ?b8 (News.cons_ ?b9 (News.cons_ ?b10 (?b11)))))))))))
    case' b1 => exact kN _ (by k_mem)
    case' b2 => exact kN _ (by k_mem)
    case' b3 => exact kN _ (by k_mem)
    case' b4 => exact kN _ (by k_mem)
    case' b5 => exact kN _ (by k_mem)
    case' b6 => exact kN _ (by k_mem)
    case' b7 => exact kN _ (by k_mem)
    case' b8 => exact kN _ (by k_mem)
    case' b9 => exact kN _ (by k_mem)
    case' b10 => exact kN _ (by k_mem)
    case' b11 => exact fun p hp => kN p (by k_mem)
    case' o1b => (refine ltN ?_;(try dsimp only);omega)
    case' o2b => (refine ltN ?_;(try dsimp only);omega)
    case' wb => exact Wrote.trans (by assumption) (by assumption)
    case' zb => omega
theorem wstarta : ∀ (w : World) (wa : WA) (q : WQ) (rest : List (Addr × Obj)) (AD : Addr) (na : Nat) (x z : Str) (tg tk tz : Tok) (v1 : Value) (c : Addr) (oc1 : Obj) (vs1 : Array Value) (tq1 : Tok) (ys : List Str) (xx : Str) (pm ctv : Value) (oc : Obj) (vs : Array Value) (tq : Tok) (cont : Value → List Value) (u1 u2 : Tok) (ok : WOk wa rest) (hi : q.its.size ≤ 900) (hp : q.pss[q.pss.size - 1]? = some v1) (hp0 : q.pss.size ≤ 1000) (hn : q.nss.size ≤ 1000) (hd : q.dss.size ≤ 900) (k0 : ∀ p ∈ rest,p.1 ≠ AD) (k2 : ∀ p ∈ rest,p.1 ≠ 123) (k3 : @LT.lt Nat _ wa.PS AD) (k5 : @LT.lt Nat _ 123 wa.wire) (hct : cont = contL wa.L0 wa.T0) (hL : (wa.L0,listOf #[.ref wa.T0] 0) ∈ rest) (x1 : Str.ofString "k" ≠ x) (x2 : x.cps.toList < (Str.ofString "k").cps.toList) (x3 : ¬ (Str.ofString "k").cps.toList < x.cps.toList) (x4 : Txt.splitMax x (Str.ofString "}") 1 = [x]) (x5 : x.length ≤ 10) (x6 : (Txt.slice x none (some 1) == Str.ofString "{") = false) (z1 : z.length ≤ 50) (c1 : (c,oc1) ∈ rest) (c2 : oc1.data = .fields vs1) (c3 : vs1[1]? = some (.str lamQual tq1)) (hs : q.das.size ≤ 1000) (hy : StrsAre q.das.toList ys) (hj : Txt.join "" ys = xx) (hx : xx.length ≤ 50) (ho : (ys.map (·.length)).sum ≤ 100000) (hse : q.seen = true) (wi : WIt wa q rest pm ctv oc vs tq cont u1 u2),Spec w 120 18 200 (wr w.params wa q ((AD,dictOf [wE w.params "k" tk (.str z tz)] na) :: (123,tabObj #[rawInt 135,rawInt 71, .ref c]) :: rest)) [.ref wa.W, .str x tg, .ref AD] (fun v news' => v = .none ∧ ∃ (its' : Array Value) (n' nd' : Nat) (NL X : Addr),news' = wr w.params wa ⟨its',#[],q.dss.push (.ref NL),q.nss.push (.ref X),q.pss.push v1,n',nd',q.nds + 1,q.nns + 1,q.nps + 1,true,q.done,q.ti⟩ ((X,listOf #[] 0) :: (NL,listOf #[] 0) :: (123,tabObj #[rawInt 135,rawInt 71, .ref c]) :: rest) ∧ (@LT.lt Nat _ wa.PS X ∧ @LT.lt Nat _ wa.PS NL) ∧ Wrote q.its its' ((if xx.length = 0 then [] else [escC xx]) ++ [Str.ofString "<" ++ x,attrMark z,Str.ofString ">"]) ∧ its'.size ≤ q.its.size + 4) := by
  intros w wa q rest AD na x z tg tk tz v1 c oc1 vs1 tq1 ys xx pm ctv oc vs tq cont u1 u2 ok hi hp hp0 hn hd k0 k2 k3 k5 hct hL x1 x2 x3 x4 x5 x6 z1 c1 c2 c3 hs hy hj hx ho hse wi
  refine Spec.close fun mean mg mb dp un gd cn cs a ccd cl outer A₀ base h₀ L m s R => ?_
  exact tau (by unfold cSa;rfl) wstarta_c { ltL0 with w := w,cont := cont,b := nth 0 [wa.W,wa.DW,wa.wrt,wa.wire,wa.D,wa.L0,wa.T0,wa.DS,wa.NS,wa.PM,wa.PS,wa.it,wa.itc,AD,c],n := nth 0 [q.n,q.nd,q.nds,q.nns,q.nps,na],x := nth default [x,z,xx],t := nth 0 [wa.t0,wa.t1,wa.t2,wa.t3,wa.t4,wa.t5,wa.t6,wa.t7,wa.t8,wa.t9,wa.t10,wa.t11,wa.t12,wa.t13,wa.t14,wa.t15,wa.t16,wa.t17,q.ti,tg,tk,tz,tq1,tq,u1,u2],v := nth .none [v1,pm,ctv],vs := nth #[] [q.its,q.das,q.dss,q.nss,q.pss,vs1,vs],o := nth default [oc1,oc],f := nth true [q.seen,q.done],rest := nth [] [rest],ys := nth [] [ys],mean,mg,mb,dp,un,gd,cn,cs,a,ccd,cl,outer,A₀,base,h₀,L,m,s,R } ok hi hp hp0 hn hd k0 k2 k3 k5 hct hL x1 x2 x3 x4 x5 x6 z1 c1 c2 c3 hs hy hj hx ho hse wi
end
section
local macro_rules (kind := PySem.W.tacticK_extra_) | x => topOf "lcdef ltext ints fast lt wr0 bound oo mac0 om" x
abbrev LCall := Int × Str × Str
noncomputable abbrev callObj (c : LCall) (t1 t2 t3 : Tok) : Obj := { cls := .type "tuple",data := .seq #[.int c.1 t1, .str c.2.1 t2, .str c.2.2 t3] 0 }
inductive CallsAt (news : List (Addr × Obj)) : List Value → List LCall → Prop
  | nil : CallsAt news [] []
  | cons {T : Addr} {c : LCall} {t1 t2 t3 : Tok} {vs : List Value} {cs : List LCall} (h : (T,callObj c t1 t2 t3) ∈ news) (r : CallsAt news vs cs) : CallsAt news (.ref T :: vs) (c :: cs)
theorem CallsAt.mono {news news' : List (Addr × Obj)} (hs : ∀ p ∈ news,p ∈ news') {vs : List Value} {cs : List LCall} (h : CallsAt news vs cs) : CallsAt news' vs cs := by
  induction h with
  | nil => exact .nil
  | cons h _ ih => exact .cons (hs _ h) ih
theorem CallsAt.snoc {news : List (Addr × Obj)} {T : Addr} {c : LCall} {t1 t2 t3 : Tok} {vs : List Value} {cs : List LCall} (r : CallsAt news vs cs) (h : (T,callObj c t1 t2 t3) ∈ news) : CallsAt news (vs ++ [.ref T]) (cs ++ [c]) := by
  induction r with
  | nil => exact .cons h .nil
  | cons h' _ ih => exact .cons h' ih
theorem CallsAt.length {news : List (Addr × Obj)} {vs : List Value} {cs : List LCall} (h : CallsAt news vs cs) : vs.length = cs.length := by
  induction h with
  | nil => rfl
  | cons _ _ ih => simp [ih]
theorem CallsAt.get {news : List (Addr × Obj)} {vs : List Value} {cs : List LCall} (h : CallsAt news vs cs) : ∀ {i : Nat} {v : Value},vs[i]? = some v → ∃ T c t1 t2 t3,v = .ref T ∧ cs[i]? = some c ∧ (T,callObj c t1 t2 t3) ∈ news := by
  induction h with
  | nil => intro i v h;simp at h
  | cons h _ ih =>
    intro i v hv
    cases i with
    | zero => simp at hv;subst hv;exact ⟨_,_,_,_,_,rfl,rfl,h⟩
    | succ i => simpa using ih (by simpa using hv)
noncomputable def turnOf (st : List Str × List LCall) (d : Int) : List Str × List LCall :=
  if d.fmod 6 = 0 then
    (st.1 ++ [if (d.fdiv 6).fmod 2 = 0 then Str.ofString "a" else Str.ofString "b"],st.2 ++ [(0,if (d.fdiv 6).fmod 2 = 0 then Str.ofString "a" else Str.ofString "b",tellText (d.fdiv 6))])
  else if d.fmod 6 = 1 ∧ 1 < st.1.length then (st.1.dropLast,st.2 ++ [(1,st.1.getLast?.getD (Str.ofString ""),Str.ofString "")])
  else if d.fmod 6 < 4 then (st.1,st.2 ++ [(2,Str.ofString "",tellText (d.fdiv 6))])
  else (st.1,st.2 ++ [(d.fmod 6 - 1,Str.ofString "p",tellText (d.fdiv 6))])
noncomputable def endsOf (within : List Str) : List LCall := within.reverse.map fun x => (1,x,Str.ofString "")
noncomputable def callsOf (a : List Int) : List LCall :=
  let st := (a.tail.dropLast).foldl turnOf ([Str.ofString "r"],[(3 + (a.headD 0).fmod 2,Str.ofString "p",tellText ((a.headD 0).fdiv 2)),(0,Str.ofString "r",Str.ofString "")])
  st.2 ++ endsOf st.1 ++ [(3 + (a.getLastD 0).fmod 2,Str.ofString "p",tellText ((a.getLastD 0).fdiv 2))]
theorem map2 {m : Str → Option Value} {x y : Str} {v u : Option Value} (h1 : m x = v) (h2 : m y = u) : m = fun z => if z = x then v else if z = y then u else m z := by
  funext z
  by_cases e : z = x
  · rw [if_pos e,e,h1]
  · rw [if_neg e]
    by_cases e2 : z = y
    · rw [if_pos e2,e2,h2]
    · rw [if_neg e2]
theorem map3 {m : Str → Option Value} {x y k : Str} {v u r : Option Value} (h1 : m x = v) (h2 : m y = u) (h3 : m k = r) : m = fun z => if z = x then v else if z = y then u else if z = k then r else m z := by
  funext z
  by_cases e : z = x
  · rw [if_pos e,e,h1]
  · rw [if_neg e]
    by_cases e2 : z = y
    · rw [if_pos e2,e2,h2]
    · rw [if_neg e2]
      by_cases e3 : z = k
      · rw [if_pos e3,e3,h3]
      · rw [if_neg e3]
end
section
local macro_rules (kind := PySem.W.tacticK_extra_) | x => topOf "plain1 lcdef wr2 ltext plain0 pure1 ints fast txt2 lt wr0 bound oo mac0 om" x
noncomputable def tblN (c : Nat) : Option (List Nat) := if c = 38 then some [97,109,112,59] else if c = 60 then some [108,116,59] else if c = 62 then some [103,116,59] else if c = 13 then some [35,120,68,59] else none
noncomputable def tblV (c : Nat) : Option (List Nat) := if c = 38 then some [97,109,112,59] else if c = 60 then some [108,116,59] else if c = 34 then some [113,117,111,116,59] else if c = 9 then some [35,120,57,59] else if c = 10 then some [35,120,65,59] else if c = 13 then some [35,120,68,59] else none
noncomputable def escOne (tbl : Nat → Option (List Nat)) (c : Nat) : List Nat := match tbl c with | some y => 38 :: y | none => [c]
noncomputable def spellStep (tbl : Nat → Option (List Nat)) (told : List Nat) (c : Nat) : List Nat :=
  match tbl c with
  | some y => told ++ 38 :: y
  | none => if c = 10 then told ++ [13,10] else if c = 46 ∧ told.getLast? = some 10 then told ++ [46,46] else told ++ [c]
noncomputable def spelled (tbl : Nat → Option (List Nat)) (l : List Nat) : List Nat := l.foldl (spellStep tbl) []
theorem rowB_false (x : List Nat) : rowB false x = decide (x.getLast? = some 10) := by
  rw [rowB_last]
  cases h : x.getLast? with
  | none => rfl
  | some c => by_cases e : c = 10 <;> simp [e]
theorem spell_gen {tbl : Nat → Option (List Nat)} (h1 : ∀ c y,tbl c = some y → 10 ∉ y) (h2 : tbl 46 = none) : ∀ (l told : List Nat),l.foldl (spellStep tbl) told = told ++ dots (rowB false told) (nl (l.flatMap (escOne tbl)))
  | [],told => by simp [nl,dots]
  | c :: r,told => by
    rw [List.foldl_cons,spell_gen h1 h2 r,List.flatMap_cons,nl_append,dots_append,rowB_nl,← List.append_assoc]
    cases e : tbl c with
    | some y =>
      have hy := h1 c y e
      have e1 : escOne tbl c = 38 :: y := by unfold escOne;rw [e]
      have e2 : spellStep tbl told c = told ++ 38 :: y := by unfold spellStep;rw [e]
      have hy' : 10 ∉ (38 :: y) := fun hm => by rcases List.mem_cons.mp hm with h | h;exact absurd h (by decide);exact hy h
      have e3 : dots (rowB false told) (38 :: y) = 38 :: y := by rw [dots_ne (c := 38) _ rfl (by decide),dots_free _ hy']
      have e4 : rowB (rowB false told) (38 :: y) = false := by show rowB (38 == 10) y = false;exact rowB_free y hy
      rw [e1,e2,nl_free hy',e3,rowB_append,e4]
    | none =>
      have e1 : escOne tbl c = [c] := by unfold escOne;rw [e]
      rw [e1]
      by_cases hc : c = 10
      · subst hc
        have e2 : spellStep tbl told 10 = told ++ [13,10] := by unfold spellStep;rw [e];rfl
        have e3 : ∀ b,dots b (nl [10]) = [13,10] := by intro b;show dots b [13,10] = _;rw [dots_ne (c := 13) b rfl (by decide)];rfl
        rw [e2,e3,rowB_append];rfl
      · have e5 : nl [c] = [c] := nl_free (by simpa using Ne.symm hc)
        rw [e5]
        by_cases hd : c = 46 ∧ told.getLast? = some 10
        · obtain ⟨rfl,hl⟩ := hd
          have e2 : spellStep tbl told 46 = told ++ [46,46] := by unfold spellStep;rw [e];simp [hl]
          have hb : rowB false told = true := by rw [rowB_false,decide_eq_true hl]
          rw [e2,rowB_append,hb];rfl
        · have e2 : spellStep tbl told c = told ++ [c] := by unfold spellStep;rw [e];simp only [if_neg hc,if_neg hd]
          have e3 : dots (rowB false told) [c] = [c] := by
            rw [dots_cons,if_neg]
            · rfl
            · rintro ⟨hb,rfl⟩
              rw [rowB_false] at hb
              exact hd ⟨rfl,of_decide_eq_true hb⟩
          rw [e2,e3,rowB_append]
theorem tblN_free (c : Nat) (y : List Nat) (h : tblN c = some y) : 10 ∉ y := by
  unfold tblN at h
  (repeat' split at h) <;> first | (cases h;decide) | cases h
theorem tblV_free (c : Nat) (y : List Nat) (h : tblV c = some y) : 10 ∉ y := by
  unfold tblV at h
  (repeat' split at h) <;> first | (cases h;decide) | cases h
theorem spelledN (l : List Nat) : spelled tblN l = dots false (nl (l.flatMap (escOne tblN))) := by unfold spelled;rw [spell_gen tblN_free rfl];rfl
theorem escV_free : ∀ (l : List Nat),10 ∉ l.flatMap (escOne tblV)
  | [] => by simp
  | c :: r => by
    rw [List.flatMap_cons,List.mem_append]
    rintro (h | h)
    · unfold escOne at h
      cases e : tblV c with
      | some y => rw [e] at h;rcases List.mem_cons.mp h with h | h;exact absurd h (by decide);exact tblV_free c y e h
      | none =>
        rw [e] at h
        have := List.mem_singleton.mp h
        subst this
        exact absurd e (by decide)
    · exact escV_free r h
theorem spelledV (l : List Nat) : spelled tblV l = l.flatMap (escOne tblV) := by
  unfold spelled;rw [spell_gen tblV_free rfl]
  have := escV_free l
  rw [nl_free this]
  show [] ++ dots false _ = _
  rw [dots_free _ this];rfl
theorem esc13 (tbl : Nat → Option (List Nat)) (h13 : tbl 13 ≠ none) (hy : ∀ c y,tbl c = some y → 13 ∉ y) : ∀ (l : List Nat),13 ∉ l.flatMap (escOne tbl)
  | [] => by simp
  | c :: r => by
    rw [List.flatMap_cons,List.mem_append]
    rintro (h | h)
    · unfold escOne at h
      cases e : tbl c with
      | some y => rw [e] at h;rcases List.mem_cons.mp h with h | h;exact absurd h (by decide);exact hy c y e h
      | none =>
        rw [e] at h
        have := List.mem_singleton.mp h
        subst this
        exact h13 e
    · exact esc13 tbl h13 hy r h
theorem escN_13 (l : List Nat) : 13 ∉ l.flatMap (escOne tblN) := esc13 tblN (by decide) (fun c y h => by
  unfold tblN at h
  (repeat' split at h) <;> first | (cases h;decide) | cases h) l
theorem escV_13 (l : List Nat) : 13 ∉ l.flatMap (escOne tblV) := esc13 tblV (by decide) (fun c y h => by
  unfold tblV at h
  (repeat' split at h) <;> first | (cases h;decide) | cases h) l
theorem repl_toList (n : Nat) (z x : Str) : (repl n z x).cps.toList = x.cps.toList.flatMap fun d => if d = n then z.cps.toList else [d] := by unfold repl;simp
theorem flat_flat {f g : Nat → List Nat} (l : List Nat) : (l.flatMap f).flatMap g = l.flatMap fun c => (f c).flatMap g := List.flatMap_assoc ..
theorem escC_flat (x : Str) : (escC x).cps.toList = x.cps.toList.flatMap (escOne tblN) := by
  show (repl 13 "&#xD;" (repl 62 "&gt;" (repl 60 "&lt;" (repl 38 "&amp;" x)))).cps.toList = _
  rw [repl_toList,repl_toList,repl_toList,repl_toList,flat_flat,flat_flat,flat_flat]
  congr 1
  funext c
  unfold escOne tblN
  by_cases h1 : c = 38
  · subst h1;rfl
  by_cases h2 : c = 60
  · subst h2;rfl
  by_cases h3 : c = 62
  · subst h3;rfl
  by_cases h4 : c = 13
  · subst h4;rfl
  simp [h1,h2,h3,h4]
theorem escA_flat (x : Str) : (escA x).cps.toList = x.cps.toList.flatMap (escOne tblV) := by
  show (repl 13 "&#xD;" (repl 10 "&#xA;" (repl 9 "&#x9;" (repl 34 "&quot;" (repl 60 "&lt;" (repl 38 "&amp;" x)))))).cps.toList = _
  rw [repl_toList,repl_toList,repl_toList,repl_toList,repl_toList,repl_toList,flat_flat,flat_flat,flat_flat,flat_flat,flat_flat]
  congr 1
  funext c
  unfold escOne tblV
  by_cases h1 : c = 38
  · subst h1;rfl
  by_cases h2 : c = 60
  · subst h2;rfl
  by_cases h3 : c = 34
  · subst h3;rfl
  by_cases h4 : c = 9
  · subst h4;rfl
  by_cases h5 : c = 10
  · subst h5;rfl
  by_cases h6 : c = 13
  · subst h6;rfl
  simp [h1,h2,h3,h4,h5,h6]
noncomputable def mails (ps : List Str) : List Nat := (ps.map fun p => mail p.cps.toList).flatten
theorem mails_append (a b : List Str) : mails (a ++ b) = mails a ++ mails b := by simp [mails]
theorem cat_append (a b : List Str) : cat (a ++ b) = cat a ++ cat b := by simp [cat]
theorem cat_cons (a : Str) (b : List Str) : cat (a :: b) = a.cps.toList ++ cat b := rfl
theorem mails_cons (a : Str) (b : List Str) : mails (a :: b) = mail a.cps.toList ++ mails b := rfl
def Mark (p : Str) : Prop := 13 ∉ p.cps.toList ∧ ∃ c r,p.cps.toList = c :: r ∧ c ≠ 46
theorem Mark.dots {p : Str} (h : Mark p) (b : Bool) : dots b (nl p.cps.toList) = mail p.cps.toList := by
  obtain ⟨h1,c,r,e,hc⟩ := h
  rw [mail_nl h1]
  have : ∃ d,(nl p.cps.toList).head? = some d ∧ d ≠ 46 := by
    rw [e,nl_cons]
    by_cases hc2 : c = 10
    · rw [if_pos hc2];exact ⟨13,rfl,by decide⟩
    · rw [if_neg hc2];exact ⟨c,rfl,hc⟩
  obtain ⟨d,hd,hn⟩ := this
  rw [dots_ne b hd hn,dots_ne true hd hn]
theorem marks_dots : ∀ {M : List Str},(∀ p ∈ M,Mark p) → ∀ b,dots b (nl (cat M)) = mails M
  | [],_,_ => rfl
  | p :: M,h,b => by
    rw [cat_cons,nl_append,dots_append,(h p (.head _)).dots,marks_dots fun q hq => h q (.tail _ hq)];rfl
theorem marks_13 : ∀ {M : List Str},(∀ p ∈ M,Mark p) → 13 ∉ cat M
  | [],_ => by simp [cat]
  | p :: M,h => by
    rw [cat_cons,List.mem_append]
    rintro (x | x)
    · exact (h p (.head _)).1 x
    · exact marks_13 (fun q hq => h q (.tail _ hq)) x
theorem mail_plain {l : List Nat} (h1 : 10 ∉ l) (h2 : 13 ∉ l) {c : Nat} (hc : l.head? = some c) (h3 : c ≠ 46) : mail l = l := by
  rw [mail_nl h2,nl_free h1,dots_ne true hc h3,dots_free l h1]
theorem mail_wrap {pre post l : List Nat} (a1 : 10 ∉ pre) (a2 : 13 ∉ pre) {c : Nat} (hc : pre.head? = some c) (h3 : c ≠ 46) (b1 : 10 ∉ post) (b2 : 13 ∉ post) {d : Nat} (hd : post.head? = some d) (h4 : d ≠ 46) (h13 : 13 ∉ l) :
    mail (pre ++ l ++ post) = pre ++ dots false (nl l) ++ post := by
  have h : 13 ∉ pre ++ l ++ post := by simp only [List.mem_append];rintro ((h | h) | h);exact a2 h;exact h13 h;exact b2 h
  rw [mail_nl h,nl_append,nl_append,nl_free a1,nl_free b1,dots_append,dots_append,dots_ne true hc h3,dots_free _ a1]
  have : rowB true pre = false := by
    cases pre with
    | nil => cases hc
    | cons x r =>
      show rowB (x == 10) r = false
      rw [show (x == 10) = false from beq_eq_false_iff_ne.mpr fun e => a1 (by rw [e];exact .head _),rowB_free r fun e => a1 (.tail _ e)]
  rw [this,dots_ne _ hd h4,dots_free _ b1]
end
section
local macro_rules (kind := PySem.W.tacticK_extra_) | x => topOf "plain2 plain1 lcdef wr2 ltext plain0 pure1 ints fast txt2 lt wr0 bound oo mac0 om" x
set_option genInjectivity false in
set_option genSizeOf false in
structure TS where
  (stack held : List Str)
  (seen done : Bool)
  out : List Str
noncomputable def TS.text (st : TS) : Str := Txt.join "" st.held
noncomputable def TS.flushed (st : TS) : List Str := if st.text.length = 0 then [] else [escC st.text]
noncomputable def remOf (c : LCall) : Str := if c.1 = 3 then remMark (escC c.2.2) else piMark c.2.1 c.2.2
noncomputable def tellOne (st : TS) (c : LCall) : TS :=
  if c.1 = 0 then
    if c.2.1 = Str.ofString "r" then ⟨st.stack ++ [c.2.1],st.held,true,st.done,st.out ++ [Str.ofString "<r",Str.ofString ">"]⟩
    else ⟨st.stack ++ [c.2.1],[],true,st.done,st.out ++ (st.flushed ++ [Str.ofString "<" ++ c.2.1,attrMark c.2.2,Str.ofString ">"])⟩
  else if c.1 = 1 then ⟨st.stack.dropLast,[],true,decide (st.stack.dropLast.length = 0),st.out ++ (st.flushed ++ [endMark c.2.1])⟩
  else if c.1 = 2 then ⟨st.stack,st.held ++ [c.2.2],st.seen,st.done,st.out⟩
  else ⟨st.stack,[],st.seen,st.done,st.out ++ ((if st.done = true then [Str.ofString "\n"] else st.flushed) ++ [remOf c] ++ if st.seen = true then [] else [Str.ofString "\n"])⟩
set_option genInjectivity false in
set_option genSizeOf false in
structure LT where
  (whole straight held : List Nat)
  depth : Int
  behind : Bool
noncomputable def LT.marks (lt : LT) (c : LCall) : List Nat :=
  if c.1 = 0 then ([60] ++ c.2.1.cps.toList) ++ (if c.2.1 = Str.ofString "r" then [] else [32,107,61,34] ++ spelled tblV c.2.2.cps.toList ++ [34]) ++ [62]
  else if c.1 = 1 then [60,47] ++ c.2.1.cps.toList ++ [62]
  else (if lt.behind = true then [13,10] else []) ++ (if c.1 = 3 then [60,33,45,45] ++ spelled tblN c.2.2.cps.toList ++ [45,45,62] else if c.2.2.cps.toList = [] then [60,63,112,63,62] else [60,63,112,32] ++ spelled tblN c.2.2.cps.toList ++ [63,62])
    ++ (if lt.depth = 0 ∧ lt.behind = false then [13,10] else [])
noncomputable def toldOne (lt : LT) (c : LCall) : LT :=
  if c.1 = 2 then ⟨lt.whole,lt.straight,lt.held ++ c.2.2.cps.toList,lt.depth,lt.behind⟩
  else
    let told := spelled tblN lt.held ++ lt.marks c
    ⟨lt.whole ++ told,lt.straight ++ dotFirst lt.held ++ told,[],(if c.1 = 0 then lt.depth + 1 else if c.1 = 1 then lt.depth - 1 else lt.depth),if c.1 = 1 then decide (lt.depth - 1 = 0) else lt.behind⟩
def okStep (st : TS) (c : LCall) : Prop :=
  c.2.2.length ≤ 2 ∧ ((c.1 = 0 ∧ c.2.1 = Str.ofString "r" ∧ c.2.2 = Str.ofString "" ∧ st.seen = false) ∨ (c.1 = 0 ∧ (c.2.1 = Str.ofString "a" ∨ c.2.1 = Str.ofString "b") ∧ st.stack ≠ []) ∨
  (c.1 = 1 ∧ (∃ w,st.stack = w ++ [c.2.1]) ∧ (c.2.1 = Str.ofString "r" ∨ c.2.1 = Str.ofString "a" ∨ c.2.1 = Str.ofString "b")) ∨ (c.1 = 2 ∧ st.stack ≠ []) ∨ ((c.1 = 3 ∨ c.1 = 4) ∧ c.2.1 = Str.ofString "p"))
structure TOk (st : TS) : Prop where
  seen0 : st.seen = false → st.stack = [] ∧ st.held = [] ∧ st.done = false
  done0 : st.done = true → st.stack = [] ∧ st.held = []
  mid : st.seen = true → st.done = false → st.stack ≠ []
theorem TOk.held {st : TS} (h : TOk st) (hs : st.stack = []) : st.held = [] := by
  cases e : st.seen with
  | false => exact (h.seen0 e).2.1
  | true =>
    cases d : st.done with
    | true => exact (h.done0 d).2
    | false => exact absurd hs (h.mid e d)
theorem TOk.seen {st : TS} (h : TOk st) (hs : st.stack ≠ []) : st.seen = true ∧ st.done = false := by
  constructor
  · cases e : st.seen with
    | false => exact absurd (h.seen0 e).1 hs
    | true => rfl
  · cases e : st.done with
    | true => exact absurd (h.done0 e).1 hs
    | false => rfl
theorem TOk.step {st : TS} {c : LCall} (h : TOk st) (hc : okStep st c) : TOk (tellOne st c) := by
  obtain ⟨_,hc⟩ := hc
  rcases hc with ⟨h0,h1,_,h2⟩ | ⟨h0,h1,h2⟩ | ⟨h0,⟨w,h1⟩,h2⟩ | ⟨h0,h2⟩ | ⟨h0,h1⟩
  · unfold tellOne;rw [if_pos h0,if_pos h1]
    exact ⟨fun e => (by cases e),fun e => (by have e : st.done = true := e;rw [(h.seen0 h2).2.2] at e;cases e),fun _ _ => by simp⟩
  · have hn : c.2.1 ≠ Str.ofString "r" := by rcases h1 with e | e <;> rw [e] <;> decide
    have hd := (h.seen h2).2
    unfold tellOne;rw [if_pos h0,if_neg hn]
    exact ⟨fun e => (by cases e),fun e => (by have e : st.done = true := e;rw [hd] at e;cases e),fun _ _ => by simp⟩
  · unfold tellOne;rw [if_neg (by rw [h0];decide),if_pos h0]
    refine ⟨fun e => (by cases e),fun e => ⟨?_,rfl⟩,fun _ e => ?_⟩
    · exact List.length_eq_zero_iff.mp (of_decide_eq_true e)
    · intro e2
      exact of_decide_eq_false e (List.length_eq_zero_iff.mpr e2)
  · have hs := h.seen h2
    unfold tellOne;rw [if_neg (by rw [h0];decide),if_neg (by rw [h0];decide),if_pos h0]
    exact ⟨fun e => (by have e : st.seen = false := e;rw [hs.1] at e;cases e),fun e => (by have e : st.done = true := e;rw [hs.2] at e;cases e),fun _ _ => h2⟩
  · unfold tellOne
    rw [if_neg (by rcases h0 with e | e <;> rw [e] <;> decide),if_neg (by rcases h0 with e | e <;> rw [e] <;> decide),if_neg (by rcases h0 with e | e <;> rw [e] <;> decide)]
    exact ⟨fun e => ⟨(h.seen0 e).1,rfl,(h.seen0 e).2.2⟩,fun e => ⟨(h.done0 e).1,rfl⟩,h.mid⟩
structure Both (st : TS) (lt : LT) : Prop where
  ok : TOk st
  h : lt.held = cat st.held
  d : lt.depth = st.stack.length
  b : lt.behind = st.done
  w : lt.whole = dots true (nl (cat st.out))
  s : lt.straight = mails st.out
  n : 13 ∉ cat st.out
  r : st.stack ≠ [] → rowB true (cat st.out) = false
theorem text_cat (st : TS) : st.text.cps.toList = cat st.held := txtJoin_empty "" (by decide +kernel) st.held
theorem cat_nil {l : List Str} (h : l = []) : cat l = [] := by rw [h];rfl
theorem flushed_cat (st : TS) : cat st.flushed = (cat st.held).flatMap (escOne tblN) := by
  unfold TS.flushed
  split
  · rename_i h
    have : cat st.held = [] := by
      rw [← text_cat]
      have h : st.text.cps.size = 0 := h
      exact List.length_eq_zero_iff.mp (by simpa using h)
    rw [this];rfl
  · show (escC st.text).cps.toList ++ [] = _
    rw [escC_flat,text_cat,List.append_nil]
theorem esc_head (l : List Nat) : dotFirst (nl (l.flatMap (escOne tblN))) = dotFirst l := by
  cases l with
  | nil => rfl
  | cons c r =>
    have key : ∀ (c : Nat) (z : List Nat),(nl (escOne tblN c ++ z)).head? = some 46 ↔ c = 46 := by
      intro c z
      unfold escOne
      cases e : tblN c with
      | some y =>
        show (nl (38 :: (y ++ z))).head? = _ ↔ _
        rw [nl_cons]
        constructor
        · intro h;simp at h
        · intro h;rw [h] at e;cases e
      | none =>
        show (nl (c :: z)).head? = _ ↔ _
        rw [nl_cons]
        by_cases h : c = 10
        · subst h;simp
        · rw [if_neg h];simp
    unfold dotFirst
    rw [List.flatMap_cons]
    by_cases h : c = 46
    · rw [if_pos ((key c _).mpr h),if_pos (by rw [h];rfl)]
    · rw [if_neg (fun x => h ((key c _).mp x)),if_neg (by simpa using h)]
theorem flushed_mails (st : TS) : mails st.flushed = dotFirst (cat st.held) ++ spelled tblN (cat st.held) := by
  unfold TS.flushed
  split
  · rename_i h
    have : cat st.held = [] := by
      rw [← text_cat]
      have h : st.text.cps.size = 0 := h
      exact List.length_eq_zero_iff.mp (by simpa using h)
    rw [this];rfl
  · show mail (escC st.text).cps.toList ++ [] = _
    rw [escC_flat,text_cat,List.append_nil,mail_nl (escN_13 _),dots_true,esc_head,spelledN]
theorem Both.chunk {st st' : TS} {lt lt' : LT} {c : LCall} {M : List Str} {T : List Nat} (B : Both st lt) (ok' : TOk st') (hM : ∀ p ∈ M, Mark p) (hT : mails M = T) (hr : rowB true (cat st'.out) = false ∨ st'.stack = [])
    (ho : st'.out = st.out ++ (st.flushed ++ M)) (hh : st'.held = []) (e1 : lt'.whole = lt.whole ++ (spelled tblN lt.held ++ T)) (e2 : lt'.straight = lt.straight ++ dotFirst lt.held ++ (spelled tblN lt.held ++ T)) (e3 : lt'.held = [])
    (e4 : lt'.depth = st'.stack.length) (e5 : lt'.behind = st'.done) : Both st' lt' := by
  refine ⟨ok',by rw [e3,hh];rfl,e4,e5,?_,?_,?_,fun h => hr.resolve_right h⟩
  · rw [e1,ho,B.w,cat_append,cat_append,nl_append,nl_append,dots_append,dots_append,marks_dots hM,hT,flushed_cat,rowB_nl,B.h]
    congr 2
    rw [spelledN]
    by_cases hs : st.stack = []
    · rw [cat_nil (B.ok.held hs)];rfl
    · rw [B.r hs]
  · rw [e2,ho,B.s,mails_append,mails_append,flushed_mails,hT,B.h]
    simp only [List.append_assoc]
  · rw [ho,cat_append,cat_append,List.mem_append,List.mem_append,flushed_cat]
    rintro (h | h | h)
    · exact B.n h
    · exact escN_13 _ h
    · exact marks_13 hM h
theorem cps_app (a b : Str) : (a ++ b).cps.toList = a.cps.toList ++ b.cps.toList := by
  show (a.cps ++ b.cps).toList = _;simp
theorem row_mark {l post : List Nat} {c : Nat} (hc : c ≠ 10) : rowB true (l ++ (post ++ [c])) = false := by
  rw [← List.append_assoc,rowB_snoc];exact beq_eq_false_iff_ne.mpr hc
theorem endMark_L (z : Str) : (endMark z).cps.toList = [60,47] ++ z.cps.toList ++ [62] := by
  show (Str.empty ++ Str.ofString "</" ++ z ++ Str.ofString ">").cps.toList = _
  rw [cps_app,cps_app,cps_app];rfl
theorem attrMark_L (z : Str) : (attrMark z).cps.toList = [32,107,61,34] ++ z.cps.toList.flatMap (escOne tblV) ++ [34] := by
  show (Str.empty ++ Str.ofString " " ++ Str.ofString "k" ++ Str.ofString "=\"" ++ escA z ++ Str.ofString "\"").cps.toList = _
  rw [cps_app,cps_app,cps_app,cps_app,cps_app,escA_flat];rfl
theorem remMark_L (z : Str) : (remMark (escC z)).cps.toList = [60,33,45,45] ++ z.cps.toList.flatMap (escOne tblN) ++ [45,45,62] := by
  show (Str.empty ++ Str.ofString "<!--" ++ escC z ++ Str.ofString "-->").cps.toList = _
  rw [cps_app,cps_app,cps_app,escC_flat];rfl
theorem piMark_L (z : Str) : (piMark (Str.ofString "p") z).cps.toList = if z.cps.toList = [] then [60,63,112,63,62] else [60,63,112,32] ++ z.cps.toList.flatMap (escOne tblN) ++ [63,62] := by
  have hz : z.length = 0 ↔ z.cps.toList = [] := by
    show z.cps.size = 0 ↔ _
    rw [← List.length_eq_zero_iff];simp
  unfold piMark
  by_cases h : z.length = 0
  · rw [if_pos h,if_pos (hz.mp h)];rfl
  · rw [if_neg h,if_neg (fun x => h (hz.mpr x)),cps_app,cps_app,cps_app,cps_app,cps_app,escC_flat];rfl
theorem remOf_L {c : LCall} (h : c.1 = 3 ∨ c.1 = 4) (hp : c.2.1 = Str.ofString "p") : ∃ pre post, (10 ∉ pre ∧ 13 ∉ pre ∧ pre.head? = some 60) ∧ (∀ q, post = q ++ [62] → True) ∧ (remOf c).cps.toList = pre ++ (if (c.1 = 3 ∨ c.2.2.cps.toList ≠ []) then c.2.2.cps.toList.flatMap (escOne tblN) else []) ++ post ∧ (10 ∉ post ∧ 13 ∉ post) ∧ (∃ d, post.head? = some d ∧ d ≠ 46) ∧ (∃ q, post = q ++ [62]) ∧
    (if c.1 = 3 then [60,33,45,45] ++ spelled tblN c.2.2.cps.toList ++ [45,45,62] else if c.2.2.cps.toList = [] then [60,63,112,63,62] else [60,63,112,32] ++ spelled tblN c.2.2.cps.toList ++ [63,62]) = pre ++ (if (c.1 = 3 ∨ c.2.2.cps.toList ≠ []) then spelled tblN c.2.2.cps.toList else []) ++ post := by
  by_cases h3 : c.1 = 3
  · refine ⟨[60,33,45,45],[45,45,62],by decide,fun _ _ => trivial,?_,by decide,⟨45,rfl,by decide⟩,⟨[45,45],rfl⟩,?_⟩
    · unfold remOf;rw [if_pos h3,if_pos (.inl h3),remMark_L]
    · rw [if_pos h3,if_pos (.inl h3)]
  · unfold remOf
    rw [if_neg h3,if_neg h3,hp,piMark_L]
    by_cases ht : c.2.2.cps.toList = []
    · refine ⟨[60,63,112],[63,62],by decide,fun _ _ => trivial,?_,by decide,⟨63,rfl,by decide⟩,⟨[63],rfl⟩,?_⟩
      · rw [if_pos ht,if_neg (by rintro (x | x);exact h3 x;exact x ht)];rfl
      · rw [if_pos ht,if_neg (by rintro (x | x);exact h3 x;exact x ht)];rfl
    · refine ⟨[60,63,112,32],[63,62],by decide,fun _ _ => trivial,?_,by decide,⟨63,rfl,by decide⟩,⟨[63],rfl⟩,?_⟩
      · rw [if_neg ht,if_pos (.inr ht)]
      · rw [if_neg ht,if_pos (.inr ht)]
theorem Both.step {st : TS} {lt : LT} {c : LCall} (B : Both st lt) (hc : okStep st c) : Both (tellOne st c) (toldOne lt c) := by
  revert B hc
  revert st lt c
  refine' no_implicit_lambda% (@Mine.tau1 _ ⟨⟨[],[],false,false,[]⟩⟩ _ ?_);generalize Mine.ep _ _ = st
  refine' no_implicit_lambda% (@Mine.tau1 _ ⟨⟨[],[],[],0,false⟩⟩ _ ?_);generalize Mine.ep _ _ = lt
  refine' no_implicit_lambda% (@Mine.tau1 _ ⟨(0,default,default)⟩ _ ?_);generalize Mine.ep _ _ = c
  intros B hc
  have ok' := B.ok.step hc
  obtain ⟨_,hc⟩ := hc
  rcases hc with ⟨h0,h1,_,h2⟩ | ⟨h0,h1,h2⟩ | ⟨h0,⟨w,h1⟩,h2⟩ | ⟨h0,h2⟩ | ⟨h0,h1⟩
  · obtain ⟨s0,s1,s2⟩ := B.ok.seen0 h2
    have hf : st.flushed = [] := by unfold TS.flushed TS.text;rw [s1];rfl
    have g1 : tellOne st c = ⟨st.stack ++ [c.2.1],st.held,true,st.done,st.out ++ [Str.ofString "<r",Str.ofString ">"]⟩ := by unfold tellOne;rw [if_pos h0,if_pos h1]
    have gm : lt.marks c = [60,114,62] := by unfold LT.marks;rw [if_pos h0,if_pos h1,h1];rfl
    have g2 : toldOne lt c = ⟨lt.whole ++ (spelled tblN lt.held ++ [60,114,62]),lt.straight ++ dotFirst lt.held ++ (spelled tblN lt.held ++ [60,114,62]),[],lt.depth + 1,lt.behind⟩ := by
      unfold toldOne;rw [if_neg (by rw [h0];decide),gm];simp only [if_pos h0,if_neg (show ¬ c.1 = 1 by rw [h0];decide)]
    rw [g1] at ok' ⊢
    rw [g2]
    refine B.chunk (c := c) (M := [Str.ofString "<r",Str.ofString ">"]) (T := [60,114,62]) ok' ?_ ?_ (.inl ?_) (by rw [hf];rfl) s1 rfl rfl rfl ?_ ?_
    · intro p hp
      simp only [List.mem_cons,List.mem_nil_iff,or_false] at hp
      rcases hp with rfl | rfl
      · exact ⟨by decide,60,[114],rfl,by decide⟩
      · exact ⟨by decide,62,[],rfl,by decide⟩
    · decide +kernel
    · show rowB true (cat (st.out ++ [Str.ofString "<r",Str.ofString ">"])) = false
      rw [cat_append];exact row_mark (post := [60,114]) (by decide)
    · show lt.depth + 1 = _;rw [B.d];simp
    · exact B.b
  · have hn : c.2.1 ≠ Str.ofString "r" := by rcases h1 with e | e <;> rw [e] <;> decide
    have g1 : tellOne st c = ⟨st.stack ++ [c.2.1],[],true,st.done,st.out ++ (st.flushed ++ [Str.ofString "<" ++ c.2.1,attrMark c.2.2,Str.ofString ">"])⟩ := by unfold tellOne;rw [if_pos h0,if_neg hn]
    have gm : lt.marks c = ([60] ++ c.2.1.cps.toList) ++ ([32,107,61,34] ++ spelled tblV c.2.2.cps.toList ++ [34]) ++ [62] := by unfold LT.marks;rw [if_pos h0,if_neg hn]
    have g2 : toldOne lt c = ⟨lt.whole ++ (spelled tblN lt.held ++ (([60] ++ c.2.1.cps.toList) ++ ([32,107,61,34] ++ spelled tblV c.2.2.cps.toList ++ [34]) ++ [62])),lt.straight ++ dotFirst lt.held ++ (spelled tblN lt.held ++ (([60] ++ c.2.1.cps.toList) ++ ([32,107,61,34] ++ spelled tblV c.2.2.cps.toList ++ [34]) ++ [62])),[],lt.depth + 1,lt.behind⟩ := by
      unfold toldOne;rw [if_neg (by rw [h0];decide),gm];simp only [if_pos h0,if_neg (show ¬ c.1 = 1 by rw [h0];decide)]
    have hname : 10 ∉ c.2.1.cps.toList ∧ 13 ∉ c.2.1.cps.toList := by rcases h1 with e | e <;> rw [e] <;> decide
    have p1 : (Str.ofString "<" ++ c.2.1).cps.toList = [60] ++ c.2.1.cps.toList := by rw [cps_app];rfl
    rw [g1] at ok' ⊢
    rw [g2]
    refine B.chunk (c := c) (M := [Str.ofString "<" ++ c.2.1,attrMark c.2.2,Str.ofString ">"]) ok' ?_ ?_ (.inl ?_) rfl rfl rfl rfl rfl ?_ ?_
    · intro p hp
      simp only [List.mem_cons,List.mem_nil_iff,or_false] at hp
      rcases hp with rfl | rfl | rfl
      · refine ⟨?_,60,c.2.1.cps.toList,p1,by decide⟩
        rw [p1,List.mem_append];rintro (h | h);exact absurd h (by decide);exact hname.2 h
      · refine ⟨?_,32,_,attrMark_L _,by decide⟩
        rw [attrMark_L];simp only [List.mem_append];rintro ((h | h) | h);exact absurd h (by decide);exact escV_13 _ h;exact absurd h (by decide)
      · exact ⟨by decide,62,[],rfl,by decide⟩
    · rw [mails_cons,mails_cons,mails_cons,p1,attrMark_L,spelledV]
      rw [mail_plain (l := [60] ++ c.2.1.cps.toList) (c := 60) (by rw [List.mem_append];rintro (h | h);exact absurd h (by decide);exact hname.1 h) (by rw [List.mem_append];rintro (h | h);exact absurd h (by decide);exact hname.2 h) rfl (by decide)]
      rw [mail_plain (l := [32,107,61,34] ++ c.2.2.cps.toList.flatMap (escOne tblV) ++ [34]) (c := 32) (by simp only [List.mem_append];rintro ((h | h) | h);exact absurd h (by decide);exact escV_free _ h;exact absurd h (by decide)) (by simp only [List.mem_append];rintro ((h | h) | h);exact absurd h (by decide);exact escV_13 _ h;exact absurd h (by decide)) rfl (by decide)]
      show _ ++ (_ ++ (mail [62] ++ [])) = _
      rw [show mail [62] = [62] by decide +kernel,List.append_nil]
      simp only [List.append_assoc]
    · show rowB true (cat (st.out ++ (st.flushed ++ [Str.ofString "<" ++ c.2.1,attrMark c.2.2,Str.ofString ">"]))) = false
      rw [cat_append,cat_append,cat_cons,cat_cons,← List.append_assoc,← List.append_assoc,← List.append_assoc]
      exact row_mark (post := []) (by decide)
    · show lt.depth + 1 = _;rw [B.d];simp
    · exact B.b
  · have g1 : tellOne st c = ⟨st.stack.dropLast,[],true,decide (st.stack.dropLast.length = 0),st.out ++ (st.flushed ++ [endMark c.2.1])⟩ := by unfold tellOne;rw [if_neg (by rw [h0];decide),if_pos h0]
    have gm : lt.marks c = [60,47] ++ c.2.1.cps.toList ++ [62] := by unfold LT.marks;rw [if_neg (by rw [h0];decide),if_pos h0]
    have g2 : toldOne lt c = ⟨lt.whole ++ (spelled tblN lt.held ++ ([60,47] ++ c.2.1.cps.toList ++ [62])),lt.straight ++ dotFirst lt.held ++ (spelled tblN lt.held ++ ([60,47] ++ c.2.1.cps.toList ++ [62])),[],lt.depth - 1,decide (lt.depth - 1 = 0)⟩ := by
      unfold toldOne;rw [if_neg (by rw [h0];decide),gm];simp only [if_pos h0,if_neg (show ¬ c.1 = 0 by rw [h0];decide)]
    have hname : 10 ∉ c.2.1.cps.toList ∧ 13 ∉ c.2.1.cps.toList := by rcases h2 with e | e | e <;> rw [e] <;> decide
    have hl : st.stack.length = w.length + 1 := by rw [h1];simp
    have hd : st.stack.dropLast.length = w.length := by rw [h1];simp
    have n10 : 10 ∉ [60,47] ++ c.2.1.cps.toList ++ [62] := by simp only [List.mem_append];rintro ((h | h) | h);exact absurd h (by decide);exact hname.1 h;exact absurd h (by decide)
    have n13 : 13 ∉ [60,47] ++ c.2.1.cps.toList ++ [62] := by simp only [List.mem_append];rintro ((h | h) | h);exact absurd h (by decide);exact hname.2 h;exact absurd h (by decide)
    rw [g1] at ok' ⊢
    rw [g2]
    refine B.chunk (c := c) (M := [endMark c.2.1]) ok' ?_ ?_ (.inl ?_) rfl rfl rfl rfl rfl ?_ ?_
    · intro p hp
      rw [List.mem_singleton.mp hp]
      exact ⟨by rw [endMark_L];exact n13,60,_,endMark_L _,by decide⟩
    · rw [mails_cons,endMark_L,mail_plain n10 n13 (c := 60) rfl (by decide)]
      exact List.append_nil _
    · show rowB true (cat (st.out ++ (st.flushed ++ [endMark c.2.1]))) = false
      rw [cat_append,cat_append,cat_cons,endMark_L,show cat [] = [] from rfl,List.append_nil,← List.append_assoc]
      exact row_mark (by decide)
    · show lt.depth - 1 = _;rw [B.d,hl,hd];omega
    · show decide (lt.depth - 1 = 0) = decide _
      rw [B.d,hl,hd]
      by_cases hw : w.length = 0
      · rw [hw];rfl
      · rw [decide_eq_false (by omega),decide_eq_false hw]
  · have hs := B.ok.seen h2
    have g1 : tellOne st c = ⟨st.stack,st.held ++ [c.2.2],st.seen,st.done,st.out⟩ := by unfold tellOne;rw [if_neg (by rw [h0];decide),if_neg (by rw [h0];decide),if_pos h0]
    have g2 : toldOne lt c = ⟨lt.whole,lt.straight,lt.held ++ c.2.2.cps.toList,lt.depth,lt.behind⟩ := by unfold toldOne;rw [if_pos h0]
    rw [g1] at ok' ⊢
    rw [g2]
    refine ⟨ok',?_,B.d,B.b,B.w,B.s,B.n,B.r⟩
    show lt.held ++ _ = cat (st.held ++ [c.2.2])
    rw [cat_append,B.h]
    show _ = _ ++ (c.2.2.cps.toList ++ [])
    rw [List.append_nil]
  · have n0 : c.1 ≠ 0 := by rcases h0 with e | e <;> rw [e] <;> decide
    have n1 : c.1 ≠ 1 := by rcases h0 with e | e <;> rw [e] <;> decide
    have n2 : c.1 ≠ 2 := by rcases h0 with e | e <;> rw [e] <;> decide
    obtain ⟨pre,post,⟨a1,a2,a3⟩,_,hL,⟨b1,b2⟩,⟨d,b3,b4⟩,⟨q,hq⟩,hT⟩ := remOf_L h0 h1
    have g1 : tellOne st c = ⟨st.stack,[],st.seen,st.done,st.out ++ ((if st.done = true then [Str.ofString "\n"] else st.flushed) ++ [remOf c] ++ if st.seen = true then [] else [Str.ofString "\n"])⟩ := by unfold tellOne;rw [if_neg n0,if_neg n1,if_neg n2]
    have g2 : toldOne lt c = ⟨lt.whole ++ (spelled tblN lt.held ++ lt.marks c),lt.straight ++ dotFirst lt.held ++ (spelled tblN lt.held ++ lt.marks c),[],lt.depth,lt.behind⟩ := by
      unfold toldOne;rw [if_neg n2];simp only [if_neg n0,if_neg n1]
    have h13 : 13 ∉ (if (c.1 = 3 ∨ c.2.2.cps.toList ≠ []) then c.2.2.cps.toList.flatMap (escOne tblN) else []) := by
      split
      · exact escN_13 _
      · simp
    have mk : Mark (remOf c) := by
      refine ⟨?_,?_⟩
      · rw [hL];simp only [List.mem_append];rintro ((h | h) | h);exact a2 h;exact h13 h;exact b2 h
      · cases pre with
        | nil => cases a3
        | cons x r => exact ⟨x, _, hL, by have : x = 60 := by simpa using a3
                                          rw [this];decide⟩
    have mm : mail (remOf c).cps.toList = if c.1 = 3 then [60,33,45,45] ++ spelled tblN c.2.2.cps.toList ++ [45,45,62] else if c.2.2.cps.toList = [] then [60,63,112,63,62] else [60,63,112,32] ++ spelled tblN c.2.2.cps.toList ++ [63,62] := by
      rw [hT,hL,mail_wrap a1 a2 a3 (by decide) b1 b2 b3 b4 h13]
      congr 2
      split
      · rw [spelledN]
      · rfl
    have hnl : Mark (Str.ofString "\n") := ⟨by decide,10,[],rfl,by decide⟩
    have hmail : mail (Str.ofString "\n").cps.toList = [13,10] := by decide +kernel
    have gm : lt.marks c = (if st.done = true then [13,10] else []) ++ mail (remOf c).cps.toList ++ (if st.seen = true then [] else [13,10]) := by
      unfold LT.marks
      rw [if_neg n0,if_neg n1,mm,B.b]
      congr 1
      by_cases hs : st.seen = true
      · rw [if_pos hs,if_neg]
        rintro ⟨e1,e2⟩
        have := B.ok.mid hs e2
        rw [B.d] at e1
        exact this (List.length_eq_zero_iff.mp (by omega))
      · have hs' : st.seen = false := by simpa using hs
        obtain ⟨s0,s1,s2⟩ := B.ok.seen0 hs'
        rw [if_neg hs,if_pos ⟨by rw [B.d,s0];rfl,s2⟩]
    have hfd : st.done = true → st.flushed = [] := by
      intro e
      unfold TS.flushed TS.text
      rw [(B.ok.done0 e).2];rfl
    rw [g1] at ok' ⊢
    rw [g2]
    refine B.chunk (c := c) (M := (if st.done = true then [Str.ofString "\n"] else []) ++ [remOf c] ++ if st.seen = true then [] else [Str.ofString "\n"]) ok' ?_ ?_ ?_ ?_ rfl rfl rfl rfl B.d B.b
    · intro p hp
      simp only [List.mem_append] at hp
      rcases hp with (hp | hp) | hp
      · split at hp
        · rw [List.mem_singleton.mp hp];exact hnl
        · cases hp
      · rw [List.mem_singleton.mp hp];exact mk
      · split at hp
        · cases hp
        · rw [List.mem_singleton.mp hp];exact hnl
    · rw [mails_append,mails_append,gm]
      congr 1
      · congr 1
        · split
          · show mail (Str.ofString "\n").cps.toList ++ [] = _;rw [hmail];rfl
          · rfl
        · exact List.append_nil _
      · split
        · rfl
        · show mail (Str.ofString "\n").cps.toList ++ [] = _;rw [hmail];rfl
    · by_cases hs : st.stack = []
      · exact .inr hs
      · left
        obtain ⟨s1,s2⟩ := B.ok.seen hs
        show rowB true (cat (st.out ++ _)) = false
        rw [s1,s2]
        simp only [if_true,Bool.false_eq_true,if_false,List.append_nil]
        rw [cat_append,cat_append,cat_cons,hL,hq,show cat [] = [] from rfl,List.append_nil,← List.append_assoc,← List.append_assoc,← List.append_assoc,← List.append_assoc]
        exact row_mark (post := []) (by decide)
    · show st.out ++ _ = st.out ++ _
      by_cases e : st.done = true
      · rw [hfd e,if_pos e];rfl
      · rw [if_neg e,if_neg e];simp only [List.append_assoc,List.nil_append]
end
section
local macro_rules (kind := PySem.W.tacticK_extra_) | x => topOf "plain3 plain2 plain1 lcdef wr2 ltext plain0 pure1 ints fast txt2 lt wr0 bound oo mac0 om" x
noncomputable def st0 : TS := ⟨[],[],false,false,[]⟩
noncomputable def lt0 : LT := ⟨[],[],[],0,false⟩
noncomputable def tellAll (cs : List LCall) : TS := cs.foldl tellOne st0
noncomputable def toldAll (cs : List LCall) : LT := cs.foldl toldOne lt0
def Okays : TS → List LCall → Prop
  | _,[] => True
  | st,c :: cs => okStep st c ∧ Okays (tellOne st c) cs
theorem Okays.append : ∀ {a b : List LCall} {st : TS},Okays st a → Okays (a.foldl tellOne st) b → Okays st (a ++ b)
  | [],_,_,_,h => h
  | _ :: _,_,_,h,h' => ⟨h.1,Okays.append h.2 h'⟩
theorem Okays.at : ∀ {cs : List LCall} {st : TS},Okays st cs → ∀ {i : Nat} {c : LCall},cs[i]? = some c → okStep ((cs.take i).foldl tellOne st) c
  | [],_,_,i,c,h => by simp at h
  | d :: _,_,o,0,c,h => by
    have : d = c := by simpa using h
    subst this;exact o.1
  | d :: cs,st,o,i + 1,c,h => by
    have := Okays.at o.2 (i := i) (c := c) (by simpa using h)
    simpa using this
theorem tok0 : TOk st0 := ⟨fun _ => ⟨rfl,rfl,rfl⟩,fun h => (by cases h),fun h => (by cases h)⟩
theorem both0 : Both st0 lt0 := ⟨tok0,rfl,rfl,rfl,rfl,rfl,by decide,fun h => absurd rfl h⟩
theorem both_all : ∀ {cs : List LCall} {st : TS} {lt : LT},Both st lt → Okays st cs → Both (cs.foldl tellOne st) (cs.foldl toldOne lt)
  | [],_,_,B,_ => B
  | c :: cs,st,lt,B,o => both_all (cs := cs) (st := tellOne st c) (lt := toldOne lt c) (B.step o.1) o.2
theorem tok_all : ∀ {cs : List LCall} {st : TS},TOk st → Okays st cs → TOk (cs.foldl tellOne st)
  | [],_,B,_ => B
  | c :: cs,st,B,o => tok_all (cs := cs) (st := tellOne st c) (B.step o.1) o.2
theorem tellText_len (q : Int) : (tellText q).length ≤ 2 := by
  unfold tellText
  rw [PySem.Str.length_append]
  have := pc_len ((q.fdiv 100).fmod 55296).toNat (q.fmod 10).toNat
  have := pc_len ((q.fdiv 100).fmod 55296).toNat ((q.fdiv 10).fmod 10).toNat
  omega
theorem mod2 (x : Int) : x.fmod 2 = 0 ∨ x.fmod 2 = 1 := by
  have h0 : 0 ≤ x.fmod 2 := Int.fmod_nonneg_of_pos _ (by decide)
  have h1 : x.fmod 2 < 2 := Int.fmod_lt_of_pos _ (by decide)
  omega
theorem okRem {st : TS} {x : Int} : okStep st (3 + x.fmod 2,Str.ofString "p",tellText (x.fdiv 2)) :=
  ⟨tellText_len _, .inr (.inr (.inr (.inr ⟨by rcases mod2 x with e | e <;> rw [e];exact .inl rfl;exact .inr rfl,rfl⟩)))⟩
theorem remKeeps {st : TS} {k : Int} {t : Str} (h : k = 3 ∨ k = 4) : (tellOne st (k,Str.ofString "p",t)).stack = st.stack ∧ (tellOne st (k,Str.ofString "p",t)).seen = st.seen := by
  unfold tellOne
  dsimp only
  rw [if_neg (by omega),if_neg (by omega),if_neg (by omega)]
  exact ⟨rfl,rfl⟩
theorem stack_start {st : TS} {x t : Str} : (tellOne st (0,x,t)).stack = st.stack ++ [x] := by
  unfold tellOne;dsimp only;rw [if_pos rfl];split <;> rfl
theorem stack_end {st : TS} {x t : Str} : (tellOne st (1,x,t)).stack = st.stack.dropLast := by
  unfold tellOne;dsimp only;rw [if_neg (by decide),if_pos rfl]
theorem stack_text {st : TS} {x t : Str} : (tellOne st (2,x,t)).stack = st.stack := by
  unfold tellOne;dsimp only;rw [if_neg (by decide),if_neg (by decide),if_pos rfl]
def Name (x : Str) : Prop := x = Str.ofString "r" ∨ x = Str.ofString "a" ∨ x = Str.ofString "b"
structure CInv (st : List Str × List LCall) : Prop where
  o : Okays st0 st.2
  s : (st.2.foldl tellOne st0).stack = st.1
  n : st.1 ≠ []
  z : ∀ x ∈ st.1,Name x
theorem CInv.add {st : List Str × List LCall} (C : CInv st) {c : LCall} {w : List Str} (h : okStep (st.2.foldl tellOne st0) c) (hs : (tellOne (st.2.foldl tellOne st0) c).stack = w) (hn : w ≠ []) (hz : ∀ x ∈ w,Name x) : CInv (w,st.2 ++ [c]) :=
  ⟨C.o.append ⟨h,trivial⟩,by rw [List.foldl_append];exact hs,hn,hz⟩
theorem CInv.turn {st : List Str × List LCall} (C : CInv st) (d : Int) : CInv (turnOf st d) := by
  unfold turnOf
  have hz : Name (if (d.fdiv 6).fmod 2 = 0 then Str.ofString "a" else Str.ofString "b") := by split;exact .inr (.inl rfl);exact .inr (.inr rfl)
  have ha : (if (d.fdiv 6).fmod 2 = 0 then Str.ofString "a" else Str.ofString "b") = Str.ofString "a" ∨ (if (d.fdiv 6).fmod 2 = 0 then Str.ofString "a" else Str.ofString "b") = Str.ofString "b" := by split;exact .inl rfl;exact .inr rfl
  generalize (if (d.fdiv 6).fmod 2 = 0 then Str.ofString "a" else Str.ofString "b") = x at hz ha
  have h0 : 0 ≤ d.fmod 6 := Int.fmod_nonneg_of_pos _ (by decide)
  have h6 : d.fmod 6 < 6 := Int.fmod_lt_of_pos _ (by decide)
  split
  · refine C.add ⟨tellText_len _, .inr (.inl ⟨rfl,ha,by rw [C.s];exact C.n⟩)⟩ ?_ (by simp) ?_
    · rw [stack_start,C.s]
    · intro y hy
      rcases List.mem_append.mp hy with h | h
      · exact C.z y h
      · rw [List.mem_singleton.mp h];exact hz
  split
  · rename_i h1 h2
    have hl : st.1 = st.1.dropLast ++ [st.1.getLast C.n] := (List.dropLast_concat_getLast C.n).symm
    have hg : st.1.getLast?.getD (Str.ofString "") = st.1.getLast C.n := by rw [List.getLast?_eq_some_getLast C.n];rfl
    rw [hg]
    refine C.add ⟨by show (Str.ofString "").length ≤ 2;decide, .inr (.inr (.inl ⟨rfl,⟨st.1.dropLast,by rw [C.s];exact hl⟩,C.z _ (List.getLast_mem C.n)⟩))⟩ ?_ ?_ ?_
    · rw [stack_end,C.s]
    · intro e
      have := congrArg List.length e
      rw [List.length_dropLast] at this
      have : st.1.length - 1 = 0 := this
      omega
    · exact fun y hy => C.z y (List.dropLast_subset _ hy)
  split
  · refine C.add ⟨tellText_len _, .inr (.inr (.inr (.inl ⟨rfl,by rw [C.s];exact C.n⟩)))⟩ ?_ C.n C.z
    rw [stack_text];exact C.s
  · have hk : d.fmod 6 - 1 = 3 ∨ d.fmod 6 - 1 = 4 := by omega
    refine C.add ⟨tellText_len _, .inr (.inr (.inr (.inr ⟨hk,rfl⟩)))⟩ ?_ C.n C.z
    rw [(remKeeps hk).1];exact C.s
theorem CInv.turns : ∀ (ds : List Int) {st : List Str × List LCall},CInv st → CInv (ds.foldl turnOf st)
  | [],_,C => C
  | d :: ds,_,C => CInv.turns ds (C.turn d)
theorem cinv0 (x : Int) : CInv ([Str.ofString "r"],[(3 + x.fmod 2,Str.ofString "p",tellText (x.fdiv 2)),(0,Str.ofString "r",Str.ofString "")]) := by
  have hk : 3 + x.fmod 2 = 3 ∨ 3 + x.fmod 2 = 4 := by rcases mod2 x with e | e <;> rw [e];exact .inl rfl;exact .inr rfl
  have k := remKeeps (st := st0) (t := tellText (x.fdiv 2)) hk
  refine ⟨⟨okRem,⟨by decide, .inl ⟨rfl,rfl,rfl,by rw [k.2];rfl⟩⟩,trivial⟩,?_,by simp,fun y hy => by rw [List.mem_singleton.mp hy];exact .inl rfl⟩
  show (tellOne (tellOne st0 _) (0,Str.ofString "r",Str.ofString "")).stack = _
  rw [stack_start,k.1];rfl
theorem ends_snoc (w : List Str) (x : Str) : endsOf (w ++ [x]) = (1,x,Str.ofString "") :: endsOf w := by unfold endsOf;rw [List.reverse_append];rfl
theorem ends_ok : ∀ (n : Nat) (w : List Str),w.length = n → (∀ x ∈ w,Name x) → ∀ st : TS,st.stack = w → Okays st (endsOf w)
  | 0,w,h,_,st,_ => by
    obtain rfl := List.length_eq_zero_iff.mp h
    trivial
  | n + 1,w,h,hz,st,hs => by
    have hn : w ≠ [] := fun e => by rw [e] at h;cases h
    have hl : w = w.dropLast ++ [w.getLast hn] := (List.dropLast_concat_getLast hn).symm
    have hx := hz _ (List.getLast_mem hn)
    rw [hl,ends_snoc]
    refine ⟨⟨by show (Str.ofString "").length ≤ 2;decide, .inr (.inr (.inl ⟨rfl,⟨w.dropLast,by rw [hs];exact hl⟩,hx⟩))⟩,?_⟩
    refine ends_ok n w.dropLast (by rw [List.length_dropLast,h];rfl) (fun x hx => hz x (List.dropLast_subset _ hx)) _ ?_
    rw [stack_end,hs]
theorem callsOk (a : List Int) : Okays st0 (callsOf a) := by
  unfold callsOf
  have C := CInv.turns (a.tail.dropLast) (cinv0 (a.headD 0))
  exact (C.o.append (ends_ok _ _ rfl C.z _ C.s)).append ⟨okRem,trivial⟩
theorem out_grows (st : TS) (c : LCall) : ∃ l,(tellOne st c).out = st.out ++ l := by
  unfold tellOne
  repeat' split
  all_goals first | exact ⟨_,rfl⟩ | exact ⟨[],(List.append_nil _).symm⟩
theorem outs_grow : ∀ (cs : List LCall) (st : TS),∃ l,(cs.foldl tellOne st).out = st.out ++ l
  | [],st => ⟨[],(List.append_nil _).symm⟩
  | c :: cs,st => by
    obtain ⟨l,e⟩ := out_grows st c
    obtain ⟨l',e'⟩ := outs_grow cs (tellOne st c)
    exact ⟨l ++ l',by rw [List.foldl_cons,e',e,List.append_assoc]⟩
theorem calls_head (a : List Int) : ∃ r,callsOf a = (3 + (a.headD 0).fmod 2,Str.ofString "p",tellText ((a.headD 0).fdiv 2)) :: r := by
  have grow : ∀ (ds : List Int) (st : List Str × List LCall),∃ r,(ds.foldl turnOf st).2 = st.2 ++ r := by
    intro ds
    induction ds with
    | nil => exact fun st => ⟨[],(List.append_nil _).symm⟩
    | cons d ds ih =>
      intro st
      obtain ⟨r,e⟩ := ih (turnOf st d)
      have : ∃ r',(turnOf st d).2 = st.2 ++ r' := by
        unfold turnOf
        repeat' split
        all_goals exact ⟨_,rfl⟩
      obtain ⟨r',e'⟩ := this
      exact ⟨r' ++ r,by rw [List.foldl_cons,e,e',List.append_assoc]⟩
  obtain ⟨r,e⟩ := grow a.tail.dropLast ([Str.ofString "r"],[(3 + (a.headD 0).fmod 2,Str.ofString "p",tellText ((a.headD 0).fdiv 2)),(0,Str.ofString "r",Str.ofString "")])
  unfold callsOf
  exact ⟨_,by dsimp only;rw [e];rfl⟩
theorem first_mark (a : List Int) : ∃ r,cat (tellAll (callsOf a)).out = 60 :: r := by
  revert a;refine' Mine.tau1 ?_;generalize Mine.ep _ _ = a
  obtain ⟨r,e⟩ := calls_head a
  unfold tellAll
  rw [e,List.foldl_cons]
  have hk : 3 + (a.headD 0).fmod 2 = 3 ∨ 3 + (a.headD 0).fmod 2 = 4 := by rcases mod2 (a.headD 0) with e | e <;> rw [e];exact .inl rfl;exact .inr rfl
  obtain ⟨l,e'⟩ := outs_grow r (tellOne st0 (3 + (a.headD 0).fmod 2,Str.ofString "p",tellText ((a.headD 0).fdiv 2)))
  rw [e',cat_append]
  obtain ⟨pre,post,⟨_,_,a3⟩,_,hL,_⟩ := remOf_L (c := (3 + (a.headD 0).fmod 2,Str.ofString "p",tellText ((a.headD 0).fdiv 2))) hk rfl
  have : (tellOne st0 (3 + (a.headD 0).fmod 2,Str.ofString "p",tellText ((a.headD 0).fdiv 2))).out = [remOf (3 + (a.headD 0).fmod 2,Str.ofString "p",tellText ((a.headD 0).fdiv 2)),Str.ofString "\n"] := by
    unfold tellOne
    dsimp only
    rw [if_neg (by omega),if_neg (by omega),if_neg (by omega)]
    rfl
  rw [this,cat_cons,hL]
  cases pre with
  | nil => cases a3
  | cons x r =>
    have : x = 60 := by simpa using a3
    rw [this]
    exact ⟨_,rfl⟩
theorem plain (a : List Int) : mail (cat (tellAll (callsOf a)).out) = (toldAll (callsOf a)).whole ∧ mail (toldAll (callsOf a)).whole = rep2 10 46 [10, 46, 46] (toldAll (callsOf a)).whole ∧ mails (tellAll (callsOf a)).out = (toldAll (callsOf a)).straight ∧
    joinL [10] ((cut2 13 10 (toldAll (callsOf a)).whole).map undot) = cat (tellAll (callsOf a)).out := by
  have B : Both (tellAll (callsOf a)) (toldAll (callsOf a)) := both_all both0 (callsOk a)
  have e : mail (cat (tellAll (callsOf a)).out) = (toldAll (callsOf a)).whole := by rw [mail_nl B.n];exact B.w.symm
  obtain ⟨r,hr⟩ := first_mark a
  refine ⟨e,?_,B.s.symm,?_⟩
  · rw [← e];exact mail_twice B.n hr (by decide) (by decide)
  · rw [← e];exact mail_rows B.n
end
section
local macro_rules (kind := PySem.W.tacticK_extra_) | x => topOf "lspell plain1 lcdef dicts setrows setdisp skey listlt setcol setwk setit setfx sets loop wr2 ltext quote quote0 plain0 pure1 ints cut fast tslice txt2 lt wr0 bound oo mac0 om" x
section
variable {prog : Program} {w : World} {A : Around} {E : Value → Shared → Prop} {s : Shared} {h₀ : Heap} {L D : Addr} {o : Obj} {news : List (Addr × Obj)} {kvs : List (Str × Value)} {k : Str} {t : Tok}
theorem inD {b : Bool} {Q : Value → Shared → Prop} (N : News h₀ L s.heap news) (hm : (D,o) ∈ news) (hd : o.IsDictOf (PySem.strKind prog w) kvs) (hs : (D == sysModules) = false) (hb : (valueAt kvs k).isSome = b) (h : Q (.bool b) { s with toks := s.toks + 1 }) : wpAny (model prog w) A (compareOp .In (.str k t) (.ref D)) Q E s :=
  kda_in N hm hd hs (PySem.strKind_is prog w k t) b hb h
end
theorem rows_lspell_1 : True := by
  (k_with "lspell:pyIter str" => (k_here;(with_reducible show wpAny _ _ (pyIter (Value.str _ _)) _ _ _);(with_reducible rename Mine.CutOn => hC9'2v);clear hC9'2v;refine Mine.Cut.go ?_))
  (k_with "lspell:compareOp In str ref" => (k_here;(with_reducible show wpAny _ _ (compareOp _ (Value.str _ _) (Value.ref _)) _ _ _);k_dflt (refine' Mine.inD ?N'2w ?M'2w ?D'2w ?S'2w ?R'2w ?_;(case N'2w => k_asm);(case M'2w => k_mem);(case D'2w => with_reducible assumption);(case S'2w => with_reducible assumption);(case R'2w => with_reducible assumption);k_whole)))
  (k_with "lspell:subscriptTail Name Name ref str" => (k_here;(with_reducible show wpAny _ _ (subscriptTail _ _ (Value.ref _) (Value.str _ _)) _ _ _);k_dflt (refine' Mine.itemD ?N'2x ?M'2x ?D'2x ?R'2x ?_ ?hs'2x;(case N'2x => k_asm);(case M'2x => k_mem);(case D'2x => with_reducible assumption);(case R'2x => with_reducible assumption);(case hs'2x => with_unfolding_all rfl);k_whole)))
  trivial
theorem ofL_str (told : List Nat) (y : Str) (l : List Nat) (h : y.cps.toList = l) : ofL told ++ y = ofL (told ++ l) := by rw [ofL_app,h]
theorem ofL_y (told y : List Nat) : ofL told ++ (Str.ofString "&" ++ ofL y) = ofL (told ++ 38 :: y) := by
  rw [ofL_app]
  congr 2
  show (Str.ofString "&" ++ ofL y).cps.toList = _
  show ((Str.ofString "&").cps ++ (ofL y).cps).toList = _
  rw [Array.toList_append,ofL_cps];rfl
theorem sp_end {h₀ : Heap} {L I ND : Addr} {io : Obj} {nw : List (Addr × Obj)} {s s' : Shared} {m : Str → Option Value} {told told' : List Nat} {i : Nat} {tk : Tok} (hs : Same s s') (F : Fr h₀ L s'.heap m) (N : News h₀ L s'.heap ((I, io) :: nw)) (hne : ∀ p ∈ nw, p.1 ≠ I)
    (h1 : m (Str.ofString "told") = some (.str (ofL told') tk)) (h2 : m (Str.ofString "names") = some (.ref ND)) (e : told = told') (hl : told'.length ≤ 10 * (i + 1)) :
    LoopEnd h₀ L (fun m nw' => ∃ (u : Str → Option Value) (tk : Tok),m = (fun z => if z = Str.ofString "told" then some (.str (ofL told) tk) else if z = Str.ofString "names" then some (.ref ND) else u z) ∧ nw' = nw ∧ told.length ≤ 10 * (i + 1)) (I,io) s .next s' := by
  subst e
  exact ⟨.inl rfl,m,nw,_,hs,F,N, .head _,fun q hq => .tail _ hq,hne,m,tk,map2 h1 h2,rfl,hl⟩
theorem sp_y {tbl : Nat → Option (List Nat)} {told y : List Nat} {c : Nat} (h : tbl c = some y) : spellStep tbl told c = told ++ 38 :: y := by unfold spellStep;rw [h]
theorem sp_10 {tbl : Nat → Option (List Nat)} {told : List Nat} {c : Nat} (h : tbl c = none) (e : ({ cps := #[c] } == Str.ofString "\n") = true) : spellStep tbl told c = told ++ [13,10] := by
  have : c = 10 := by rw [str_beq] at e;have e : [c] = [10] := of_decide_eq_true e;simpa using e
  subst this
  unfold spellStep;rw [h];rfl
theorem sp_46 {tbl : Nat → Option (List Nat)} {told : List Nat} {c : Nat} (h : tbl c = none) (e : ({ cps := #[c] } == Str.ofString ".") = true) (e2 : (Txt.slice (ofL told) (some (-1)) none == Str.ofString "\n") = true) : spellStep tbl told c = told ++ [46,46] := by
  have : c = 46 := by rw [str_beq] at e;have e : [c] = [46] := of_decide_eq_true e;simpa using e
  subst this
  rw [slice_last] at e2
  have e2 := of_decide_eq_true e2
  unfold spellStep;rw [h]
  dsimp only
  rw [if_neg (by decide),if_pos ⟨rfl,e2⟩]
theorem sp_c {tbl : Nat → Option (List Nat)} {told : List Nat} {c : Nat} (h : tbl c = none) (e1 : ({ cps := #[c] } == Str.ofString "\n") = false) (e : ({ cps := #[c] } == Str.ofString ".") = false ∨ (Txt.slice (ofL told) (some (-1)) none == Str.ofString "\n") = false) : spellStep tbl told c = told ++ [c] := by
  have n1 : c ≠ 10 := fun x => by subst x;exact absurd e1 (by decide)
  unfold spellStep;rw [h]
  dsimp only
  rw [if_neg n1,if_neg]
  rintro ⟨rfl,e2⟩
  rcases e with e | e
  · exact absurd e (by decide)
  · rw [slice_last,decide_eq_true e2] at e;cases e
def lspelledP (l : Lt) : Prop :=
  (((l.b 13),(l.o 0)) ∈ (l.rest 0)) →
  ((l.o 0).IsDictOf (PySem.strKind PySem.Challenge.rw_pg0304_01.row.prog l.w) (l.kv 0)) →
  (((l.b 13) == sysModules) = false) →
  (∀ c : Nat,(valueAt (l.kv 0) ⟨#[c]⟩ = none ∧ (l.tb 0) c = none) ∨ ∃ y t,valueAt (l.kv 0) ⟨#[c]⟩ = some (.str (ofL y) t) ∧ (l.tb 0) c = some y ∧ y.length ≤ 8) →
  ((l.x 0).length ≤ 50) →
  SpecL l 220 2 20 (l.rest 0) [.str (l.x 0) (l.t 19), .ref (l.b 13)] (fun v news' => ∃ t,v = .str (ofL (spelled (l.tb 0) (l.x 0).cps.toList)) t ∧ news' = (l.rest 0))
@[irreducible] noncomputable def cSp : Lt := Classical.choose (Lt.ex lspelledP)
theorem lspelled_c : lspelledP cSp := by
  unfold lspelledP SpecL SpecQ
  k_fill
  generalize cSp.w = w;generalize cSp.rest 0 = news;generalize cSp.b 13 = ND;generalize cSp.o 0 = o;generalize cSp.kv 0 = kvs;generalize cSp.tb 0 = tbl;generalize cSp.x 0 = x;generalize cSp.t 19 = tx
  generalize cSp.mean = mean;generalize cSp.mg = mg;generalize cSp.mb = mb;generalize cSp.dp = dp;generalize cSp.un = un;generalize cSp.gd = gd;generalize cSp.cn = cn;generalize cSp.cs = cs
  generalize cSp.a = a;generalize cSp.ccd = ccd;generalize cSp.cl = cl;generalize cSp.outer = outer;generalize cSp.A₀ = A₀;generalize cSp.base = base;generalize cSp.h₀ = h₀;generalize cSp.L = L
  generalize cSp.m = m;generalize cSp.s = s;generalize cSp.R = R
  intros hm hd hs0 hk hx B F X N T hk0 hts hd1 hu hret
  k_dflt (refine' code_def (binds := [("text", .str x tx),("names", .ref ND)]) ?k1 ?k2 ?k3 ?k4 ?k5 ?kA ?kF ?kK ?k6 ?k7 ?k8 ?k9 ?kB ?_ ?c2 ?c3 ?c4 ?c5;(case kA => exact rfl);(case kF => exact rfl);(case kK => assumption);(case k1 => k_asm);(case k2 => k_asm);(case k3 => k_asm);(case k4 => k_asm);(case k5 => k_asm);(case k6 => k_is);(case k7 => k_is);(case k8 => ktr_room);(case k9 => exact BindsTo.of_eq rfl);(case c5 => decide);(case kB => exact locs rfl);(case c2 => exact rfl);(case c3 => exact rfl);(case c4 => exact rfl);k_whole;intro g' L' h' FG' F' N' B' X' T';(try dsimp only);(try k_lift B');(try k_fold))
  have cutOn : CutOn := trivial
  k_steps
  unfold Cut
  (rename News _ _ _ _ => N5);(rename Fr _ _ _ _ => F5)
  refine' iter_txt (fun i m nw => ∃ (u : Str → Option Value) (tk : Tok),m = (fun z => if z = Str.ofString "told" then some (.str (ofL ((x.cps.toList.take i).foldl (spellStep tbl) [])) tk) else if z = Str.ofString "names" then some (.ref ND) else u z) ∧ nw = news ∧ ((x.cps.toList.take i).foldl (spellStep tbl) []).length ≤ 10 * i) ?hh ?hgo F5 N5 ?h0 ?ht ?turn ?done
  (case hh => exact rfl)
  (case hgo => intro _ _;rfl)
  (case h0 => exact ⟨_,_,map2 rfl rfl,rfl,Nat.le_refl _⟩)
  (case ht => (refine Mine.leT ?_;(try dsimp only);omega))
  (case turn =>
    intro i c u m₁ nw h dr tk I io hc hJ F1 N1 hne ht1
    obtain ⟨u0,tk0,rfl,rfl,hl⟩ := hJ
    have hi : i < x.length := by
      have : i < x.cps.size := by
        rcases Nat.lt_or_ge i x.cps.size with h | h
        · exact h
        · rw [Array.getElem?_eq_none h] at hc;cases hc
      exact this
    have hstep : (x.cps.toList.take (i + 1)).foldl (spellStep tbl) [] = spellStep tbl ((x.cps.toList.take i).foldl (spellStep tbl) []) c := by
      rw [List.take_add_one,show x.cps.toList[i]? = some c by simpa using hc,List.foldl_append];rfl
    rw [hstep]
    generalize (x.cps.toList.take i).foldl (spellStep tbl) [] = told at hl F1
    have htl : (ofL told).length ≤ 500 := by rw [ofL_len];omega
    clear hstep hc F5 N5
    rcases hk c with ⟨k1,k2⟩ | ⟨y,ty,k1,k2,k3⟩
    · have k4 : (valueAt kvs ⟨#[c]⟩).isSome = false := by rw [k1];rfl
      k_steps
      · (rename Fr _ _ _ _ => F9);(rename News _ _ _ _ => N9)
        refine' sp_end (told' := told ++ [13,10]) ⟨rfl,rfl⟩ F9 N9 hne ?b1 rfl ?b2 ?b3
        (case b1 => rw [← ofL_str told "\x0d\n" [13,10] (by decide +kernel)];rfl)
        (case b2 => exact sp_10 k2 (by assumption))
        (case b3 => rw [List.length_append];simp only [List.length_cons,List.length_nil];omega)
      · (rename Fr _ _ _ _ => F9);(rename News _ _ _ _ => N9)
        refine' sp_end (told' := told ++ [46,46]) ⟨rfl,rfl⟩ F9 N9 hne ?b1 rfl ?b2 ?b3
        (case b1 => rw [← ofL_str told ".." [46,46] (by decide +kernel)];rfl)
        (case b2 => exact sp_46 k2 (by assumption) (by assumption))
        (case b3 => rw [List.length_append];simp only [List.length_cons,List.length_nil];omega)
      · (rename Fr _ _ _ _ => F9);(rename News _ _ _ _ => N9)
        refine' sp_end (told' := told ++ [c]) ⟨rfl,rfl⟩ F9 N9 hne ?b1 rfl ?b2 ?b3
        (case b1 => rw [← ofL_app told ⟨#[c]⟩];rfl)
        (case b2 => exact sp_c k2 (by assumption) (.inr (by assumption)))
        (case b3 => rw [List.length_append];simp only [List.length_cons,List.length_nil];omega)
      · (rename Fr _ _ _ _ => F9);(rename News _ _ _ _ => N9)
        refine' sp_end (told' := told ++ [c]) ⟨rfl,rfl⟩ F9 N9 hne ?b1 rfl ?b2 ?b3
        (case b1 => rw [← ofL_app told ⟨#[c]⟩];rfl)
        (case b2 => exact sp_c k2 (by assumption) (.inl (by assumption)))
        (case b3 => rw [List.length_append];simp only [List.length_cons,List.length_nil];omega)
    · have k4 : (valueAt kvs ⟨#[c]⟩).isSome = true := by rw [k1];rfl
      have k5 : (ofL y).length ≤ 8 := by rw [ofL_len];exact k3
      k_steps
      · (rename Fr _ _ _ _ => F9);(rename News _ _ _ _ => N9)
        refine' sp_end (told' := told ++ (38 :: y)) ⟨rfl,rfl⟩ F9 N9 hne ?b1 rfl ?b2 ?b3
        (case b1 => rw [← ofL_y told y];rfl)
        (case b2 => exact sp_y k2)
        (case b3 => rw [List.length_append];rw [List.length_cons];omega)
    )
  (case done =>
    intro m₁ nw h dr tk hJ F1 N1 ht1
    obtain ⟨u0,tk0,rfl,rfl,hl⟩ := hJ
    k_steps
    refine hret _ _ _ ⟨tk0,?_,rfl⟩ ⟨rfl,rfl⟩ (by assumption) (by assumption)
    rw [show x.cps.toList.take x.cps.size = x.cps.toList by rw [← Array.length_toList,List.take_length]];rfl)
theorem lspelled : ∀ (w : World) (news : List (Addr × Obj)) (ND : Addr) (o : Obj) (kvs : List (Str × Value)) (tbl : Nat → Option (List Nat)) (x : Str) (tx : Tok) (hm : (ND,o) ∈ news) (hd : o.IsDictOf (PySem.strKind PySem.Challenge.rw_pg0304_01.row.prog w) kvs) (hs0 : (ND == sysModules) = false) (hk : ∀ c : Nat,(valueAt kvs ⟨#[c]⟩ = none ∧ tbl c = none) ∨ ∃ y t,valueAt kvs ⟨#[c]⟩ = some (.str (ofL y) t) ∧ tbl c = some y ∧ y.length ≤ 8) (hx : x.length ≤ 50),Spec w 220 2 20 news [.str x tx, .ref ND] (fun v news' => ∃ t,v = .str (ofL (spelled tbl x.cps.toList)) t ∧ news' = news) := by
  intros w news ND o kvs tbl x tx hm hd hs0 hk hx
  refine Spec.close fun mean mg mb dp un gd cn cs a ccd cl outer A₀ base h₀ L m s R => ?_
  exact tau (by unfold cSp;rfl) lspelled_c { ltL0 with w := w,b := nth 0 [0,0,0,0,0,0,0,0,0,0,0,0,0,ND],x := nth default [x],t := nth 0 [0,0,0,0,0,0,0,0,0,0,0,0,0,0,0,0,0,0,0,tx],o := nth default [o],rest := nth [] [news],kv := nth [] [kvs],tb := nth (fun _ => none) [tbl],mean,mg,mb,dp,un,gd,cn,cs,a,ccd,cl,outer,A₀,base,h₀,L,m,s,R } hm hd hs0 hk hx
theorem rows_lspell_2 : True := by
  (k_with "lspell:call ref" => (k_here;(with_reducible show wpAny _ _ (call (Value.ref 220) [Value.str _ _,Value.ref _]) _ _ _);k_dflt (refine' Mine.Spec.callC (Mine.lspelled _ _ _ _ _ _ _ _ ?P1'2y ?P2'2y ?P3'2y ?P4'2y ?P5'2y) ?B9'2y ?F9'2y ?X9'2y ?N9'2y ?T9'2y ?hk9'2y ?ht9'2y ?hd9'2y ?hu9'2y ?_;(case B9'2y => k_asm);(case F9'2y => k_asm);(case X9'2y => k_asm);(case N9'2y => k_asm);(case T9'2y => k_asm);(case hk9'2y => first | assumption | exact rfl);(case ht9'2y => (refine Mine.leT ?_;(try dsimp only);omega));(case hd9'2y => ktr_room);(case hu9'2y => ktr_units);(case P1'2y => k_mem);(case P2'2y => with_reducible assumption);(case P3'2y => with_reducible assumption);(case P4'2y => with_reducible assumption);(case P5'2y => first | assumption | omega);k_whole;intro v''2y news9''2y h9''2y dr9''2y tk9''2y hr'2y F''2y N''2y tk''2y;(obtain ⟨t''2y,hv'2y,hn'2y⟩ := hr'2y);(subst hv'2y);(subst hn'2y);(try dsimp only at N''2y);(try dsimp only))))
  trivial
end
section
local macro_rules (kind := PySem.W.tacticK_extra_) | x => topOf "ltold lspell plain3 plain2 plain1 lcdef lst dicts setrows setdisp skey listlt setcol setwk setit setfx sets loop wr1 wr2 ltext quote quote0 plain0 pure1 ints cut fast tslice txt2 lt wr0 bound oo mac0 om" x
structure Small (lt : LT) (i : Nat) : Prop where
  w : lt.whole.length ≤ 2000 * i
  s : lt.straight.length ≤ 2000 * i
  h : lt.held.length ≤ 2 * i
  d0 : -(i : Int) ≤ lt.depth
  d1 : lt.depth ≤ i
def Shape (c : LCall) : Prop := c.2.2.length ≤ 2 ∧ ((c.1 = 0 ∧ Name c.2.1) ∨ (c.1 = 1 ∧ Name c.2.1) ∨ c.1 = 2 ∨ ((c.1 = 3 ∨ c.1 = 4) ∧ c.2.1 = Str.ofString "p"))
theorem map7 {m : Str → Option Value} {y0 y1 y2 y3 y4 y5 y6 : Str} {v0 v1 v2 v3 v4 v5 v6 : Option Value} (h0 : m y0 = v0) (h1 : m y1 = v1) (h2 : m y2 = v2) (h3 : m y3 = v3) (h4 : m y4 = v4) (h5 : m y5 = v5) (h6 : m y6 = v6) : m = fun z => if z = y0 then v0 else if z = y1 then v1 else if z = y2 then v2 else if z = y3 then v3 else if z = y4 then v4 else if z = y5 then v5 else if z = y6 then v6 else m z := by
  funext z
  by_cases e0 : z = y0
  · rw [if_pos e0,e0,h0]
  rw [if_neg e0]
  by_cases e1 : z = y1
  · rw [if_pos e1,e1,h1]
  rw [if_neg e1]
  by_cases e2 : z = y2
  · rw [if_pos e2,e2,h2]
  rw [if_neg e2]
  by_cases e3 : z = y3
  · rw [if_pos e3,e3,h3]
  rw [if_neg e3]
  by_cases e4 : z = y4
  · rw [if_pos e4,e4,h4]
  rw [if_neg e4]
  by_cases e5 : z = y5
  · rw [if_pos e5,e5,h5]
  rw [if_neg e5]
  by_cases e6 : z = y6
  · rw [if_pos e6,e6,h6]
  rw [if_neg e6]
theorem rows_ltold_1 : True := by
  (k_with "ltold:pyIter ref" => (k_here;(with_reducible show wpAny _ _ (pyIter (Value.ref _)) _ _ _);(with_reducible rename Mine.CutOn => hC9'2z);clear hC9'2z;refine Mine.Cut.go ?_))
  (k_with "ltold:execs cons If cons" => (k_here;(first | (with_reducible show wpAny _ _ (execs (Stmt.If (Expr.Compare (Expr.Subscript _ _ _) _ _ _) _ _ _ :: _) _) _ _ _) | (with_reducible show wpAny _ _ (execs (Stmt.If (Expr.Compare (Expr.Name (PySem.Str.ofString "kind") _) _ _ _) _ _ _ :: _) _) _ _ _));(with_reducible rename Mine.CutOn => hC9'30);clear hC9'30;refine Mine.Cut.go ?_))
  trivial
theorem iaddK {prog : Program} {w : World} {A : Around} {E : Value → Shared → Prop} {s : Shared} {x y : Str} {t u : Tok} {a b : Nat} {Q : Value → Shared → Prop} (ha : x.length ≤ a) (hb : y.length ≤ b) (hs : a + b ≤ 16777216) (h : ∀ t' tk,Q (.str (x ++ y) t') { s with toks := tk }) : wpAny (model prog w) A (inplaceOp .Add (.str x t) (.str y u)) Q E s :=
  iadd_str h (by rw [sizeLine_eq];omega)
theorem rows_ltold_2 : True := by
  (k_with "m:kt_len" => (with_reducible assumption))
  (k_with "ltold:inplaceOp Add str str" => (k_here;(with_reducible refine' Mine.iaddK ?ha9'32 ?hb9'32 ?hs9'32 ?_);(case ha9'32 => k_dflt kt_len);(case hb9'32 => k_dflt kt_len);(case hs9'32 => exact Nat.le_of_ble_eq_true rfl);intro t''32 k''32))
  trivial
theorem lit1 (d c : Nat) : ((⟨#[d]⟩ : Str) = ⟨#[c]⟩) ↔ d = c := by
  constructor
  · intro h;have := congrArg (fun x : Str => x.cps.toList) h;simpa using this
  · intro h;rw [h]
theorem valueAt_cons {k x : Str} {v : Value} {r : List (Str × Value)} : valueAt ((k,v) :: r) x = if k = x then some v else valueAt r x := by
  by_cases h : k = x <;> simp [valueAt,h]
theorem valueAt_nil {x : Str} : valueAt ([] : List (Str × Value)) x = none := rfl
theorem tblN_of {w : World} {o : Obj} {a0 b0 a1 b1 a2 b2 a3 b3 : Tok} (_d : o.IsDictOf (PySem.strKind PySem.Challenge.rw_pg0304_01.row.prog w) (strPairs [(Value.str (Str.ofString "&") a0,Value.str (Str.ofString "amp;") b0),(Value.str (Str.ofString "<") a1,Value.str (Str.ofString "lt;") b1),(Value.str (Str.ofString ">") a2,Value.str (Str.ofString "gt;") b2),(Value.str (Str.ofString "\r") a3,Value.str (Str.ofString "#xD;") b3)])) : ∀ c : Nat,(valueAt (strPairs [(Value.str (Str.ofString "&") a0,Value.str (Str.ofString "amp;") b0),(Value.str (Str.ofString "<") a1,Value.str (Str.ofString "lt;") b1),(Value.str (Str.ofString ">") a2,Value.str (Str.ofString "gt;") b2),(Value.str (Str.ofString "\r") a3,Value.str (Str.ofString "#xD;") b3)]) ⟨#[c]⟩ = none ∧ tblN c = none) ∨ ∃ y t,valueAt (strPairs [(Value.str (Str.ofString "&") a0,Value.str (Str.ofString "amp;") b0),(Value.str (Str.ofString "<") a1,Value.str (Str.ofString "lt;") b1),(Value.str (Str.ofString ">") a2,Value.str (Str.ofString "gt;") b2),(Value.str (Str.ofString "\r") a3,Value.str (Str.ofString "#xD;") b3)]) ⟨#[c]⟩ = some (.str (ofL y) t) ∧ tblN c = some y ∧ y.length ≤ 8 := by
  intro c
  show (valueAt [((⟨#[38]⟩ : Str),Value.str (Str.ofString "amp;") b0),((⟨#[60]⟩ : Str),Value.str (Str.ofString "lt;") b1),((⟨#[62]⟩ : Str),Value.str (Str.ofString "gt;") b2),((⟨#[13]⟩ : Str),Value.str (Str.ofString "#xD;") b3)] ⟨#[c]⟩ = none ∧ _) ∨ ∃ y t,valueAt [((⟨#[38]⟩ : Str),Value.str (Str.ofString "amp;") b0),((⟨#[60]⟩ : Str),Value.str (Str.ofString "lt;") b1),((⟨#[62]⟩ : Str),Value.str (Str.ofString "gt;") b2),((⟨#[13]⟩ : Str),Value.str (Str.ofString "#xD;") b3)] ⟨#[c]⟩ = _ ∧ _
  simp only [valueAt_cons,valueAt_nil,lit1]
  unfold tblN
  by_cases h0 : c = 38
  · subst h0;exact .inr ⟨_,b0,by first | rfl | (simp;rfl),by first | rfl | simp,by decide⟩
  by_cases h1 : c = 60
  · subst h1;exact .inr ⟨_,b1,by first | rfl | (simp;rfl),by first | rfl | simp,by decide⟩
  by_cases h2 : c = 62
  · subst h2;exact .inr ⟨_,b2,by first | rfl | (simp;rfl),by first | rfl | simp,by decide⟩
  by_cases h3 : c = 13
  · subst h3;exact .inr ⟨_,b3,by first | rfl | (simp;rfl),by first | rfl | simp,by decide⟩
  exact .inl ⟨by simp [Ne.symm h0,Ne.symm h1,Ne.symm h2,Ne.symm h3],by simp [h0,h1,h2,h3]⟩
theorem tblV_of {w : World} {o : Obj} {a0 b0 a1 b1 a2 b2 a3 b3 a4 b4 a5 b5 : Tok} (_d : o.IsDictOf (PySem.strKind PySem.Challenge.rw_pg0304_01.row.prog w) (strPairs [(Value.str (Str.ofString "&") a0,Value.str (Str.ofString "amp;") b0),(Value.str (Str.ofString "<") a1,Value.str (Str.ofString "lt;") b1),(Value.str (Str.ofString "\"") a2,Value.str (Str.ofString "quot;") b2),(Value.str (Str.ofString "\t") a3,Value.str (Str.ofString "#x9;") b3),(Value.str (Str.ofString "\n") a4,Value.str (Str.ofString "#xA;") b4),(Value.str (Str.ofString "\r") a5,Value.str (Str.ofString "#xD;") b5)])) : ∀ c : Nat,(valueAt (strPairs [(Value.str (Str.ofString "&") a0,Value.str (Str.ofString "amp;") b0),(Value.str (Str.ofString "<") a1,Value.str (Str.ofString "lt;") b1),(Value.str (Str.ofString "\"") a2,Value.str (Str.ofString "quot;") b2),(Value.str (Str.ofString "\t") a3,Value.str (Str.ofString "#x9;") b3),(Value.str (Str.ofString "\n") a4,Value.str (Str.ofString "#xA;") b4),(Value.str (Str.ofString "\r") a5,Value.str (Str.ofString "#xD;") b5)]) ⟨#[c]⟩ = none ∧ tblV c = none) ∨ ∃ y t,valueAt (strPairs [(Value.str (Str.ofString "&") a0,Value.str (Str.ofString "amp;") b0),(Value.str (Str.ofString "<") a1,Value.str (Str.ofString "lt;") b1),(Value.str (Str.ofString "\"") a2,Value.str (Str.ofString "quot;") b2),(Value.str (Str.ofString "\t") a3,Value.str (Str.ofString "#x9;") b3),(Value.str (Str.ofString "\n") a4,Value.str (Str.ofString "#xA;") b4),(Value.str (Str.ofString "\r") a5,Value.str (Str.ofString "#xD;") b5)]) ⟨#[c]⟩ = some (.str (ofL y) t) ∧ tblV c = some y ∧ y.length ≤ 8 := by
  intro c
  show (valueAt [((⟨#[38]⟩ : Str),Value.str (Str.ofString "amp;") b0),((⟨#[60]⟩ : Str),Value.str (Str.ofString "lt;") b1),((⟨#[34]⟩ : Str),Value.str (Str.ofString "quot;") b2),((⟨#[9]⟩ : Str),Value.str (Str.ofString "#x9;") b3),((⟨#[10]⟩ : Str),Value.str (Str.ofString "#xA;") b4),((⟨#[13]⟩ : Str),Value.str (Str.ofString "#xD;") b5)] ⟨#[c]⟩ = none ∧ _) ∨ ∃ y t,valueAt [((⟨#[38]⟩ : Str),Value.str (Str.ofString "amp;") b0),((⟨#[60]⟩ : Str),Value.str (Str.ofString "lt;") b1),((⟨#[34]⟩ : Str),Value.str (Str.ofString "quot;") b2),((⟨#[9]⟩ : Str),Value.str (Str.ofString "#x9;") b3),((⟨#[10]⟩ : Str),Value.str (Str.ofString "#xA;") b4),((⟨#[13]⟩ : Str),Value.str (Str.ofString "#xD;") b5)] ⟨#[c]⟩ = _ ∧ _
  simp only [valueAt_cons,valueAt_nil,lit1]
  unfold tblV
  by_cases h0 : c = 38
  · subst h0;exact .inr ⟨_,b0,by first | rfl | (simp;rfl),by first | rfl | simp,by decide⟩
  by_cases h1 : c = 60
  · subst h1;exact .inr ⟨_,b1,by first | rfl | (simp;rfl),by first | rfl | simp,by decide⟩
  by_cases h2 : c = 34
  · subst h2;exact .inr ⟨_,b2,by first | rfl | (simp;rfl),by first | rfl | simp,by decide⟩
  by_cases h3 : c = 9
  · subst h3;exact .inr ⟨_,b3,by first | rfl | (simp;rfl),by first | rfl | simp,by decide⟩
  by_cases h4 : c = 10
  · subst h4;exact .inr ⟨_,b4,by first | rfl | (simp;rfl),by first | rfl | simp,by decide⟩
  by_cases h5 : c = 13
  · subst h5;exact .inr ⟨_,b5,by first | rfl | (simp;rfl),by first | rfl | simp,by decide⟩
  exact .inl ⟨by simp [Ne.symm h0,Ne.symm h1,Ne.symm h2,Ne.symm h3,Ne.symm h4,Ne.symm h5],by simp [h0,h1,h2,h3,h4,h5]⟩
def ToldJ (VD ND CL : Addr) (oV oN : Obj) (cz : Array Value) (n : Nat) (rest : List (Addr × Obj)) (cs : List LCall) (i : Nat) (m : Str → Option Value) (nw : List (Addr × Obj)) : Prop :=
  ∃ (lt : LT) (u : Str → Option Value) (q1 q2 q3 q4 : Tok),lt = (cs.take i).foldl toldOne lt0 ∧ m = (fun z => if z = Str.ofString "whole" then some (.str (ofL lt.whole) q1) else if z = Str.ofString "straight" then some (.str (ofL lt.straight) q2) else if z = Str.ofString "held" then some (.str (ofL lt.held) q3) else if z = Str.ofString "depth" then some (.int lt.depth q4) else if z = Str.ofString "behind" then some (.bool lt.behind) else if z = Str.ofString "names" then some (.ref ND) else if z = Str.ofString "values" then some (.ref VD) else u z) ∧ nw = (VD,oV) :: (ND,oN) :: (CL,listOf cz n) :: rest ∧ Small lt i
theorem ToldJ.nw {VD ND CL : Addr} {oV oN : Obj} {cz : Array Value} {n : Nat} {rest : List (Addr × Obj)} {cs : List LCall} {i : Nat} {m : Str → Option Value} {nw : List (Addr × Obj)} (h : ToldJ VD ND CL oV oN cz n rest cs i m nw) : nw = (VD,oV) :: (ND,oN) :: (CL,listOf cz n) :: rest := by
  obtain ⟨_,_,_,_,_,_,_,_,e,_⟩ := h
  exact e
section
variable {prog : Program} {w : World} {A : Around} {E : Value → Shared → Prop} {s : Shared} {env : Env} {h₀ : Heap} {target : PySem.Expr} {body : List Stmt} {Q : Flow → Shared → Prop} {m : Str → Option Value}
theorem told_iter {VD ND CL : Addr} {oV oN : Obj} {cz : Array Value} {n : Nat} {rest : List (Addr × Obj)} {cs : List LCall} {q1 q2 q3 q4 : Tok} (hh : A.handled = none) (hgo : ∀ (i : Nat) (v : Value) (s : Shared) (Q : Unit → Shared → Prop) (E : Value → Shared → Prop) (I : Addr) (k : Nat), cz.toList[i]? = some v → s.heap.IsListIter I CL k → Q () s → wpAny (model prog w) A (letOwnedTupleGo target (.ref I) v) Q E s)
    (F : Fr h₀ env.locals s.heap m) (N : News h₀ env.locals s.heap ((VD,oV) :: (ND,oN) :: (CL,listOf cz n) :: rest)) (ht : 1 ≤ s.toks)
    (m1 : m (Str.ofString "whole") = some (.str (ofL []) q1)) (m2 : m (Str.ofString "straight") = some (.str (ofL []) q2)) (m3 : m (Str.ofString "held") = some (.str (ofL []) q3)) (m4 : m (Str.ofString "depth") = some (.int 0 q4)) (m5 : m (Str.ofString "behind") = some (.bool false)) (m6 : m (Str.ofString "names") = some (.ref ND)) (m7 : m (Str.ofString "values") = some (.ref VD))
    (turn : ∀ (i : Nat) (v : Value) m₁ news₁ h dr tk I io,cz.toList[i]? = some v → ToldJ VD ND CL oV oN cz n rest cs i m₁ news₁ → Fr h₀ env.locals h m₁ → News h₀ env.locals h ((I,io) :: news₁) → (∀ p ∈ news₁,p.1 ≠ I) → 1 ≤ tk →
      wpAny (model prog w) A (assign target env v) (fun _ s₂ => wpAny (model prog w) A (execs body env) (LoopEnd h₀ env.locals (ToldJ VD ND CL oV oN cz n rest cs (i + 1)) (I,io) s) (fun _ _ => False) s₂) (fun _ _ => False) ⟨h,s.gens,dr,tk,s.os⟩)
    (done : ∀ m₁ news₁ h dr tk,ToldJ VD ND CL oV oN cz n rest cs cz.toList.length m₁ news₁ → Fr h₀ env.locals h m₁ → News h₀ env.locals h news₁ → 1 ≤ tk → Q .next ⟨h,s.gens,dr,tk,s.os⟩) :
    wpAny (model prog w) A (pyIter (.ref CL)) (fun it s₂ => ForAt (model prog w) A target body env Q E it s₂) E s :=
  iter_led (vs := cz.toList) (n := n) (ToldJ VD ND CL oV oN cz n rest cs) hh hgo F N (fun i m nw h => by rw [ToldJ.nw h];exact .tail _ (.tail _ (.head _)))
    ⟨lt0,m,q1,q2,q3,q4,rfl,map7 m1 m2 m3 m4 m5 m6 m7,rfl,⟨Nat.zero_le _,Nat.zero_le _,Nat.zero_le _,by decide,by decide⟩⟩ ht turn done
end
theorem told_end {h₀ : Heap} {L I : Addr} {io : Obj} {s s' : Shared} {m : Str → Option Value} {VD ND CL : Addr} {oV oN : Obj} {cz : Array Value} {n : Nat} {rest : List (Addr × Obj)} {cs : List LCall} {i : Nat} {lt lt' : LT} {c : LCall} {q1 q2 q3 q4 : Tok} (hs : Same s s') (F : Fr h₀ L s'.heap m) (N : News h₀ L s'.heap ((I, io) :: (VD, oV) :: (ND, oN) :: (CL, listOf cz n) :: rest)) (hne : ∀ p ∈ (VD, oV) :: (ND, oN) :: (CL, listOf cz n) :: rest, p.1 ≠ I)
    (e : (cs.take (i + 1)).foldl toldOne lt0 = toldOne lt c) (e2 : toldOne lt c = lt') (sm : Small lt' (i + 1))
    (m1 : m (Str.ofString "whole") = some (.str (ofL lt'.whole) q1)) (m2 : m (Str.ofString "straight") = some (.str (ofL lt'.straight) q2)) (m3 : m (Str.ofString "held") = some (.str (ofL lt'.held) q3)) (m4 : m (Str.ofString "depth") = some (.int lt'.depth q4)) (m5 : m (Str.ofString "behind") = some (.bool lt'.behind)) (m6 : m (Str.ofString "names") = some (.ref ND)) (m7 : m (Str.ofString "values") = some (.ref VD)) :
    LoopEnd h₀ L (ToldJ VD ND CL oV oN cz n rest cs (i + 1)) (I,io) s .next s' := by
  subst e2
  exact ⟨.inl rfl,m,_,_,hs,F,N, .head _,fun q hq => .tail _ hq,hne,_,m,q1,q2,q3,q4,e.symm,map7 m1 m2 m3 m4 m5 m6 m7,rfl,sm⟩
theorem spelled_len {tbl : Nat → Option (List Nat)} (h : ∀ c y,tbl c = some y → y.length ≤ 8) : ∀ (l told : List Nat),(l.foldl (spellStep tbl) told).length ≤ told.length + 10 * l.length
  | [],_ => Nat.le_refl _
  | c :: r,told => by
    have h1 : (spellStep tbl told c).length ≤ told.length + 10 := by
      unfold spellStep
      cases e : tbl c with
      | some y => have := h c y e;dsimp only;rw [List.length_append,List.length_cons];omega
      | none => dsimp only;(repeat' split) <;> rw [List.length_append] <;> simp
    have := spelled_len h r (spellStep tbl told c)
    rw [List.foldl_cons,List.length_cons];omega
theorem spN_len (l : List Nat) : (ofL (spelled tblN l)).length ≤ 10 * l.length := by
  rw [ofL_len]
  have := spelled_len (tbl := tblN) (fun c y h => by unfold tblN at h;(repeat' split at h) <;> first | (cases h;decide) | cases h) l []
  simpa [spelled] using this
theorem spV_len (l : List Nat) : (ofL (spelled tblV l)).length ≤ 10 * l.length := by
  rw [ofL_len]
  have := spelled_len (tbl := tblV) (fun c y h => by unfold tblV at h;(repeat' split at h) <;> first | (cases h;decide) | cases h) l []
  simpa [spelled] using this
theorem lit_0 : (Str.ofString "<").cps.toList = [60] := by decide +kernel
theorem lit_1 : (Str.ofString ">").cps.toList = [62] := by decide +kernel
theorem lit_2 : (Str.ofString " k=\"").cps.toList = [32,107,61,34] := by decide +kernel
theorem lit_3 : (Str.ofString "\"").cps.toList = [34] := by decide +kernel
theorem lit_4 : (Str.ofString "</").cps.toList = [60,47] := by decide +kernel
theorem lit_5 : (Str.ofString "\x0d\n").cps.toList = [13,10] := by decide +kernel
theorem lit_6 : (Str.ofString "<!--").cps.toList = [60,33,45,45] := by decide +kernel
theorem lit_7 : (Str.ofString "-->").cps.toList = [45,45,62] := by decide +kernel
theorem lit_8 : (Str.ofString "<?p?>").cps.toList = [60,63,112,63,62] := by decide +kernel
theorem lit_9 : (Str.ofString "<?p ").cps.toList = [60,63,112,32] := by decide +kernel
theorem lit_10 : (Str.ofString "?>").cps.toList = [63,62] := by decide +kernel
theorem lit_11 : (Str.ofString "r").cps.toList = [114] := by decide +kernel
theorem lit_12 : (Str.ofString "a").cps.toList = [97] := by decide +kernel
theorem lit_13 : (Str.ofString "b").cps.toList = [98] := by decide +kernel
theorem lit_14 : (Str.ofString "<r").cps.toList = [60,114] := by decide +kernel
theorem lit_15 : (Str.ofString "<a").cps.toList = [60,97] := by decide +kernel
theorem lit_16 : (Str.ofString "<b").cps.toList = [60,98] := by decide +kernel
theorem mk_r {lt : LT} {t : Str} : lt.marks (0,Str.ofString "r",t) = [60,114,62] := by
  unfold LT.marks;dsimp only;rw [if_pos rfl,if_pos rfl];rfl
theorem mk_x {lt : LT} {x t : Str} (hx : x ≠ Str.ofString "r") : lt.marks (0,x,t) = ([60] ++ x.cps.toList) ++ ([32,107,61,34] ++ spelled tblV t.cps.toList ++ [34]) ++ [62] := by
  unfold LT.marks;dsimp only;rw [if_pos rfl,if_neg hx]
theorem mk_end {lt : LT} {x t : Str} : lt.marks (1,x,t) = [60,47] ++ x.cps.toList ++ [62] := by
  unfold LT.marks;dsimp only;rw [if_neg (by decide),if_pos rfl]
theorem mk_rem {wh st he : List Nat} {dep k : Int} {beh : Bool} {x t : Str} {pre mid post : List Nat} (hk : k = 3 ∨ k = 4) (hm : (if k = 3 then [60, 33, 45, 45] ++ spelled tblN t.cps.toList ++ [45, 45, 62] else if t.cps.toList = [] then [60, 63, 112, 63, 62] else [60, 63, 112, 32] ++ spelled tblN t.cps.toList ++ [63, 62]) = mid)
    (h1 : (if beh = true then [13,10] else []) = pre) (h2 : (if dep = 0 ∧ beh = false then [13,10] else []) = post) : LT.marks ⟨wh,st,he,dep,beh⟩ (k,x,t) = pre ++ mid ++ post := by
  subst hm h1 h2
  unfold LT.marks;dsimp only;rw [if_neg (by omega),if_neg (by omega)]
theorem empty_yes {t : Str} (h : (t == Str.ofString "") = true) : t.cps.toList = [] := by rw [str_beq] at h;exact of_decide_eq_true h
theorem empty_no {t : Str} (h : (t == Str.ofString "") = false) : t.cps.toList ≠ [] := by rw [str_beq] at h;exact of_decide_eq_false h
theorem toldOne_eq {lt : LT} {c : LCall} (h : c.1 ≠ 2) : toldOne lt c = ⟨lt.whole ++ (spelled tblN lt.held ++ lt.marks c),lt.straight ++ dotFirst lt.held ++ (spelled tblN lt.held ++ lt.marks c),[],(if c.1 = 0 then lt.depth + 1 else if c.1 = 1 then lt.depth - 1 else lt.depth),if c.1 = 1 then decide (lt.depth - 1 = 0) else lt.behind⟩ := by
  unfold toldOne;rw [if_neg h]
theorem w_of {x : Str} {lt : LT} {c : LCall} {l : List Nat} (h2 : c.1 ≠ 2) (hm : lt.marks c = l) (hx : x.cps.toList = lt.whole ++ (spelled tblN lt.held ++ l)) : x = ofL (toldOne lt c).whole := by
  rw [toldOne_eq h2,hm];exact ofL_of hx
theorem s_of {x : Str} {lt : LT} {c : LCall} {l : List Nat} (h2 : c.1 ≠ 2) (hm : lt.marks c = l) (hx : x.cps.toList = lt.straight ++ dotFirst lt.held ++ (spelled tblN lt.held ++ l)) : x = ofL (toldOne lt c).straight := by
  rw [toldOne_eq h2,hm];exact ofL_of hx
theorem some_str {x y : Str} {t : Tok} (h : x = y) : some (Value.str x t) = some (Value.str y t) := by rw [h]
theorem te_new {h₀ : Heap} {L : Addr} {m : Str → Option Value} {x y y' : Str} {t : Tok} {news : List (Addr × Obj)} {s s' : Shared} (e : y' = y) (F : Fr h₀ L s'.heap (fun z => if z = x then some (.str y' t) else m z)) (N : News h₀ L s'.heap news) (hs : Same s s') : TextEnd h₀ L m x y news s .next s' := by
  subst e;exact ⟨rfl,hs,⟨t,F⟩,N⟩
theorem te_same {h₀ : Heap} {L : Addr} {m : Str → Option Value} {x y y' : Str} {t : Tok} {news : List (Addr × Obj)} {s s' : Shared} (hm : m x = some (.str y' t)) (e : y' = y) (F : Fr h₀ L s'.heap m) (N : News h₀ L s'.heap news) (hs : Same s s') : TextEnd h₀ L m x y news s .next s' := by
  subst e;exact ⟨rfl,hs,⟨t,Fr.same hm F⟩,N⟩
theorem dot_yes {he : List Nat} (h : (Txt.slice (ofL he) none (some 1) == Str.ofString ".") = true) : dotFirst he = [46] := by
  rw [slice_first] at h;unfold dotFirst;rw [if_pos (of_decide_eq_true h)]
theorem dot_no {he : List Nat} (h : (Txt.slice (ofL he) none (some 1) == Str.ofString ".") = false) : dotFirst he = [] := by
  rw [slice_first] at h;unfold dotFirst;rw [if_neg (of_decide_eq_false h)]
theorem dotFirst_len (l : List Nat) : (dotFirst l).length ≤ 1 := by unfold dotFirst;split <;> simp
theorem name_len {x : Str} (h : Name x) : x.length ≤ 1 := by rcases h with rfl | rfl | rfl <;> decide
theorem len_cps (x : Str) : x.cps.toList.length = x.length := by show _ = x.cps.size;simp
theorem marks_len {lt : LT} {c : LCall} (h : Shape c) (h2 : c.1 ≠ 2) : (lt.marks c).length ≤ 200 := by
  obtain ⟨h0,h⟩ := h
  have n1 := spN_len c.2.2.cps.toList
  have n2 := spV_len c.2.2.cps.toList
  rw [ofL_len,len_cps] at n1 n2
  have hx : c.2.1.cps.toList.length ≤ 1 := by
    rw [len_cps]
    rcases h with ⟨_,h⟩ | ⟨_,h⟩ | h | ⟨_,h⟩
    · exact name_len h
    · exact name_len h
    · exact absurd h h2
    · rw [h];decide
  unfold LT.marks
  (repeat' split) <;> simp only [List.length_append,List.length_cons,List.length_nil] <;> omega
theorem small_step {lt : LT} {c : LCall} {i : Nat} (S : Small lt i) (hi : i < 20) (h : Shape c) : Small (toldOne lt c) (i + 1) := by
  obtain ⟨s1,s2,s3,s4,s5⟩ := S
  by_cases h2 : c.1 = 2
  · unfold toldOne;rw [if_pos h2]
    have := h.1
    refine ⟨by dsimp only;omega,by dsimp only;omega,?_,by dsimp only;omega,by dsimp only;omega⟩
    dsimp only
    rw [List.length_append,len_cps];omega
  · rw [toldOne_eq h2]
    have n1 := spN_len lt.held
    rw [ofL_len] at n1
    have n2 := marks_len (lt := lt) h h2
    have n3 := dotFirst_len lt.held
    refine ⟨?_,?_,Nat.zero_le _,?_,?_⟩
    · dsimp only;simp only [List.length_append];omega
    · dsimp only;simp only [List.length_append];omega
    · dsimp only;(repeat' split) <;> omega
    · dsimp only;(repeat' split) <;> omega
theorem ltSome : Nonempty LT := ⟨lt0⟩
theorem LT.elE {P : LT → Prop} (h : P ⟨(ep ltSome P).whole,(ep ltSome P).straight,(ep ltSome P).held,(ep ltSome P).depth,(ep ltSome P).behind⟩) (l : LT) : P l := @tau1 _ ltSome P h l
theorem map8 {m : Str → Option Value} {y0 y1 y2 y3 y4 y5 y6 y7 : Str} {v0 v1 v2 v3 v4 v5 v6 v7 : Option Value} (h0 : m y0 = v0) (h1 : m y1 = v1) (h2 : m y2 = v2) (h3 : m y3 = v3) (h4 : m y4 = v4) (h5 : m y5 = v5) (h6 : m y6 = v6) (h7 : m y7 = v7) : m = fun z => if z = y7 then v7 else if z = y0 then v0 else if z = y1 then v1 else if z = y2 then v2 else if z = y3 then v3 else if z = y4 then v4 else if z = y5 then v5 else if z = y6 then v6 else m z := by
  funext z
  by_cases e7 : z = y7
  · rw [if_pos e7,e7,h7]
  rw [if_neg e7]
  exact congrFun (map7 h0 h1 h2 h3 h4 h5 h6) z
structure ToldMid (h₀ : Heap) (L : Addr) (ND VD : Addr) (x w s h : Str) (d : Int) (b : Bool) (news : List (Addr × Obj)) (s0 : Shared) (f : Flow) (s' : Shared) : Prop where
  fl : f = .next
  same : Same s0 s'
  at_ : ∃ (u : Str → Option Value) (q1 q2 q3 q4 q5 : Tok),Fr h₀ L s'.heap (fun z => if z = Str.ofString "told" then some (.str x q5) else if z = Str.ofString "whole" then some (.str w q1) else if z = Str.ofString "straight" then some (.str s q2) else if z = Str.ofString "held" then some (.str h q3) else if z = Str.ofString "depth" then some (.int d q4) else if z = Str.ofString "behind" then some (.bool b) else if z = Str.ofString "names" then some (.ref ND) else if z = Str.ofString "values" then some (.ref VD) else u z)
  news : News h₀ L s'.heap news
theorem told_mid {h₀ : Heap} {L : Addr} {ND VD : Addr} {x x' w s h : Str} {d : Int} {b : Bool} {news : List (Addr × Obj)} {s0 s' : Shared} {m : Str → Option Value} {q1 q2 q3 q4 q5 : Tok} (hs : Same s0 s') (F : Fr h₀ L s'.heap m) (N : News h₀ L s'.heap news)
    (m7 : m (Str.ofString "told") = some (.str x' q5)) (e : x' = x) (m0 : m (Str.ofString "whole") = some (.str w q1)) (m1 : m (Str.ofString "straight") = some (.str s q2)) (m2 : m (Str.ofString "held") = some (.str h q3)) (m3 : m (Str.ofString "depth") = some (.int d q4)) (m4 : m (Str.ofString "behind") = some (.bool b)) (m5 : m (Str.ofString "names") = some (.ref ND)) (m6 : m (Str.ofString "values") = some (.ref VD)) :
    ToldMid h₀ L ND VD x w s h d b news s0 .next s' := by
  subst e
  exact ⟨rfl,hs,⟨m,q1,q2,q3,q4,q5,(map8 m0 m1 m2 m3 m4 m5 m6 m7) ▸ F⟩,N⟩
theorem cut_told {M : Model} {A : Around} {E : Value → Shared → Prop} {s : Shared} {env : Env} {st : Stmt} {rest : List Stmt} {Q : Flow → Shared → Prop} {h₀ : Heap} {L ND VD : Addr} {x w y h : Str} {d : Int} {b : Bool} {news : List (Addr × Obj)} {m : Str → Option Value}
    (_F : Fr h₀ L s.heap m) (_N : News h₀ L s.heap news) (_m5 : m (Str.ofString "names") = some (.ref ND)) (_m6 : m (Str.ofString "values") = some (.ref VD)) (ht : 1 ≤ s.toks) (h1 : wpAny M A (exec st env) (ToldMid h₀ L ND VD x w y h d b news s) E s)
    (h2 : ∀ s',1 ≤ s'.toks → ToldMid h₀ L ND VD x w y h d b news s .next s' → wpAny M A (execs rest env) Q E s') : wpAny M A (execs (st :: rest) env) Q E s :=
  cut_stmt (fun s' => ToldMid h₀ L ND VD x w y h d b news s .next s') ht (wpAny_mono h1 (fun f s' h => ⟨h.1,by have e := h.1;subst e;exact h⟩) fun _ _ e => e) h2
theorem mid_of {x : Str} {he m l : List Nat} (hm : m = l) (hx : x.cps.toList = spelled tblN he ++ l) : x = ofL (spelled tblN he ++ m) := by
  rw [hm];exact ofL_of hx
def ltoldP (l : Lt) : Prop :=
  (CallsAt (l.rest 0) (l.vs 5).toList (l.lc 0)) →
  ((l.lc 0).length ≤ 20) →
  (∀ c ∈ (l.lc 0),Shape c) →
  SpecL l 227 6 60 (((l.b 13),listOf (l.vs 5) (l.n 5)) :: (l.rest 0)) [.ref (l.b 13)] (fun v news' => ∃ T t1 t2,v = .ref T ∧ news' = (T,({ cls := .type "tuple",data := .seq #[.str (ofL (toldAll (l.lc 0)).whole) t1, .str (ofL (toldAll (l.lc 0)).straight) t2] 0 } : Obj)) :: ((l.b 13),listOf (l.vs 5) (l.n 5)) :: (l.rest 0) ∧ ∀ p ∈ ((l.b 13),listOf (l.vs 5) (l.n 5)) :: (l.rest 0),@LT.lt Nat _ p.1 T)
@[irreducible] noncomputable def cTo : Lt := Classical.choose (Lt.ex ltoldP)
theorem ltold_c : ltoldP cTo := by
  unfold ltoldP SpecL SpecQ
  k_fill
  generalize cTo.w = w;generalize cTo.b 13 = CL;generalize cTo.vs 5 = cz;generalize cTo.n 5 = n;generalize cTo.rest 0 = rest;generalize cTo.lc 0 = cs;generalize cTo.mean = mean;generalize cTo.mg = mg
  generalize cTo.mb = mb;generalize cTo.dp = dp;generalize cTo.un = un;generalize cTo.gd = gd;generalize cTo.cn = cn;generalize cTo.cs = cs0;generalize cTo.a = a;generalize cTo.ccd = ccd
  generalize cTo.cl = cl;generalize cTo.outer = outer;generalize cTo.A₀ = A₀;generalize cTo.base = base;generalize cTo.h₀ = h₀;generalize cTo.L = L;generalize cTo.m = m;generalize cTo.s = s
  generalize cTo.R = R
  intros hc hz hsh B F X N T hk0 hts hd1 hu hret
  k_dflt (refine' code_def (binds := [("calls", .ref CL)]) ?k1 ?k2 ?k3 ?k4 ?k5 ?kA ?kF ?kK ?k6 ?k7 ?k8 ?k9 ?kB ?_ ?c2 ?c3 ?c4 ?c5;(case kA => exact rfl);(case kF => exact rfl);(case kK => assumption);(case k1 => k_asm);(case k2 => k_asm);(case k3 => k_asm);(case k4 => k_asm);(case k5 => k_asm);(case k6 => k_is);(case k7 => k_is);(case k8 => ktr_room);(case k9 => exact BindsTo.of_eq rfl);(case c5 => decide);(case kB => exact locs rfl);(case c2 => exact rfl);(case c3 => exact rfl);(case c4 => exact rfl);k_whole;intro g' L' h' FG' F' N' B' X' T';(try dsimp only);(try k_lift B');(try k_fold))
  have cutOn : CutOn := trivial
  k_steps
  unfold Cut
  (rename News _ _ _ _ => N5);(rename Fr _ _ _ _ => F5)
  have kN := tblN_of (by assumption)
  have kV := tblV_of (by assumption)
  refine' told_iter (cs := cs) ?hh ?hgo F5 N5 ?ht rfl rfl rfl rfl rfl rfl rfl ?turn ?done
  (case hh => exact rfl)
  (case hgo => intro _ _ _ _ _ _ _ hv hi hq;obtain ⟨_,_,_,_,_,rfl,_⟩ := hc.get hv;exact PySem.wpAny_letOwnedTupleGo_listiter hi hq)
  (case ht => (refine Mine.leT ?_;(try dsimp only);omega))
  (case turn =>
    clear N5 F5
    intro i v m₁ nw h dr tk I io hv hJ F1 N1 hne ht1
    refine Exists.elim hJ ?_;clear hJ
    refine LT.elE ?_
    generalize Mine.ep _ _ = lt9;generalize LT.whole lt9 = wh;generalize LT.straight lt9 = st;generalize LT.held lt9 = he;generalize LT.depth lt9 = dep;generalize LT.behind lt9 = beh
    intros hJ
    obtain ⟨u,q1,q2,q3,q4,hlt,rfl,rfl,sm⟩ := hJ
    obtain ⟨T0,c,t1,t2,t3,rfl,hci,hT⟩ := hc.get hv
    have hi : i < 20 := Nat.lt_of_lt_of_le (List.getElem?_eq_some_iff.mp hci).1 hz
    have hstep : (cs.take (i + 1)).foldl toldOne lt0 = toldOne ⟨wh,st,he,dep,beh⟩ c := by rw [List.take_add_one,hci,List.foldl_append,← hlt];rfl
    have shape := hsh c (List.mem_of_getElem? hci)
    clear hlt hci hv
    revert c
    refine callEl ?_
    generalize Mine.ep _ _ = c9;generalize Prod.fst c9 = kind;generalize Prod.fst (Prod.snd c9) = name;generalize Prod.snd (Prod.snd c9) = text
    intros hT hstep shape
    obtain ⟨s1,s2,s3,s4,s5⟩ := sm
    obtain ⟨g0,shape⟩ := shape
    dsimp only at s1 s2 s3 s4 s5 F1 g0 shape hT
    have b1 : (ofL wh).length ≤ 100000 := by rw [ofL_len];omega
    have b2 : (ofL st).length ≤ 100000 := by rw [ofL_len];omega
    have b3 : (ofL he).length ≤ 50 := by rw [ofL_len];omega
    dsimp only [callObj] at hT
    have sml := small_step (lt := ⟨wh,st,he,dep,beh⟩) (c := (kind,name,text)) ⟨s1,s2,s3,s4,s5⟩ hi ⟨g0,shape⟩
    by_cases h2 : kind = 2
    · subst h2
      k_steps
      (rename Fr _ _ _ _ => F9);(rename News _ _ _ _ => N9)
      exact told_end ⟨rfl,rfl⟩ F9 N9 hne hstep rfl sml rfl rfl (some_str (ofL_app he text)) rfl rfl rfl rfl
    · have cutOn : CutOn := trivial
      k_steps
      all_goals try (exact absurd (by assumption) h2)
      unfold Cut
      (rename News _ _ _ _ => N5);(rename Fr _ _ _ _ => F5)
      k_dflt (refine' cut_text (x := Str.ofString "straight") (ofL (st ++ dotFirst he)) (Fr.same rfl F5) N5 ?ht1 ?ha1 ?hb1)
      (case ht1 => (refine Mine.leT ?_;(try dsimp only);omega))
      (case ha1 =>
        k_steps
        · (rename Fr _ _ _ _ => F9);(rename News _ _ _ _ => N9)
          exact te_new (by rw [dot_yes (by assumption)];exact ofL_str st "." [46] (by decide +kernel)) F9 N9 ⟨rfl,rfl⟩
        · (rename Fr _ _ _ _ => F9);(rename News _ _ _ _ => N9)
          exact te_same rfl (by rw [dot_no (by assumption),List.append_nil]) F9 N9 ⟨rfl,rfl⟩)
      case' hb1 =>
      intro s1' tq hS tkb F6 N6
      clear F5 N5
      obtain ⟨i1,i2⟩ := hS
      (try dsimp only)
      have b4 : (ofL (st ++ dotFirst he)).length ≤ 100000 := by rw [ofL_len,List.length_append];have := dotFirst_len he;omega
      have b5 : (ofL (spelled tblN (ofL he).cps.toList)).length ≤ 1000 := by rw [ofL_cps];have := spN_len he;omega
      have b6 : (ofL (spelled tblN text.cps.toList)).length ≤ 20 := by have := spN_len text.cps.toList;rw [len_cps] at this;omega
      have b7 : (ofL (spelled tblV text.cps.toList)).length ≤ 20 := by have := spV_len text.cps.toList;rw [len_cps] at this;omega
      have b9 : (ofL (spelled tblN he ++ LT.marks ⟨wh,st,he,dep,beh⟩ (kind,name,text))).length ≤ 2000 := by
        have := spN_len he
        have := marks_len (lt := ⟨wh,st,he,dep,beh⟩) (c := (kind,name,text)) ⟨g0,shape⟩ h2
        rw [ofL_len] at *;rw [List.length_append];omega
      have cutOn : CutOn := trivial
      k_steps
      unfold Cut
      (rename News _ _ _ _ => N5);(rename Fr _ _ _ _ => F5)
      refine' cut_told (x := ofL (spelled tblN he ++ LT.marks ⟨wh,st,he,dep,beh⟩ (kind,name,text))) (w := ofL wh) (y := ofL (st ++ dotFirst he)) (h := ofL []) (d := (toldOne ⟨wh,st,he,dep,beh⟩ (kind,name,text)).depth) (b := (toldOne ⟨wh,st,he,dep,beh⟩ (kind,name,text)).behind) F5 N5 rfl rfl ?ht2 ?ha2 ?hb2
      (case ht2 => (refine Mine.leT ?_;(try dsimp only);omega))
      (case ha2 =>
        clear sml hret
        rcases shape with ⟨rfl,hn⟩ | ⟨rfl,hn⟩ | h | ⟨h34,rfl⟩
        · rcases hn with rfl | rfl | rfl
          · k_steps
            (rename Fr _ _ _ _ => F9);(rename News _ _ _ _ => N9)
            exact told_mid ⟨rfl,rfl⟩ F9 N9 rfl (mid_of (mk_r) (by simp only [cps_app,ofL_cps,List.append_assoc,List.cons_append,List.nil_append,List.append_nil,lit_0,lit_1,lit_2,lit_3,lit_4,lit_5,lit_6,lit_7,lit_8,lit_9,lit_10,lit_11,lit_12,lit_13,lit_14,lit_15,lit_16])) rfl rfl rfl rfl rfl rfl rfl
          · k_steps
            (rename Fr _ _ _ _ => F9);(rename News _ _ _ _ => N9)
            exact told_mid ⟨rfl,rfl⟩ F9 N9 rfl (mid_of (mk_x (by decide)) (by simp only [cps_app,ofL_cps,List.append_assoc,List.cons_append,List.nil_append,List.append_nil,lit_0,lit_1,lit_2,lit_3,lit_4,lit_5,lit_6,lit_7,lit_8,lit_9,lit_10,lit_11,lit_12,lit_13,lit_14,lit_15,lit_16])) rfl rfl rfl rfl rfl rfl rfl
          · k_steps
            (rename Fr _ _ _ _ => F9);(rename News _ _ _ _ => N9)
            exact told_mid ⟨rfl,rfl⟩ F9 N9 rfl (mid_of (mk_x (by decide)) (by simp only [cps_app,ofL_cps,List.append_assoc,List.cons_append,List.nil_append,List.append_nil,lit_0,lit_1,lit_2,lit_3,lit_4,lit_5,lit_6,lit_7,lit_8,lit_9,lit_10,lit_11,lit_12,lit_13,lit_14,lit_15,lit_16])) rfl rfl rfl rfl rfl rfl rfl
        · have b8 := name_len hn
          k_steps
          (rename Fr _ _ _ _ => F9);(rename News _ _ _ _ => N9)
          exact told_mid ⟨rfl,rfl⟩ F9 N9 rfl (mid_of (mk_end) (by simp only [cps_app,ofL_cps,List.append_assoc,List.cons_append,List.nil_append,List.append_nil,lit_0,lit_1,lit_2,lit_3,lit_4,lit_5,lit_6,lit_7,lit_8,lit_9,lit_10,lit_11,lit_12,lit_13,lit_14,lit_15,lit_16])) rfl rfl rfl rfl rfl rfl rfl
        · exact absurd h h2
        · rcases h34 with rfl | rfl
          · cases beh with
            | true =>
              k_steps
              · (rename Fr _ _ _ _ => F9);(rename News _ _ _ _ => N9)
                exact told_mid ⟨rfl,rfl⟩ F9 N9 rfl (mid_of (mk_rem (.inl rfl) (if_pos rfl) (if_pos rfl) (if_neg (fun x => by cases x.2))) (by simp only [cps_app,ofL_cps,List.append_assoc,List.cons_append,List.nil_append,List.append_nil,lit_0,lit_1,lit_2,lit_3,lit_4,lit_5,lit_6,lit_7,lit_8,lit_9,lit_10,lit_11,lit_12,lit_13,lit_14,lit_15,lit_16])) rfl rfl rfl rfl rfl rfl rfl
              · (rename Fr _ _ _ _ => F9);(rename News _ _ _ _ => N9)
                exact told_mid ⟨rfl,rfl⟩ F9 N9 rfl (mid_of (mk_rem (.inl rfl) (if_pos rfl) (if_pos rfl) (if_neg (fun x => by cases x.2))) (by simp only [cps_app,ofL_cps,List.append_assoc,List.cons_append,List.nil_append,List.append_nil,lit_0,lit_1,lit_2,lit_3,lit_4,lit_5,lit_6,lit_7,lit_8,lit_9,lit_10,lit_11,lit_12,lit_13,lit_14,lit_15,lit_16])) rfl rfl rfl rfl rfl rfl rfl
            | false =>
              k_steps
              · (rename Fr _ _ _ _ => F9);(rename News _ _ _ _ => N9)
                exact told_mid ⟨rfl,rfl⟩ F9 N9 rfl (mid_of (mk_rem (.inl rfl) (if_pos rfl) (if_neg Bool.false_ne_true) (if_pos ⟨by assumption,rfl⟩)) (by simp only [cps_app,ofL_cps,List.append_assoc,List.cons_append,List.nil_append,List.append_nil,lit_0,lit_1,lit_2,lit_3,lit_4,lit_5,lit_6,lit_7,lit_8,lit_9,lit_10,lit_11,lit_12,lit_13,lit_14,lit_15,lit_16])) rfl rfl rfl rfl rfl rfl rfl
              · (rename Fr _ _ _ _ => F9);(rename News _ _ _ _ => N9)
                exact told_mid ⟨rfl,rfl⟩ F9 N9 rfl (mid_of (mk_rem (.inl rfl) (if_pos rfl) (if_neg Bool.false_ne_true) (if_neg (fun x => absurd x.1 (by assumption)))) (by simp only [cps_app,ofL_cps,List.append_assoc,List.cons_append,List.nil_append,List.append_nil,lit_0,lit_1,lit_2,lit_3,lit_4,lit_5,lit_6,lit_7,lit_8,lit_9,lit_10,lit_11,lit_12,lit_13,lit_14,lit_15,lit_16])) rfl rfl rfl rfl rfl rfl rfl
          · cases beh with
            | true =>
              k_steps
              · (rename Fr _ _ _ _ => F9);(rename News _ _ _ _ => N9)
                exact told_mid ⟨rfl,rfl⟩ F9 N9 rfl (mid_of (mk_rem (.inr rfl) ((if_neg (by decide)).trans (if_pos (empty_yes (by assumption)))) (if_pos rfl) (if_neg (fun x => by cases x.2))) (by simp only [cps_app,ofL_cps,List.append_assoc,List.cons_append,List.nil_append,List.append_nil,lit_0,lit_1,lit_2,lit_3,lit_4,lit_5,lit_6,lit_7,lit_8,lit_9,lit_10,lit_11,lit_12,lit_13,lit_14,lit_15,lit_16])) rfl rfl rfl rfl rfl rfl rfl
              · (rename Fr _ _ _ _ => F9);(rename News _ _ _ _ => N9)
                exact told_mid ⟨rfl,rfl⟩ F9 N9 rfl (mid_of (mk_rem (.inr rfl) ((if_neg (by decide)).trans (if_pos (empty_yes (by assumption)))) (if_pos rfl) (if_neg (fun x => by cases x.2))) (by simp only [cps_app,ofL_cps,List.append_assoc,List.cons_append,List.nil_append,List.append_nil,lit_0,lit_1,lit_2,lit_3,lit_4,lit_5,lit_6,lit_7,lit_8,lit_9,lit_10,lit_11,lit_12,lit_13,lit_14,lit_15,lit_16])) rfl rfl rfl rfl rfl rfl rfl
              · (rename Fr _ _ _ _ => F9);(rename News _ _ _ _ => N9)
                exact told_mid ⟨rfl,rfl⟩ F9 N9 rfl (mid_of (mk_rem (.inr rfl) ((if_neg (by decide)).trans (if_neg (empty_no (by assumption)))) (if_pos rfl) (if_neg (fun x => by cases x.2))) (by simp only [cps_app,ofL_cps,List.append_assoc,List.cons_append,List.nil_append,List.append_nil,lit_0,lit_1,lit_2,lit_3,lit_4,lit_5,lit_6,lit_7,lit_8,lit_9,lit_10,lit_11,lit_12,lit_13,lit_14,lit_15,lit_16])) rfl rfl rfl rfl rfl rfl rfl
              · (rename Fr _ _ _ _ => F9);(rename News _ _ _ _ => N9)
                exact told_mid ⟨rfl,rfl⟩ F9 N9 rfl (mid_of (mk_rem (.inr rfl) ((if_neg (by decide)).trans (if_neg (empty_no (by assumption)))) (if_pos rfl) (if_neg (fun x => by cases x.2))) (by simp only [cps_app,ofL_cps,List.append_assoc,List.cons_append,List.nil_append,List.append_nil,lit_0,lit_1,lit_2,lit_3,lit_4,lit_5,lit_6,lit_7,lit_8,lit_9,lit_10,lit_11,lit_12,lit_13,lit_14,lit_15,lit_16])) rfl rfl rfl rfl rfl rfl rfl
            | false =>
              k_steps
              · (rename Fr _ _ _ _ => F9);(rename News _ _ _ _ => N9)
                exact told_mid ⟨rfl,rfl⟩ F9 N9 rfl (mid_of (mk_rem (.inr rfl) ((if_neg (by decide)).trans (if_pos (empty_yes (by assumption)))) (if_neg Bool.false_ne_true) (if_pos ⟨by assumption,rfl⟩)) (by simp only [cps_app,ofL_cps,List.append_assoc,List.cons_append,List.nil_append,List.append_nil,lit_0,lit_1,lit_2,lit_3,lit_4,lit_5,lit_6,lit_7,lit_8,lit_9,lit_10,lit_11,lit_12,lit_13,lit_14,lit_15,lit_16])) rfl rfl rfl rfl rfl rfl rfl
              · (rename Fr _ _ _ _ => F9);(rename News _ _ _ _ => N9)
                exact told_mid ⟨rfl,rfl⟩ F9 N9 rfl (mid_of (mk_rem (.inr rfl) ((if_neg (by decide)).trans (if_pos (empty_yes (by assumption)))) (if_neg Bool.false_ne_true) (if_neg (fun x => absurd x.1 (by assumption)))) (by simp only [cps_app,ofL_cps,List.append_assoc,List.cons_append,List.nil_append,List.append_nil,lit_0,lit_1,lit_2,lit_3,lit_4,lit_5,lit_6,lit_7,lit_8,lit_9,lit_10,lit_11,lit_12,lit_13,lit_14,lit_15,lit_16])) rfl rfl rfl rfl rfl rfl rfl
              · (rename Fr _ _ _ _ => F9);(rename News _ _ _ _ => N9)
                exact told_mid ⟨rfl,rfl⟩ F9 N9 rfl (mid_of (mk_rem (.inr rfl) ((if_neg (by decide)).trans (if_neg (empty_no (by assumption)))) (if_neg Bool.false_ne_true) (if_pos ⟨by assumption,rfl⟩)) (by simp only [cps_app,ofL_cps,List.append_assoc,List.cons_append,List.nil_append,List.append_nil,lit_0,lit_1,lit_2,lit_3,lit_4,lit_5,lit_6,lit_7,lit_8,lit_9,lit_10,lit_11,lit_12,lit_13,lit_14,lit_15,lit_16])) rfl rfl rfl rfl rfl rfl rfl
              · (rename Fr _ _ _ _ => F9);(rename News _ _ _ _ => N9)
                exact told_mid ⟨rfl,rfl⟩ F9 N9 rfl (mid_of (mk_rem (.inr rfl) ((if_neg (by decide)).trans (if_neg (empty_no (by assumption)))) (if_neg Bool.false_ne_true) (if_neg (fun x => absurd x.1 (by assumption)))) (by simp only [cps_app,ofL_cps,List.append_assoc,List.cons_append,List.nil_append,List.append_nil,lit_0,lit_1,lit_2,lit_3,lit_4,lit_5,lit_6,lit_7,lit_8,lit_9,lit_10,lit_11,lit_12,lit_13,lit_14,lit_15,lit_16])) rfl rfl rfl rfl rfl rfl rfl)
      intro s2' tkc hM
      have hM' := hM.same
      have hM1 := hM.at_
      have N7 := hM.news
      clear hM
      obtain ⟨u',r1,r2,r3,r4,r5,F7⟩ := hM1
      clear F5 N5
      obtain ⟨i3,i4⟩ := hM'
      k_steps
      (rename Fr _ _ _ _ => F9);(rename News _ _ _ _ => N9)
      refine' told_end ⟨i3.trans i1,i4.trans i2⟩ F9 N9 hne hstep rfl sml ?m1_9 ?m2_9 ?m3_9 rfl rfl rfl rfl
      (case m3_9 => exact some_str (congrArg ofL (by rw [toldOne_eq h2])))
      (case m1_9 => exact some_str (w_of h2 rfl (by simp only [cps_app,ofL_cps,List.append_assoc])))
      (case m2_9 => exact some_str (s_of h2 rfl (by simp only [cps_app,ofL_cps,List.append_assoc]))))
  (case done =>
    intro m₁ nw h dr tk hJ F1 N1 ht1
    refine Exists.elim hJ ?_;clear hJ
    refine @tau1 _ ltSome _ ?_
    generalize Mine.ep _ _ = lt
    intros hJ
    obtain ⟨u,q1,q2,q3,q4,hlt,rfl,rfl,sm⟩ := hJ
    obtain rfl : lt = toldAll cs := by rw [hlt,hc.length,List.take_length];rfl
    clear hlt sm
    k_steps
    (rename Fr _ _ _ _ => F9);(rename News _ _ _ _ => N9)
    refine' hret _ ((_,({ cls := .type "tuple",data := .seq #[.str (ofL (toldAll cs).whole) q1, .str (ofL (toldAll cs).straight) q2] 0 } : Obj)) :: (CL,listOf cz n) :: rest) _ ⟨_,q1,q2,rfl,rfl,?R3⟩ ⟨rfl,rfl⟩ F9 ?R4
    (case R4 => exact News.cons_ (N9 _ (by k_mem)) (News.cons_ (N9 _ (by k_mem)) (fun p hp => N9 p (by k_mem))))
    (case R3 => exact List.forall_mem_cons.mpr ⟨by (refine ltN ?_;(try dsimp only);omega),lt_of_allLt (by tb_lt)⟩))
theorem ltold : ∀ (w : World) (CL : Addr) (cz : Array Value) (n : Nat) (rest : List (Addr × Obj)) (cs : List LCall) (hc : CallsAt rest cz.toList cs) (hz : cs.length ≤ 20) (hsh : ∀ c ∈ cs,Shape c),Spec w 227 6 60 ((CL,listOf cz n) :: rest) [.ref CL] (fun v news' => ∃ T t1 t2,v = .ref T ∧ news' = (T,({ cls := .type "tuple",data := .seq #[.str (ofL (toldAll cs).whole) t1, .str (ofL (toldAll cs).straight) t2] 0 } : Obj)) :: (CL,listOf cz n) :: rest ∧ ∀ p ∈ (CL,listOf cz n) :: rest,@LT.lt Nat _ p.1 T) := by
  intros w CL cz n rest cs hc hz hsh
  refine Spec.close fun mean9 mg9 mb9 dp9 un9 gd9 cn9 cs9 a9 ccd9 cl9 outer9 A₀9 base9 h₀9 L9 m9 s9 R9 => ?_
  exact tau (by unfold cTo;rfl) ltold_c { ltL0 with w := w,b := nth 0 [0,0,0,0,0,0,0,0,0,0,0,0,0,CL],n := nth 0 [0,0,0,0,0,n],vs := nth #[] [#[],#[],#[],#[],#[],cz],rest := nth [] [rest],lc := nth [] [cs],mean := mean9,mg := mg9,mb := mb9,dp := dp9,un := un9,gd := gd9,cn := cn9,cs := cs9,a := a9,ccd := ccd9,cl := cl9,outer := outer9,A₀ := A₀9,base := base9,h₀ := h₀9,L := L9,m := m9,s := s9,R := R9 } hc hz hsh
theorem rows_ltold_3 : True := by
  (k_with "ltold:call ref" => (k_here;(with_reducible show wpAny _ _ (call (Value.ref 227) [Value.ref _]) _ _ _);k_dflt (refine' Mine.Spec.callC (Mine.ltold _ _ _ _ _ _ ?P1'33 ?P2'33 ?P3'33) ?B9'33 ?F9'33 ?X9'33 ?N9'33 ?T9'33 ?hk9'33 ?ht9'33 ?hd9'33 ?hu9'33 ?_;(case B9'33 => k_asm);(case F9'33 => k_asm);(case X9'33 => k_asm);(case N9'33 => k_asm);(case T9'33 => k_asm);(case hk9'33 => first | assumption | exact rfl);(case ht9'33 => (refine Mine.leT ?_;(try dsimp only);omega));(case hd9'33 => ktr_room);(case hu9'33 => ktr_units);(case P1'33 => assumption);(case P2'33 => assumption);(case P3'33 => assumption);k_whole;intro v''33 news9''33 h9''33 dr9''33 tk9''33 hr'33 F''33 N''33 tk''33;(obtain ⟨T''33,q1''33,q2''33,hv'33,hn'33,hl''33⟩ := hr'33);(subst hv'33);(subst hn'33);(try dsimp only at N''33);(try dsimp only));(try k_lt hl''33)))
  trivial
end
section
local macro_rules (kind := PySem.W.tacticK_extra_) | x => topOf "lcalls lcdef lst wloop loop wr1 ltext ints cut fast lt wr0 bound oo mac0 om" x
def LcJ (SL WI CL NB : Addr) (oS oN : Obj) (rest : List (Addr × Obj)) (ns : List Int) (S0 : List Str × List LCall) (i : Nat) (m : Str → Option Value) (nw : List (Addr × Obj)) : Prop :=
  ∃ (u : Str → Option Value) (ws cz : Array Value) (wn cn9 : Nat) (rest' : List (Addr × Obj)) (wi : List Str) (cl' : List LCall),
    m = (fun z => if z = Str.ofString "within" then some (Value.ref WI) else if z = Str.ofString "calls" then some (Value.ref CL) else if z = Str.ofString "numbers" then some (Value.ref NB) else u z) ∧
    nw = (SL,oS) :: (WI,listOf ws wn) :: (CL,listOf cz cn9) :: (NB,oN) :: rest' ∧ StrsAre ws.toList wi ∧ CallsAt rest' cz.toList cl' ∧ (wi,cl') = (ns.take i).foldl turnOf S0 ∧
    1 ≤ wi.length ∧ ws.size ≤ i + 1 ∧ cz.size ≤ i + 2 ∧ (∀ p ∈ rest,p ∈ rest') ∧ (∀ p ∈ rest',p.1 ≠ SL) ∧ (∀ p ∈ rest',p.1 ≠ WI) ∧ (∀ p ∈ rest',p.1 ≠ CL) ∧ (∀ p ∈ rest',p.1 ≠ NB)
theorem lc_end {h₀ : Heap} {L SL WI CL NB T : Addr} {oS oN : Obj} {rest rest' nx : List (Addr × Obj)} {ns : List Int} {S0 : List Str × List LCall} {i : Nat} {m : Str → Option Value} {p : Addr × Obj} {s s' : Shared} {d : Int} {cz ws' : Array Value} {wn cn9 : Nat} {wi wi' : List Str} {cl' : List LCall} {c : LCall} {t1 t2 t3 : Tok}
    (hs : Same s s') (F : Fr h₀ L s'.heap m) (N : News h₀ L s'.heap nx) (hp : p ∈ nx)
    (m1 : m (Str.ofString "within") = some (.ref WI)) (m2 : m (Str.ofString "calls") = some (.ref CL)) (m3 : m (Str.ofString "numbers") = some (.ref NB))
    (n1 : (SL,oS) ∈ nx) (n2 : (WI,listOf ws' wn) ∈ nx) (n3 : (CL,listOf (cz.push (.ref T)) cn9) ∈ nx) (n4 : (NB,oN) ∈ nx) (n5 : (T,callObj c t1 t2 t3) ∈ nx) (n6 : ∀ q ∈ rest',q ∈ nx)
    (e1 : @Ne Nat SL p.1) (e2 : @Ne Nat WI p.1) (e3 : @Ne Nat CL p.1) (e4 : @Ne Nat NB p.1) (e5 : ∀ q ∈ rest',q.1 ≠ p.1)
    (l1 : @LT.lt Nat _ p.1 T ∧ @LT.lt Nat _ SL T ∧ @LT.lt Nat _ WI T ∧ @LT.lt Nat _ CL T ∧ @LT.lt Nat _ NB T)
    (hws' : StrsAre ws'.toList wi') (hcz : CallsAt rest' cz.toList cl') (hst : (wi,cl') = (ns.take i).foldl turnOf S0) (hi : ns[i]? = some d) (ht : turnOf (wi,cl') d = (wi',cl' ++ [c]))
    (hw1 : 1 ≤ wi'.length) (hwz : ws'.size ≤ i + 2) (hcs : cz.size ≤ i + 2) (hsub : ∀ p ∈ rest,p ∈ rest') (d1 : ∀ p ∈ rest',p.1 ≠ SL) (d2 : ∀ p ∈ rest',p.1 ≠ WI) (d3 : ∀ p ∈ rest',p.1 ≠ CL) (d4 : ∀ p ∈ rest',p.1 ≠ NB) :
    LoopEnd h₀ L (LcJ SL WI CL NB oS oN rest ns S0 (i + 1)) p s .next s' := by
  obtain ⟨la,lb,lc,ld,le⟩ := l1
  refine ⟨.inl rfl,m,(SL,oS) :: (WI,listOf ws' wn) :: (CL,listOf (cz.push (.ref T)) cn9) :: (NB,oN) :: (T,callObj c t1 t2 t3) :: rest',nx,hs,F,N,hp,?_,?_,m,ws',cz.push (.ref T),wn,cn9,(T,callObj c t1 t2 t3) :: rest',wi',cl' ++ [c],map3 m1 m2 m3,rfl,hws',?_,?_,hw1,hwz,?_,fun q hq => .tail _ (hsub q hq),?_,?_,?_,?_⟩
  · simp only [List.forall_mem_cons];exact ⟨n1,n2,n3,n4,n5,n6⟩
  · simp only [List.forall_mem_cons];exact ⟨e1,e2,e3,e4,Nat.ne_of_gt la,e5⟩
  · rw [Array.toList_push];exact CallsAt.snoc (hcz.mono fun q hq => .tail _ hq) (.head _)
  · rw [List.take_add_one,List.foldl_append,← hst,hi];exact ht.symm
  · rw [Array.size_push];omega
  · exact List.forall_mem_cons.mpr ⟨Nat.ne_of_gt lb,d1⟩
  · exact List.forall_mem_cons.mpr ⟨Nat.ne_of_gt lc,d2⟩
  · exact List.forall_mem_cons.mpr ⟨Nat.ne_of_gt ld,d3⟩
  · exact List.forall_mem_cons.mpr ⟨Nat.ne_of_gt le,d4⟩
def LwJ (WI CL NB : Addr) (oN : Obj) (rest : List (Addr × Obj)) (tot : List LCall) (k : Nat) (m : Str → Option Value) (nw : List (Addr × Obj)) : Prop :=
  ∃ (u : Str → Option Value) (ws cz : Array Value) (wn cn9 : Nat) (rest' : List (Addr × Obj)) (wi : List Str) (cl' : List LCall),
    m = (fun z => if z = Str.ofString "within" then some (Value.ref WI) else if z = Str.ofString "calls" then some (Value.ref CL) else if z = Str.ofString "numbers" then some (Value.ref NB) else u z) ∧
    nw = (WI,listOf ws wn) :: (CL,listOf cz cn9) :: (NB,oN) :: rest' ∧ StrsAre ws.toList wi ∧ CallsAt rest' cz.toList cl' ∧ cl' ++ endsOf wi = tot ∧
    wi.length = k ∧ cz.size + k ≤ 15 ∧ k ≤ 10 ∧ (∀ p ∈ rest,p ∈ rest') ∧ (∀ p ∈ rest',p.1 ≠ WI) ∧ (∀ p ∈ rest',p.1 ≠ CL) ∧ (∀ p ∈ rest',p.1 ≠ NB)
theorem lw_end {h₀ : Heap} {L WI CL NB T : Addr} {oN : Obj} {rest rest' nx : List (Addr × Obj)} {tot : List LCall} {k : Nat} {m : Str → Option Value} {s s' : Shared} {cz ws0 : Array Value} {wn cn9 : Nat} {wi0 : List Str} {x : Str} {cl' : List LCall} {t1 t2 t3 : Tok}
    (hs : Same s s') (F : Fr h₀ L s'.heap m) (N : News h₀ L s'.heap nx)
    (m1 : m (Str.ofString "within") = some (.ref WI)) (m2 : m (Str.ofString "calls") = some (.ref CL)) (m3 : m (Str.ofString "numbers") = some (.ref NB))
    (n2 : (WI,listOf ws0 wn) ∈ nx) (n3 : (CL,listOf (cz.push (.ref T)) cn9) ∈ nx) (n4 : (NB,oN) ∈ nx) (n5 : (T,callObj (1,x,Str.ofString "") t1 t2 t3) ∈ nx) (n6 : ∀ q ∈ rest',q ∈ nx)
    (l1 : @LT.lt Nat _ WI T ∧ @LT.lt Nat _ CL T ∧ @LT.lt Nat _ NB T)
    (hws : StrsAre ws0.toList wi0) (hcz : CallsAt rest' cz.toList cl') (ht : cl' ++ endsOf (wi0 ++ [x]) = tot) (hk : (wi0 ++ [x]).length = k + 1) (hcs : cz.size + (k + 1) ≤ 15) (hk10 : k + 1 ≤ 10) (hsub : ∀ p ∈ rest,p ∈ rest') (d2 : ∀ p ∈ rest',p.1 ≠ WI) (d3 : ∀ p ∈ rest',p.1 ≠ CL) (d4 : ∀ p ∈ rest',p.1 ≠ NB) :
    WEnd h₀ L (LwJ WI CL NB oN rest tot k) s .next s' := by
  obtain ⟨lc,ld,le⟩ := l1
  refine ⟨.inl rfl,m,(WI,listOf ws0 wn) :: (CL,listOf (cz.push (.ref T)) cn9) :: (NB,oN) :: (T,callObj (1,x,Str.ofString "") t1 t2 t3) :: rest',hs,F,?_,m,ws0,cz.push (.ref T),wn,cn9,(T,callObj (1,x,Str.ofString "") t1 t2 t3) :: rest',wi0,cl' ++ [(1,x,Str.ofString "")],map3 m1 m2 m3,rfl,hws,?_,?_,?_,?_,?_,fun q hq => .tail _ (hsub q hq),?_,?_,?_⟩
  · exact News.cons_ (N _ n2) (News.cons_ (N _ n3) (News.cons_ (N _ n4) (News.cons_ (N _ n5) (fun q hq => N q (n6 q hq)))))
  · rw [Array.toList_push];exact CallsAt.snoc (hcz.mono fun q hq => .tail _ hq) (.head _)
  · rw [← ht,List.append_assoc];unfold endsOf;rw [List.reverse_append];rfl
  · rw [List.length_append] at hk;exact Nat.succ.inj hk
  · rw [Array.size_push];omega
  · omega
  · exact List.forall_mem_cons.mpr ⟨Nat.ne_of_gt lc,d2⟩
  · exact List.forall_mem_cons.mpr ⟨Nat.ne_of_gt ld,d3⟩
  · exact List.forall_mem_cons.mpr ⟨Nat.ne_of_gt le,d4⟩
theorem turn0 {wi : List Str} {cl : List LCall} {d : Int} {z : Str} (h : d.fmod 6 = 0) (hz : z = if (d.fdiv 6).fmod 2 = 0 then Str.ofString "a" else Str.ofString "b") : turnOf (wi,cl) d = (wi ++ [z],cl ++ [(0,z,tellText (d.fdiv 6))]) := by
  subst hz;unfold turnOf;rw [if_pos h]
theorem turn1 {wi0 : List Str} {x : Str} {cl : List LCall} {d : Int} (h0 : d.fmod 6 ≠ 0) (h : d.fmod 6 = 1) (hl : 1 ≤ wi0.length) : turnOf (wi0 ++ [x],cl) d = (wi0,cl ++ [(1,x,Str.ofString "")]) := by
  unfold turnOf
  have : 1 < (wi0 ++ [x]).length := by rw [List.length_append];exact Nat.lt_of_lt_of_le (by decide : 1 < 1 + 1) (Nat.add_le_add_right hl 1)
  rw [if_neg h0,if_pos ⟨h,this⟩];simp
theorem turn2 {wi : List Str} {cl : List LCall} {d : Int} (h0 : d.fmod 6 ≠ 0) (h : d.fmod 6 < 4) (h1 : d.fmod 6 ≠ 1 ∨ wi.length ≤ 1) : turnOf (wi,cl) d = (wi,cl ++ [(2,Str.ofString "",tellText (d.fdiv 6))]) := by
  unfold turnOf
  rw [if_neg h0,if_neg (by rintro ⟨a,b⟩;exact h1.elim (fun x => x a) (fun x => Nat.not_lt.mpr x b)),if_pos h]
theorem turn3 {wi : List Str} {cl : List LCall} {d : Int} (h0 : d.fmod 6 ≠ 0) (h1 : d.fmod 6 ≠ 1) (h : ¬ d.fmod 6 < 4) : turnOf (wi,cl) d = (wi,cl ++ [(d.fmod 6 - 1,Str.ofString "p",tellText (d.fdiv 6))]) := by
  unfold turnOf
  rw [if_neg h0,if_neg (fun x => h1 x.1),if_neg h]
theorem strs_len {vs : List Value} {ys : List Str} (h : StrsAre vs ys) : vs.length = ys.length := by
  induction h with
  | nil => rfl
  | cons _ _ _ ih => simp [ih]
theorem strs_inv {vs : List Value} {y : Str} {ys : List Str} (h : StrsAre vs (y :: ys)) : ∃ t r,vs = .str y t :: r ∧ StrsAre r ys := by
  cases h with
  | cons _ t h => exact ⟨t,_,rfl,h⟩
theorem strs_nil {vs : List Value} (h : StrsAre vs []) : vs = [] := by
  cases h;rfl
theorem strs_snoc {y : Str} : ∀ {ys : List Str} {vs : List Value},StrsAre vs (ys ++ [y]) → ∃ vs' t,vs = vs' ++ [.str y t] ∧ StrsAre vs' ys
  | [],_,h => (strs_inv h).elim fun t h => h.elim fun _ h => ⟨[],t,h.1.trans (congrArg (Value.str y t :: ·) (strs_nil h.2)), .nil⟩
  | z :: ys,_,h => (strs_inv h).elim fun u h => h.elim fun _ h => (strs_snoc (ys := ys) h.2).elim fun vs' k => k.elim fun t k => ⟨.str z u :: vs',t,h.1.trans (congrArg (Value.str z u :: ·) k.1), .cons _ u k.2⟩
theorem len1 {k : Int} {ws : Array Value} {v : Value} {wi : List Str} (h : k = ((ws.push v).size : Int)) (h2 : 1 < k) (hl : ws.size = wi.length) : 1 ≤ wi.length := by
  rw [Array.size_push] at h;omega
theorem len2 {k : Int} {ws : Array Value} {v : Value} {wi : List Str} {x : Str} (h : k = ((ws.push v).size : Int)) (h2 : ¬ 1 < k) (hl : ws.size = wi.length) : (wi ++ [x]).length ≤ 1 := by
  rw [Array.size_push] at h;rw [List.length_append];simp only [List.length_cons,List.length_nil];omega
theorem strs_push {ws : Array Value} {wi : List Str} {x : Str} {t : Tok} (h : StrsAre ws.toList wi) : StrsAre (ws.push (.str x t)).toList (wi ++ [x]) := by
  rw [Array.toList_push];exact StrsAre.append' h (.cons x t .nil)
theorem strs_last {ws : Array Value} {wi : List Str} (h : StrsAre ws.toList wi) (h1 : 1 ≤ wi.length) : ∃ (ws0 : Array Value) (x : Str) (t : Tok) (wi0 : List Str),ws = ws0.push (.str x t) ∧ wi = wi0 ++ [x] ∧ StrsAre ws0.toList wi0 := by
  obtain ⟨wi0,x,rfl⟩ : ∃ a b,wi = a ++ [b] := ⟨wi.dropLast,wi.getLast (List.ne_nil_of_length_pos h1),(List.dropLast_concat_getLast _).symm⟩
  obtain ⟨vs',t,e,h'⟩ := strs_snoc h
  refine ⟨vs'.toArray,x,t,wi0,?_,rfl,by simpa using h'⟩
  apply Array.toList_inj.mp
  rw [e];simp
section
variable {prog : Program} {w : World} {A : Around} {E : Value → Shared → Prop} {s : Shared} {h₀ : Heap} {L D : Addr} {news : List (Addr × Obj)} {n : Nat}
theorem item_two {value slice : PySem.Expr} {x y : Str} {t1 t2 u : Tok} {q : Int} {Q : Value → Shared → Prop} (N : News h₀ L s.heap news) (hm : (D, listOf #[.str x t1, .str y t2] n) ∈ news) (h : ∀ z t, z = (if q.fmod 2 = 0 then x else y) → Q (.str z t) s)
    (hs : subscripted slice false (.ref D) (.int (q.fmod 2) u) = operate [.ref D, .int (q.fmod 2) u] (getItem (.ref D) (.int (q.fmod 2) u)) := by with_unfolding_all rfl) :
    wpAny (model prog w) A (subscriptTail value slice (.ref D) (.int (q.fmod 2) u)) Q E s := by
  have a := Int.fmod_nonneg_of_pos q (show (0 : Int) < 2 by decide)
  have b := Int.fmod_lt_of_pos q (show (0 : Int) < 2 by decide)
  rcases (show q.fmod 2 = 0 ∨ q.fmod 2 = 1 by omega) with e | e
  · refine item_is e N hm (by decide) (by decide) rfl (h x t1 (by rw [if_pos e])) hs
  · refine item_is e N hm (by decide) (by decide) rfl (h y t2 (by rw [if_neg (by omega)])) hs
end
theorem rows_lcalls_1 : True := by
  (k_with "lcalls:exec While Compare" => (k_here;(with_reducible show wpAny _ _ (exec (Stmt.While _ _ _ _) _) _ _ _);(with_reducible rename Mine.CutOn => hC9'34);clear hC9'34;refine Mine.Cut.go ?_))
  (k_with "lcalls:subscriptTail List cons BinOp ref int" => (k_here;(with_reducible show wpAny _ _ (subscriptTail _ _ (Value.ref _) (Value.int (Int.fmod _ _) _)) _ _ _);k_dflt (refine' Mine.item_two ?N'35 ?M'35 ?_ ?hs'35;(case N'35 => k_asm);(case M'35 => k_mem);(case hs'35 => with_unfolding_all rfl);k_whole);intro z9'35 t9'35 hz9'35))
  trivial
def lcallsP (l : Lt) : Prop :=
  (∀ p ∈ (l.rest 0),@LT.lt Nat _ p.1 (l.b 13)) →
  (0 ≤ (l.i 0) ∧ (l.i 0) < 2 ^ 40) →
  (0 ≤ (l.i 1) ∧ (l.i 1) < 2 ^ 40) →
  (0 ≤ (l.i 2) ∧ (l.i 2) < 2 ^ 40) →
  (0 ≤ (l.i 3) ∧ (l.i 3) < 2 ^ 40) →
  (0 ≤ (l.i 4) ∧ (l.i 4) < 2 ^ 40) →
  (0 ≤ (l.i 5) ∧ (l.i 5) < 2 ^ 40) →
  (0 ≤ (l.i 6) ∧ (l.i 6) < 2 ^ 40) →
  SpecL l 199 8 80 (((l.b 13),listOf #[.int (l.i 0) (l.t 19), .int (l.i 1) (l.t 20), .int (l.i 2) (l.t 21), .int (l.i 3) (l.t 22), .int (l.i 4) (l.t 23), .int (l.i 5) (l.t 24), .int (l.i 6) (l.t 25)] (l.n 5)) :: (l.rest 0)) [.ref (l.b 13)] (fun v news' => ∃ (CL : Addr) (cs : Array Value) (n : Nat) (rest' : List (Addr × Obj)),v = .ref CL ∧ news' = (CL,listOf cs n) :: rest' ∧ CallsAt rest' cs.toList (callsOf [(l.i 0),(l.i 1),(l.i 2),(l.i 3),(l.i 4),(l.i 5),(l.i 6)]) ∧ (∀ p ∈ (l.rest 0),p ∈ rest') ∧ (∀ p ∈ rest',p.1 ≠ CL))
@[irreducible] noncomputable def cCl : Lt := Classical.choose (Lt.ex lcallsP)
theorem lcalls_c : lcallsP cCl := by
  unfold lcallsP SpecL SpecQ
  k_fill
  generalize cCl.w = w;generalize cCl.b 13 = NB;generalize cCl.n 5 = nn;generalize cCl.rest 0 = rest;generalize cCl.i 0 = a0;generalize cCl.i 1 = a1;generalize cCl.i 2 = a2;generalize cCl.i 3 = a3
  generalize cCl.i 4 = a4;generalize cCl.i 5 = a5;generalize cCl.i 6 = a6;generalize cCl.t 19 = k0;generalize cCl.t 20 = k1;generalize cCl.t 21 = k2;generalize cCl.t 22 = k3;generalize cCl.t 23 = k4
  generalize cCl.t 24 = k5;generalize cCl.t 25 = k6;generalize cCl.mean = mean;generalize cCl.mg = mg;generalize cCl.mb = mb;generalize cCl.dp = dp;generalize cCl.un = un;generalize cCl.gd = gd
  generalize cCl.cn = cn;generalize cCl.cs = cs;generalize cCl.a = a;generalize cCl.ccd = ccd;generalize cCl.cl = cl;generalize cCl.outer = outer;generalize cCl.A₀ = A₀;generalize cCl.base = base
  generalize cCl.h₀ = h₀;generalize cCl.L = L;generalize cCl.m = m;generalize cCl.s = s;generalize cCl.R = R
  intros kr g0 g1 g2 g3 g4 g5 g6 B F X N T hk hts hd1 hu hret
  k_dflt (refine' code_def (binds := [("numbers", .ref NB)]) ?k1 ?k2 ?k3 ?k4 ?k5 ?kA ?kF ?kK ?k6 ?k7 ?k8 ?k9 ?kB ?_ ?c2 ?c3 ?c4 ?c5;(case kA => exact rfl);(case kF => exact rfl);(case kK => assumption);(case k1 => k_asm);(case k2 => k_asm);(case k3 => k_asm);(case k4 => k_asm);(case k5 => k_asm);(case k6 => k_is);(case k7 => k_is);(case k8 => ktr_room);(case k9 => exact BindsTo.of_eq rfl);(case c5 => decide);(case kB => exact locs rfl);(case c2 => exact rfl);(case c3 => exact rfl);(case c4 => exact rfl);k_whole;intro g' L' h' FG' F' N' B' X' T';(try dsimp only);(try k_lift B');(try k_fold))
  obtain ⟨g0,g0'⟩ := g0
  obtain ⟨g1,g1'⟩ := g1
  obtain ⟨g2,g2'⟩ := g2
  obtain ⟨g3,g3'⟩ := g3
  obtain ⟨g4,g4'⟩ := g4
  obtain ⟨g5,g5'⟩ := g5
  obtain ⟨g6,g6'⟩ := g6
  k_steps
  rename_i T0 y1 y2 lT0 T1 y3 y4 y5 lT1 CL y6 y7 y8 y9 lCL y10 y11 y12 y13 WI y14 y15 y16 y17 y18 lWI y19 SL hS F9 N9 y23 y24 y25 y26 y27 lSL
  have sep : @LT.lt Nat _ NB CL ∧ @LT.lt Nat _ CL WI ∧ @LT.lt Nat _ WI SL := ⟨by omega,by omega,by omega⟩
  refine' iter_led (vs := [.int a1 k1, .int a2 k2, .int a3 k3, .int a4 k4, .int a5 k5]) (n := 0) (LcJ SL WI CL NB (listOf (List.toArray [.int a1 k1, .int a2 k2, .int a3 k3, .int a4 k4, .int a5 k5]) 0) (listOf #[.int a0 k0, .int a1 k1, .int a2 k2, .int a3 k3, .int a4 k4, .int a5 k5, .int a6 k6] nn) rest [a1,a2,a3,a4,a5] ([Str.ofString "r"],[(3 + a0.fmod 2,Str.ofString "p",tellText (a0.fdiv 2)),(0,Str.ofString "r",Str.ofString "")])) ?hh ?hgo F9 ?N8 ?hl ?h0 ?ht ?turn ?done
  (case hh => exact rfl)
  (case hgo => intro _ _ _ _ _ _ _ _ _ hq;exact wpAny_of_eq rfl hq)
  (case hl => rintro i m nw ⟨u,ws,cz,wn,cn9,rest',wi,cl',rfl,rfl,_⟩;exact .head _)
  (case ht => (refine Mine.leT ?_;(try dsimp only);omega))
  case' h0 => refine' ⟨_,#[.str (Str.ofString "r") _],#[.ref T0, .ref T1],0,0,(T1,callObj (0,Str.ofString "r",Str.ofString "") _ _ _) :: (T0,callObj (3 + a0.fmod 2,Str.ofString "p",tellText (a0.fdiv 2)) _ _ _) :: rest,[Str.ofString "r"],_,map3 rfl rfl rfl,rfl, .cons _ _ .nil, .cons (.tail _ (.head _)) (.cons (.head _) .nil),rfl,Nat.le_refl _,Nat.le_refl _,Nat.le_refl _,fun p hp => .tail _ (.tail _ hp),?ha,?hb,?hc,?hd⟩
  (case N8 => exact News.cons_ (N9 _ (by k_mem)) (News.cons_ (N9 _ (by k_mem)) (News.cons_ (N9 _ (by k_mem)) (News.cons_ (N9 _ (by k_mem)) (News.cons_ (N9 _ (by k_mem)) (News.cons_ (N9 _ (by k_mem)) (fun p hp => N9 p (by k_mem))))))))
  (case ha => k_all)
  (case hb => k_all)
  (case hc => k_all)
  (case hd => k_all)
  (case turn =>
    intro i v m₁ nw h dr tk I io hv hJ F1 N1 hne ht1
    obtain ⟨u,ws,cz,wn,cn9,rest',wi,cl',rfl,rfl,hws,hcz,hst,hw1,hwz,hcs,hsub,d1,d2,d3,d4⟩ := hJ
    have hd : ∃ d kd,v = .int d kd ∧ [a1,a2,a3,a4,a5][i]? = some d ∧ 0 ≤ d ∧ d < 2 ^ 40 := by
      rcases i with _ | _ | _ | _ | _ | i
      · exact ⟨a1,k1,(Option.some.inj hv).symm,rfl,g1,g1'⟩
      · exact ⟨a2,k2,(Option.some.inj hv).symm,rfl,g2,g2'⟩
      · exact ⟨a3,k3,(Option.some.inj hv).symm,rfl,g3,g3'⟩
      · exact ⟨a4,k4,(Option.some.inj hv).symm,rfl,g4,g4'⟩
      · exact ⟨a5,k5,(Option.some.inj hv).symm,rfl,g5,g5'⟩
      · exact absurd hv (by simp)
    obtain ⟨d,kd,rfl,hdi,hd0,hd1⟩ := hd
    have q0 : @Ne Nat SL I := hne _ (.head _)
    have q1 : @Ne Nat WI I := hne _ (.tail _ (.head _))
    have q2 : @Ne Nat CL I := hne _ (.tail _ (.tail _ (.head _)))
    have q3 : @Ne Nat NB I := hne _ (.tail _ (.tail _ (.tail _ (.head _))))
    have q4 : ∀ p ∈ rest',p.1 ≠ I := fun p hp => hne p (.tail _ (.tail _ (.tail _ (.tail _ hp))))
    clear hne F9 N9 hv
    have hi4 : i < 5 := by
      rcases Nat.lt_or_ge i 5 with h | h
      · exact h
      · rw [List.getElem?_eq_none (by simpa using h)] at hdi;cases hdi
    obtain ⟨ws0,wl,wlt,wi0,rfl,rfl,hws0⟩ := strs_last hws hw1
    have hws3 : ws0.size ≤ 10 := by rw [Array.size_push] at hwz;omega
    have hcs3 : cz.size ≤ 10 := by omega
    have hwl : ws0.size = wi0.length := by have := strs_len hws0;simpa using this
    have hwz' : ws0.size + 1 ≤ i + 1 := by rw [Array.size_push] at hwz;exact hwz
    dsimp only
    k_steps
    · (rename Fr _ _ _ _ => F9);(rename News _ _ _ _ => N9)
      refine' lc_end (c := (0,_,tellText (d.fdiv 6))) (wi' := wi0 ++ [wl] ++ [_]) ⟨rfl,rfl⟩ F9 N9 ?b1 rfl rfl rfl ?b2 ?b3 ?b4 ?b5 ?b6 (fun q hq => by k_mem) q0 q1 q2 q3 q4 ?l1 (strs_push (strs_push hws0)) hcz hst hdi (turn0 (by assumption) (by assumption)) ?e1 ?e2 hcs hsub d1 d2 d3 d4
      (case b1 => k_mem)
      (case b2 => k_mem)
      (case b3 => k_mem)
      (case b4 => k_mem)
      (case b5 => k_mem)
      (case b6 => k_mem)
      (case l1 => exact ⟨by omega,by omega,by omega,by omega,by omega⟩)
      (case e1 => simp)
      (case e2 => first | omega | (simp only [Array.size_push,List.size_toArray,List.length_cons,List.length_nil];omega))
    · (rename Fr _ _ _ _ => F9);(rename News _ _ _ _ => N9)
      refine' lc_end (c := (1,wl,Str.ofString "")) (wi' := wi0) ⟨rfl,rfl⟩ F9 N9 ?b1 rfl rfl rfl ?b2 ?b3 ?b4 ?b5 ?b6 (fun q hq => by k_mem) q0 q1 q2 q3 q4 ?l1 (hws0) hcz hst hdi (turn1 (by assumption) (by assumption) (len1 (by assumption) (by assumption) hwl)) ?e1 ?e2 hcs hsub d1 d2 d3 d4
      (case b1 => k_mem)
      (case b2 => k_mem)
      (case b3 => k_mem)
      (case b4 => k_mem)
      (case b5 => k_mem)
      (case b6 => k_mem)
      (case l1 => exact ⟨by omega,by omega,by omega,by omega,by omega⟩)
      (case e1 => exact len1 (by assumption) (by assumption) hwl)
      (case e2 => first | omega | (simp only [Array.size_push,List.size_toArray,List.length_cons,List.length_nil];omega))
    · (rename Fr _ _ _ _ => F9);(rename News _ _ _ _ => N9)
      refine' lc_end (c := (2,Str.ofString "",tellText (d.fdiv 6))) (wi' := wi0 ++ [wl]) ⟨rfl,rfl⟩ F9 N9 ?b1 rfl rfl rfl ?b2 ?b3 ?b4 ?b5 ?b6 (fun q hq => by k_mem) q0 q1 q2 q3 q4 ?l1 (strs_push hws0) hcz hst hdi (turn2 (by assumption) (by omega) (.inr (len2 (by assumption) (by assumption) hwl))) ?e1 ?e2 hcs hsub d1 d2 d3 d4
      (case b1 => k_mem)
      (case b2 => k_mem)
      (case b3 => k_mem)
      (case b4 => k_mem)
      (case b5 => k_mem)
      (case b6 => k_mem)
      (case l1 => exact ⟨by omega,by omega,by omega,by omega,by omega⟩)
      (case e1 => exact hw1)
      (case e2 => first | omega | (simp only [Array.size_push,List.size_toArray,List.length_cons,List.length_nil];omega))
    · (rename Fr _ _ _ _ => F9);(rename News _ _ _ _ => N9)
      refine' lc_end (c := (2,Str.ofString "",tellText (d.fdiv 6))) (wi' := wi0 ++ [wl]) ⟨rfl,rfl⟩ F9 N9 ?b1 rfl rfl rfl ?b2 ?b3 ?b4 ?b5 ?b6 (fun q hq => by k_mem) q0 q1 q2 q3 q4 ?l1 (strs_push hws0) hcz hst hdi (turn2 (by assumption) (by assumption) (.inl (by assumption))) ?e1 ?e2 hcs hsub d1 d2 d3 d4
      (case b1 => k_mem)
      (case b2 => k_mem)
      (case b3 => k_mem)
      (case b4 => k_mem)
      (case b5 => k_mem)
      (case b6 => k_mem)
      (case l1 => exact ⟨by omega,by omega,by omega,by omega,by omega⟩)
      (case e1 => exact hw1)
      (case e2 => first | omega | (simp only [Array.size_push,List.size_toArray,List.length_cons,List.length_nil];omega))
    · (rename Fr _ _ _ _ => F9);(rename News _ _ _ _ => N9)
      refine' lc_end (c := (d.fmod 6 - 1,Str.ofString "p",tellText (d.fdiv 6))) (wi' := wi0 ++ [wl]) ⟨rfl,rfl⟩ F9 N9 ?b1 rfl rfl rfl ?b2 ?b3 ?b4 ?b5 ?b6 (fun q hq => by k_mem) q0 q1 q2 q3 q4 ?l1 (strs_push hws0) hcz hst hdi (turn3 (by assumption) (by assumption) (by assumption)) ?e1 ?e2 hcs hsub d1 d2 d3 d4
      (case b1 => k_mem)
      (case b2 => k_mem)
      (case b3 => k_mem)
      (case b4 => k_mem)
      (case b5 => k_mem)
      (case b6 => k_mem)
      (case l1 => exact ⟨by omega,by omega,by omega,by omega,by omega⟩)
      (case e1 => exact hw1)
      (case e2 => first | omega | (simp only [Array.size_push,List.size_toArray,List.length_cons,List.length_nil];omega))
    )
  (case done =>
    intro m₁ nw h dr tk hJ F1 N1 ht1
    obtain ⟨u,ws,cz,wn,cn9,rest',wi,cl',rfl,rfl,hws,hcz,hst,hw1,hwz,hcs,hsub,d1,d2,d3,d4⟩ := hJ
    have htot0 : cl' ++ endsOf wi ++ [(3 + a6.fmod 2,Str.ofString "p",tellText (a6.fdiv 2))] = callsOf [a0,a1,a2,a3,a4,a5,a6] := by
      have e : callsOf [a0,a1,a2,a3,a4,a5,a6] = (([a1,a2,a3,a4,a5].take 5).foldl turnOf ([Str.ofString "r"],[(3 + a0.fmod 2,Str.ofString "p",tellText (a0.fdiv 2)),(0,Str.ofString "r",Str.ofString "")])).2 ++ endsOf (([a1,a2,a3,a4,a5].take 5).foldl turnOf ([Str.ofString "r"],[(3 + a0.fmod 2,Str.ofString "p",tellText (a0.fdiv 2)),(0,Str.ofString "r",Str.ofString "")])).1 ++ [(3 + a6.fmod 2,Str.ofString "p",tellText (a6.fdiv 2))] := rfl
      rw [e]
      have hst' : (wi,cl') = ([a1,a2,a3,a4,a5].take 5).foldl turnOf ([Str.ofString "r"],[(3 + a0.fmod 2,Str.ofString "p",tellText (a0.fdiv 2)),(0,Str.ofString "r",Str.ofString "")]) := hst
      rw [← hst']
    have cutOn : CutOn := trivial
    k_steps
    unfold Cut
    k_dflt (refine' whl_start 100 ?_)
    have hwl : ws.size = wi.length := by have := strs_len hws;simpa using this
    have hwk : wi.length ≤ 6 := by rw [← hwl];exact hwz
    have hcs' : cz.size ≤ 7 := hcs
    refine' while_down (LwJ WI CL NB (listOf #[.int a0 k0, .int a1 k1, .int a2 k2, .int a3 k3, .int a4 k4, .int a5 k5, .int a6 k6] nn) rest (cl' ++ endsOf wi)) _ _ ?hE ?turn ?done wi.length _ ((WI,listOf ws wn) :: (CL,listOf cz cn9) :: (NB,listOf #[.int a0 k0, .int a1 k1, .int a2 k2, .int a3 k3, .int a4 k4, .int a5 k5, .int a6 k6] nn) :: rest') _ _ _ ⟨_,ws,cz,wn,cn9,rest',wi,cl',map3 rfl rfl rfl,rfl,hws,hcz,rfl,rfl,by omega,by omega,hsub,d2,d3,d4⟩ (by assumption) ?N8 (by assumption)
    (case hE => first | passes_own | with_unfolding_all passes_own)
    (case N8 => (rename News _ _ _ _ => N9);exact News.cons_ (N9 _ (by k_mem)) (News.cons_ (N9 _ (by k_mem)) (News.cons_ (N9 _ (by k_mem)) (fun p hp => N9 p (by k_mem)))))
    (case turn =>
      clear hws hcz hst hw1 hwz hcs d1 d2 d3 d4 hwl hwk hcs'
      intro k m nw h dr tk hJ9 F1 N1 ht1
      obtain ⟨u,ws,cz,wn,cn9,rest',wi,cl',rfl,rfl,hws,hcz,htot,hst,hcs,hk10,hsub,d2,d3,d4⟩ := hJ9
      obtain ⟨ws0,wl,wlt,wi0,rfl,rfl,hws0⟩ := strs_last hws (by omega)
      have hwl : ws0.size = wi0.length := by have := strs_len hws0;simpa using this
      have hwk : ws0.size ≤ 10 := by rw [List.length_append] at hst;simp only [List.length_cons,List.length_nil] at hst;omega
      have hcs' : cz.size ≤ 15 := by omega
      k_steps
      (rename Fr _ _ _ _ => F9);(rename News _ _ _ _ => N9)
      refine' lw_end ⟨rfl,rfl⟩ F9 N9 rfl rfl rfl ?b2 ?b3 ?b4 ?b5 (fun q hq => by k_mem) ?l1 hws0 hcz htot hst hcs hk10 hsub d2 d3 d4
      (case b2 => k_mem)
      (case b3 => k_mem)
      (case b4 => k_mem)
      (case b5 => k_mem)
      (case l1 => exact ⟨by omega,by omega,by omega⟩))
    (case done =>
      clear hws hcz hst hw1 hwz hcs d1 d2 d3 d4 hwl hwk hcs'
      intro m nw h dr tk hJ9 F1 N1 ht1
      obtain ⟨u,ws,cz,wn,cn9,rest',wi,cl',rfl,rfl,hws,hcz,htot,hst,hcs,hk10,hsub,d2,d3,d4⟩ := hJ9
      obtain rfl : wi = [] := List.length_eq_zero_iff.mp hst
      obtain rfl : ws = #[] := by have := strs_len hws;simpa using this
      have hcs' : cz.size ≤ 15 := by omega
      k_steps
      (rename Fr _ _ _ _ => F9);(rename News _ _ _ _ => N9)
      refine' hret _ ((CL,listOf (cz.push (.ref _)) _) :: (_,callObj (3 + a6.fmod 2,Str.ofString "p",tellText (a6.fdiv 2)) _ _ _) :: rest') _ ⟨CL,_,_,_,rfl,rfl,?R1,?R2,?R3⟩ ⟨rfl,rfl⟩ F9 ?R4
      (case R4 => exact News.cons_ (N9 _ (by k_mem)) (News.cons_ (N9 _ (by k_mem)) (fun p hp => N9 p (by k_mem))))
      (case R1 => rw [← htot0,Array.toList_push,← htot];exact CallsAt.snoc (by rw [show endsOf [] = [] from rfl,List.append_nil];exact hcz.mono fun q hq => .tail _ hq) (.head _))
      (case R2 => exact fun q hq => .tail _ (hsub q hq))
      (case R3 => exact List.forall_mem_cons.mpr ⟨by (refine neN ?_;(try dsimp only);omega),d3⟩)))
theorem lcalls : ∀ (w : World) (NB : Addr) (nn : Nat) (rest : List (Addr × Obj)) (a0 a1 a2 a3 a4 a5 a6 : Int) (k0 k1 k2 k3 k4 k5 k6 : Tok) (kr : ∀ p ∈ rest,@LT.lt Nat _ p.1 NB) (g0 : 0 ≤ a0 ∧ a0 < 2 ^ 40) (g1 : 0 ≤ a1 ∧ a1 < 2 ^ 40) (g2 : 0 ≤ a2 ∧ a2 < 2 ^ 40) (g3 : 0 ≤ a3 ∧ a3 < 2 ^ 40) (g4 : 0 ≤ a4 ∧ a4 < 2 ^ 40) (g5 : 0 ≤ a5 ∧ a5 < 2 ^ 40) (g6 : 0 ≤ a6 ∧ a6 < 2 ^ 40),Spec w 199 8 80 ((NB,listOf #[.int a0 k0, .int a1 k1, .int a2 k2, .int a3 k3, .int a4 k4, .int a5 k5, .int a6 k6] nn) :: rest) [.ref NB] (fun v news' => ∃ (CL : Addr) (cs : Array Value) (n : Nat) (rest' : List (Addr × Obj)),v = .ref CL ∧ news' = (CL,listOf cs n) :: rest' ∧ CallsAt rest' cs.toList (callsOf [a0,a1,a2,a3,a4,a5,a6]) ∧ (∀ p ∈ rest,p ∈ rest') ∧ (∀ p ∈ rest',p.1 ≠ CL)) := by
  intros w NB nn rest a0 a1 a2 a3 a4 a5 a6 k0 k1 k2 k3 k4 k5 k6 kr g0 g1 g2 g3 g4 g5 g6
  refine Spec.close fun mean mg mb dp un gd cn cs a ccd cl outer A₀ base h₀ L m s R => ?_
  exact tau (by unfold cCl;rfl) lcalls_c { ltL0 with w := w,b := nth 0 [0,0,0,0,0,0,0,0,0,0,0,0,0,NB],n := nth 0 [0,0,0,0,0,nn],t := nth 0 [0,0,0,0,0,0,0,0,0,0,0,0,0,0,0,0,0,0,0,k0,k1,k2,k3,k4,k5,k6],i := nth 0 [a0,a1,a2,a3,a4,a5,a6],rest := nth [] [rest],mean,mg,mb,dp,un,gd,cn,cs,a,ccd,cl,outer,A₀,base,h₀,L,m,s,R } kr g0 g1 g2 g3 g4 g5 g6
end
section
local macro_rules (kind := PySem.W.tacticK_extra_) | x => topOf "writer w1 lam nest wru cut fast lt wr0 bound oo mac0 om" x
theorem upLt {d e : Nat} (h : d ≤ e) : ∀ {l : List (Addr × Obj)},AllLt d l → AllLt e l
  | [],_ => trivial
  | _ :: _,⟨a,b⟩ => ⟨Nat.lt_of_lt_of_le a h,upLt h b⟩
theorem writer_ok {wire wrt DW W D T0 L0 DS NS PM PS it itc : Addr} {t0 t1 t2 t3 t4 t5 t6 t7 t8 t9 t10 t11 t12 t13 t14 t15 t16 t17 : Tok} {o1 o2 o3 o4 o5 : Obj} {rest : List (Addr × Obj)} (k2 : @LT.lt Nat _ 201 wire) (kw : (wrt, bndObj "list.append" (.ref wire)) ∈ rest) (k0 : ∀ p ∈ rest, p.1 ≠ wire) (lx : AllLt W rest) (ld : AllLt DW rest)
    (h1 : @LT.lt Nat _ wire DW) (h2 : @LT.lt Nat _ DW W) (h3 : @LT.lt Nat _ W D) (h4 : @LT.lt Nat _ D T0) (h5 : @LT.lt Nat _ T0 L0) (h6 : @LT.lt Nat _ L0 DS) (h7 : @LT.lt Nat _ DS NS) (h8 : @LT.lt Nat _ NS PS) (h9 : @LT.lt Nat _ PS it) (h10 : @LT.lt Nat _ PS itc) :
    WOk ⟨W,DW,wrt,wire,D,L0,T0,DS,NS,PM,PS,it,itc,t0,t1,t2,t3,t4,t5,t6,t7,t8,t9,t10,t11,t12,t13,t14,t15,t16,t17⟩ ((it,o1) :: (itc,o2) :: (L0,o3) :: (T0,o4) :: (201,o5) :: rest) := by
  have up : ∀ x : Addr,@LE.le Nat _ W x → ∀ p ∈ rest,p.1 ≠ x := fun x hx => ne_of_allLt (lt_of_allLt (upLt hx lx))
  refine ⟨h1,h2,h3,Nat.lt_trans h4 (Nat.lt_trans h5 h6),h7,h8,?_,?_,?_,?_,?_,?_,?_, .tail _ (.tail _ (.tail _ (.tail _ (.tail _ kw))))⟩
  · refine List.forall_mem_cons.mpr ⟨neN (by dsimp only;omega),List.forall_mem_cons.mpr ⟨neN (by dsimp only;omega),List.forall_mem_cons.mpr ⟨neN (by dsimp only;omega),List.forall_mem_cons.mpr ⟨neN (by dsimp only;omega),List.forall_mem_cons.mpr ⟨neN (by dsimp only;omega),k0⟩⟩⟩⟩⟩
  · refine List.forall_mem_cons.mpr ⟨neN (by dsimp only;omega),List.forall_mem_cons.mpr ⟨neN (by dsimp only;omega),List.forall_mem_cons.mpr ⟨neN (by dsimp only;omega),List.forall_mem_cons.mpr ⟨neN (by dsimp only;omega),List.forall_mem_cons.mpr ⟨neN (by dsimp only;omega),ne_of_allLt (lt_of_allLt ld)⟩⟩⟩⟩⟩
  all_goals refine List.forall_mem_cons.mpr ⟨neN (by dsimp only;omega),List.forall_mem_cons.mpr ⟨neN (by dsimp only;omega),List.forall_mem_cons.mpr ⟨neN (by dsimp only;omega),List.forall_mem_cons.mpr ⟨neN (by dsimp only;omega),List.forall_mem_cons.mpr ⟨neN (by dsimp only;omega),up _ (by dsimp only;omega)⟩⟩⟩⟩⟩
theorem len_l {h₀ h : Heap} {L : Addr} {l : List (Str × Value)} (F : Fr h₀ L h (fun y => List.lookup y l)) {n : Nat} (e : l.length = n) : True := trivial
theorem nam_l {h₀ h : Heap} {L : Addr} {l : List (Str × Value)} (F : Fr h₀ L h (fun y => List.lookup y l)) {n : List Str} (e : l.map (·.1) = n) : True := trivial
theorem nth_l {h₀ h : Heap} {L : Addr} {l : List (Str × Value)} (F : Fr h₀ L h (fun y => List.lookup y l)) (i : Nat) {x : Str} {v : Value} (e : l[i]? = some (x,v)) : x = x ∧ v = v := ⟨rfl,rfl⟩
theorem fr_cut {h₀ h : Heap} {L : Addr} {l : List (Str × Value)} {p : Prop} (F : Fr h₀ L h (fun y => List.lookup y l)) (l' : List (Str × Value)) (e : l = l') (k : Fr h₀ L h (fun y => List.lookup y l') → p) : p := k (e ▸ F)
theorem rows_writer_1 : True := by
  (k_with "writer:execs cons Assign cons" => (k_here;(with_reducible show wpAny _ _ (execs (Stmt.Assign [Expr.Attribute _ (PySem.Str.ofString "_write") _] _ _ :: _) _) _ _ _);(with_reducible rename Mine.CutOn => hC9'36);clear hC9'36;refine Mine.Cut.go ?_))
  trivial
def writerP (l : Lt) : Prop :=
  (((l.b 14),bndObj "list.append" (.ref (l.b 13))) ∈ (l.rest 0)) →
  (∀ p ∈ (l.rest 0),p.1 ≠ (l.b 13)) →
  (∀ p ∈ (l.rest 0),p.1 ≠ 201) →
  (@LT.lt Nat _ 201 (l.b 13)) →
  SpecL l 206 6 60 (((l.b 13),listOf #[] (l.n 5)) :: (201,tabObj #[]) :: (l.rest 0)) [.ref (l.b 14)] (fun v news' => ∃ (wa : WA) (n0 n1 : Value) (ti : Tok) (pm ctv : Value) (oc : Obj) (vs : Array Value) (tq u1 u2 : Tok) (tb : Array Value),v = .ref wa.W ∧ news' = wr l.w.params wa ⟨#[],#[],#[.ref wa.L0],#[n0,n1],#[.bool false],(l.n 5),0,0,2,0,false,false,ti⟩ ((wa.it,itObj pm wa.itc ctv) :: (wa.itc,oc) :: (wa.L0,listOf #[.ref wa.T0] 0) :: (wa.T0,({ cls := .type "tuple",data := .seq #[.str "http://www.w3.org/XML/1998/namespace" u1, .str "xml" u2] 0 } : Obj)) :: (201,tabObj tb) :: (l.rest 0)) ∧ wa.wire = (l.b 13) ∧ WOk wa ((wa.it,itObj pm wa.itc ctv) :: (wa.itc,oc) :: (wa.L0,listOf #[.ref wa.T0] 0) :: (wa.T0,({ cls := .type "tuple",data := .seq #[.str "http://www.w3.org/XML/1998/namespace" u1, .str "xml" u2] 0 } : Obj)) :: (201,tabObj tb) :: (l.rest 0)) ∧ oc.data = .fields vs ∧ vs[1]? = some (.str "_law_writer.<locals>.<lambda>" tq) ∧ @LT.lt Nat _ (l.b 13) wa.PS ∧ @LT.lt Nat _ wa.L0 wa.PS ∧ @LT.lt Nat _ (l.b 13) wa.it ∧ @LT.lt Nat _ (l.b 13) wa.itc ∧ @LT.lt Nat _ (l.b 13) wa.L0 ∧ @LT.lt Nat _ (l.b 13) wa.T0)
@[irreducible] noncomputable def cWr : Lt := Classical.choose (Lt.ex writerP)
theorem writer_c : writerP cWr := by
  unfold writerP SpecL SpecQ
  k_fill
  generalize cWr.w = w;generalize cWr.b 13 = wire;generalize cWr.b 14 = wrt;generalize cWr.n 5 = nw;generalize cWr.rest 0 = rest;generalize cWr.mean = mean;generalize cWr.mg = mg;generalize cWr.mb = mb
  generalize cWr.dp = dp;generalize cWr.un = un;generalize cWr.gd = gd;generalize cWr.cn = cn;generalize cWr.cs = cs;generalize cWr.a = a;generalize cWr.ccd = ccd;generalize cWr.cl = cl
  generalize cWr.outer = outer;generalize cWr.A₀ = A₀;generalize cWr.base = base;generalize cWr.h₀ = h₀;generalize cWr.L = L;generalize cWr.m = m;generalize cWr.s = s;generalize cWr.R = R
  intros kw k0 k1 k2 B F X N T hk hts hd1 hu hret
  k_dflt (refine' code_def (binds := [("write", .ref wrt)]) ?k1 ?k2 ?k3 ?k4 ?k5 ?kA ?kF ?kK ?k6 ?k7 ?k8 ?k9 ?kB ?_ ?c2 ?c3 ?c4 ?c5;(case kA => exact rfl);(case kF => exact rfl);(case kK => assumption);(case k1 => k_asm);(case k2 => k_asm);(case k3 => k_asm);(case k4 => k_asm);(case k5 => k_asm);(case k6 => k_is);(case k7 => k_is);(case k8 => ktr_room);(case k9 => exact BindsTo.of_eq rfl);(case c5 => decide);(case kB => exact locs rfl);(case c2 => exact rfl);(case c3 => exact rfl);(case c4 => exact rfl);k_whole;intro g' L' h' FG' F' N' B' X' T';(try dsimp only);(try k_lift B');(try k_fold))
  have C201 := codeHd_of_K (c := 205) (P := 201) X' (by kernel_rfl)
  have cutOn : CutOn := trivial
  k_steps
  unfold Cut
  (rename PySem.W.AllLt _ rest => lA);(rename @LT.lt Nat _ _ _ => lB)
  have lx := upLt (Nat.le_of_lt lB) lA
  (rename Fr _ _ _ _ => F5)
  k_dflt (refine' fr_cut F5 [(Str.ofString "exclude_tags",?v0),(Str.ofString "exclude_attrs",?v1),(Str.ofString "qname_aware_attrs",?v2),(Str.ofString "qname_aware_tags",?v3),(Str.ofString "rewrite_prefixes",?v4),(Str.ofString "strip_text",?v5),(Str.ofString "with_comments",?v6),(Str.ofString "write",?v7),(Str.ofString "self",?v8)] ?e ?_)
  (case' e => rfl)
  intro F6
  have F7 := Fr.same (x := Str.ofString "self") rfl F6
  clear F5 F6
  k_steps
  (rename News _ _ _ _ => kN);(rename Fr _ _ _ _ => kF)
  refine' hret _ _ _ ⟨⟨_,?DW,wrt,wire,?D,?L0,?T0,?DS,?NS,?PM,?PS,?it,?itc,_,_,_,_,_,_,_,_,_,_,_,_,_,_,_,_,_,_⟩,?n0,?n1,?ti,?pm,?ctv,?oc,?vs,?tq,?u1,?u2,?tb,rfl,rfl,rfl,?ok,?d1,?d2,?lt,?m1,?m2,?m3,?m4,?m5⟩ ⟨rfl,rfl⟩ kF (News.cons_ ?a1 (News.cons_ ?a2 (News.cons_ ?a3 (News.cons_ ?a4 (News.cons_ ?a5 (News.cons_ ?a6 (News.cons_ ?a7 (News.cons_ ?a8 (News.cons_ ?a9 (News.cons_ ?a10 (News.cons_ ?a11 (News.cons_ ?a12 (?a13)))))))))))))
  case' a5 => exact kN _ (by k_mem)
  case' a6 => exact kN _ (by k_mem)
  case' a3 => exact kN _ (by k_mem)
  case' a2 => exact kN _ (by k_mem)
  case' a1 => exact kN _ (by k_mem)
  case' a4 => exact kN _ (by k_mem)
  case' a7 => exact kN _ (by k_mem)
  case' a8 => exact kN _ (by k_mem)
  case' a9 => exact kN _ (by k_mem)
  case' a10 => exact kN _ (by k_mem)
  case' a11 => exact kN _ (by k_mem)
  case' a12 => exact kN _ (by k_mem)
  case' a13 => exact fun p hp => kN p (by k_mem)
  case' d1 => assumption
  case' d2 => assumption
  case' lt => (refine ltN ?_;(try dsimp only);omega)
  case' m1 => (refine ltN ?_;(try dsimp only);omega)
  case' m2 => (refine ltN ?_;(try dsimp only);omega)
  case' m3 => (refine ltN ?_;(try dsimp only);omega)
  case' m4 => (refine ltN ?_;(try dsimp only);omega)
  case' m5 => (refine ltN ?_;(try dsimp only);omega)
  case' ok => exact writer_ok k2 kw k0 lx lA (by (refine ltN ?_);(try dsimp only);omega) (by (refine ltN ?_);(try dsimp only);omega) (by (refine ltN ?_);(try dsimp only);omega) (by (refine ltN ?_);(try dsimp only);omega) (by (refine ltN ?_);(try dsimp only);omega) (by (refine ltN ?_);(try dsimp only);omega) (by (refine ltN ?_);(try dsimp only);omega) (by (refine ltN ?_);(try dsimp only);omega) (by (refine ltN ?_);(try dsimp only);omega) (by (refine ltN ?_);(try dsimp only);omega)
theorem writer : ∀ (w : World) (wire wrt : Addr) (nw : Nat) (rest : List (Addr × Obj)) (kw : (wrt,bndObj "list.append" (.ref wire)) ∈ rest) (k0 : ∀ p ∈ rest,p.1 ≠ wire) (k1 : ∀ p ∈ rest,p.1 ≠ 201) (k2 : @LT.lt Nat _ 201 wire),Spec w 206 6 60 ((wire,listOf #[] nw) :: (201,tabObj #[]) :: rest) [.ref wrt] (fun v news' => ∃ (wa : WA) (n0 n1 : Value) (ti : Tok) (pm ctv : Value) (oc : Obj) (vs : Array Value) (tq u1 u2 : Tok) (tb : Array Value),v = .ref wa.W ∧ news' = wr w.params wa ⟨#[],#[],#[.ref wa.L0],#[n0,n1],#[.bool false],nw,0,0,2,0,false,false,ti⟩ ((wa.it,itObj pm wa.itc ctv) :: (wa.itc,oc) :: (wa.L0,listOf #[.ref wa.T0] 0) :: (wa.T0,({ cls := .type "tuple",data := .seq #[.str "http://www.w3.org/XML/1998/namespace" u1, .str "xml" u2] 0 } : Obj)) :: (201,tabObj tb) :: rest) ∧ wa.wire = wire ∧ WOk wa ((wa.it,itObj pm wa.itc ctv) :: (wa.itc,oc) :: (wa.L0,listOf #[.ref wa.T0] 0) :: (wa.T0,({ cls := .type "tuple",data := .seq #[.str "http://www.w3.org/XML/1998/namespace" u1, .str "xml" u2] 0 } : Obj)) :: (201,tabObj tb) :: rest) ∧ oc.data = .fields vs ∧ vs[1]? = some (.str "_law_writer.<locals>.<lambda>" tq) ∧ @LT.lt Nat _ wire wa.PS ∧ @LT.lt Nat _ wa.L0 wa.PS ∧ @LT.lt Nat _ wire wa.it ∧ @LT.lt Nat _ wire wa.itc ∧ @LT.lt Nat _ wire wa.L0 ∧ @LT.lt Nat _ wire wa.T0) := by
  intros w wire wrt nw rest kw k0 k1 k2
  refine Spec.close fun mean mg mb dp un gd cn cs a ccd cl outer A₀ base h₀ L m s R => ?_
  exact tau (by unfold cWr;rfl) writer_c { ltL0 with w := w,b := nth 0 [0,0,0,0,0,0,0,0,0,0,0,0,0,wire,wrt],n := nth 0 [0,0,0,0,0,nw],rest := nth [] [rest],mean,mg,mb,dp,un,gd,cn,cs,a,ccd,cl,outer,A₀,base,h₀,L,m,s,R } kw k0 k1 k2
end
section
local macro_rules (kind := PySem.W.tacticK_extra_) | x => topOf "tell0 writer ltold lspell plain3 plain2 plain1 lcdef start starta startr itemsort pi comment wend qname data flush lst mown dicts keyt keyc lcomp dcomp setrows setdisp skey listlt setcol setwk setit setfx sets loop2 loop w1 lam_call lam nest del wru wr1 wr2 ltext quote quote0 esc plain0 pure1 ints cut fast tslice txt2 lt wr0 bound oo mac0 om" x
section
variable {w : World} {o : Obj}
theorem dictNil {prog : Program} (h : o.IsDictOf (PySem.strKind prog w) []) : ∃ n,o = dictOf [] n := by
  obtain ⟨es,ep,⟨c1,c2,c3⟩,hd,hk,hp,_⟩ := h
  cases hl : es.toList with
  | cons e r => rw [hl] at hp;cases hp
  | nil =>
    have he : es = #[] := by rw [← Array.toList_inj,hl]
    refine ⟨ep,?_⟩
    cases o with | mk cls dict data slots =>
    dsimp only at c1 c2 c3 hd
    subst c1 c2 c3 hd he
    rfl
theorem dictOne {prog : Program} {k : Str} {v : Value} (h : o.IsDictOf (PySem.strKind prog w) [(k,v)]) : ∃ t n,o = dictOf [wE w.params k t v] n := by
  have u0_ : Unit := ();have u1_ : Unit := ();have u2_ : Unit := ();have u3_ : Unit := ();have u4_ : Unit := ();have u5_ : Unit := ();have u6_ : Unit := ();have u7_ : Unit := ();have u8_ : Unit := ();have u9_ : Unit := ();have u10_ : Unit := ()
  revert h
  revert w o prog k v u0_ u1_ u2_ u3_ u4_ u5_ u6_ u7_ u8_ u9_ u10_
  k_extra "m:t16"
  intros w o prog k v _ _ _ _ _ _ _ _ _ _ _ h
  obtain ⟨es,ep,⟨c1,c2,c3⟩,hd,hk,hp,_⟩ := h
  cases hl : es.toList with
  | nil => rw [hl] at hp;cases hp
  | cons e r =>
    rw [hl] at hp
    cases hp with
    | cons hkey hval hr =>
      cases hr
      obtain ⟨t,ht⟩ := Value.isStrOf_shape (show Value.isStrOf k e.key = true from hkey)
      have he : es = #[e] := by rw [← Array.toList_inj,hl]
      obtain ⟨k',hk1,hk2⟩ := hk e (by rw [he];simp)
      obtain ⟨t',ht'⟩ := Value.isStrOf_shape (show Value.isStrOf k' e.key = true from hk1)
      have ek : k' = k := by rw [ht] at ht';injection ht' with a b;exact a.symm
      subst ek
      refine ⟨t,ep,?_⟩
      cases o with | mk cls dict data slots =>
      dsimp only at c1 c2 c3 hd
      subst c1 c2 c3 hd he
      cases e with | mk hash key val =>
      dsimp only at ht hval hk2
      subst ht hval hk2
      rfl
end
noncomputable abbrev xmlTup (u1 u2 : Tok) : Obj := { cls := .type "tuple",data := .seq #[.str "http://www.w3.org/XML/1998/namespace" u1, .str "xml" u2] 0 }
structure Sim (wa : WA) (CL : Addr) (pm ctv : Value) (oc : Obj) (vs : Array Value) (tq u1 u2 : Tok) (q : WQ) (rest : List (Addr × Obj)) (tb : Array Value) (st : TS) (i : Nat) : Prop where
  ok : WOk wa rest
  hy : StrsAre q.das.toList st.held
  ho : StrsAre q.its.toList st.out
  se : q.seen = st.seen
  dn : q.done = st.done
  zi : q.its.size ≤ 4 * i
  zd : q.das.size ≤ i
  zh : (st.held.map (·.length)).sum ≤ 2 * i
  zp : q.pss.size = st.stack.length + 1
  zn : q.nss.size = st.stack.length + 2
  zs : st.stack.length ≤ i
  zb : ∀ x ∈ st.stack,Name x
  ds : ∃ ls : List Addr,q.dss.toList = .ref wa.L0 :: ls.map .ref ∧ ls.length = st.stack.length ∧ ∀ l ∈ ls,l ≠ wa.L0 ∧ (l,listOf #[] 0) ∈ rest
  hi : (wa.it,itObj pm wa.itc ctv) ∈ rest
  hc : (wa.itc,oc) ∈ rest
  hL : (wa.L0,listOf #[.ref wa.T0] 0) ∈ rest
  hT : (wa.T0,xmlTup u1 u2) ∈ rest
  k2 : ∀ p ∈ rest,p.1 ≠ 123
  kC : ∀ p ∈ rest,p.1 ≠ CL
  tbl : (st.seen = false ∧ tb = #[]) ∨ (st.seen = true ∧ ∃ c oc1 vs1 tq1,tb = #[rawInt 135,rawInt 71, .ref c] ∧ (c,oc1) ∈ rest ∧ oc1.data = .fields vs1 ∧ vs1[1]? = some (.str lamQual tq1))
theorem sum_join (ys : List Str) : (Txt.join "" ys).length = (ys.map (·.length)).sum := by
  have e := txtJoin_empty "" (by decide +kernel) ys
  have l : (Txt.join "" ys).cps.toList.length = (Txt.join "" ys).length := by show _ = (Txt.join "" ys).cps.size;simp
  rw [← l,e]
  show (cat ys).length = _
  rw [cat_len]
theorem strs_lenT {vs : List Value} {l : List Str} (h : StrsAre vs l) : vs.length = l.length := by
  induction h with
  | nil => rfl
  | cons _ _ _ ih => simp [ih]
theorem StrsAre.size {a : Array Value} {l : List Str} (h : StrsAre a.toList l) : a.size = l.length := by
  have := strs_lenT h
  simpa using this
theorem Sim.wit {wa : WA} {CL : Addr} {pm ctv : Value} {oc : Obj} {vs : Array Value} {tq u1 u2 : Tok} {q : WQ} {rest R : List (Addr × Obj)} {tb : Array Value} {st : TS} {i : Nat} (S : Sim wa CL pm ctv oc vs tq u1 u2 q rest tb st i) (hv : oc.data = .fields vs) (hq : vs[1]? = some (.str "_law_writer.<locals>.<lambda>" tq)) (hi : i ≤ 20) (hR : ∀ p ∈ rest, p ∈ R) :
    WIt wa q R pm ctv oc vs tq (contL wa.L0 wa.T0) u1 u2 := by
  obtain ⟨ls,e1,e2,e3⟩ := S.ds
  have zs := S.zs
  have none : ∀ l ∈ ls,contL wa.L0 wa.T0 (.ref l) = [] := fun l hl => contL_ne (e3 l hl).1
  refine ⟨hR _ S.hi,hR _ S.hc,hv,hq,?_,?_,?_,hR _ S.hT⟩
  · have : q.dss.size = ls.length + 1 := by rw [← Array.length_toList,e1];simp
    omega
  · rw [e1,List.reverse_cons,List.flatMap_append]
    have z : (ls.map Value.ref).reverse.flatMap (contL wa.L0 wa.T0) = [] := by
      rw [List.flatMap_eq_nil_iff]
      intro v hv
      rw [List.mem_reverse,List.mem_map] at hv
      obtain ⟨l,hl,rfl⟩ := hv
      exact none l hl
    rw [z]
    show [] ++ (contL wa.L0 wa.T0 (.ref wa.L0) ++ []) = _
    unfold contL;simp
  · intro h hh v hv
    rw [e1] at hv
    rcases List.mem_cons.mp hv with rfl | hv
    · exact ⟨wa.L0,_,rfl,⟨_,hh _ (hR _ S.hL),rfl,_,rfl⟩,by unfold contL;simp⟩
    · rw [List.mem_map] at hv
      obtain ⟨l,hl,rfl⟩ := hv
      exact ⟨l,#[],rfl,⟨_,hh _ (hR _ (e3 l hl).2),rfl,_,rfl⟩,(none l hl).symm⟩
theorem last_of {a : Array Value} (h : 0 < a.size) : ∃ (p : Array Value) (v : Value),a = p.push v ∧ p.size + 1 = a.size := by
  rcases List.eq_nil_or_concat a.toList with e | ⟨r,v,e⟩
  · have : a.toList.length = 0 := by rw [e];rfl
    rw [Array.length_toList] at this;omega
  · rw [List.concat_eq_append] at e
    have e2 : a = r.toArray.push v := by
      rw [← Array.toList_inj,Array.toList_push,e]
    exact ⟨r.toArray,v,e2,by rw [e2,Array.size_push]⟩
theorem wrote_strs {a b : Array Value} {l l' : List Str} (h : StrsAre a.toList l) (w : Wrote a b l') : StrsAre b.toList (l ++ l') := by
  obtain ⟨vs,h1,h2⟩ := w
  rw [h2];exact StrsAre.append' h h1
section
variable {wa : WA} {CL : Addr} {pm ctv : Value} {oc : Obj} {vs : Array Value} {tq u1 u2 : Tok} {q q' : WQ} {rest : List (Addr × Obj)} {tb : Array Value} {st : TS} {i : Nat}
theorem Sim.tblS (S : Sim wa CL pm ctv oc vs tq u1 u2 q rest tb st i) (h : st.seen = true) : ∃ c oc1 vs1 tq1,tb = #[rawInt 135,rawInt 71, .ref c] ∧ (c,oc1) ∈ rest ∧ oc1.data = .fields vs1 ∧ vs1[1]? = some (.str lamQual tq1) := by
  rcases S.tbl with ⟨h1,_⟩ | ⟨_,h2⟩
  · rw [h] at h1;cases h1
  · exact h2
theorem Sim.tendS {x t : Str} {w0 : List Str} {d0 n0 p0 : Array Value} {v1 v2 v3 : Value} (S : Sim wa CL pm ctv oc vs tq u1 u2 q rest tb st i) (hse : st.seen = true) (h1 : st.stack = w0 ++ [x])
    (hd : WDid q q' ((if st.text.length = 0 then [] else [escC st.text]) ++ [endMark x]) 2) (ep : q.pss = p0.push v1) (ed : q.dss = d0.push v2) (en : q.nss = n0.push v3) (e1 : q'.dss = d0) (e2 : q'.nss = n0) (e3 : q'.pss = p0) (e4 : q'.seen = true) (e5 : q'.done = decide (p0.size = 1)) :
    Sim wa CL pm ctv oc vs tq u1 u2 q' rest tb (tellOne st (1,x,t)) (i + 1) := by
  have g : tellOne st (1,x,t) = ⟨st.stack.dropLast,[],true,decide (st.stack.dropLast.length = 0),st.out ++ (st.flushed ++ [endMark x])⟩ := by unfold tellOne;dsimp only;rw [if_neg (by decide),if_pos rfl]
  have hl : st.stack.length = w0.length + 1 := by rw [h1];simp
  have hdl : st.stack.dropLast = w0 := by rw [h1];simp
  have zp := S.zp
  have zn := S.zn
  rw [ep,Array.size_push] at zp
  rw [en,Array.size_push] at zn
  have zs := S.zs
  have zi := S.zi
  have hs := hd.size
  rw [g,hdl]
  refine ⟨S.ok,by rw [hd.das];exact .nil,wrote_strs S.ho hd.wrote,e4,?_,by omega,by rw [hd.das];exact Nat.zero_le _,Nat.zero_le _,by rw [e3];dsimp only;omega,by rw [e2];dsimp only;omega,by dsimp only;omega,?_,?_,S.hi,S.hc,S.hL,S.hT,S.k2,S.kC, .inr ⟨rfl,S.tblS hse⟩⟩
  · rw [e5];dsimp only
    by_cases h0 : w0.length = 0
    · rw [decide_eq_true h0,decide_eq_true (by omega)]
    · rw [decide_eq_false h0,decide_eq_false (by omega)]
  · intro y hy
    exact S.zb y (by rw [h1];exact List.mem_append_left _ hy)
  · obtain ⟨ls,d1,d2,d3⟩ := S.ds
    rw [ed,Array.toList_push] at d1
    have hne : ls ≠ [] := fun e => by rw [e] at d2;simp at d2;omega
    have hls : ls = ls.dropLast ++ [ls.getLast hne] := (List.dropLast_concat_getLast hne).symm
    refine ⟨ls.dropLast,?_,?_,fun l hl => d3 l (List.dropLast_subset _ hl)⟩
    · rw [e1]
      rw [hls,List.map_append,← List.cons_append] at d1
      exact (List.append_inj_left' d1 rfl)
    · rw [List.length_dropLast];dsimp only;omega
theorem Sim.tdataS {x t : Str} {n' : Nat} {tx' : Tok} (S : Sim wa CL pm ctv oc vs tq u1 u2 q rest tb st i) (ht : t.length ≤ 2) :
    Sim wa CL pm ctv oc vs tq u1 u2 { q with das := q.das.push (.str t tx'),nd := n' } rest tb (tellOne st (2,x,t)) (i + 1) := by
  have g : tellOne st (2,x,t) = ⟨st.stack,st.held ++ [t],st.seen,st.done,st.out⟩ := by unfold tellOne;dsimp only;rw [if_neg (by decide),if_neg (by decide),if_pos rfl]
  rw [g]
  have zh := S.zh
  have zd := S.zd
  have zs := S.zs
  have zi := S.zi
  refine ⟨S.ok,?_,S.ho,S.se,S.dn,by dsimp only;omega,by dsimp only;rw [Array.size_push];omega,?_,S.zp,S.zn,by dsimp only;omega,S.zb,S.ds,S.hi,S.hc,S.hL,S.hT,S.k2,S.kC,S.tbl⟩
  · dsimp only
    rw [Array.toList_push];exact StrsAre.append' S.hy (.cons t tx' .nil)
  · dsimp only
    rw [List.map_append,List.sum_append]
    simp only [List.map_cons,List.map_nil,List.sum_cons,List.sum_nil]
    omega
theorem Sim.tremS {k : Int} {x t : Str} (S : Sim wa CL pm ctv oc vs tq u1 u2 q rest tb st i) (hk : k = 3 ∨ k = 4)
    (hd : WDid q q' ((if q.done = true then [Str.ofString "\n"] else if st.text.length = 0 then [] else [escC st.text]) ++ [remOf (k,x,t)] ++ if q.seen = true then [] else [Str.ofString "\n"]) 3) (e1 : q'.dss = q.dss) (e2 : q'.nss = q.nss) (e3 : q'.pss = q.pss) (e4 : q'.seen = q.seen) (e5 : q'.done = q.done) :
    Sim wa CL pm ctv oc vs tq u1 u2 q' rest tb (tellOne st (k,x,t)) (i + 1) := by
  have g : tellOne st (k,x,t) = ⟨st.stack,[],st.seen,st.done,st.out ++ ((if st.done = true then [Str.ofString "\n"] else st.flushed) ++ [remOf (k,x,t)] ++ if st.seen = true then [] else [Str.ofString "\n"])⟩ := by unfold tellOne;dsimp only;rw [if_neg (by omega),if_neg (by omega),if_neg (by omega)]
  rw [g]
  have zs := S.zs
  have zi := S.zi
  have hs := hd.size
  have hw := hd.wrote
  rw [S.se,S.dn] at hw
  exact ⟨S.ok,by rw [hd.das];exact .nil,wrote_strs S.ho hw,e4.trans S.se,e5.trans S.dn,by omega,by rw [hd.das];exact Nat.zero_le _,Nat.zero_le _,by rw [e3];exact S.zp,by rw [e2];exact S.zn,by dsimp only;omega,S.zb,by rw [e1];exact S.ds,S.hi,S.hc,S.hL,S.hT,S.k2,S.kC,S.tbl⟩
theorem Sim.startS {st' : TS} {ls' : List (Addr × Obj)} {NL X : Addr} {tb' : Array Value} {x : Str} (S : Sim wa CL pm ctv oc vs tq u1 u2 q rest tb st i) (ok' : WOk wa (ls' ++ rest)) (hm : (NL, listOf #[] 0) ∈ ls' ++ rest) (hne : NL ≠ wa.L0) (h123 : ∀ p ∈ ls' ++ rest, p.1 ≠ 123) (hCL : ∀ p ∈ ls' ++ rest, p.1 ≠ CL) (hx : Name x)
    (g1 : st'.stack = st.stack ++ [x]) (g2 : st'.held = []) (g3 : st'.seen = true) (g4 : st'.done = st.done) {l : List Str} (g5 : st'.out = st.out ++ l) (hw : Wrote q.its q'.its l) (hz : q'.its.size ≤ q.its.size + 4)
    (e0 : q'.das = #[]) (e1 : q'.dss = q.dss.push (.ref NL)) (e2 : q'.nss = q.nss.push (.ref X)) {v1 : Value} (e3 : q'.pss = q.pss.push v1) (e4 : q'.seen = true) (e5 : q'.done = q.done)
    (ht : ∃ c oc1 vs1 tq1,tb' = #[rawInt 135,rawInt 71, .ref c] ∧ (c,oc1) ∈ ls' ++ rest ∧ oc1.data = .fields vs1 ∧ vs1[1]? = some (.str lamQual tq1)) :
    Sim wa CL pm ctv oc vs tq u1 u2 q' (ls' ++ rest) tb' st' (i + 1) := by
  have zi := S.zi
  have zs := S.zs
  refine ⟨ok',by rw [e0,g2];exact .nil,by rw [g5];exact wrote_strs S.ho hw,by rw [e4,g3],by rw [e5,g4,S.dn],by omega,by rw [e0];exact Nat.zero_le _,by rw [g2];exact Nat.zero_le _,by rw [e3,g1,Array.size_push,S.zp];simp,by rw [e2,g1,Array.size_push,S.zn];simp,by rw [g1];simp;omega,?_,?_,List.mem_append_right _ S.hi,List.mem_append_right _ S.hc,List.mem_append_right _ S.hL,List.mem_append_right _ S.hT,h123,hCL, .inr ⟨g3,ht⟩⟩
  · rw [g1];intro y hy
    rcases List.mem_append.mp hy with hy | hy
    · exact S.zb y hy
    · rw [List.mem_singleton.mp hy];exact hx
  · obtain ⟨ls,d1,d2,d3⟩ := S.ds
    refine ⟨ls ++ [NL],by rw [e1,Array.toList_push,d1];simp,by rw [g1];simp [d2],?_⟩
    intro l hl
    rcases List.mem_append.mp hl with hl | hl
    · exact ⟨(d3 l hl).1,List.mem_append_right _ (d3 l hl).2⟩
    · rw [List.mem_singleton.mp hl];exact ⟨hne,hm⟩
end
theorem Pick.second {p q : Addr × Obj} {r : List (Addr × Obj)} : Pick p (q :: p :: r) (q :: r) := .tail .head
theorem rows_tell0_1 : True := by
  (k_with "tell0:eval Dict nil nil" => (k_here;k_dflt (refine' newDict_K ?k1'37 ?k2'37 (TopRead.nolimit (by k_asm)) ?_;(case k1'37 => k_asm);(case k2'37 => k_asm);k_whole);intro d''37 h''37 o''37 F''37 N''37 l1'37 lo''37 hs''37 fs''37 hi''37 fi''37;clear fs''37 hi''37 fi''37;(try k_lt l1'37);(obtain ⟨n9'37,e9'37⟩ := Mine.dictNil hs''37);(subst e9'37);clear hs''37))
  (k_with "tell0:Exists" => (k_here;k_dflt (refine kdp_made_str (by k_asm) (by k_asm) (Top.nolimit (by k_asm)) (by rfl) (of_decide_eq_true (by rfl)) (by rfl) ?_);intro h''38 o''38 F''38 N''38 l1'38 lo''38 hd''38 hf''38 ap''38;clear hf''38 ap''38;(try k_lt l1'38);(obtain ⟨t9'38,n9'38,e9'38⟩ := Mine.dictOne (show Obj.IsDictOf _ _ [(_,_)] from hd''38));(subst e9'38);clear hd''38))
  trivial
theorem wr_re {h₀ h : Heap} {L : Addr} {e1 e2 e3 e4 e5 e6 e7 a b : Addr × Obj} {r7 r8 r9 : List (Addr × Obj)} (N : News h₀ L h (e1 :: e2 :: e3 :: e4 :: e5 :: e6 :: e7 :: r7)) (p8 : Pick a r7 r8) (p9 : Pick b r8 r9) : News h₀ L h (e1 :: e2 :: e3 :: e4 :: e5 :: e6 :: e7 :: a :: b :: r9) := by
  intro p hp
  simp only [List.mem_cons] at hp
  rcases hp with rfl | rfl | rfl | rfl | rfl | rfl | rfl | rfl | rfl | hp
  · exact N _ (by simp)
  · exact N _ (by simp)
  · exact N _ (by simp)
  · exact N _ (by simp)
  · exact N _ (by simp)
  · exact N _ (by simp)
  · exact N _ (by simp)
  · exact N _ (by simp [p8.mem])
  · exact N _ (by simp [p8.sub _ p9.mem])
  · exact N _ (by simp [p8.sub _ (p9.sub _ hp)])
theorem rows_tell0_2 : True := by
  (k_with "tell0:call ref" => (k_here;(with_reducible show wpAny _ _ (call (Value.ref 133) [Value.ref _,Value.str _ _]) _ _ _);k_dflt (refine' Mine.Spec.callC (Mine.wend _ ⟨_,_,_,_,_,_,_,_,_,_,_,_,_,_,_,_,_,_,_,_,_,_,_,_,_,_,_,_,_,_,_⟩ ⟨_,_,_,_,_,_,_,_,_,_,_,_,_⟩ _ _ _ _ _ _ _ _ _ _ _ _ _ _ _ _ _ _ _ ?ok'39 ?hs'39 ?hi'39 ?hy'39 ?hj'39 ?hx'39 ?ho'39 ?hse'39 ?hz'39 ?hb'39 rfl rfl rfl ?hp0'39 ?hd0'39 ?hn0'39 ?wi'39) ?B9'39 ?F9'39 ?X9'39 (Mine.wr_pick ?N9'39 ?P1'39 ?P2'39 ?P3'39 ?P4'39 ?P5'39 ?P6'39 ?Pm'39 ?P7'39) ?T9'39 ?hk9'39 ?ht9'39 ?hd9'39 ?hu9'39 ?_;(case B9'39 => k_asm);(case F9'39 => k_asm);(case X9'39 => k_asm);(case N9'39 => k_asm);(case P1'39 => k_upd);(case P2'39 => k_upd);(case P3'39 => k_upd);(case P4'39 => k_upd);(case P5'39 => k_upd);(case P6'39 => k_upd);(case Pm'39 => assumption);(case P7'39 => k_upd);(case T9'39 => k_asm);(case hk9'39 => first | assumption | exact rfl);(case ht9'39 => (refine Mine.leT ?_;(try dsimp only);omega));(case hd9'39 => ktr_room);(case hu9'39 => ktr_units);(case ok'39 => with_reducible assumption);(case hs'39 => first | with_reducible assumption | ((try dsimp only);omega));(case hi'39 => first | with_reducible assumption | ((try dsimp only);omega));(case hy'39 => first | with_reducible assumption | ((try dsimp only);omega));(case hj'39 => first | with_reducible assumption | ((try dsimp only);omega));(case hx'39 => first | with_reducible assumption | ((try dsimp only);omega));(case ho'39 => first | with_reducible assumption | ((try dsimp only);omega));(case hse'39 => first | with_reducible assumption | ((try dsimp only);omega));(case hz'39 => first | with_reducible assumption | ((try dsimp only);omega));(case hb'39 => first | with_reducible assumption | ((try dsimp only);omega));(case hp0'39 => first | with_reducible assumption | ((try dsimp only);omega));(case hd0'39 => first | with_reducible assumption | ((try dsimp only);omega));(case hn0'39 => first | with_reducible assumption | ((try dsimp only);omega));(case wi'39 => first | with_reducible assumption | assumption);k_whole;intro v''39 news9''39 h9''39 dr9''39 tk9''39 hr'39 F''39 N''39 tk''39;(obtain ⟨hv'39,q''39,hn'39,hd''39,e1''39,e2''39,e3''39,e4''39,e5''39⟩ := hr'39);(subst hv'39);(subst hn'39);(try dsimp only [Mine.wr,Mine.wrDict,Mine.wE] at N''39);(try dsimp only))))
  (k_with "tell0:call ref" => (k_here;(with_reducible show wpAny _ _ (call (Value.ref 97) [Value.ref _,Value.str _ _]) _ _ _);k_dflt (refine' Mine.Spec.callC (Mine.wdata _ ⟨_,_,_,_,_,_,_,_,_,_,_,_,_,_,_,_,_,_,_,_,_,_,_,_,_,_,_,_,_,_,_⟩ ⟨_,_,_,_,_,_,_,_,_,_,_,_,_⟩ _ _ _ ?ok'3a ?hs'3a) ?B9'3a ?F9'3a ?X9'3a (Mine.wr_pick ?N9'3a ?P1'3a ?P2'3a ?P3'3a ?P4'3a ?P5'3a ?P6'3a ?Pm'3a ?P7'3a) ?T9'3a ?hk9'3a ?ht9'3a ?hd9'3a ?hu9'3a ?_;(case B9'3a => k_asm);(case F9'3a => k_asm);(case X9'3a => k_asm);(case N9'3a => k_asm);(case P1'3a => k_upd);(case P2'3a => k_upd);(case P3'3a => k_upd);(case P4'3a => k_upd);(case P5'3a => k_upd);(case P6'3a => k_upd);(case Pm'3a => assumption);(case P7'3a => k_upd);(case T9'3a => k_asm);(case hk9'3a => first | assumption | exact rfl);(case ht9'3a => (refine Mine.leT ?_;(try dsimp only);omega));(case hd9'3a => ktr_room);(case hu9'3a => ktr_units);(case ok'3a => with_reducible assumption);(case hs'3a => first | with_reducible assumption | ((try dsimp only);omega));  k_whole;intro v''3a news9''3a h9''3a dr9''3a tk9''3a hr'3a F''3a N''3a tk''3a;(obtain ⟨hv'3a,n''3a,tx''3a,hn'3a⟩ := hr'3a);(subst hv'3a);(subst hn'3a);(try dsimp only [Mine.wr,Mine.wrDict,Mine.wE] at N''3a);(try dsimp only))))
  (k_with "tell0:call ref" => (k_here;(with_reducible show wpAny _ _ (call (Value.ref 140) [Value.ref _,Value.str _ _]) _ _ _);k_dflt (refine' Mine.Spec.callC (Mine.wcomment _ ⟨_,_,_,_,_,_,_,_,_,_,_,_,_,_,_,_,_,_,_,_,_,_,_,_,_,_,_,_,_,_,_⟩ ⟨_,_,_,_,_,_,_,_,_,_,_,_,_⟩ _ _ _ _ _ ?ok'3b ?hs'3b ?hi'3b ?hy'3b ?hj'3b ?hx'3b ?ho'3b ?hz'3b ?hb'3b ?hc'3b) ?B9'3b ?F9'3b ?X9'3b (Mine.wr_pick ?N9'3b ?P1'3b ?P2'3b ?P3'3b ?P4'3b ?P5'3b ?P6'3b ?Pm'3b ?P7'3b) ?T9'3b ?hk9'3b ?ht9'3b ?hd9'3b ?hu9'3b ?_;(case B9'3b => k_asm);(case F9'3b => k_asm);(case X9'3b => k_asm);(case N9'3b => k_asm);(case P1'3b => k_upd);(case P2'3b => k_upd);(case P3'3b => k_upd);(case P4'3b => k_upd);(case P5'3b => k_upd);(case P6'3b => k_upd);(case Pm'3b => assumption);(case P7'3b => k_upd);(case T9'3b => k_asm);(case hk9'3b => first | assumption | exact rfl);(case ht9'3b => (refine Mine.leT ?_;(try dsimp only);omega));(case hd9'3b => ktr_room);(case hu9'3b => ktr_units);(case ok'3b => with_reducible assumption);(case hs'3b => first | with_reducible assumption | ((try dsimp only);omega));(case hi'3b => first | with_reducible assumption | ((try dsimp only);omega));(case hy'3b => first | with_reducible assumption | ((try dsimp only);omega));(case hj'3b => first | with_reducible assumption | ((try dsimp only);omega));(case hx'3b => first | with_reducible assumption | ((try dsimp only);omega));(case ho'3b => first | with_reducible assumption | ((try dsimp only);omega));(case hz'3b => first | with_reducible assumption | ((try dsimp only);omega));(case hb'3b => first | with_reducible assumption | ((try dsimp only);omega));(case hc'3b => first | with_reducible assumption | ((try dsimp only);omega));  k_whole;intro v''3b news9''3b h9''3b dr9''3b tk9''3b hr'3b F''3b N''3b tk''3b;(obtain ⟨hv'3b,q''3b,hn'3b,hd''3b,e1''3b,e2''3b,e3''3b,e4''3b,e5''3b⟩ := hr'3b);(subst hv'3b);(subst hn'3b);(try dsimp only [Mine.wr,Mine.wrDict,Mine.wE] at N''3b);(try dsimp only))))
  (k_with "tell0:call ref" => (k_here;(with_reducible show wpAny _ _ (call (Value.ref 147) [Value.ref _,Value.str _ _,Value.str _ _]) _ _ _);k_dflt (refine' Mine.Spec.callC (Mine.wpi _ ⟨_,_,_,_,_,_,_,_,_,_,_,_,_,_,_,_,_,_,_,_,_,_,_,_,_,_,_,_,_,_,_⟩ ⟨_,_,_,_,_,_,_,_,_,_,_,_,_⟩ _ _ _ _ _ _ _ ?ok'3c ?hs'3c ?hi'3c ?hy'3c ?hj'3c ?hx'3c ?ho'3c ?hz'3c ?hb'3c ?hc'3c ?hpl'3c) ?B9'3c ?F9'3c ?X9'3c (Mine.wr_pick ?N9'3c ?P1'3c ?P2'3c ?P3'3c ?P4'3c ?P5'3c ?P6'3c ?Pm'3c ?P7'3c) ?T9'3c ?hk9'3c ?ht9'3c ?hd9'3c ?hu9'3c ?_;(case B9'3c => k_asm);(case F9'3c => k_asm);(case X9'3c => k_asm);(case N9'3c => k_asm);(case P1'3c => k_upd);(case P2'3c => k_upd);(case P3'3c => k_upd);(case P4'3c => k_upd);(case P5'3c => k_upd);(case P6'3c => k_upd);(case Pm'3c => assumption);(case P7'3c => k_upd);(case T9'3c => k_asm);(case hk9'3c => first | assumption | exact rfl);(case ht9'3c => (refine Mine.leT ?_;(try dsimp only);omega));(case hd9'3c => ktr_room);(case hu9'3c => ktr_units);(case ok'3c => with_reducible assumption);(case hs'3c => first | with_reducible assumption | ((try dsimp only);omega));(case hi'3c => first | with_reducible assumption | ((try dsimp only);omega));(case hy'3c => first | with_reducible assumption | ((try dsimp only);omega));(case hj'3c => first | with_reducible assumption | ((try dsimp only);omega));(case hx'3c => first | with_reducible assumption | ((try dsimp only);omega));(case ho'3c => first | with_reducible assumption | ((try dsimp only);omega));(case hz'3c => first | with_reducible assumption | ((try dsimp only);omega));(case hb'3c => first | with_reducible assumption | ((try dsimp only);omega));(case hc'3c => first | with_reducible assumption | ((try dsimp only);omega));(case hpl'3c => decide +kernel);k_whole;intro v''3c news9''3c h9''3c dr9''3c tk9''3c hr'3c F''3c N''3c tk''3c;(obtain ⟨hv'3c,q''3c,hn'3c,hd''3c,e1''3c,e2''3c,e3''3c,e4''3c,e5''3c⟩ := hr'3c);(subst hv'3c);(subst hn'3c);(try dsimp only [Mine.wr,Mine.wrDict,Mine.wE] at N''3c);(try dsimp only))))
  (k_with "tell0:call ref" => (k_here;(with_reducible show wpAny _ _ (call (Value.ref 120) [Value.ref _,Value.str _ _,Value.ref _]) _ _ _);k_dflt (refine' Mine.Spec.callC (Mine.wstartr _ ⟨_,_,_,_,_,_,_,_,_,_,_,_,_,_,_,_,_,_,_,_,_,_,_,_,_,_,_,_,_,_,_⟩ ⟨_,_,_,_,_,_,_,_,_,_,_,_,_⟩ _ _ _ _ _ _ _ _ _ _ _ _ _ ?ok'3d ?hi'3d ?hp'3d ?hp0'3d ?hn'3d ?hd'3d ?k0'3d ?k2'3d ?k3'3d ?k5'3d ?hct'3d ?hL'3d rfl rfl ?wi'3d) ?B9'3d ?F9'3d ?X9'3d (Mine.wr_re (Mine.wr_pick ?N9'3d ?P1'3d ?P2'3d ?P3'3d ?P4'3d ?P5'3d ?P6'3d ?Pm'3d ?P7'3d) ?P8'3d ?P9'3d) ?T9'3d ?hk9'3d ?ht9'3d ?hd9'3d ?hu9'3d ?_;(case B9'3d => k_asm);(case F9'3d => k_asm);(case X9'3d => k_asm);(case N9'3d => k_asm);(case P1'3d => k_upd);(case P2'3d => k_upd);(case P3'3d => k_upd);(case P4'3d => k_upd);(case P5'3d => k_upd);(case P6'3d => k_upd);(case Pm'3d => assumption);(case P7'3d => k_upd);(case P8'3d => k_upd);(case P9'3d => with_reducible exact Mine.Pick.second);(case T9'3d => k_asm);(case hk9'3d => first | assumption | exact rfl);(case ht9'3d => (refine Mine.leT ?_;(try dsimp only);omega));(case hd9'3d => ktr_room);(case hu9'3d => ktr_units);(case ok'3d => with_reducible assumption);(case hi'3d => first | with_reducible assumption | ((try dsimp only);omega));(case hp'3d => first | with_reducible assumption | ((try dsimp only);omega));(case hp0'3d => first | with_reducible assumption | ((try dsimp only);omega));(case hn'3d => first | with_reducible assumption | ((try dsimp only);omega));(case hd'3d => first | with_reducible assumption | ((try dsimp only);omega));(case k0'3d => exact ne_of_allLt (lt_of_allLt (And.intro (by (try dsimp only);omega) (And.intro (by (try dsimp only);omega) (by tb_lt)))));(case k2'3d => with_reducible assumption);(case k3'3d => (refine ltN ?_;(try dsimp only);omega));(case k5'3d => with_reducible assumption);(case hct'3d => exact rfl);(case hL'3d => with_reducible assumption);(case wi'3d => with_reducible assumption);k_whole;intro v''3d news9''3d h9''3d dr9''3d tk9''3d hr'3d F''3d N''3d tk''3d;(obtain ⟨hv'3d,its''3d,n''3d,NL''3d,X''3d,c''3d,oc''3d,vs''3d,tq''3d,hn''3d,d1''3d,d2''3d,o1''3d,hw''3d,hz''3d⟩ := hr'3d);(subst hv'3d);(subst hn''3d);(dsimp only at hw''3d hz''3d o1''3d);(try dsimp only [Mine.wr,Mine.wrDict,Mine.wE] at N''3d);(try dsimp only))))
  (k_with "tell0:call ref" => (k_here;(with_reducible show wpAny _ _ (call (Value.ref 120) [Value.ref _,Value.str _ _,Value.ref _]) _ _ _);k_dflt (refine' Mine.Spec.callC (Mine.wstarta _ ⟨_,_,_,_,_,_,_,_,_,_,_,_,_,_,_,_,_,_,_,_,_,_,_,_,_,_,_,_,_,_,_⟩ ⟨_,_,_,_,_,_,_,_,_,_,_,_,_⟩ _ _ _ _ _ _ _ _ _ _ _ _ _ _ _ _ _ _ _ _ _ _ _ ?ok'3e ?hi'3e ?hp'3e ?hp0'3e ?hn'3e ?hd'3e ?k0'3e ?k2'3e ?k3'3e ?k5'3e ?hct'3e ?hL'3e ?x1'3e ?x2'3e ?x3'3e ?x4'3e ?x5'3e ?x6'3e ?z1'3e ?c1'3e ?c2'3e ?c3'3e ?hs'3e ?hy'3e ?hj'3e ?hx'3e ?ho'3e rfl ?wi'3e) ?B9'3e ?F9'3e ?X9'3e (Mine.wr_re (Mine.wr_pick ?N9'3e ?P1'3e ?P2'3e ?P3'3e ?P4'3e ?P5'3e ?P6'3e ?Pm'3e ?P7'3e) ?P8'3e ?P9'3e) ?T9'3e ?hk9'3e ?ht9'3e ?hd9'3e ?hu9'3e ?_;(case B9'3e => k_asm);(case F9'3e => k_asm);(case X9'3e => k_asm);(case N9'3e => k_asm);(case P1'3e => k_upd);(case P2'3e => k_upd);(case P3'3e => k_upd);(case P4'3e => k_upd);(case P5'3e => k_upd);(case P6'3e => k_upd);(case Pm'3e => assumption);(case P7'3e => k_upd);(case P8'3e => k_upd);(case P9'3e => with_reducible exact Mine.Pick.second);(case T9'3e => k_asm);(case hk9'3e => first | assumption | exact rfl);(case ht9'3e => (refine Mine.leT ?_;(try dsimp only);omega));(case hd9'3e => ktr_room);(case hu9'3e => ktr_units);(case ok'3e => with_reducible assumption);(case hi'3e => first | with_reducible assumption | ((try dsimp only);omega));(case hp'3e => first | with_reducible assumption | ((try dsimp only);omega));(case hp0'3e => first | with_reducible assumption | ((try dsimp only);omega));(case hn'3e => first | with_reducible assumption | ((try dsimp only);omega));(case hd'3e => first | with_reducible assumption | ((try dsimp only);omega));(case k0'3e => exact ne_of_allLt (lt_of_allLt (And.intro (by (try dsimp only);omega) (And.intro (by (try dsimp only);omega) (by tb_lt)))));(case k2'3e => with_reducible assumption);(case k3'3e => (refine ltN ?_;(try dsimp only);omega));(case k5'3e => with_reducible assumption);(case hct'3e => exact rfl);(case hL'3e => with_reducible assumption);(case x1'3e => first | with_reducible assumption | ((try dsimp only);omega));(case x2'3e => first | with_reducible assumption | ((try dsimp only);omega));(case x3'3e => first | with_reducible assumption | ((try dsimp only);omega));(case x4'3e => first | with_reducible assumption | ((try dsimp only);omega));(case x5'3e => first | with_reducible assumption | ((try dsimp only);omega));(case x6'3e => first | with_reducible assumption | ((try dsimp only);omega));(case z1'3e => first | with_reducible assumption | ((try dsimp only);omega));(case c1'3e => first | with_reducible assumption | ((try dsimp only);omega));(case c2'3e => first | with_reducible assumption | ((try dsimp only);omega));(case c3'3e => first | with_reducible assumption | ((try dsimp only);omega));(case hs'3e => first | with_reducible assumption | ((try dsimp only);omega));(case hy'3e => first | with_reducible assumption | ((try dsimp only);omega));(case hj'3e => first | with_reducible assumption | ((try dsimp only);omega));(case hx'3e => first | with_reducible assumption | ((try dsimp only);omega));(case ho'3e => first | with_reducible assumption | ((try dsimp only);omega));(case wi'3e => first | with_reducible assumption | ((try dsimp only);omega));  k_whole;intro v''3e news9''3e h9''3e dr9''3e tk9''3e hr'3e F''3e N''3e tk''3e;(obtain ⟨hv'3e,its''3e,n''3e,nd''3e,NL''3e,X''3e,hn''3e,o1''3e,hw''3e,hz''3e⟩ := hr'3e);(subst hv'3e);(subst hn''3e);(dsimp only at hw''3e hz''3e o1''3e);(try dsimp only [Mine.wr,Mine.wrDict,Mine.wE] at N''3e);(try dsimp only))))
  trivial
theorem WOk.consI {a : WA} {q : WQ} {P : Params} {rest tl : List (Addr × Obj)} {I : Addr} {io : Obj} (ok : WOk a rest) (hne : ∀ p ∈ wr P a q tl,p.1 ≠ I) : WOk a ((I,io) :: rest) := by
  obtain ⟨l0,l1,l2,l3,l4,l5,o0,o1,o2,o3,o4,o5,o6,mw⟩ := ok
  have f : ∀ p ∈ wr P a q tl,I ≠ p.1 := fun p hp => Ne.symm (hne p hp)
  exact ⟨l0,l1,l2,l3,l4,l5,List.forall_mem_cons.mpr ⟨f (a.wire,_) (.tail _ (.tail _ (.tail _ (.tail _ (.tail _ (.tail _ (.head _))))))),o0⟩,List.forall_mem_cons.mpr ⟨f (a.DW,_) (.tail _ (.tail _ (.tail _ (.tail _ (.tail _ (.head _)))))),o1⟩,List.forall_mem_cons.mpr ⟨f (a.D,_) (.tail _ (.tail _ (.tail _ (.head _)))),o2⟩,List.forall_mem_cons.mpr ⟨f (a.DS,_) (.tail _ (.tail _ (.head _))),o3⟩,List.forall_mem_cons.mpr ⟨f (a.NS,_) (.tail _ (.head _)),o4⟩,List.forall_mem_cons.mpr ⟨f (a.PS,_) (.head _),o5⟩,List.forall_mem_cons.mpr ⟨f (a.W,_) (.tail _ (.tail _ (.tail _ (.tail _ (.head _))))),o6⟩, .tail _ mw⟩
def TellJ (wa : WA) (CL : Addr) (cz : Array Value) (n : Nat) (pm ctv : Value) (oc : Obj) (vs : Array Value) (tq u1 u2 : Tok) (P : Params) (rest : List (Addr × Obj)) (cs : List LCall) (i : Nat) (m : Str → Option Value) (nw : List (Addr × Obj)) : Prop :=
  ∃ (st : TS) (q : WQ) (rest' : List (Addr × Obj)) (tb : Array Value) (u : Str → Option Value),st = (cs.take i).foldl tellOne st0 ∧ m = (fun z => if z = Str.ofString "writer" then some (.ref wa.W) else u z) ∧ nw = wr P wa q ((123,tabObj tb) :: (CL,listOf cz n) :: rest') ∧ (∀ p ∈ rest,p ∈ rest') ∧ Sim wa CL pm ctv oc vs tq u1 u2 q rest' tb st i
theorem map1 {m : Str → Option Value} {x : Str} {v : Option Value} (h1 : m x = v) : m = fun z => if z = x then v else m z := by
  funext z
  by_cases e : z = x
  · rw [if_pos e,e,h1]
  · rw [if_neg e]
theorem Okays.take : ∀ {cs : List LCall} {st : TS},Okays st cs → ∀ i,Okays st (cs.take i)
  | [],_,_,i => by rw [List.take_nil];trivial
  | _ :: _,_,_,0 => trivial
  | _ :: _,_,o,i + 1 => ⟨o.1,Okays.take o.2 i⟩
theorem name_slice {x : Str} (h : Name x) : (Txt.slice x none (some 1) == Str.ofString "{") = false := by
  rcases h with rfl | rfl | rfl <;> decide +kernel
theorem name_len10 {x : Str} (h : Name x) : x.length ≤ 10 := by rcases h with rfl | rfl | rfl <;> decide
theorem wr_sub {P : Params} {a : WA} {q : WQ} {tl tl' : List (Addr × Obj)} (h : ∀ x ∈ tl,x ∈ tl') : ∀ x ∈ wr P a q tl,x ∈ wr P a q tl' := by
  intro x hx
  simp only [wr,List.mem_cons] at hx ⊢
  rcases hx with hx | hx | hx | hx | hx | hx | hx | hx
  · exact .inl hx
  · exact .inr (.inl hx)
  · exact .inr (.inr (.inl hx))
  · exact .inr (.inr (.inr (.inl hx)))
  · exact .inr (.inr (.inr (.inr (.inl hx))))
  · exact .inr (.inr (.inr (.inr (.inr (.inl hx)))))
  · exact .inr (.inr (.inr (.inr (.inr (.inr (.inl hx))))))
  · exact .inr (.inr (.inr (.inr (.inr (.inr (.inr (h x hx)))))))
theorem wr_ne {P : Params} {a : WA} {q q' : WQ} {tl tl' : List (Addr × Obj)} {I : Addr} (h : ∀ x ∈ wr P a q tl,x.1 ≠ I) (ht : ∀ x ∈ tl',x.1 ≠ I) : ∀ x ∈ wr P a q' tl',x.1 ≠ I := by
  simp only [wr,List.forall_mem_cons] at h ⊢
  exact ⟨h.1,h.2.1,h.2.2.1,h.2.2.2.1,h.2.2.2.2.1,h.2.2.2.2.2.1,h.2.2.2.2.2.2.1,ht⟩
theorem tell_end {wa : WA} {CL I : Addr} {io : Obj} {cz : Array Value} {n : Nat} {pm ctv : Value} {oc : Obj} {vs : Array Value} {tq u1 u2 : Tok} {P : Params} {rest rest' nx : List (Addr × Obj)} {cs : List LCall} {i : Nat} {m : Str → Option Value} {h₀ : Heap} {L : Addr} {s s' : Shared} {st' : TS} {q' : WQ} {tb : Array Value}
    (S : Sim wa CL pm ctv oc vs tq u1 u2 q' rest' tb st' (i + 1)) (hs : Same s s') (F : Fr h₀ L s'.heap m) (N : News h₀ L s'.heap nx) (hp : (I,io) ∈ nx) (hsub' : ∀ x ∈ wr P wa q' ((123,tabObj tb) :: (CL,listOf cz n) :: rest'),x ∈ nx) (hne : ∀ x ∈ wr P wa q' ((123,tabObj tb) :: (CL,listOf cz n) :: rest'),x.1 ≠ I)
    (m1 : m (Str.ofString "writer") = some (.ref wa.W)) (hst : (cs.take (i + 1)).foldl tellOne st0 = st') (hsub : ∀ p ∈ rest,p ∈ rest') : LoopEnd h₀ L (TellJ wa CL cz n pm ctv oc vs tq u1 u2 P rest cs (i + 1)) (I,io) s .next s' :=
  ⟨.inl rfl,m,_,nx,hs,F,N,hp,hsub',hne,st',q',rest',tb,m,hst.symm,map1 m1,rfl,hsub,S⟩
theorem ne_iter {h₀ h : Heap} {L I X : Addr} {io o : Obj} {nx : List (Addr × Obj)} (N : News h₀ L h nx) (hI : (I,io) ∈ nx) (hio : IterObj io) (hX : (X,o) ∈ nx) (ho : o.cls = .type "list") : X ≠ I := by
  rintro rfl
  have a := (N _ hI).1
  have b := (N _ hX).1
  have e : io = o := Option.some.inj (a.symm.trans b)
  rw [← e,hio.1] at ho
  exact absurd ho (by decide)
theorem ne_iterc {h₀ h : Heap} {L I X : Addr} {io o : Obj} {nx : List (Addr × Obj)} {vs : Array Value} {x : Str} {t : Tok} (N : News h₀ L h nx) (hI : (I,io) ∈ nx) (hio : IterObj io) (hX : (X,o) ∈ nx) (hd : o.data = .fields vs) (hq : vs[1]? = some (.str x t)) : X ≠ I := by
  rintro rfl
  have a := (N _ hI).1
  have b := (N _ hX).1
  have e : io = o := Option.some.inj (a.symm.trans b)
  obtain ⟨_,v,k,t',hd'⟩ := hio
  rw [e,hd] at hd'
  injection hd' with hd'
  rw [hd'] at hq
  cases hq
theorem rest_ne {P : Params} {wa : WA} {q q' : WQ} {tb tb' cl : Obj} {CL I : Addr} {rest' ls : List (Addr × Obj)} (hne : ∀ x ∈ wr P wa q ((123,tb) :: (CL,cl) :: rest'),x.1 ≠ I) (hl : ∀ x ∈ ls,x.1 ≠ I) : ∀ x ∈ wr P wa q' ((123,tb') :: (CL,cl) :: (ls ++ rest')),x.1 ≠ I := by
  refine wr_ne hne ?_
  have h : ∀ x ∈ (123,tb) :: (CL,cl) :: rest',x.1 ≠ I := fun x hx => hne x (.tail _ (.tail _ (.tail _ (.tail _ (.tail _ (.tail _ (.tail _ hx)))))))
  refine List.forall_mem_cons.mpr ⟨h (123,tb) (.head _),List.forall_mem_cons.mpr ⟨h _ (.tail _ (.head _)),fun x hx => ?_⟩⟩
  rcases List.mem_append.mp hx with hx | hx
  · exact hl x hx
  · exact h x (.tail _ (.tail _ hx))
theorem sub_r {a b c d e i : Addr × Obj} {r : List (Addr × Obj)} : ∀ x ∈ d :: e :: ([a,b,c] ++ r),x ∈ a :: b :: c :: d :: i :: e :: r := by
  intro x hx
  simp only [List.mem_cons,List.cons_append,List.nil_append] at hx ⊢
  rcases hx with h | h | h | h | h | h <;> simp [h]
theorem sub_a {a b d e i : Addr × Obj} {r : List (Addr × Obj)} : ∀ x ∈ d :: e :: ([a,b] ++ r),x ∈ a :: b :: d :: i :: e :: r := by
  intro x hx
  simp only [List.mem_cons,List.cons_append,List.nil_append] at hx ⊢
  rcases hx with h | h | h | h | h <;> simp [h]
section
variable {wa : WA} {CL : Addr} {pm ctv : Value} {oc : Obj} {vs : Array Value} {tq u1 u2 : Tok} {q q' : WQ} {rest : List (Addr × Obj)} {tb : Array Value} {st : TS} {i : Nat}
theorem ne_of_gt3 {a b : Addr} (h : @LT.lt Nat _ a b) : b ≠ a := fun e => by subst e;exact Nat.lt_irrefl _ h
theorem Sim.rS {X c NL : Addr} {oc' : Obj} {vs' : Array Value} {tq' : Tok} {v1 : Value} {x t : Str} (S : Sim wa CL pm ctv oc vs tq u1 u2 q rest #[] st i) (hx : x = Str.ofString "r") (tok : TOk st) (h2 : st.seen = false) (h123 : @LT.lt Nat _ 123 wa.wire) (hC : @LT.lt Nat _ CL wa.wire) (hwP : @LT.lt Nat _ wa.wire wa.PS) (hLP : @LT.lt Nat _ wa.L0 wa.PS)
    (o : @LT.lt Nat _ wa.PS X ∧ @LT.lt Nat _ wa.PS c ∧ @LT.lt Nat _ wa.PS NL) (d1 : oc'.data = .fields vs') (d2 : vs'[1]? = some (.str lamQual tq')) (hw : Wrote q.its q'.its [Str.ofString "<r",Str.ofString ">"]) (hz : q'.its.size ≤ q.its.size + 2)
    (e0 : q'.das = #[]) (e1 : q'.dss = q.dss.push (.ref NL)) (e2 : q'.nss = q.nss.push (.ref X)) (e3 : q'.pss = q.pss.push v1) (e4 : q'.seen = true) (e5 : q'.done = q.done) :
    Sim wa CL pm ctv oc vs tq u1 u2 q' ([(X,listOf #[] 0),(c,oc'),(NL,listOf #[] 0)] ++ rest) #[rawInt 135,rawInt 71, .ref c] (tellOne st (0,x,t)) (i + 1) := by
  subst hx
  have g : tellOne st (0,Str.ofString "r",t) = ⟨st.stack ++ [Str.ofString "r"],st.held,true,st.done,st.out ++ [Str.ofString "<r",Str.ofString ">"]⟩ := by unfold tellOne;rw [if_pos rfl,if_pos rfl]
  obtain ⟨oX,oc9,oN⟩ := o
  have up : ∀ {a : Addr},@LT.lt Nat _ wa.PS a → a ≠ 123 ∧ a ≠ CL ∧ a ≠ wa.L0 := fun {a} h => ⟨ne_of_gt3 (by omega),ne_of_gt3 (by omega),ne_of_gt3 (by omega)⟩
  refine S.startS (((S.ok.cons (.inl oN)).cons (.inl oc9)).cons (.inl oX)) (.tail _ (.tail _ (.head _))) (up oN).2.2 ?_ ?_ (.inl rfl) (by rw [g]) (by rw [g];exact (tok.seen0 h2).2.1) (by rw [g]) (by rw [g]) (l := [Str.ofString "<r",Str.ofString ">"]) (by rw [g]) hw (by omega) e0 e1 e2 e3 e4 e5 ⟨c,oc',vs',tq',rfl, .tail _ (.head _),d1,d2⟩
  · exact List.forall_mem_cons.mpr ⟨(up oX).1,List.forall_mem_cons.mpr ⟨(up oc9).1,List.forall_mem_cons.mpr ⟨(up oN).1,S.k2⟩⟩⟩
  · exact List.forall_mem_cons.mpr ⟨(up oX).2.1,List.forall_mem_cons.mpr ⟨(up oc9).2.1,List.forall_mem_cons.mpr ⟨(up oN).2.1,S.kC⟩⟩⟩
theorem Sim.aS {X c NL : Addr} {oc1 : Obj} {vs1 : Array Value} {tq1 : Tok} {v1 : Value} {x t : Str} (S : Sim wa CL pm ctv oc vs tq u1 u2 q rest #[rawInt 135, rawInt 71, .ref c] st i) (hx : x = Str.ofString "a" ∨ x = Str.ofString "b") (h123 : @LT.lt Nat _ 123 wa.wire) (hC : @LT.lt Nat _ CL wa.wire) (hwP : @LT.lt Nat _ wa.wire wa.PS) (hLP : @LT.lt Nat _ wa.L0 wa.PS)
    (o : @LT.lt Nat _ wa.PS X ∧ @LT.lt Nat _ wa.PS NL) (c1 : (c,oc1) ∈ rest) (d1 : oc1.data = .fields vs1) (d2 : vs1[1]? = some (.str lamQual tq1)) (hw : Wrote q.its q'.its ((if st.text.length = 0 then [] else [escC st.text]) ++ [Str.ofString "<" ++ x,attrMark t,Str.ofString ">"])) (hz : q'.its.size ≤ q.its.size + 4)
    (e0 : q'.das = #[]) (e1 : q'.dss = q.dss.push (.ref NL)) (e2 : q'.nss = q.nss.push (.ref X)) (e3 : q'.pss = q.pss.push v1) (e4 : q'.seen = true) (e5 : q'.done = q.done) :
    Sim wa CL pm ctv oc vs tq u1 u2 q' ([(X,listOf #[] 0),(NL,listOf #[] 0)] ++ rest) #[rawInt 135,rawInt 71, .ref c] (tellOne st (0,x,t)) (i + 1) := by
  have hr : x ≠ Str.ofString "r" := by rcases hx with rfl | rfl <;> decide
  have g : tellOne st (0,x,t) = ⟨st.stack ++ [x],[],true,st.done,st.out ++ (st.flushed ++ [Str.ofString "<" ++ x,attrMark t,Str.ofString ">"])⟩ := by unfold tellOne;dsimp only;rw [if_pos rfl,if_neg hr]
  obtain ⟨oX,oN⟩ := o
  have up : ∀ {a : Addr},@LT.lt Nat _ wa.PS a → a ≠ 123 ∧ a ≠ CL ∧ a ≠ wa.L0 := fun {a} h => ⟨ne_of_gt3 (by omega),ne_of_gt3 (by omega),ne_of_gt3 (by omega)⟩
  refine S.startS ((S.ok.cons (.inl oN)).cons (.inl oX)) (.tail _ (.head _)) (up oN).2.2 ?_ ?_ (.inr hx) (by rw [g]) (by rw [g]) (by rw [g]) (by rw [g]) (l := (if st.text.length = 0 then [] else [escC st.text]) ++ [Str.ofString "<" ++ x,attrMark t,Str.ofString ">"]) (by rw [g];rfl) hw hz e0 e1 e2 e3 e4 e5 ⟨c,oc1,vs1,tq1,rfl,List.mem_append_right _ c1,d1,d2⟩
  · exact List.forall_mem_cons.mpr ⟨(up oX).1,List.forall_mem_cons.mpr ⟨(up oN).1,S.k2⟩⟩
  · exact List.forall_mem_cons.mpr ⟨(up oX).2.1,List.forall_mem_cons.mpr ⟨(up oN).2.1,S.kC⟩⟩
end
end
section
local macro_rules (kind := PySem.W.tacticK_extra_) | x => topOf "tell tell0 writer ltold lspell plain3 plain2 plain1 lcdef start starta startr itemsort pi comment wend qname data flush lst mown dicts keyt keyc lcomp dcomp setrows setdisp skey listlt setcol setwk setit setfx sets loop2 loop w1 lam_call lam nest del wru wr1 wr2 ltext quote quote0 esc plain0 pure1 ints cut fast tslice txt2 lt wr0 bound oo mac0 om" x
def ltellP (l : Lt) : Prop :=
  ((l.o 0).data = .fields (l.vs 6)) →
  ((l.vs 6)[1]? = some (.str "_law_writer.<locals>.<lambda>" (l.t 19))) →
  (CallsAt (l.rest 0) (l.vs 5).toList (l.lc 0)) →
  ((l.lc 0).length ≤ 20) →
  (Okays st0 (l.lc 0)) →
  (@LT.lt Nat _ (l.b 13) (waL l).wire) →
  (@LT.lt Nat _ 123 (waL l).wire) →
  ((l.b 13) ≠ 123) →
  (@LT.lt Nat _ (waL l).wire (waL l).PS) →
  (@LT.lt Nat _ (waL l).L0 (waL l).PS) →
  (Sim (waL l) (l.b 13) (l.v 0) (l.v 1) (l.o 0) (l.vs 6) (l.t 19) (l.t 20) (l.t 21) l.q (l.rest 0) #[] st0 0) →
  SpecL l 213 22 300 (wr l.w.params (waL l) l.q ((123,tabObj #[]) :: ((l.b 13),listOf (l.vs 5) (l.n 5)) :: (l.rest 0))) [.ref (waL l).W, .ref (l.b 13)] (fun v news' => v = .none ∧ ∃ (q' : WQ) (rest' : List (Addr × Obj)) (tb : Array Value),news' = wr l.w.params (waL l) q' ((123,tabObj tb) :: ((l.b 13),listOf (l.vs 5) (l.n 5)) :: rest') ∧ (∀ p ∈ (l.rest 0),p ∈ rest') ∧ Sim (waL l) (l.b 13) (l.v 0) (l.v 1) (l.o 0) (l.vs 6) (l.t 19) (l.t 20) (l.t 21) q' rest' tb (tellAll (l.lc 0)) (l.lc 0).length)
@[irreducible] noncomputable def cTe : Lt := Classical.choose (Lt.ex ltellP)
theorem ltell_c : ltellP cTe := by
  unfold ltellP SpecL SpecQ
  k_fill
  dsimp +instances only [waL,wqL]
  generalize cTe.b 0 = W;generalize cTe.b 1 = DW;generalize cTe.b 2 = wrt;generalize cTe.b 3 = wire;generalize cTe.b 4 = D;generalize cTe.b 5 = L0;generalize cTe.b 6 = T0;generalize cTe.b 7 = DS
  generalize cTe.b 8 = NS;generalize cTe.b 9 = PM;generalize cTe.b 10 = PS;generalize cTe.b 11 = it;generalize cTe.b 12 = itc;generalize cTe.t 0 = t0;generalize cTe.t 1 = t1;generalize cTe.t 2 = t2
  generalize cTe.t 3 = t3;generalize cTe.t 4 = t4;generalize cTe.t 5 = t5;generalize cTe.t 6 = t6;generalize cTe.t 7 = t7;generalize cTe.t 8 = t8;generalize cTe.t 9 = t9;generalize cTe.t 10 = t10
  generalize cTe.t 11 = t11;generalize cTe.t 12 = t12;generalize cTe.t 13 = t13;generalize cTe.t 14 = t14;generalize cTe.t 15 = t15;generalize cTe.t 16 = t16;generalize cTe.t 17 = t17;generalize cTe.w = w
  generalize cTe.q = q;generalize cTe.rest 0 = rest;generalize cTe.b 13 = CL;generalize cTe.vs 5 = cz;generalize cTe.n 5 = n;generalize cTe.lc 0 = cs;generalize cTe.v 0 = pm;generalize cTe.v 1 = ctv
  generalize cTe.o 0 = oc;generalize cTe.vs 6 = vs;generalize cTe.t 19 = tq;generalize cTe.t 20 = u1;generalize cTe.t 21 = u2;generalize cTe.mean = mean;generalize cTe.mg = mg;generalize cTe.mb = mb
  generalize cTe.dp = dp;generalize cTe.un = un;generalize cTe.gd = gd;generalize cTe.cn = cn;generalize cTe.cs = cs0;generalize cTe.a = a;generalize cTe.ccd = ccd;generalize cTe.cl = cl
  generalize cTe.outer = outer;generalize cTe.A₀ = A₀;generalize cTe.base = base;generalize cTe.h₀ = h₀;generalize cTe.L = L;generalize cTe.m = m;generalize cTe.s = s;generalize cTe.R = R
  intros hv hq hc hz ho hC h123 hC3 hwP hLP S0 B F X N T hk0 hts hd1 hu hret
  k_dflt (refine' code_def (binds := [("writer", .ref W),("calls", .ref CL)]) ?k1 ?k2 ?k3 ?k4 ?k5 ?kA ?kF ?kK ?k6 ?k7 ?k8 ?k9 ?kB ?_ ?c2 ?c3 ?c4 ?c5;(case kA => exact rfl);(case kF => exact rfl);(case kK => assumption);(case k1 => k_asm);(case k2 => k_asm);(case k3 => k_asm);(case k4 => k_asm);(case k5 => k_asm);(case k6 => k_is);(case k7 => k_is);(case k8 => ktr_room);(case k9 => exact BindsTo.of_eq rfl);(case c5 => decide);(case kB => exact locs rfl);(case c2 => exact rfl);(case c3 => exact rfl);(case c4 => exact rfl);k_whole;intro g' L' h' FG' F' N' B' X' T';(try dsimp only);(try k_lift B');(try k_fold))
  have cutOn : CutOn := trivial
  k_steps
  unfold Cut
  (rename News _ _ _ _ => N5);(rename Fr _ _ _ _ => F5)
  refine' iter_led2 (vs := cz.toList) (n := n) (TellJ ⟨W,DW,wrt,wire,D,L0,T0,DS,NS,PM,PS,it,itc,t0,t1,t2,t3,t4,t5,t6,t7,t8,t9,t10,t11,t12,t13,t14,t15,t16,t17⟩ CL cz n pm ctv oc vs tq u1 u2 w.params rest cs) ?hh ?hgo F5 N5 ?hl ?h0 ?ht ?turn ?done
  (case hh => exact rfl)
  (case hgo => intro _ _ _ _ _ _ _ hv9 hi hq;obtain ⟨_,_,_,_,_,rfl,_⟩ := hc.get hv9;exact PySem.wpAny_letOwnedTupleGo_listiter hi hq)
  (case hl => rintro i m nw ⟨st,q,rest',tb,u,_,_,rfl,_⟩;exact .tail _ (.tail _ (.tail _ (.tail _ (.tail _ (.tail _ (.tail _ (.tail _ (.head _)))))))))
  (case h0 => exact ⟨st0,q,rest,#[],_,rfl,map1 rfl,rfl,fun _ h => h,S0⟩)
  (case ht => (refine Mine.leT ?_;(try dsimp only);omega))
  (case turn =>
    clear N5 F5
    intro i v m₁ nw h dr tk I io hv9 hJ F1 N1 hne ht1 hio
    refine Exists.elim hJ ?_;clear hJ
    refine @tau1 _ ⟨st0⟩ _ ?_
    generalize Mine.ep _ _ = st
    intros hJ
    refine Exists.elim hJ ?_;clear hJ
    refine WQ.elE ?_
    generalize Mine.ep _ _ = q9;generalize WQ.its q9 = its;generalize WQ.das q9 = das;generalize WQ.dss q9 = dss;generalize WQ.nss q9 = nss;generalize WQ.pss q9 = pss;generalize WQ.n q9 = n1;generalize WQ.nd q9 = nd;generalize WQ.nds q9 = nds;generalize WQ.nns q9 = nns;generalize WQ.nps q9 = nps;generalize WQ.seen q9 = seen;generalize WQ.done q9 = done;generalize WQ.ti q9 = ti
    intros hJ
    obtain ⟨rest',tb,u,hst,rfl,rfl,hsub,S⟩ := hJ
    obtain ⟨Tc,c,tk1,tk2,tk3,rfl,hci,hT⟩ := hc.get hv9
    have hT' := hsub _ hT
    have hi : i < 20 := Nat.lt_of_lt_of_le (List.getElem?_eq_some_iff.mp hci).1 hz
    have hok : okStep st c := by rw [hst];exact ho.at hci
    have hstep : (cs.take (i + 1)).foldl tellOne st0 = tellOne st c := by rw [List.take_add_one,hci,List.foldl_append,hst];rfl
    have tok : TOk st := by
      rw [hst]
      exact tok_all tok0 (ho.take i)
    clear hst hci hv9
    have okR : WOk ⟨W,DW,wrt,wire,D,L0,T0,DS,NS,PM,PS,it,itc,t0,t1,t2,t3,t4,t5,t6,t7,t8,t9,t10,t11,t12,t13,t14,t15,t16,t17⟩ ((I,io) :: (123,tabObj tb) :: (CL,listOf cz n) :: rest') := WOk.consI (WOk.cons (WOk.cons S.ok (Or.inr hC)) (Or.inr h123)) hne
    have wiR := S.wit hv hq (Nat.le_of_lt hi) (R := (I,io) :: (123,tabObj tb) :: (CL,listOf cz n) :: rest') (fun p hp => .tail _ (.tail _ (.tail _ hp)))
    have f1 : its.size ≤ 900 := by have := S.zi;dsimp only at this;omega
    have f2 : das.size ≤ 1000 := by have := S.zd;dsimp only at this;omega
    have f3 : StrsAre das.toList st.held := S.hy
    have f4 : Txt.join "" st.held = st.text := rfl
    have f5 : st.text.length ≤ 50 := by have := S.zh;show (Txt.join "" st.held).length ≤ 50;rw [sum_join];omega
    have hbR : seen = false → das.size = 0 ∧ done = false := fun h => by
      have := tok.seen0 (S.se.symm.trans h)
      refine ⟨?_,S.dn.trans this.2.2⟩
      have z := StrsAre.size S.hy
      dsimp only at z
      rw [z,this.2.1];rfl
    have hcR : done = true → das.size = 0 := fun h => by
      have := tok.done0 (S.dn.symm.trans h)
      have z := StrsAre.size S.hy
      dsimp only at z
      rw [z,this.2];rfl
    have f6 : (st.held.map (·.length)).sum ≤ 100000 := by have := S.zh;omega
    have mw : (wrt,bndObj "list.append" (.ref wire)) ∈ rest' := S.ok.mw
    have okR2 : WOk ⟨W,DW,wrt,wire,D,L0,T0,DS,NS,PM,PS,it,itc,t0,t1,t2,t3,t4,t5,t6,t7,t8,t9,t10,t11,t12,t13,t14,t15,t16,t17⟩ ((I,io) :: (CL,listOf cz n) :: rest') := WOk.consI (WOk.cons S.ok (Or.inr hC)) hne
    have wiR2 := S.wit hv hq (Nat.le_of_lt hi) (R := (I,io) :: (CL,listOf cz n) :: rest') (fun p hp => .tail _ (.tail _ hp))
    have hLR2 : (L0,listOf #[.ref T0] 0) ∈ (I,io) :: (CL,listOf cz n) :: rest' := .tail _ (.tail _ S.hL)
    have kI : (123 : Addr) ≠ I := hne (123,tabObj tb) (.tail _ (.tail _ (.tail _ (.tail _ (.tail _ (.tail _ (.tail _ (.head _))))))))
    have kR2 : ∀ p ∈ (I,io) :: (CL,listOf cz n) :: rest',p.1 ≠ 123 := List.forall_mem_cons.mpr ⟨Ne.symm kI,List.forall_mem_cons.mpr ⟨hC3,S.k2⟩⟩
    have k5 : @LT.lt Nat _ 123 wire := h123
    have hwP' : @LT.lt Nat _ wire PS := hwP
    have hC' : @LT.lt Nat _ CL wire := hC
    have hLP' : @LT.lt Nat _ L0 PS := hLP
    have zs := S.zs
    have zp : pss.size = st.stack.length + 1 := S.zp
    have zn : nss.size = st.stack.length + 2 := S.zn
    have zl : dss.size = st.stack.length + 1 := by obtain ⟨ls,d1,d2,_⟩ := S.ds;have d1 : dss.toList = _ := d1;rw [← Array.length_toList,d1];simp [d2]
    have q0 : ∀ p ∈ (I,io) :: (123,tabObj tb) :: (CL,listOf cz n) :: rest',p.1 ≠ I ∨ True := fun _ _ => .inr trivial
    revert c
    refine callEl ?_
    generalize Mine.ep _ _ = c9;generalize Prod.fst c9 = kind;generalize Prod.fst (Prod.snd c9) = name;generalize Prod.snd (Prod.snd c9) = text
    intros hT hT' hok hstep
    obtain ⟨g0,hok⟩ := hok
    dsimp only [callObj] at hT' g0 hok
    have g1 : text.length ≤ 50 := by omega
    dsimp only [wr,wrDict,wE] at N1
    rcases or_left_comm.mp hok with ⟨rfl,h1,h2⟩ | ⟨rfl,rfl,rfl,h2⟩ | ⟨rfl,⟨w0,h1⟩,h2⟩ | ⟨rfl,h2⟩ | ⟨h34,rfl⟩
    · have hse := tok.seen h2
      have hseen : seen = true := S.se.trans hse.1
      subst hseen
      obtain ⟨cc,oc1,vs1,tq1,rfl,hc1,hc2,hc3⟩ := S.tblS hse.1
      have hc1' : (cc,oc1) ∈ (I,io) :: (CL,listOf cz n) :: rest' := .tail _ (.tail _ hc1)
      have hV1 : ∃ v1,pss[pss.size - 1]? = some v1 := ⟨_,Array.getElem?_eq_getElem (by omega)⟩
      obtain ⟨v1,hv1⟩ := hV1
      have r1 : pss.size ≤ 1000 := by omega
      have r2 : nss.size ≤ 1000 := by omega
      have r3 : dss.size ≤ 900 := by omega
      have h19 := h1
      have x1 : Str.ofString "k" ≠ name := by rcases h19 with rfl | rfl <;> decide
      have x2 : name.cps.toList < (Str.ofString "k").cps.toList := by rcases h19 with rfl | rfl <;> decide +kernel
      have x3 : ¬ (Str.ofString "k").cps.toList < name.cps.toList := by rcases h19 with rfl | rfl <;> decide +kernel
      have x4 : Txt.splitMax name (Str.ofString "}") 1 = [name] := by rcases h19 with rfl | rfl <;> decide +kernel
      have x5 : name.length ≤ 10 := by rcases h19 with rfl | rfl <;> decide
      have x6 : (Txt.slice name none (some 1) == Str.ofString "{") = false := by rcases h19 with rfl | rfl <;> decide +kernel
      have x7 : (name == Str.ofString "r") = false := by rcases h19 with rfl | rfl <;> decide +kernel
      skip -- MARKA
      k_steps
      (rename News _ _ _ _ => N9);(rename Fr _ _ _ _ => F9);(rename Wrote _ _ _ => hw9);(rename @LT.lt Nat _ _ _ ∧ @LT.lt Nat _ _ _ => o9)
      refine' tell_end (q' := ⟨_,_,_,_,_,_,_,_,_,_,_,_,_⟩) ?tS ⟨rfl,rfl⟩ F9 N9 (by k_mem) (wr_sub sub_a) ?tN rfl hstep ?tB
      (case tS => exact S.aS h1 h123 hC hwP hLP o9 hc1 hc2 hc3 hw9 (by assumption) rfl rfl rfl rfl rfl rfl)
      (case tN => exact rest_ne hne (List.forall_mem_cons.mpr ⟨ne_iter N9 (by k_mem) hio (by k_mem) rfl,List.forall_mem_cons.mpr ⟨ne_iter N9 (by k_mem) hio (by k_mem) rfl,fun _ h => nomatch h⟩⟩))
      (case tB => exact fun p hp => List.mem_append_right _ (hsub p hp))
    · obtain ⟨s0,s1,s2⟩ := tok.seen0 h2
      have hseen : seen = false := S.se.trans h2
      have hd0 : das = #[] := Array.eq_empty_of_size_eq_zero (by have z := StrsAre.size S.hy;dsimp only at z;rw [z,s1];rfl)
      have htb : tb = #[] := by
        rcases S.tbl with ⟨_,e⟩ | ⟨e,_⟩
        · exact e
        · rw [h2] at e;cases e
      subst hseen hd0 htb
      have hV1 : ∃ v1,pss[pss.size - 1]? = some v1 := ⟨_,Array.getElem?_eq_getElem (by omega)⟩
      obtain ⟨v1,hv1⟩ := hV1
      have r1 : pss.size ≤ 1000 := by omega
      have r2 : nss.size ≤ 1000 := by omega
      have r3 : dss.size ≤ 900 := by omega
      skip -- MARKS
      k_steps
      (rename News _ _ _ _ => N9);(rename Fr _ _ _ _ => F9);(rename Wrote _ _ _ => hw9);(rename @LT.lt Nat _ _ _ ∧ @LT.lt Nat _ _ _ ∧ @LT.lt Nat _ _ _ => o9)
      refine' tell_end (q' := ⟨_,_,_,_,_,_,_,_,_,_,_,_,_⟩) ?sS ⟨rfl,rfl⟩ F9 N9 (by k_mem) (wr_sub sub_r) ?sN rfl hstep ?sB
      (case sS => exact S.rS rfl tok h2 h123 hC hwP hLP o9 (by assumption) (by assumption) hw9 (by assumption) rfl rfl rfl rfl rfl rfl)
      (case sN => exact rest_ne hne (List.forall_mem_cons.mpr ⟨ne_iter N9 (by k_mem) hio (by k_mem) rfl,List.forall_mem_cons.mpr ⟨ne_iterc N9 (by k_mem) hio (by k_mem) (by assumption) (by assumption),List.forall_mem_cons.mpr ⟨ne_iter N9 (by k_mem) hio (by k_mem) rfl,fun _ h => nomatch h⟩⟩⟩))
      (case sB => exact fun p hp => List.mem_append_right _ (hsub p hp))
    · have hse := tok.seen (by rw [h1];simp)
      have hseen : seen = true := S.se.trans hse.1
      have hl : st.stack.length = w0.length + 1 := by rw [h1];simp
      obtain ⟨p0,v1,rfl,zp0⟩ := last_of (a := pss) (by omega)
      obtain ⟨d0,v2,rfl,zd0⟩ := last_of (a := dss) (by omega)
      obtain ⟨n0,v3,rfl,zn0⟩ := last_of (a := nss) (by omega)
      have r1 : p0.size ≤ 1000 := by omega
      have r2 : d0.size ≤ 1000 := by omega
      have r3 : n0.size ≤ 1000 := by omega
      have r4 := name_len10 h2
      have r5 := name_slice h2
      skip -- MARKE
      k_steps
      (rename Fr _ _ _ _ => F9);(rename News _ _ _ _ => N9)
      exact tell_end (S.tendS hse.1 h1 (by assumption) rfl rfl rfl (by assumption) (by assumption) (by assumption) (by assumption) (by assumption)) ⟨rfl,rfl⟩ F9 N9 (by k_mem) (wr_sub fun x hx => .tail _ hx) (wr_ne hne fun x hx => hne x (.tail _ (.tail _ (.tail _ (.tail _ (.tail _ (.tail _ (.tail _ hx)))))))) rfl hstep hsub
    · skip -- MARKD
      k_steps
      (rename Fr _ _ _ _ => F9);(rename News _ _ _ _ => N9)
      exact tell_end (S.tdataS g0) ⟨rfl,rfl⟩ F9 N9 (by k_mem) (wr_sub fun x hx => .tail _ hx) (wr_ne hne fun x hx => hne x (.tail _ (.tail _ (.tail _ (.tail _ (.tail _ (.tail _ (.tail _ hx)))))))) rfl hstep hsub
    · rcases h34 with rfl | rfl
      · skip -- MARKR
        k_steps
        (rename Fr _ _ _ _ => F9);(rename News _ _ _ _ => N9)
        exact tell_end (S.tremS (.inl rfl) (by assumption) (by assumption) (by assumption) (by assumption) (by assumption) (by assumption)) ⟨rfl,rfl⟩ F9 N9 (by k_mem) (wr_sub fun x hx => .tail _ hx) (wr_ne hne fun x hx => hne x (.tail _ (.tail _ (.tail _ (.tail _ (.tail _ (.tail _ (.tail _ hx)))))))) rfl hstep hsub
      · skip -- MARKP
        k_steps
        (rename Fr _ _ _ _ => F9);(rename News _ _ _ _ => N9)
        exact tell_end (S.tremS (.inr rfl) (by assumption) (by assumption) (by assumption) (by assumption) (by assumption) (by assumption)) ⟨rfl,rfl⟩ F9 N9 (by k_mem) (wr_sub fun x hx => .tail _ hx) (wr_ne hne fun x hx => hne x (.tail _ (.tail _ (.tail _ (.tail _ (.tail _ (.tail _ (.tail _ hx)))))))) rfl hstep hsub)
  (case done =>
    intro m₁ nw h dr tk hJ F1 N1 ht1
    refine Exists.elim hJ ?_;clear hJ
    refine @tau1 _ ⟨st0⟩ _ ?_
    generalize Mine.ep _ _ = st
    intros hJ
    refine Exists.elim hJ ?_;clear hJ
    refine @tau1 _ wqSome _ ?_
    generalize Mine.ep _ _ = q1
    intros hJ
    obtain ⟨rest',tb,u,hst,rfl,rfl,hsub,S⟩ := hJ
    rw [hc.length,List.take_length] at hst
    rw [hc.length] at S
    have e9 : st = tellAll cs := hst
    subst e9
    clear hst
    k_steps
    (rename Fr _ _ _ _ => F9);(rename News _ _ _ _ => N9)
    exact hret _ _ _ ⟨rfl,q1,rest',tb,rfl,hsub,S⟩ ⟨rfl,rfl⟩ F9 N9)
theorem ltell : ∀ (w : World) (wa : WA) (q : WQ) (rest : List (Addr × Obj)) (CL : Addr) (cz : Array Value) (n : Nat) (cs : List LCall) (pm ctv : Value) (oc : Obj) (vs : Array Value) (tq u1 u2 : Tok) (hv : oc.data = .fields vs) (hq : vs[1]? = some (.str "_law_writer.<locals>.<lambda>" tq)) (hc : CallsAt rest cz.toList cs) (hz : cs.length ≤ 20) (ho : Okays st0 cs) (hC : @LT.lt Nat _ CL wa.wire) (h123 : @LT.lt Nat _ 123 wa.wire) (hC3 : CL ≠ 123) (hwP : @LT.lt Nat _ wa.wire wa.PS) (hLP : @LT.lt Nat _ wa.L0 wa.PS) (S0 : Sim wa CL pm ctv oc vs tq u1 u2 q rest #[] st0 0),
    Spec w 213 22 300 (wr w.params wa q ((123,tabObj #[]) :: (CL,listOf cz n) :: rest)) [.ref wa.W, .ref CL] (fun v news' => v = .none ∧ ∃ (q' : WQ) (rest' : List (Addr × Obj)) (tb : Array Value),news' = wr w.params wa q' ((123,tabObj tb) :: (CL,listOf cz n) :: rest') ∧ (∀ p ∈ rest,p ∈ rest') ∧ Sim wa CL pm ctv oc vs tq u1 u2 q' rest' tb (tellAll cs) cs.length) := by
  intros w wa q rest CL cz n cs pm ctv oc vs tq u1 u2 hv hq hc hz ho hC h123 hC3 hwP hLP S0
  refine Spec.close fun mean9 mg9 mb9 dp9 un9 gd9 cn9 cs9 a9 ccd9 cl9 outer9 A₀9 base9 h₀9 L9 m9 s9 R9 => ?_
  exact tau (by unfold cTe;rfl) ltell_c { ltL0 with w := w,q := q,b := nth 0 [wa.W,wa.DW,wa.wrt,wa.wire,wa.D,wa.L0,wa.T0,wa.DS,wa.NS,wa.PM,wa.PS,wa.it,wa.itc,CL],n := nth 0 [0,0,0,0,0,n],t := nth 0 [wa.t0,wa.t1,wa.t2,wa.t3,wa.t4,wa.t5,wa.t6,wa.t7,wa.t8,wa.t9,wa.t10,wa.t11,wa.t12,wa.t13,wa.t14,wa.t15,wa.t16,wa.t17,0,tq,u1,u2],v := nth .none [pm,ctv],vs := nth #[] [#[],#[],#[],#[],#[],cz,vs],o := nth default [oc],rest := nth [] [rest],lc := nth [] [cs],mean := mean9,mg := mg9,mb := mb9,dp := dp9,un := un9,gd := gd9,cn := cn9,cs := cs9,a := a9,ccd := ccd9,cl := cl9,outer := outer9,A₀ := A₀9,base := base9,h₀ := h₀9,L := L9,m := m9,s := s9,R := R9 } hv hq hc hz ho hC h123 hC3 hwP hLP S0
end
section
local macro_rules (kind := PySem.W.tacticK_extra_) | x => topOf "plain4 ltold lspell plain3 plain2 plain1 lcdef lst dicts setrows setdisp skey listlt setcol setwk setit setfx sets loop wr1 wr2 ltext quote quote0 plain0 pure1 ints cut fast tslice txt2 lt wr0 bound oo mac0 om" x
theorem turn_len (st : List Str × List LCall) (d : Int) : (turnOf st d).2.length ≤ st.2.length + 1 ∧ (turnOf st d).1.length ≤ st.1.length + 1 := by
  unfold turnOf
  (repeat' split) <;> simp <;> omega
theorem turns_len : ∀ (ds : List Int) (st : List Str × List LCall),(ds.foldl turnOf st).2.length ≤ st.2.length + ds.length ∧ (ds.foldl turnOf st).1.length ≤ st.1.length + ds.length
  | [],st => by simp
  | d :: r,st => by
    have a := turn_len st d
    have b := turns_len r (turnOf st d)
    rw [List.foldl_cons,List.length_cons]
    omega
theorem calls_len (a0 a1 a2 a3 a4 a5 a6 : Int) : (callsOf [a0,a1,a2,a3,a4,a5,a6]).length ≤ 20 := by
  have h := turns_len [a1,a2,a3,a4,a5] ([Str.ofString "r"],[(3 + a0.fmod 2,Str.ofString "p",tellText (a0.fdiv 2)),(0,Str.ofString "r",Str.ofString "")])
  have e : callsOf [a0,a1,a2,a3,a4,a5,a6] = ([a1,a2,a3,a4,a5].foldl turnOf ([Str.ofString "r"],[(3 + a0.fmod 2,Str.ofString "p",tellText (a0.fdiv 2)),(0,Str.ofString "r",Str.ofString "")])).2 ++ endsOf ([a1,a2,a3,a4,a5].foldl turnOf ([Str.ofString "r"],[(3 + a0.fmod 2,Str.ofString "p",tellText (a0.fdiv 2)),(0,Str.ofString "r",Str.ofString "")])).1 ++ [(3 + a6.fmod 2,Str.ofString "p",tellText (a6.fdiv 2))] := rfl
  rw [e]
  generalize [a1,a2,a3,a4,a5].foldl turnOf ([Str.ofString "r"],[(3 + a0.fmod 2,Str.ofString "p",tellText (a0.fdiv 2)),(0,Str.ofString "r",Str.ofString "")]) = g at h ⊢
  have h2 : (endsOf g.1).length = g.1.length := by unfold endsOf;simp
  simp only [List.length_append,List.length_cons,List.length_nil,h2]
  simp only [List.length_cons,List.length_nil] at h
  omega
theorem okStep.shape {st : TS} {c : LCall} (h : okStep st c) : Shape c := by
  obtain ⟨h0,h⟩ := h
  refine ⟨h0,?_⟩
  rcases h with ⟨a,b,_⟩ | ⟨a,b,_⟩ | ⟨a,_,b⟩ | ⟨a,_⟩ | h
  · exact .inl ⟨a, .inl b⟩
  · exact .inl ⟨a, .inr b⟩
  · exact .inr (.inl ⟨a,b⟩)
  · exact .inr (.inr (.inl a))
  · exact .inr (.inr (.inr h))
theorem Okays.shape : ∀ {cs : List LCall} {st : TS},Okays st cs → ∀ c ∈ cs,Shape c
  | [],_,_ => fun _ h => nomatch h
  | _ :: _,_,o => List.forall_mem_cons.mpr ⟨o.1.shape,Okays.shape o.2⟩
theorem small_all : ∀ (cs : List LCall) (lt : LT) (i : Nat),Small lt i → (∀ c ∈ cs,Shape c) → i + cs.length ≤ 20 → Small (cs.foldl toldOne lt) (i + cs.length)
  | [],_,_,S,_,_ => S
  | c :: r,lt,i,S,h,hz => by
    rw [List.length_cons] at hz
    have := small_all r (toldOne lt c) (i + 1) (small_step S (by omega) (h c (.head _))) (fun d hd => h d (.tail _ hd)) (by omega)
    rw [List.foldl_cons,List.length_cons,show i + (r.length + 1) = i + 1 + r.length by omega]
    exact this
theorem nl_ge : ∀ l : List Nat,l.length ≤ (nl l).length
  | [] => Nat.le_refl _
  | c :: r => by
    have := nl_ge r
    rw [nl_cons,List.length_append,List.length_cons]
    split <;> simp <;> omega
theorem dots_ge : ∀ (l : List Nat) (b : Bool),l.length ≤ (dots b l).length
  | [],_ => Nat.zero_le _
  | c :: r,b => by
    rw [dots_cons]
    have h1 := dots_ge r false
    have h2 := dots_ge r (c == 10)
    split <;> simp <;> omega
structure Doc (cs : List LCall) : Prop where
  sz : cs.length ≤ 20
  ok : Okays st0 cs
  sh : ∀ c ∈ cs,Shape c
  wl : (toldAll cs).whole.length ≤ 40000
  dl : (cat (tellAll cs).out).length ≤ 40000
  sl : (toldAll cs).straight.length ≤ 40000
  p1 : mail (cat (tellAll cs).out) = (toldAll cs).whole
  p2 : mail (toldAll cs).whole = rep2 10 46 [10,46,46] (toldAll cs).whole
  p3 : mails (tellAll cs).out = (toldAll cs).straight
  p4 : joinL [10] ((cut2 13 10 (toldAll cs).whole).map undot) = cat (tellAll cs).out
theorem doc_of (a0 a1 a2 a3 a4 a5 a6 : Int) : Doc (callsOf [a0,a1,a2,a3,a4,a5,a6]) := by
  have ok := callsOk [a0,a1,a2,a3,a4,a5,a6]
  have sz := calls_len a0 a1 a2 a3 a4 a5 a6
  obtain ⟨p1,p2,p3,p4⟩ := plain [a0,a1,a2,a3,a4,a5,a6]
  have B : Both (tellAll (callsOf [a0,a1,a2,a3,a4,a5,a6])) (toldAll (callsOf [a0,a1,a2,a3,a4,a5,a6])) := both_all both0 ok
  have sm := small_all (callsOf [a0,a1,a2,a3,a4,a5,a6]) lt0 0 ⟨Nat.zero_le _,Nat.zero_le _,Nat.zero_le _,by decide,by decide⟩ ok.shape (by omega)
  have wl : (toldAll (callsOf [a0,a1,a2,a3,a4,a5,a6])).whole.length ≤ 40000 := by
    have := sm.w
    show (List.foldl toldOne lt0 _).whole.length ≤ _
    omega
  have sl : (toldAll (callsOf [a0,a1,a2,a3,a4,a5,a6])).straight.length ≤ 40000 := by
    have := sm.s
    show (List.foldl toldOne lt0 _).straight.length ≤ _
    omega
  refine ⟨sz,ok,ok.shape,wl,?_,sl,p1,p2,p3,p4⟩
  have e : (cat (tellAll (callsOf [a0,a1,a2,a3,a4,a5,a6])).out).length ≤ (mail (cat (tellAll (callsOf [a0,a1,a2,a3,a4,a5,a6])).out)).length := by
    rw [mail_nl B.n]
    exact Nat.le_trans (nl_ge _) (dots_ge _ _)
  rw [p1] at e
  omega
theorem piece_len : ∀ {ls : List Str} {p : Str},p ∈ ls → p.length ≤ (cat ls).length
  | q :: r,p,h => by
    rw [cat_cons,List.length_append,len_cps]
    rcases List.mem_cons.mp h with rfl | h
    · omega
    · have := piece_len h;omega
theorem strs_get {vs : List Value} {ls : List Str} (h : StrsAre vs ls) : ∀ {i : Nat} {v : Value},vs[i]? = some v → ∃ x t,v = Value.str x t ∧ ls[i]? = some x := by
  induction h with
  | nil => intro i v hv;simp at hv
  | cons y t r ih =>
    intro i v hv
    cases i with
    | zero => exact ⟨y,t,(Option.some.inj hv).symm,rfl⟩
    | succ i => exact ih (by simpa using hv)
theorem strs_of : ∀ {vs : List Value} {ls : List Str},vs.length = ls.length → (∀ (i : Nat) (v : Value),vs[i]? = some v → ∃ x t,v = Value.str x t ∧ ls[i]? = some x) → StrsAre vs ls
  | [],[],_,_ => .nil
  | [],_ :: _,h,_ => by simp at h
  | _ :: _,[],h,_ => by simp at h
  | v :: vs,l :: ls,hl,h => by
    obtain ⟨x,t,rfl,hx⟩ := h 0 v rfl
    have e : l = x := Option.some.inj hx
    subst e
    exact .cons l t (strs_of (by simpa using hl) fun i w hw => by simpa using h (i + 1) w (by simpa using hw))
noncomputable def undotS (x : Str) : Str := ofL (undot x.cps.toList)
noncomputable def mailS (x : Str) : Str := ofL (mail x.cps.toList)
theorem undotS_yes {x : Str} (h : (Txt.slice x none (some 1) == Str.ofString ".") = true) : Txt.slice x (some 1) none = undotS x := by
  obtain ⟨l,rfl⟩ : ∃ l,x = ofL l := ⟨_,(ofL_self x).symm⟩
  rw [slice_first] at h
  have h := of_decide_eq_true h
  cases l with
  | nil => cases h
  | cons c r =>
    have e : c = 46 := by simpa using h
    subst e
    rw [slice_tail]
    unfold undotS undot
    rw [ofL_cps,if_pos h];rfl
theorem undotS_no {x : Str} (h : (Txt.slice x none (some 1) == Str.ofString ".") = false) : x = undotS x := by
  obtain ⟨l,rfl⟩ : ∃ l,x = ofL l := ⟨_,(ofL_self x).symm⟩
  rw [slice_first] at h
  have h := of_decide_eq_false h
  unfold undotS undot
  rw [ofL_cps,if_neg h]
theorem rows_join (W : List Nat) : Txt.join (Str.ofString "\n") ((Txt.split (ofL W) (Str.ofString "\r\n")).map undotS) = ofL (joinL [10] ((cut2 13 10 W).map undot)) := by
  refine ofL_of ?_
  rw [join_L]
  have e := split_two (ofL W) 13 10 (by decide) (by decide)
  rw [ofL_cps] at e
  have e2 : (List.map (fun x : Str => x.cps.toList) (List.map undotS (Txt.split (ofL W) (Str.ofString "\r\n")))) = (cut2 13 10 W).map undot := by
    rw [← e,List.map_map,List.map_map]
    congr 1
    try (funext x;exact ofL_cps _)
  rw [e2];rfl
theorem joinL_len (z : List Nat) : ∀ ls : List (List Nat),(ls.map List.length).sum + ls.length * z.length ≤ (joinL z ls).length + z.length
  | [] => by simp
  | [l] => by simp [joinL]
  | l :: m :: r => by
    have := joinL_len z (m :: r)
    rw [joinL_cons (by simp)]
    simp only [List.map_cons,List.sum_cons,List.length_cons,List.length_append] at this ⊢
    rw [Nat.succ_mul,Nat.succ_mul] at *
    omega
theorem mails_join (ls : List Str) : Txt.join (Str.ofString "") (ls.map mailS) = ofL (mails ls) := by
  refine ofL_of ?_
  rw [txtJoin_empty (Str.ofString "") (by decide +kernel)]
  unfold mails
  rw [List.map_map]
  congr 2
  try (funext x;show (ofL _).cps.toList = _;rw [ofL_cps])
theorem cut2_len {p q : Nat} : ∀ l : List Nat,(cut2 p q l).length ≤ l.length + 1
  | [] => by simp [cut2]
  | [c] => by simp [cut2]
  | c :: d :: r => by
    have h1 := cut2_len (p := p) (q := q) r
    have h2 := cut2_len (p := p) (q := q) (d :: r)
    simp only [cut2]
    split
    · simp only [List.length_cons];omega
    · simp only [List.length_cons,List.length_tail] at h2 ⊢;omega
theorem split_len (W : List Nat) : (Txt.split (ofL W) (Str.ofString "\r\n")).length ≤ W.length + 1 := by
  have e := congrArg List.length (split_two (ofL W) 13 10 (by decide) (by decide))
  rw [ofL_cps,List.length_map] at e
  have e : (Txt.split (ofL W) (Str.ofString "\r\n")).length = (cut2 13 10 W).length := e
  rw [e];exact cut2_len W
theorem rows_fit (W : List Nat) : (((Txt.split (ofL W) (Str.ofString "\r\n")).map undotS).map (·.length)).sum + ((Txt.split (ofL W) (Str.ofString "\r\n")).map undotS).length * (Str.ofString "\n").length ≤ (joinL [10] ((cut2 13 10 W).map undot)).length + 1 := by
  have e := split_two (ofL W) 13 10 (by decide) (by decide)
  rw [ofL_cps] at e
  have e : (Txt.split (ofL W) (Str.ofString "\r\n")).map (·.cps.toList) = cut2 13 10 W := e
  have h := joinL_len [10] ((cut2 13 10 W).map undot)
  have e3 : (Str.ofString "\n").length = 1 := by decide
  rw [← e] at h
  rw [← e,e3]
  simp only [List.map_map,List.length_map,List.length_cons,List.length_nil] at h ⊢
  have e4 : (fun x : Str => x.length) ∘ undotS = List.length ∘ undot ∘ fun x : Str => x.cps.toList := by
    funext x
    show (ofL _).length = _
    rw [ofL_length];rfl
  rw [e4]
  exact h
end
section
local macro_rules (kind := PySem.W.tacticK_extra_) | x => topOf "lawx plain4 lenum tell tell0 writer lcalls ltold lspell plain3 plain2 plain1 lcdef start starta startr itemsort pi comment wend qname data flush lst mown dicts keyt keyc lcomp dcomp setrows setdisp skey listlt setcol setwk setit setfx sets wloop loop2 loop w1 lam_call lam nest del wru wr1 wr2 lapp ltext quote quote0 esc plain0 pure1 ints cut fast tslice txt2 lt wr0 bound oo mac0 om" x
local macro_rules
  | `(tactic| intro $x:ident) => `(tactic| intros $x:ident)
  | `(tactic| intro _) => `(tactic| intros x9)
  | `(tactic| intro $x:ident $y $ys*) => `(tactic| (intros $x:ident;intro $y $ys*))
  | `(tactic| intro _ $y $ys*) => `(tactic| (intros x9;intro $y $ys*))
local macro_rules
  | `(tactic| obtain $p:rcasesPatMed := $h:term) => `(tactic| rcases $h:term with $p:rcasesPatMed)
theorem peel {n : Nat} : ∀ {ys : List Value},ys.length = n + 1 → (∀ y ∈ ys,∃ a t,y = Value.int a t ∧ 0 ≤ a ∧ a < 2 ^ 40) → ∃ a t r,ys = .int a t :: r ∧ (0 ≤ a ∧ a < 2 ^ 40) ∧ r.length = n ∧ ∀ y ∈ r,∃ a t,y = Value.int a t ∧ 0 ≤ a ∧ a < 2 ^ 40
  | [],h,_ => absurd h (Nat.succ_ne_zero n).symm
  | y :: r,h,hY => let ⟨a,t,e,b⟩ := hY y (.head _);⟨a,t,r,by rw [e],b,Nat.succ.inj h,fun z hz => hY z (.tail _ hz)⟩
theorem seven {ys : List Value} (h : ys.length = 7) (hY : ∀ y ∈ ys, ∃ a t, y = Value.int a t ∧ 0 ≤ a ∧ a < 2 ^ 40) : ∃ a0 a1 a2 a3 a4 a5 a6 k0 k1 k2 k3 k4 k5 k6, ys = [.int a0 k0, .int a1 k1, .int a2 k2, .int a3 k3, .int a4 k4, .int a5 k5, .int a6 k6] ∧
    (0 ≤ a0 ∧ a0 < 2 ^ 40) ∧ (0 ≤ a1 ∧ a1 < 2 ^ 40) ∧ (0 ≤ a2 ∧ a2 < 2 ^ 40) ∧ (0 ≤ a3 ∧ a3 < 2 ^ 40) ∧ (0 ≤ a4 ∧ a4 < 2 ^ 40) ∧ (0 ≤ a5 ∧ a5 < 2 ^ 40) ∧ (0 ≤ a6 ∧ a6 < 2 ^ 40) := by
  obtain ⟨a0,k0,r0,e0,b0,h0,hY0⟩ := peel h hY
  obtain ⟨a1,k1,r1,e1,b1,h1,hY1⟩ := peel h0 hY0
  obtain ⟨a2,k2,r2,e2,b2,h2,hY2⟩ := peel h1 hY1
  obtain ⟨a3,k3,r3,e3,b3,h3,hY3⟩ := peel h2 hY2
  obtain ⟨a4,k4,r4,e4,b4,h4,hY4⟩ := peel h3 hY3
  obtain ⟨a5,k5,r5,e5,b5,h5,hY5⟩ := peel h4 hY4
  obtain ⟨a6,k6,r6,e6,b6,h6,hY6⟩ := peel h5 hY5
  exact ⟨a0,a1,a2,a3,a4,a5,a6,k0,k1,k2,k3,k4,k5,k6,by rw [e0,e1,e2,e3,e4,e5,e6,List.eq_nil_of_length_eq_zero h6],b0,b1,b2,b3,b4,b5,b6⟩
theorem news_ne {h₀ h : Heap} {L A B : Addr} {o p : Obj} {nx : List (Addr × Obj)} (N : News h₀ L h nx) (hA : (A,o) ∈ nx) (hB : (B,p) ∈ nx) (hd : o.data ≠ p.data) : A ≠ B := by
  rintro rfl
  have e : o = p := Option.some.inj ((N _ hA).1.symm.trans (N _ hB).1)
  exact hd (by rw [e])
theorem calls_out {h₀ h : Heap} {L : Addr} {nx : List (Addr × Obj)} {vs : List Value} {cs : List LCall} {t1 t2 : Array Value} (N : News h₀ L h nx) (m1 : (123, tabObj t1) ∈ nx) (m2 : (201, tabObj t2) ∈ nx) (hc : CallsAt nx vs cs) :
    ∃ r,(∀ p ∈ r,p ∈ nx) ∧ CallsAt r vs cs ∧ (∀ p ∈ r,p.1 ≠ 123) ∧ ∀ p ∈ r,p.1 ≠ 201 := by
  refine ⟨nx.filter fun p => decide (p.1 ≠ 123 ∧ p.1 ≠ 201),fun p hp => (List.mem_filter.mp hp).1,?_,fun p hp => (of_decide_eq_true (List.mem_filter.mp hp).2).1,fun p hp => (of_decide_eq_true (List.mem_filter.mp hp).2).2⟩
  induction hc with
  | nil => exact .nil
  | cons h r ih =>
    refine .cons (List.mem_filter.mpr ⟨h,decide_eq_true ⟨news_ne N h m1 ?_,news_ne N h m2 ?_⟩⟩) ih
    · exact fun e => by cases e
    · exact fun e => by cases e
theorem WOk.sub {a : WA} {r r' : List (Addr × Obj)} (h : WOk a r) (hs : ∀ p ∈ r',p ∈ r) (mw : (a.wrt,bndObj "list.append" (.ref a.wire)) ∈ r') : WOk a r' :=
  ⟨h.l0,h.l1,h.l2,h.l3,h.l4,h.l5,fun p hp => h.o0 p (hs p hp),fun p hp => h.o1 p (hs p hp),fun p hp => h.o2 p (hs p hp),fun p hp => h.o3 p (hs p hp),fun p hp => h.o4 p (hs p hp),fun p hp => h.o5 p (hs p hp),fun p hp => h.o6 p (hs p hp),mw⟩
theorem wnews {h₀ h : Heap} {L : Addr} {a b c d e : Addr × Obj} {r : List (Addr × Obj)} (N : News h₀ L h (a :: b :: c :: d :: e :: r)) : News h₀ L h (b :: e :: a :: c :: d :: r) := fun p hp => N p (by
  simp only [List.mem_cons] at hp ⊢
  rcases hp with h | h | h | h | h | h <;> simp [h])
theorem tnews {P : Params} {wa : WA} {q : WQ} {h₀ h : Heap} {L : Addr} {a b c d e f g i : Addr × Obj} {r : List (Addr × Obj)} (N : News h₀ L h (wr P wa q (a :: b :: c :: d :: e :: f :: g :: i :: r))) : News h₀ L h (wr P wa q (i :: g :: a :: b :: c :: d :: e :: f :: r)) := fun p hp => N p (wr_sub (fun x hx => by
  simp only [List.mem_cons] at hx ⊢
  rcases hx with h | h | h | h | h | h | h | h | h <;> simp [h]) p hp)
theorem dnews {P : Params} {wa : WA} {q : WQ} {h₀ h : Heap} {L : Addr} {a b : Addr × Obj} {r : List (Addr × Obj)} (N : News h₀ L h (wr P wa q (a :: b :: r))) : News h₀ L h (b :: wr P wa q (a :: r)) := fun p hp => by
  rcases List.mem_cons.mp hp with rfl | hp
  · exact N _ (.tail _ (.tail _ (.tail _ (.tail _ (.tail _ (.tail _ (.tail _ (.tail _ (.head _)))))))))
  · refine N p (wr_sub (fun x hx => ?_) p hp)
    rcases List.mem_cons.mp hx with rfl | hx
    · exact .head _
    · exact .tail _ (.tail _ hx)
theorem sim0 {wa : WA} {CL wrt : Addr} {pm ctv n0 n1 : Value} {oc : Obj} {vs : Array Value} {tq u1 u2 ti : Tok} {r : List (Addr × Obj)} {cz tb : Array Value} {cn n9 : Nat} {b9 : Obj}
    (ok : WOk wa ((wa.it,itObj pm wa.itc ctv) :: (wa.itc,oc) :: (wa.L0,listOf #[.ref wa.T0] 0) :: (wa.T0,xmlTup u1 u2) :: (201,tabObj tb) :: (wrt,b9) :: (CL,listOf cz cn) :: (123,tabObj #[]) :: r))
    (lt9 : @LT.lt Nat _ wa.wire wa.PS ∧ @LT.lt Nat _ wa.L0 wa.PS ∧ @LT.lt Nat _ wa.wire wa.it ∧ @LT.lt Nat _ wa.wire wa.itc ∧ @LT.lt Nat _ wa.wire wa.L0 ∧ @LT.lt Nat _ wa.wire wa.T0) (l123 : @LT.lt Nat _ 123 wa.wire) (lCL : @LT.lt Nat _ CL wa.wire) (n201 : @Ne Nat CL 201) (lw : @LT.lt Nat _ wa.wire wrt) (hr3 : ∀ p ∈ r,p.1 ≠ 123) (nrC : ∀ p ∈ r,p.1 ≠ CL) :
    Sim wa CL pm ctv oc vs tq u1 u2 ⟨#[],#[],#[.ref wa.L0],#[n0,n1],#[.bool false],n9,0,0,2,0,false,false,ti⟩ ((wa.it,itObj pm wa.itc ctv) :: (wa.itc,oc) :: (wa.L0,listOf #[.ref wa.T0] 0) :: (wa.T0,xmlTup u1 u2) :: (201,tabObj tb) :: (wrt,b9) :: r) #[] st0 0 := by
  obtain ⟨h1,h2,h3,h4,h5,h6⟩ := lt9
  have mw := ok.mw
  have gt : ∀ {a b c : Addr},@LT.lt Nat _ b c → @LT.lt Nat _ c a → a ≠ b := fun {a b c} x y => ne_of_gt3 (Nat.lt_trans x y)
  refine ⟨ok.sub (fun p hp => ?_) ?_, .nil, .nil,rfl,rfl,Nat.zero_le _,Nat.zero_le _,Nat.zero_le _,rfl,rfl,Nat.zero_le _,(fun _ h => nomatch h),⟨[],rfl,rfl,fun _ h => nomatch h⟩, .head _, .tail _ (.head _), .tail _ (.tail _ (.head _)), .tail _ (.tail _ (.tail _ (.head _))),?_,?_, .inl ⟨rfl,rfl⟩⟩
  · simp only [List.mem_cons] at hp ⊢
    rcases hp with h | h | h | h | h | h | h <;> simp [h]
  · have no : ∀ (A : Addr) (x : Obj),x.cls ≠ .type "builtin_function_or_method" → (wa.wrt,bndObj "list.append" (.ref wa.wire)) ≠ (A,x) := fun A x hx e => hx (by rw [← (Prod.mk.inj e).2])
    simp only [List.mem_cons] at mw ⊢
    rcases mw with h | h | h | h | h | h | h | h | h
    · exact .inl h
    · exact .inr (.inl h)
    · exact .inr (.inr (.inl h))
    · exact .inr (.inr (.inr (.inl h)))
    · exact .inr (.inr (.inr (.inr (.inl h))))
    · exact .inr (.inr (.inr (.inr (.inr (.inl h)))))
    · exact absurd h (no _ _ (show Value.type "list" ≠ Value.type "builtin_function_or_method" by decide))
    · exact absurd h (no _ _ (show Value.none ≠ Value.type "builtin_function_or_method" by decide))
    · exact .inr (.inr (.inr (.inr (.inr (.inr h)))))
  · exact List.forall_mem_cons.mpr ⟨gt l123 h3,List.forall_mem_cons.mpr ⟨gt l123 h4,List.forall_mem_cons.mpr ⟨gt l123 h5,List.forall_mem_cons.mpr ⟨gt l123 h6,List.forall_mem_cons.mpr ⟨(by decide : (201 : Nat) ≠ 123),List.forall_mem_cons.mpr ⟨gt l123 lw,hr3⟩⟩⟩⟩⟩⟩
  · exact List.forall_mem_cons.mpr ⟨gt lCL h3,List.forall_mem_cons.mpr ⟨gt lCL h4,List.forall_mem_cons.mpr ⟨gt lCL h5,List.forall_mem_cons.mpr ⟨gt lCL h6,List.forall_mem_cons.mpr ⟨fun e => n201 e.symm,List.forall_mem_cons.mpr ⟨gt lCL lw,nrC⟩⟩⟩⟩⟩⟩
theorem calls_up {a b c d e f : Addr × Obj} {r : List (Addr × Obj)} {vs : List Value} {cs : List LCall} (h : CallsAt r vs cs) : CallsAt (a :: b :: c :: d :: e :: f :: r) vs cs :=
  h.mono fun _ hp => .tail _ (.tail _ (.tail _ (.tail _ (.tail _ (.tail _ hp)))))
section
variable {prog : Program} {w : World} {A : Around} {E : Value → Shared → Prop} {s : Shared} {h₀ : Heap} {L D : Addr} {news : List (Addr × Obj)} {Q : Value → Shared → Prop}
theorem joinA {its : Array Value} {ys : List Str} {sep x : Str} {u : Tok} {n : Nat} (N : News h₀ L s.heap news) (hm : (D, listOf its n) ∈ news) (hi : StrsAre its.toList ys) (hok : (ys.map (·.length)).sum + ys.length * sep.length ≤ 16777216) (hj : Txt.join sep ys = x)
    (h : ∀ t' k,Q (.str x t') { s with toks := k }) : wpAny (model prog w) A (call (.builtin "str.join") [.str sep u, .ref D]) Q E s := by
  subst hj
  obtain ⟨l,hv,ht⟩ := strsAre_values hi
  have e : its = (strValues l).toArray := by rw [← hv]
  subst e
  exact SC.join (l := l) (texts := ys) ⟨_,(N _ hm).1,rfl,_,rfl⟩ ht (joinOk_of hok) h
end
theorem quotedE (w : World) (news : List (Addr × Obj)) (x : Str) (tx : Tok) (y : List Nat) (hx : x.length ≤ 2 ^ 18) (hy : mail x.cps.toList = y) : Spec w 185 2 20 news [.str x tx] (fun v news' => ∃ t,v = .str (ofL y) t ∧ news' = news) := by
  subst hy
  exact quoted w news x tx hx
theorem rows_lawx_1 : True := by
  (k_with "lawx:call ref" => (k_here;(with_reducible show wpAny _ _ (call (Value.ref 199) [Value.ref _]) _ _ _);k_dflt (refine' Mine.Spec.callC (Mine.lcalls _ _ _ _ _ _ _ _ _ _ _ _ _ _ _ _ _ _ ?kr'3f ?g0'3f ?g1'3f ?g2'3f ?g3'3f ?g4'3f ?g5'3f ?g6'3f) ?B9'3f ?F9'3f ?X9'3f ?N9'3f ?T9'3f ?hk9'3f ?ht9'3f ?hd9'3f ?hu9'3f ?_;(case B9'3f => k_asm);(case F9'3f => k_asm);(case X9'3f => k_asm);(case N9'3f => k_asm);(case T9'3f => k_asm);(case hk9'3f => first | assumption | exact rfl);(case ht9'3f => (refine Mine.leT ?_;(try dsimp only);omega));(case hd9'3f => ktr_room);(case hu9'3f => ktr_units);(case kr'3f => assumption);(case g0'3f => assumption);(case g1'3f => assumption);(case g2'3f => assumption);(case g3'3f => assumption);(case g4'3f => assumption);(case g5'3f => assumption);(case g6'3f => assumption);k_whole;intro v''3f news9''3f h9''3f dr9''3f tk9''3f hr'3f F''3f N''3f tk''3f;(obtain ⟨CL,cz,cn,rs,hv'3f,hn'3f,hcA,hcB,hcC⟩ := hr'3f);(subst hv'3f);(subst hn'3f);(try dsimp only at N''3f);(try dsimp only))))
  (k_with "lawx:execs cons Assign cons" => (k_here;(with_reducible show wpAny _ _ (execs (Stmt.Assign [Expr.Name (PySem.Str.ofString "writer") _] _ _ :: _) _) _ _ _);(with_reducible rename Mine.CutOn => hC9'3g);clear hC9'3g;refine Mine.Cut.go ?_))
  (k_with "lawx:call ref" => (k_here;(with_reducible show wpAny _ _ (call (Value.ref 206) [Value.ref _]) _ _ _);k_dflt (refine' Mine.Spec.callC (Mine.writer _ _ _ _ _ ?kw'3h ?k0'3h ?k1'3h ?k2'3h) ?B9'3h ?F9'3h ?X9'3h (Mine.wnews ?N9'3h) ?T9'3h ?hk9'3h ?ht9'3h ?hd9'3h ?hu9'3h ?_;(case B9'3h => k_asm);(case F9'3h => k_asm);(case X9'3h => k_asm);(case N9'3h => k_asm);(case T9'3h => k_asm);(case hk9'3h => first | assumption | exact rfl);(case ht9'3h => (refine Mine.leT ?_;(try dsimp only);omega));(case hd9'3h => ktr_room);(case hu9'3h => ktr_units);(case kw'3h => exact .head _);(case k0'3h => exact List.forall_mem_cons.mpr ⟨by (refine neN ?_);(try dsimp only);omega,List.forall_mem_cons.mpr ⟨by (refine neN ?_);(try dsimp only);omega,List.forall_mem_cons.mpr ⟨by (refine neN ?_);(try dsimp only);omega,by assumption⟩⟩⟩);(case k1'3h => exact List.forall_mem_cons.mpr ⟨by (refine neN ?_);(try dsimp only);omega,List.forall_mem_cons.mpr ⟨by (refine neN ?_);(try dsimp only);omega,List.forall_mem_cons.mpr ⟨by (refine neN ?_);(try dsimp only);omega,by assumption⟩⟩⟩);(case k2'3h => assumption);k_whole;intro v''3h news9''3h h9''3h dr9''3h tk9''3h hr'3h F''3h N''3h tk''3h;(obtain ⟨wa,n0,n1,ti,pm,ctv,oc,vs,tq,u1,u2,tb,hv'3h,hn'3h,hw,ok9,d1,d2,lt9⟩ := hr'3h);(subst hv'3h);(subst hn'3h);(try dsimp only))))
  (k_with "lawx:execs cons Expr cons" => (k_here;(with_reducible show wpAny _ _ (execs (Stmt.Expr (Expr.Call (Expr.Name (PySem.Str.ofString "_law_tell") _) _ _ _) _ :: _) _) _ _ _);(with_reducible rename Mine.CutOn => hC9'3i);clear hC9'3i;refine Mine.Cut.go ?_))
  (k_with "lawx:call ref" => (k_here;(with_reducible show wpAny _ _ (call (Value.ref 213) [Value.ref _,Value.ref _]) _ _ _);k_dflt (refine' Mine.Spec.callC (Mine.ltell _ _ _ _ _ _ _ _ _ _ _ _ _ _ _ ?hv'3j ?hq'3j ?hc'3j ?hz'3j ?ho'3j ?hC'3j ?h123'3j ?hC3'3j ?hwP'3j ?hLP'3j ?S0'3j) ?B9'3j ?F9'3j ?X9'3j (Mine.tnews ?N9'3j) ?T9'3j ?hk9'3j ?ht9'3j ?hd9'3j ?hu9'3j ?_;(case B9'3j => k_asm);(case F9'3j => k_asm);(case X9'3j => k_asm);(case N9'3j => k_asm);(case T9'3j => k_asm);(case hk9'3j => first | assumption | exact rfl);(case ht9'3j => (refine Mine.leT ?_;(try dsimp only);omega));(case hd9'3j => ktr_room);(case hu9'3j => ktr_units);(case S0'3j => assumption);(case hv'3j => assumption);(case hq'3j => assumption);(case hc'3j => exact Mine.calls_up (by assumption));(case hz'3j => assumption);(case ho'3j => assumption);(case hC'3j => assumption);(case h123'3j => assumption);(case hC3'3j => assumption);(case hwP'3j => assumption);(case hLP'3j => assumption);k_whole;intro v''3j news9''3j h9''3j dr9''3j tk9''3j hr'3j F7 N''3j tk7'3j;(obtain ⟨hv''3j,q9,rest9,tb9,hn'3j,hsub9,S10⟩ := hr'3j);(subst hv''3j);(subst hn'3j);(try dsimp only))))
  (k_with "lawx:execs cons Assign cons" => (k_here;(with_reducible show wpAny _ _ (execs (Stmt.Assign [Expr.Tuple _ _ _] _ _ :: _) _) _ _ _);(with_reducible rename Mine.CutOn => hC9'3k);clear hC9'3k;refine Mine.Cut.go ?_))
  (k_with "lawx:call builtin:str.join" => (k_here;(with_reducible show wpAny _ _ (call (Value.builtin "str.join") _) _ _ _);k_dflt (refine' Mine.joinA ?N'3l ?M'3l ?H'3l ?O'3l ?J'3l ?_;(case N'3l => k_asm);(case M'3l => k_mem);(case H'3l => with_reducible assumption);(case J'3l => with_reducible assumption);(case O'3l => with_reducible assumption);k_whole);intro t''3l k''3l))
  (k_with "lawx:call ref" => (k_here;(with_reducible show wpAny _ _ (call (Value.ref 185) [Value.str _ _]) _ _ _);k_dflt (refine' Mine.Spec.callC (Mine.quotedE _ _ _ _ _ ?P1'3m ?P2'3m) ?B9'3m ?F9'3m ?X9'3m ?N9'3m ?T9'3m ?hk9'3m ?ht9'3m ?hd9'3m ?hu9'3m ?_;(case B9'3m => k_asm);(case F9'3m => k_asm);(case X9'3m => k_asm);(case N9'3m => k_asm);(case T9'3m => k_asm);(case hk9'3m => first | assumption | exact rfl);(case ht9'3m => (refine Mine.leT ?_;(try dsimp only);omega));(case hd9'3m => ktr_room);(case hu9'3m => ktr_units);(case P2'3m => first | with_reducible assumption | exact rfl);(case P1'3m => omega);k_whole;intro v''3m news9''3m h9''3m dr9''3m tk9''3m hr'3m F''3m N''3m tk''3m;(obtain ⟨t''3m,hv'3m,hn'3m⟩ := hr'3m);(subst hv'3m);(subst hn'3m);(try dsimp only at N''3m);(try dsimp only))))
  (k_with "lawx:execs cons Assign cons" => (k_here;(with_reducible show wpAny _ _ (execs (Stmt.Assign [Expr.Name (PySem.Str.ofString "rows") _] _ _ :: _) _) _ _ _);(with_reducible rename Mine.CutOn => hC9'3n);clear hC9'3n;refine Mine.Cut.go ?_))
  (k_with "lawx:eval ListComp" => (k_here;(with_reducible show wpAny _ _ (eval (Expr.ListComp _ _ _ _) _) _ _ _);(with_reducible rename Mine.CutOn => hC9'2q);clear hC9'2q;refine Mine.Cut.go ?_))
  trivial
end
section
local macro_rules (kind := PySem.W.tacticK_extra_) | x => topOf "law1 lawx plain4 lenum tell tell0 writer lcalls ltold lspell plain3 plain2 plain1 lcdef start starta startr itemsort pi comment wend qname data flush lst mown dicts keyt keyc lcomp dcomp setrows setdisp skey listlt setcol setwk setit setfx sets wloop loop2 loop w1 lam_call lam nest del wru wr1 wr2 lapp ltext quote quote0 esc plain0 pure1 ints cut fast tslice txt2 lt wr0 bound oo mac0 om" x
local macro_rules
  | `(tactic| intro $x:ident) => `(tactic| intros $x:ident)
  | `(tactic| intro _) => `(tactic| intros x9)
  | `(tactic| intro $x:ident $y $ys*) => `(tactic| (intros $x:ident;intro $y $ys*))
  | `(tactic| intro _ $y $ys*) => `(tactic| (intros x9;intro $y $ys*))
theorem X1 : PySem.Challenge.rw_pg0304_01.Holds := by
  have hx : ∀ w : World,K w.params = K w.params ∧ PySem.Challenge.rw_pg0304_01 = PySem.Challenge.rw_pg0304_01 := by
    k_fill
    exact fun _ => ⟨rfl,rfl⟩
  clear hx
  refine hd ?_
  intros w s₀ s₁ mg mb G Y fa o pm cd doc dV kV ho hd hcd hD hmg hg args vals as hpre hlay hrd hwl hlo
  have u0 : Unit := ()
  revert G Y ho hd hcd hD hmg hg hpre hlay hrd hwl hlo
  revert w s₀ s₁ mg mb fa o pm cd doc dV kV args vals as u0
  k_extra "m:t16"
  intros w s₀ s₁ mg mb fa o pm cd doc dV kV args vals as _ G Y ho hd hcd hD hmg hg hpre hlay hrd hwl hlo
  have KX := km_in_of (K := K) Y
  have hT8 := km_tabs_of (K := K) Y
  have X := (Ground.X G).1
  have V := (Ground.X G).2
  change mg (Str.ofString "law") = _ at hmg
  refine Ground.open G ?_
  intro T B D TE TW
  try (refine guard_noD D (by decide +kernel) ?_;clear D)
  km_lay T hmg ho hd cd
  clear hmg
  wrow_args hpre hlay hrd hwl hlo
  all_goals (
    first | refine callC_kw (enter_call ?_) | refine enter_call ?_
    w_top on
    kn_posts
    w_call any ho hd hcd hD T F
    clear hd
    kn_ghosts F T
    k_drop
    skip)
  (all_goals try k_fold)
  (first | (k_unfold;(try dsimp only)) | (k_end;kc_close) | walk1 | (dsimp only;walk1) | (leave1;try dsimp only) | fail "no step")
  rename Fr _ _ _ _ => F0
  rename News _ _ _ _ => N0
  rename IntsAre _ _ => hI
  rename CellsAre _ _ _ => hCA
  rename _ = Data.cell _ => hcell0
  rename ¬ _ < _ => hlen
  have F1 : Fr _ _ _ (fun _ => none) := F0
  clear F0
  have hcell1 : _ = Data.cell (some (Value.ref _)) := hcell0
  clear hcell0
  have T9 : Top topProg lw _ mg mb _ := ‹Top topProg _ _ mg mb (ghostOf _ _)›
  clear hCA
  k_dflt (refine' LM.Assign_ListComp_E (fun y => ∃ a t,y = Value.int a t ∧ 0 ≤ a ∧ a < 2 ^ 40) ?F₀_q1 ?hLe_q1 ?hsw_q1 ?hclos_q1 ?hcell_q1 ?hkind_q1 ?hnames_q1 ?hy_q1 ?hp_q1 ?hh_q1 ?hx_q1 ?hx₂_q1 ?hxx_q1 ?h_q1 ?hs_q1)
  (case F₀_q1 => exact F1)
  (case hLe_q1 => rfl)
  (case hsw_q1 => with_unfolding_all rfl)
  (case hclos_q1 => with_unfolding_all rfl)
  (case hcell_q1 => decide)
  (case hkind_q1 => rfl)
  (case hnames_q1 => decide)
  (case hy_q1 => with_unfolding_all rfl)
  (case hp_q1 => with_unfolding_all rfl)
  (case hh_q1 => rfl)
  (case hx_q1 => rfl)
  (case hx₂_q1 => rfl)
  (case hxx_q1 => decide)
  (case hs_q1 => intro _;rfl)
  k_steps
  (rename News _ _ _ _ => N2);(rename Fr _ _ _ _ => F2)
  dsimp only at N2
  obtain ⟨itsE,hitsE,hitsS,N2⟩ : ∃ itsE : Array Value,(∀ (i : Nat) (v : Value),itsE[i]? = some v → ∃ c t,v = Value.int c t ∧ 0 ≤ c ∧ c ≤ 182 ∧ i < 7) ∧ itsE.size = 7 ∧ News _ _ _ ((_,listOf itsE _) :: _) := by
    refine ⟨_,?_,?_,N2⟩
    · intro i v hv
      rcases i with _ | _ | _ | _ | _ | _ | _ | i
      all_goals first | (have hv := Option.some.inj hv;exact ⟨_,_,hv.symm,by decide,by decide,by omega⟩) | (cases hv)
    · rfl
  k_dflt (refine' LM.enum_src F2 N2 (.head _) ?hz_q2 ?turn_q2 ?fin_q2)
  (case hz_q2 => omega)
  (case turn_q2 =>
    intro e it i v t oe oi C oC D m₂ ys h dr tk E' hv hoC mk mo F3 N3 lo3 ord3 ht3
    obtain ⟨c,tc,rfl,c0,c1,hi7⟩ := hitsE i v hv
    clear hv hitsE hitsS F2 N2
    (try dsimp only)
    iterate 6 (first | (k_unfold;(try dsimp only)) | (k_end;kc_close) | walk1 | (dsimp only;walk1) | (leave1;try dsimp only) | fail "no step")
    (try dsimp only)
    k_dflt (refine' LM.ListComp_L (fun v _ m => m (Str.ofString "x") = some v) (fun ax its nw => LCg.SrcAt _ ax its nw ∧ ∀ v ∈ its.toList,∃ a t,v = Value.int a t) (fun _ _ _ h => h.1) ?F₀_q3 ?ht_q3 ?hclos_q3 ?hcell_q3 ?hkind_q3 ?hnames_q3 ?hh_q3 ?hb_q3 ?h_q3 ?hs_q3)
    (case F₀_q3 => k_asm)
    (case ht_q3 => (refine Mine.leT ?_;(try dsimp only);omega))
    (case hclos_q3 => with_unfolding_all rfl)
    (case hcell_q3 => decide)
    (case hkind_q3 => rfl)
    (case hnames_q3 => decide)
    (case hh_q3 => rfl)
    (case hb_q3 => intro I ax its;exact LM.binds_name rfl rfl)
    (case hs_q3 => intro _;rfl)
    iterate 9 (first | (k_unfold;(try dsimp only)) | (k_end;kc_close) | walk1 | (dsimp only;walk1) | (leave1;try dsimp only) | fail "no step")
    (rename News _ _ _ _ => N4);(rename Fr _ _ _ _ => F4)
    dsimp only at N4 F4 ⊢
    obtain ⟨sl,hsl,hP1,hP2⟩ := LM.pick63 hI (by omega) (some (i : Int)) none (some 7)
    rw [← hsl] at N4
    clear hsl
    k_dflt (refine' ⟨_,sl,0,_,rfl,F4,N4, .head _,⟨.inr ⟨_, .head _,rfl,_,rfl⟩,hP1⟩,?sz_q4,?rest_q4⟩)
    (case sz_q4 => omega)
    (case rest_q4 =>
      refine LM.LRest.all (fun v => ∃ a t,v = Value.int a t) (fun y => ∃ a t,y = Value.int a t ∧ 0 ≤ a ∧ a < 10 ^ 8) (fun i v h => hP1 v (by rw [← Array.mem_def];exact Array.mem_of_getElem? h)) ⟨.inr ⟨_, .head _,rfl,_,rfl⟩,hP1⟩ ?turn2_q5 ?fin2_q5
      (case turn2_q5 =>
        intro v5 I5 oI5 C5 oC5 D5 m5 ys5 h5 dr5 tk5 E5 hv5 hoC5 hB5 F5 N5 ord5 ht5
        obtain ⟨a5,t5,rfl⟩ := hv5
        clear F4 N4 hoC mk mo F3 N3
        k_steps
        exact LM.EEnd.intro F5 N5 (fun p hp => hp) ⟨_,_,rfl,Int.fmod_nonneg_of_pos _ (by decide),Int.fmod_lt_of_pos _ (by decide)⟩)
      (case fin2_q5 =>
        intro ys2 hl2 hY2 D2 h6 dr6 tk6 F6 N6 off6 ht6
        obtain ⟨ns,hns,ns0,ns1⟩ := LM.ints_of (10 ^ 8) (by decide) hY2
        clear hY2 hP1 F4 N4 off6
        k_steps
        (rename News _ _ _ _ => N9);(rename Fr _ _ _ _ => F9)
        exact LM.EEnd.intro F9 N9 (fun p hp => .tail _ (.tail _ hp)) ⟨_,_,rfl,by omega,by omega⟩)))
  (case fin_q2 =>
    intro NB ys hA drA tkA FA NA loA hlA hYA hB tkB FB NB9 htB
    obtain ⟨a0,a1,a2,a3,a4,a5,a6,k0,k1,k2,k3,k4,k5,k6,rfl,g0,g1,g2,g3,g4,g5,g6⟩ := seven (hlA.trans hitsS) hYA
    have N6 : News _ _ _ ((NB,listOf #[.int a0 k0, .int a1 k1, .int a2 k2, .int a3 k3, .int a4 k4, .int a5 k5, .int a6 k6] 7) :: _) := NB9
    clear hlA hYA hitsE hitsS FA NA NB9 N2 F2 hI
    clear T B X V G Y TE TW hT8
    (try dsimp only)
    have cutOn : CutOn := trivial
    k_steps
    unfold Cut
    rename_i _ _ wire _ lCL0 lwr0 _ F5 N5
    rename 1 ≤ _ => ht5
    have m123 : (123,tabObj #[]) ∈ rs := hcB _ (.tail _ (.tail _ (.head _)))
    have m201 : (201,tabObj #[]) ∈ rs := hcB _ (.tail _ (.tail _ (.tail _ (.head _))))
    obtain ⟨r,hr1,hr2,hr3,hr4⟩ := calls_out (fun p hp => N5 p (.tail _ (.tail _ hp))) m123 m201 hcA
    have lwr : ∀ p ∈ rs,@LT.lt Nat _ p.1 wire := lt_of_allLt lwr0
    have l123 : @LT.lt Nat _ 123 wire := lwr _ m123
    have l201 : @LT.lt Nat _ 201 wire := lwr _ m201
    have lCL : @LT.lt Nat _ CL wire := lCL0
    have n123 : @Ne Nat CL 123 := Ne.symm (hcC _ m123)
    have n201 : @Ne Nat CL 201 := Ne.symm (hcC _ m201)
    have lr : ∀ p ∈ r,@LT.lt Nat _ p.1 wire := fun p hp => lwr p (hr1 p hp)
    have nr : ∀ p ∈ r,p.1 ≠ wire := fun p hp => Nat.ne_of_lt (lr p hp)
    have nrC : ∀ p ∈ r,p.1 ≠ CL := fun p hp => hcC p (hr1 p hp)
    have N7 : News _ _ _ ((wire,listOf #[] 0) :: (CL,listOf cz cn) :: (123,tabObj #[]) :: (201,tabObj #[]) :: r) := fun p hp => N5 p (by
      rcases List.mem_cons.mp hp with rfl | hp
      · exact .head _
      rcases List.mem_cons.mp hp with rfl | hp
      · exact .tail _ (.head _)
      rcases List.mem_cons.mp hp with rfl | hp
      · exact .tail _ (.tail _ m123)
      rcases List.mem_cons.mp hp with rfl | hp
      · exact .tail _ (.tail _ m201)
      · exact .tail _ (.tail _ (hr1 p hp)))
    clear N5 hcB hcA lCL0 lwr0 lwr m123 m201 hr1 hcC
    walk1
    have cutOn : CutOn := trivial
    k_steps
    unfold Cut
    rename_i lw2 _ _ _ _ _ F6 N8
    rename 1 ≤ _ => ht6
    subst hw
    have D9 := doc_of a0 a1 a2 a3 a4 a5 a6
    generalize callsOf [a0,a1,a2,a3,a4,a5,a6] = cs9 at hr2 D9
    have S9 := sim0 (n0 := n0) (n1 := n1) (n9 := 0) (ti := ti) (tq := tq) (vs := vs) ok9 lt9 l123 lCL n201 lw2 hr3 nrC
    have z1 := D9.sz
    have z2 := D9.ok
    have z3 := lt9.1
    have z4 := lt9.2.1
    clear ok9 lt9 hr3 nrC lr nr hr4 g0 g1 g2 g3 g4 g5 g6
    walk1
    have cutOn : CutOn := trivial
    k_steps
    unfold Cut
    (rename News _ _ _ _ => N10)
    rename 1 ≤ _ => ht7
    have N11 : News _ _ _ ((CL,listOf cz cn) :: (wa.wire,listOf q9.its q9.n) :: (123,tabObj tb9) :: (201,tabObj tb) :: r) := fun p hp => N10 p (by
      rcases List.mem_cons.mp hp with rfl | hp
      · exact .tail _ (.tail _ (.tail _ (.tail _ (.tail _ (.tail _ (.tail _ (.tail _ (.head _))))))))
      rcases List.mem_cons.mp hp with rfl | hp
      · exact .tail _ (.tail _ (.tail _ (.tail _ (.tail _ (.tail _ (.head _))))))
      rcases List.mem_cons.mp hp with rfl | hp
      · exact .tail _ (.tail _ (.tail _ (.tail _ (.tail _ (.tail _ (.tail _ (.head _)))))))
      refine .tail _ (.tail _ (.tail _ (.tail _ (.tail _ (.tail _ (.tail _ (.tail _ (.tail _ (hsub9 p ?_)))))))))
      rcases List.mem_cons.mp hp with rfl | hp
      · exact .tail _ (.tail _ (.tail _ (.tail _ (.head _))))
      · exact .tail _ (.tail _ (.tail _ (.tail _ (.tail _ (.tail _ hp))))))
    have hc11 : CallsAt ((wa.wire,listOf q9.its q9.n) :: (123,tabObj tb9) :: (201,tabObj tb) :: r) cz.toList cs9 := hr2.mono (fun p hp => .tail _ (.tail _ (.tail _ hp)))
    have hits := S10.ho
    have hzit := S10.zi
    have z5 := D9.sh
    clear N10 hsub9 S10 S9 hr2 z2 z3 z4 d1 d2 lw2 N8 F6
    generalize q9.its = its9 at *
    generalize q9.n = n9 at *
    have j1 : Txt.join (Str.ofString "") (tellAll cs9).out = ofL (cat (tellAll cs9).out) := (ofL_self _).symm.trans (congrArg ofL (txtJoin_empty (Str.ofString "") (by decide +kernel) _))
    have j2 : ((tellAll cs9).out.map (·.length)).sum + (tellAll cs9).out.length * (Str.ofString "").length ≤ 16777216 := by
      have e1 := sum_join (tellAll cs9).out
      have e2 : (Txt.join (Str.ofString "") (tellAll cs9).out).length ≤ 40000 := by rw [j1,ofL_length];exact D9.dl
      have e3 : (Str.ofString "").length = 0 := by decide
      rw [e3,Nat.mul_zero,← e1]
      exact Nat.le_trans e2 (by decide)
    have j3 : (ofL (cat (tellAll cs9).out)).length ≤ 40000 := by rw [ofL_length];exact D9.dl
    have j4 : mail (ofL (cat (tellAll cs9).out)).cps.toList = (toldAll cs9).whole := by rw [ofL_cps];exact D9.p1
    have j5 : (ofL (toldAll cs9).whole).length ≤ 40000 := by rw [ofL_length];exact D9.wl
    have j6 : mail (ofL (toldAll cs9).whole).cps.toList = rep2 10 46 [10,46,46] (toldAll cs9).whole := by rw [ofL_cps];exact D9.p2
    have j7 : (ofL (toldAll cs9).whole != ofL (toldAll cs9).whole) = false := by simp
    walk1
    have cutOn : CutOn := trivial
    k_steps
    unfold Cut
    (rename News _ _ _ _ => N12);(rename Fr _ _ _ _ => F12)
    have N20 : News _ _ _ [(wa.wire,listOf its9 n9),(123,tabObj tb9),(201,tabObj tb)] := fun p hp => N12 p (by
      rcases List.mem_cons.mp hp with rfl | hp
      · exact .tail _ (.tail _ (.head _))
      rcases List.mem_cons.mp hp with rfl | hp
      · exact .tail _ (.tail _ (.tail _ (.head _)))
      · rw [List.mem_singleton.mp hp];exact .tail _ (.tail _ (.tail _ (.tail _ (.head _)))))
    clear N12
    (try clear hc11)
    (try clear z5)
    walk1
    k_dflt (refine' LM.Assign_ListComp_L (fun v _ m => m (Str.ofString "row") = some v) (fun ax its nw => LCg.SrcAt _ ax its nw ∧ StrsAre its.toList (Txt.split (ofL (toldAll cs9).whole) (Str.ofString "\r\n"))) (fun _ _ _ h => h.1) ?F₀_q6 ?hLe_q6 ?ht_q6 ?hsw_q6 ?hclos_q6 ?hcell_q6 ?hkind_q6 ?hnames_q6 ?hy_q6 ?hp_q6 ?hh_q6 ?hb_q6 ?h_q6 ?hs_q6)
    (case F₀_q6 => exact F12)
    (case hLe_q6 => rfl)
    (case ht_q6 => (refine Mine.leT ?_;(try dsimp only);omega))
    (case hsw_q6 => with_unfolding_all rfl)
    (case hclos_q6 => with_unfolding_all rfl)
    (case hcell_q6 => decide)
    (case hkind_q6 => rfl)
    (case hnames_q6 => decide)
    (case hy_q6 => with_unfolding_all rfl)
    (case hp_q6 => with_unfolding_all rfl)
    (case hh_q6 => rfl)
    (case hb_q6 => intro I ax its;exact LM.binds_name rfl rfl)
    (case hs_q6 => intro _;rfl)
    walk1
    walk1
    walk1
    walk1
    walk1
    walk1
    walk1
    walk1
    rename_i lsp hsp kk e5 e4 e3 e2 F21 N21
    dsimp only at N21 F21 ⊢
    rw [e5] at e3 e4
    obtain ⟨spA,hspA⟩ : ∃ a : Array Value,a = (strValues lsp).toArray := ⟨_,rfl⟩
    have hspS : StrsAre spA.toList (Txt.split (ofL (toldAll cs9).whole) (Str.ofString "\r\n")) := by rw [hspA];exact e4
    rw [← hspA] at N21
    have hspz : spA.size ≤ 100000 := by
      have := StrsAre.size hspS
      rw [this]
      exact Nat.le_trans (split_len _) (by have := D9.wl;omega)
    clear hspA e2 e4 e5
    k_dflt (refine' ⟨_,spA,0,_,rfl,F21,N21, .head _,⟨.inr ⟨_, .head _,rfl,_,rfl⟩,hspS⟩,hspz,?restR_q7⟩)
    refine LM.LRest.allI (fun i y => ∃ x t,y = Value.str (undotS x) t ∧ (Txt.split (ofL (toldAll cs9).whole) (Str.ofString "\r\n"))[i]? = some x) ⟨.inr ⟨_, .head _,rfl,_,rfl⟩,hspS⟩ ?turn3_q8 ?fin3_q8
    (case turn3_q8 =>
      intro i v I5 oI5 C5 oC5 D5 m5 ys5 h5 dr5 tk5 E5 hv5 hoC5 hB5 F5 N5 ord5 ht5
      obtain ⟨x5,t5,rfl,hx5⟩ := strs_get hspS (by simpa using hv5)
      have hxl : x5.length ≤ 40000 := Nat.le_trans (e3 _ (List.mem_of_getElem? hx5)) j5
      clear j1 j2 j3 j4 j6 j7 hv5 e3 F21 N21 hspS hits
      (try clear F12)
      (try clear N20)
      cases hd5 : (Txt.slice x5 none (some 1) == Str.ofString ".") with
      | false =>
        k_steps
        (rename News _ _ _ _ => N9);(rename Fr _ _ _ _ => F9)
        exact LM.EEnd.intro F9 N9 (fun p hp => hp) ⟨x5,_,congrArg (fun z => Value.str z _) (undotS_no hd5),hx5⟩
      | true =>
        k_steps
        (rename News _ _ _ _ => N9);(rename Fr _ _ _ _ => F9)
        exact LM.EEnd.intro F9 N9 (fun p hp => by k_mem) ⟨x5,_,congrArg (fun z => Value.str z _) (undotS_yes hd5),hx5⟩)
    (case fin3_q8 =>
      intro rows hrl hrY D6 h6 dr6 tk6 F6 N6 off6 ht6
      clear F21 N21 off6
      (try clear F12)
      (try clear N20)
      have hrows : StrsAre rows ((Txt.split (ofL (toldAll cs9).whole) (Str.ofString "\r\n")).map undotS) := strs_of (by rw [List.length_map,hrl,StrsAre.size hspS]) (fun i v hv => by obtain ⟨x,t,rfl,hx⟩ := hrY i v hv;exact ⟨_,t,rfl,by rw [List.getElem?_map,hx];rfl⟩)
      obtain ⟨rA,hrA⟩ : ∃ a : Array Value,a = rows.toArray := ⟨_,rfl⟩
      have hrS : StrsAre rA.toList ((Txt.split (ofL (toldAll cs9).whole) (Str.ofString "\r\n")).map undotS) := by rw [hrA];exact hrows
      have N7 : News _ _ _ [(D6,listOf rA rows.length),(wa.wire,listOf its9 n9),(123,tabObj tb9),(201,tabObj tb)] := fun p hp => N6 p (by
        rcases List.mem_cons.mp hp with rfl | hp
        · rw [hrA];exact .head _
        · exact .tail _ (.tail _ hp))
      generalize rows.length = rn at N7
      have k1 : Txt.join (Str.ofString "\n") ((Txt.split (ofL (toldAll cs9).whole) (Str.ofString "\r\n")).map undotS) = ofL (cat (tellAll cs9).out) := by rw [rows_join,D9.p4]
      have k2 : (((Txt.split (ofL (toldAll cs9).whole) (Str.ofString "\r\n")).map undotS).map (·.length)).sum + ((Txt.split (ofL (toldAll cs9).whole) (Str.ofString "\r\n")).map undotS).length * (Str.ofString "\n").length ≤ 16777216 := by
        refine Nat.le_trans (rows_fit _) ?_
        rw [D9.p4]
        have := D9.dl
        omega
      have k3 : Txt.join (Str.ofString "") ((tellAll cs9).out.map mailS) = ofL (toldAll cs9).straight := by rw [mails_join,D9.p3]
      have k4 : (((tellAll cs9).out.map mailS).map (·.length)).sum + ((tellAll cs9).out.map mailS).length * (Str.ofString "").length ≤ 16777216 := by
        have e1 := sum_join ((tellAll cs9).out.map mailS)
        have e2 : (Txt.join (Str.ofString "") ((tellAll cs9).out.map mailS)).length ≤ 40000 := by rw [k3,ofL_length];exact D9.sl
        have e3 : (Str.ofString "").length = 0 := by decide
        rw [e3,Nat.mul_zero,← e1]
        exact Nat.le_trans e2 (by decide)
      have k5 : Txt.replace (ofL (toldAll cs9).whole) (Str.ofString "\n.") (Str.ofString "\n..") = ofL (rep2 10 46 [10,46,46] (toldAll cs9).whole) := by
        refine ofL_of ?_
        rw [show Str.ofString "\n." = ⟨#[10,46]⟩ from by decide +kernel,replace_two,ofL_cps];rfl
      have k6 : (ofL (rep2 10 46 [10,46,46] (toldAll cs9).whole) != Txt.replace (ofL (toldAll cs9).whole) (Str.ofString "\n.") (Str.ofString "\n..")) = false := by rw [k5];simp
      clear N6 hrA hrows hrY hrl hspS hspz e3
      have cutOn : CutOn := trivial
      k_steps
      unfold Cut
      (rename News _ _ _ _ => N12);(rename Fr _ _ _ _ => F12)
      k_dflt (refine' LM.ListComp_L (fun v _ m => m (Str.ofString "piece") = some v) (fun ax its nw => LCg.SrcAt _ ax its nw ∧ StrsAre its.toList (tellAll cs9).out) (fun _ _ _ h => h.1) ?F₀_q9 ?ht_q9 ?hclos_q9 ?hcell_q9 ?hkind_q9 ?hnames_q9 ?hh_q9 ?hb_q9 ?h_q9 ?hs_q9)
      (case F₀_q9 => exact F12)
      (case ht_q9 => (refine Mine.leT ?_;(try dsimp only);omega))
      (case hclos_q9 => with_unfolding_all rfl)
      (case hcell_q9 => decide)
      (case hkind_q9 => rfl)
      (case hnames_q9 => decide)
      (case hh_q9 => rfl)
      (case hb_q9 => intro I ax its;exact LM.binds_name rfl rfl)
      (case hs_q9 => intro _;rfl)
      (first | (k_unfold;(try dsimp only)) | (k_end;kc_close) | walk1 | (dsimp only;walk1) | (leave1;try dsimp only) | fail "no step")
      (rename News _ _ _ _ => N13);(rename Fr _ _ _ _ => F13)
      (try dsimp only)
      k_dflt (refine' ⟨_,its9,n9,_,rfl,F13,N13,(by k_dflt k_mem),⟨.inr ⟨_,(by k_dflt k_mem),rfl,_,rfl⟩,hits⟩,(by omega),?restP_q10⟩)
      refine LM.LRest.allI (fun i y => ∃ x t,y = Value.str (mailS x) t ∧ (tellAll cs9).out[i]? = some x) ⟨.inr ⟨_,(by k_dflt k_mem),rfl,_,rfl⟩,hits⟩ ?turn4_q11 ?fin4_q11
      (case turn4_q11 =>
        intro i v I5 oI5 C5 oC5 D5 m5 ys5 h5 dr5 tk5 E5 hv5 hoC5 hB5 F5 N5 ord5 ht5
        obtain ⟨x5,t5,rfl,hx5⟩ := strs_get hits (by simpa using hv5)
        have hxl : x5.length ≤ 40000 := Nat.le_trans (piece_len (List.mem_of_getElem? hx5)) D9.dl
        clear j1 j2 j3 j4 j6 j7 k1 k2 k3 k4 k5 k6 hv5 hits
        k_steps
        exact LM.EEnd.intro ‹Fr _ _ _ _› ‹News _ _ _ _› (fun p hp => hp) ⟨x5,_,rfl,hx5⟩)
      (case fin4_q11 =>
        intro ms hml hmY D8 h8 dr8 tk8 F8 N8 off8 ht8
        have hmS0 : StrsAre ms ((tellAll cs9).out.map mailS) := strs_of (by rw [List.length_map,hml,StrsAre.size hits]) (fun i v hv => by obtain ⟨x,t,rfl,hx⟩ := hmY i v hv;exact ⟨_,t,rfl,by rw [List.getElem?_map,hx];rfl⟩)
        obtain ⟨mA,hmA⟩ : ∃ a : Array Value,a = ms.toArray := ⟨_,rfl⟩
        have hmS : StrsAre mA.toList ((tellAll cs9).out.map mailS) := by rw [hmA];exact hmS0
        have N9 : News _ _ _ ((D8,listOf mA ms.length) :: _) := fun p hp => N8 p (by
          rcases List.mem_cons.mp hp with rfl | hp
          · rw [hmA];exact .head _
          · exact .tail _ hp)
        generalize ms.length = mn at N9
        have l7 : (ofL (toldAll cs9).straight == ofL (toldAll cs9).straight) = true := by simp
        have l8 : (ofL (cat (tellAll cs9).out) == ofL (cat (tellAll cs9).out)) = true := by simp
        clear N8 hmA hmS0 hmY hml off8
        iterate 20 (first | (k_unfold;(try dsimp only)) | (k_end;kc_close) | walk1 | (dsimp only;walk1) | (leave1;try dsimp only) | fail "no step")
        · rw [l8]
          clear j1 j2 j3 j4 j5 j6 j7 k1 k2 k3 k4 k5 k6 l7 l8 D9 hits hrS z1 hzit
          (first | (k_unfold;(try dsimp only)) | (k_end;kc_close) | walk1 | (dsimp only;walk1) | (leave1;try dsimp only) | fail "no step")
        · (first | (k_unfold;(try dsimp only)) | (k_end;kc_close) | walk1 | (dsimp only;walk1) | (leave1;try dsimp only) | fail "no step"))))
end
end Mine
theorem PySem.Challenge.cw_pg0304_01_holds : PySem.Challenge.rw_pg0304_01.Holds := by
  exact Mine.X1
