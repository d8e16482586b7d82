import PyProof.Rows.All
import Wide.All
import OpenK.AllK
import Wide.FinOn
import Open.Tops
import PySem.Challenge.RW_kl0476_01
set_option Elab.async false
namespace Mine
section
open PySem PySem.W PyProof.Rows
set_option maxRecDepth 100000
set_option maxHeartbeats 8000000
noncomputable def sAt (l : List Stmt) (i : Nat) : Stmt := (l.drop i).headD default
noncomputable def fArgs : Stmt → Arguments
  | .FunctionDef _ a _ _ _ _ _ _ _ _ => a
  | _ => default
noncomputable def fBody : Stmt → List Stmt
  | .FunctionDef _ _ b _ _ _ _ _ _ _ => b
  | .ClassDef _ _ _ b _ _ _ _ _ _ _ => b
  | _ => []
noncomputable def fScope : Stmt → Scope
  | .FunctionDef _ _ _ _ _ _ s _ _ _ => s
  | _ => default
noncomputable def la_20 : { x : Arguments // x = fArgs (sAt Challenge.pw_kl0476_01.main.body 2) } := ⟨_, by conv => { rhs; whnf }⟩
noncomputable def lb_20 : { x : List Stmt // x = fBody (sAt Challenge.pw_kl0476_01.main.body 2) } := ⟨_, by conv => { rhs; whnf }⟩
noncomputable def lc_20 : { x : Scope // x = fScope (sAt Challenge.pw_kl0476_01.main.body 2) } := ⟨_, by conv => { rhs; whnf }⟩
noncomputable def la_27 : { x : Arguments // x = fArgs (sAt Challenge.pw_kl0476_01.main.body 3) } := ⟨_, by conv => { rhs; whnf }⟩
noncomputable def lb_27 : { x : List Stmt // x = fBody (sAt Challenge.pw_kl0476_01.main.body 3) } := ⟨_, by conv => { rhs; whnf }⟩
noncomputable def lc_27 : { x : Scope // x = fScope (sAt Challenge.pw_kl0476_01.main.body 3) } := ⟨_, by conv => { rhs; whnf }⟩
noncomputable def la_34 : { x : Arguments // x = fArgs (sAt Challenge.pw_kl0476_01.main.body 4) } := ⟨_, by conv => { rhs; whnf }⟩
noncomputable def lb_34 : { x : List Stmt // x = fBody (sAt Challenge.pw_kl0476_01.main.body 4) } := ⟨_, by conv => { rhs; whnf }⟩
noncomputable def lc_34 : { x : Scope // x = fScope (sAt Challenge.pw_kl0476_01.main.body 4) } := ⟨_, by conv => { rhs; whnf }⟩
noncomputable def la_41 : { x : Arguments // x = fArgs (sAt Challenge.pw_kl0476_01.main.body 5) } := ⟨_, by conv => { rhs; whnf }⟩
noncomputable def lb_41 : { x : List Stmt // x = fBody (sAt Challenge.pw_kl0476_01.main.body 5) } := ⟨_, by conv => { rhs; whnf }⟩
noncomputable def lc_41 : { x : Scope // x = fScope (sAt Challenge.pw_kl0476_01.main.body 5) } := ⟨_, by conv => { rhs; whnf }⟩
noncomputable def la_48 : { x : Arguments // x = fArgs (sAt Challenge.pw_kl0476_01.main.body 6) } := ⟨_, by conv => { rhs; whnf }⟩
noncomputable def lb_48 : { x : List Stmt // x = fBody (sAt Challenge.pw_kl0476_01.main.body 6) } := ⟨_, by conv => { rhs; whnf }⟩
noncomputable def lc_48 : { x : Scope // x = fScope (sAt Challenge.pw_kl0476_01.main.body 6) } := ⟨_, by conv => { rhs; whnf }⟩
noncomputable def la_55 : { x : Arguments // x = fArgs (sAt Challenge.pw_kl0476_01.main.body 7) } := ⟨_, by conv => { rhs; whnf }⟩
noncomputable def lb_55 : { x : List Stmt // x = fBody (sAt Challenge.pw_kl0476_01.main.body 7) } := ⟨_, by conv => { rhs; whnf }⟩
noncomputable def lc_55 : { x : Scope // x = fScope (sAt Challenge.pw_kl0476_01.main.body 7) } := ⟨_, by conv => { rhs; whnf }⟩
noncomputable def la_146 : { x : Arguments // x = fArgs (sAt (fBody (sAt Challenge.pw_kl0476_01.main.body 11)) 4) } := ⟨_, by conv => { rhs; whnf }⟩
noncomputable def lb_146 : { x : List Stmt // x = fBody (sAt (fBody (sAt Challenge.pw_kl0476_01.main.body 11)) 4) } := ⟨_, by conv => { rhs; whnf }⟩
noncomputable def lc_146 : { x : Scope // x = fScope (sAt (fBody (sAt Challenge.pw_kl0476_01.main.body 11)) 4) } := ⟨_, by conv => { rhs; whnf }⟩
noncomputable def la_304 : { x : Arguments // x = fArgs (sAt Challenge.pw_kl0476_01.main.body 13) } := ⟨_, by conv => { rhs; whnf }⟩
noncomputable def lb_304 : { x : List Stmt // x = fBody (sAt Challenge.pw_kl0476_01.main.body 13) } := ⟨_, by conv => { rhs; whnf }⟩
noncomputable def lc_304 : { x : Scope // x = fScope (sAt Challenge.pw_kl0476_01.main.body 13) } := ⟨_, by conv => { rhs; whnf }⟩
noncomputable def la_311 : { x : Arguments // x = fArgs (sAt Challenge.pw_kl0476_01.main.body 14) } := ⟨_, by conv => { rhs; whnf }⟩
noncomputable def lb_311 : { x : List Stmt // x = fBody (sAt Challenge.pw_kl0476_01.main.body 14) } := ⟨_, by conv => { rhs; whnf }⟩
noncomputable def lc_311 : { x : Scope // x = fScope (sAt Challenge.pw_kl0476_01.main.body 14) } := ⟨_, by conv => { rhs; whnf }⟩
noncomputable def la_319 : { x : Arguments // x = fArgs (sAt Challenge.pw_kl0476_01.main.body 16) } := ⟨_, by conv => { rhs; whnf }⟩
noncomputable def lb_319 : { x : List Stmt // x = fBody (sAt Challenge.pw_kl0476_01.main.body 16) } := ⟨_, by conv => { rhs; whnf }⟩
noncomputable def lc_319 : { x : Scope // x = fScope (sAt Challenge.pw_kl0476_01.main.body 16) } := ⟨_, by conv => { rhs; whnf }⟩
noncomputable def la_327 : { x : Arguments // x = fArgs (sAt Challenge.pw_kl0476_01.main.body 17) } := ⟨_, by conv => { rhs; whnf }⟩
noncomputable def lb_327 : { x : List Stmt // x = fBody (sAt Challenge.pw_kl0476_01.main.body 17) } := ⟨_, by conv => { rhs; whnf }⟩
noncomputable def lc_327 : { x : Scope // x = fScope (sAt Challenge.pw_kl0476_01.main.body 17) } := ⟨_, by conv => { rhs; whnf }⟩
noncomputable def la_337 : { x : Arguments // x = fArgs (sAt Challenge.pw_kl0476_01.main.body 19) } := ⟨_, by conv => { rhs; whnf }⟩
noncomputable def lb_337 : { x : List Stmt // x = fBody (sAt Challenge.pw_kl0476_01.main.body 19) } := ⟨_, by conv => { rhs; whnf }⟩
noncomputable def lc_337 : { x : Scope // x = fScope (sAt Challenge.pw_kl0476_01.main.body 19) } := ⟨_, by conv => { rhs; whnf }⟩
noncomputable def la_344 : { x : Arguments // x = fArgs (sAt Challenge.pw_kl0476_01.main.body 20) } := ⟨_, by conv => { rhs; whnf }⟩
noncomputable def lb_344 : { x : List Stmt // x = fBody (sAt Challenge.pw_kl0476_01.main.body 20) } := ⟨_, by conv => { rhs; whnf }⟩
noncomputable def lc_344 : { x : Scope // x = fScope (sAt Challenge.pw_kl0476_01.main.body 20) } := ⟨_, by conv => { rhs; whnf }⟩
noncomputable def la_351 : { x : Arguments // x = fArgs (sAt Challenge.pw_kl0476_01.main.body 21) } := ⟨_, by conv => { rhs; whnf }⟩
noncomputable def lb_351 : { x : List Stmt // x = fBody (sAt Challenge.pw_kl0476_01.main.body 21) } := ⟨_, by conv => { rhs; whnf }⟩
noncomputable def lc_351 : { x : Scope // x = fScope (sAt Challenge.pw_kl0476_01.main.body 21) } := ⟨_, by conv => { rhs; whnf }⟩
noncomputable def la_358 : { x : Arguments // x = fArgs (sAt Challenge.pw_kl0476_01.main.body 22) } := ⟨_, by conv => { rhs; whnf }⟩
noncomputable def lb_358 : { x : List Stmt // x = fBody (sAt Challenge.pw_kl0476_01.main.body 22) } := ⟨_, by conv => { rhs; whnf }⟩
noncomputable def lc_358 : { x : Scope // x = fScope (sAt Challenge.pw_kl0476_01.main.body 22) } := ⟨_, by conv => { rhs; whnf }⟩
noncomputable def la_363 : { x : Arguments // x = fArgs (sAt Challenge.pw_kl0476_01.main.body 23) } := ⟨_, by conv => { rhs; whnf }⟩
noncomputable def lb_363 : { x : List Stmt // x = fBody (sAt Challenge.pw_kl0476_01.main.body 23) } := ⟨_, by conv => { rhs; whnf }⟩
noncomputable def lc_363 : { x : Scope // x = fScope (sAt Challenge.pw_kl0476_01.main.body 23) } := ⟨_, by conv => { rhs; whnf }⟩
noncomputable def la_368 : { x : Arguments // x = fArgs (sAt Challenge.pw_kl0476_01.main.body 24) } := ⟨_, by conv => { rhs; whnf }⟩
noncomputable def lb_368 : { x : List Stmt // x = fBody (sAt Challenge.pw_kl0476_01.main.body 24) } := ⟨_, by conv => { rhs; whnf }⟩
noncomputable def lc_368 : { x : Scope // x = fScope (sAt Challenge.pw_kl0476_01.main.body 24) } := ⟨_, by conv => { rhs; whnf; zeta }⟩
noncomputable abbrev top.o_329 : Params → Obj := fun P => (@PySem.Obj.mk (@PySem.Value.type "dict") (@Option.none @Nat) (@PySem.Data.dict (@List.toArray @PySem.DictEntry (@List.cons @PySem.DictEntry (@PySem.DictEntry.mk (@PySem.PyData.keyHash P (Str.ofString "__name__")) (@PySem.Value.str (Str.ofString "__name__") (@OfNat.ofNat @Nat (nat_lit 165) (@instOfNatNat (nat_lit 165)))) (@PySem.Value.str (Str.ofString "law_kl0476_01") (@OfNat.ofNat @Nat (nat_lit 560) (@instOfNatNat (nat_lit 560))))) (@List.cons @PySem.DictEntry (@PySem.DictEntry.mk (@PySem.PyData.keyHash P (Str.ofString "__doc__")) (@PySem.Value.str (Str.ofString "__doc__") (@OfNat.ofNat @Nat (nat_lit 166) (@instOfNatNat (nat_lit 166)))) @PySem.Value.none) (@List.cons @PySem.DictEntry (@PySem.DictEntry.mk (@PySem.PyData.keyHash P (Str.ofString "__package__")) (@PySem.Value.str (Str.ofString "__package__") (@OfNat.ofNat @Nat (nat_lit 167) (@instOfNatNat (nat_lit 167)))) @PySem.Value.none) (@List.cons @PySem.DictEntry (@PySem.DictEntry.mk (@PySem.PyData.keyHash P (Str.ofString "__loader__")) (@PySem.Value.str (Str.ofString "__loader__") (@OfNat.ofNat @Nat (nat_lit 168) (@instOfNatNat (nat_lit 168)))) (@PySem.Value.builtin "__main__.__loader__#opaque")) (@List.cons @PySem.DictEntry (@PySem.DictEntry.mk (@PySem.PyData.keyHash P (Str.ofString "__spec__")) (@PySem.Value.str (Str.ofString "__spec__") (@OfNat.ofNat @Nat (nat_lit 169) (@instOfNatNat (nat_lit 169)))) @PySem.Value.none) (@List.cons @PySem.DictEntry (@PySem.DictEntry.mk (@PySem.PyData.keyHash P (Str.ofString "__annotations__")) (@PySem.Value.str (Str.ofString "__annotations__") (@OfNat.ofNat @Nat (nat_lit 170) (@instOfNatNat (nat_lit 170)))) (@PySem.Value.ref (@OfNat.ofNat @Nat (nat_lit 6) (@instOfNatNat (nat_lit 6))))) (@List.cons @PySem.DictEntry (@PySem.DictEntry.mk (@PySem.PyData.keyHash P (Str.ofString "__builtins__")) (@PySem.Value.str (Str.ofString "__builtins__") (@OfNat.ofNat @Nat (nat_lit 171) (@instOfNatNat (nat_lit 171)))) (@PySem.Value.ref (@OfNat.ofNat @Nat (nat_lit 4) (@instOfNatNat (nat_lit 4))))) (@List.cons @PySem.DictEntry (@PySem.DictEntry.mk (@PySem.PyData.keyHash P (Str.ofString "__file__")) (@PySem.Value.str (Str.ofString "__file__") (@OfNat.ofNat @Nat (nat_lit 173) (@instOfNatNat (nat_lit 173)))) (@PySem.Value.str (Str.ofString "/claim/cut.py") (@OfNat.ofNat @Nat (nat_lit 172) (@instOfNatNat (nat_lit 172))))) (@List.cons @PySem.DictEntry (@PySem.DictEntry.mk (@PySem.PyData.keyHash P (Str.ofString "__cached__")) (@PySem.Value.str (Str.ofString "__cached__") (@OfNat.ofNat @Nat (nat_lit 174) (@instOfNatNat (nat_lit 174)))) @PySem.Value.none) (@List.cons @PySem.DictEntry (@PySem.DictEntry.mk (@PySem.PyData.keyHash P (Str.ofString "_wall")) (@PySem.Value.str (Str.ofString "_wall") (@OfNat.ofNat @Nat (nat_lit 193) (@instOfNatNat (nat_lit 193)))) (@PySem.Value.ref (@OfNat.ofNat @Nat (nat_lit 21) (@instOfNatNat (nat_lit 21))))) (@List.cons @PySem.DictEntry (@PySem.DictEntry.mk (@PySem.PyData.keyHash P (Str.ofString "add")) (@PySem.Value.str (Str.ofString "add") (@OfNat.ofNat @Nat (nat_lit 204) (@instOfNatNat (nat_lit 204)))) (@PySem.Value.ref (@OfNat.ofNat @Nat (nat_lit 28) (@instOfNatNat (nat_lit 28))))) (@List.cons @PySem.DictEntry (@PySem.DictEntry.mk (@PySem.PyData.keyHash P (Str.ofString "floordiv")) (@PySem.Value.str (Str.ofString "floordiv") (@OfNat.ofNat @Nat (nat_lit 213) (@instOfNatNat (nat_lit 213)))) (@PySem.Value.ref (@OfNat.ofNat @Nat (nat_lit 35) (@instOfNatNat (nat_lit 35))))) (@List.cons @PySem.DictEntry (@PySem.DictEntry.mk (@PySem.PyData.keyHash P (Str.ofString "mod")) (@PySem.Value.str (Str.ofString "mod") (@OfNat.ofNat @Nat (nat_lit 222) (@instOfNatNat (nat_lit 222)))) (@PySem.Value.ref (@OfNat.ofNat @Nat (nat_lit 42) (@instOfNatNat (nat_lit 42))))) (@List.cons @PySem.DictEntry (@PySem.DictEntry.mk (@PySem.PyData.keyHash P (Str.ofString "mul")) (@PySem.Value.str (Str.ofString "mul") (@OfNat.ofNat @Nat (nat_lit 231) (@instOfNatNat (nat_lit 231)))) (@PySem.Value.ref (@OfNat.ofNat @Nat (nat_lit 49) (@instOfNatNat (nat_lit 49))))) (@List.cons @PySem.DictEntry (@PySem.DictEntry.mk (@PySem.PyData.keyHash P (Str.ofString "sub")) (@PySem.Value.str (Str.ofString "sub") (@OfNat.ofNat @Nat (nat_lit 240) (@instOfNatNat (nat_lit 240)))) (@PySem.Value.ref (@OfNat.ofNat @Nat (nat_lit 56) (@instOfNatNat (nat_lit 56))))) (@List.cons @PySem.DictEntry (@PySem.DictEntry.mk (@PySem.PyData.keyHash P (Str.ofString "concat")) (@PySem.Value.str (Str.ofString "concat") (@OfNat.ofNat @Nat (nat_lit 250) (@instOfNatNat (nat_lit 250)))) (@PySem.Value.ref (@OfNat.ofNat @Nat (nat_lit 63) (@instOfNatNat (nat_lit 63))))) (@List.cons @PySem.DictEntry (@PySem.DictEntry.mk (@PySem.PyData.keyHash P (Str.ofString "_tuplegetter")) (@PySem.Value.str (Str.ofString "_tuplegetter") (@OfNat.ofNat @Nat (nat_lit 309) (@instOfNatNat (nat_lit 309)))) (@PySem.Value.ref (@OfNat.ofNat @Nat (nat_lit 102) (@instOfNatNat (nat_lit 102))))) (@List.cons @PySem.DictEntry (@PySem.DictEntry.mk (@PySem.PyData.keyHash P (Str.ofString "_Unknown")) (@PySem.Value.str (Str.ofString "_Unknown") (@OfNat.ofNat @Nat (nat_lit 336) (@instOfNatNat (nat_lit 336)))) (@PySem.Value.ref (@OfNat.ofNat @Nat (nat_lit 123) (@instOfNatNat (nat_lit 123))))) (@List.cons @PySem.DictEntry (@PySem.DictEntry.mk (@PySem.PyData.keyHash P (Str.ofString "_ExceptionTableEntryBase")) (@PySem.Value.str (Str.ofString "_ExceptionTableEntryBase") (@OfNat.ofNat @Nat (nat_lit 490) (@instOfNatNat (nat_lit 490)))) (@PySem.Value.ref (@OfNat.ofNat @Nat (nat_lit 204) (@instOfNatNat (nat_lit 204))))) (@List.cons @PySem.DictEntry (@PySem.DictEntry.mk (@PySem.PyData.keyHash P (Str.ofString "_ExceptionTableEntry")) (@PySem.Value.str (Str.ofString "_ExceptionTableEntry") (@OfNat.ofNat @Nat (nat_lit 508) (@instOfNatNat (nat_lit 508)))) (@PySem.Value.ref (@OfNat.ofNat @Nat (nat_lit 217) (@instOfNatNat (nat_lit 217))))) (@List.cons @PySem.DictEntry (@PySem.DictEntry.mk (@PySem.PyData.keyHash P (Str.ofString "_parse_varint")) (@PySem.Value.str (Str.ofString "_parse_varint") (@OfNat.ofNat @Nat (nat_lit 517) (@instOfNatNat (nat_lit 517)))) (@PySem.Value.ref (@OfNat.ofNat @Nat (nat_lit 227) (@instOfNatNat (nat_lit 227))))) (@List.cons @PySem.DictEntry (@PySem.DictEntry.mk (@PySem.PyData.keyHash P (Str.ofString "_parse_exception_table")) (@PySem.Value.str (Str.ofString "_parse_exception_table") (@OfNat.ofNat @Nat (nat_lit 533) (@instOfNatNat (nat_lit 533)))) (@PySem.Value.ref (@OfNat.ofNat @Nat (nat_lit 234) (@instOfNatNat (nat_lit 234))))) (@List.cons @PySem.DictEntry (@PySem.DictEntry.mk (@PySem.PyData.keyHash P (Str.ofString "_format_final_exc_line")) (@PySem.Value.str (Str.ofString "_format_final_exc_line") (@OfNat.ofNat @Nat (nat_lit 550) (@instOfNatNat (nat_lit 550)))) (@PySem.Value.ref (@OfNat.ofNat @Nat (nat_lit 242) (@instOfNatNat (nat_lit 242))))) (@List.cons @PySem.DictEntry (@PySem.DictEntry.mk (@PySem.PyData.keyHash P (Str.ofString "_safe_string")) (@PySem.Value.str (Str.ofString "_safe_string") (@OfNat.ofNat @Nat (nat_lit 559) (@instOfNatNat (nat_lit 559)))) (@PySem.Value.ref (@OfNat.ofNat @Nat (nat_lit 250) (@instOfNatNat (nat_lit 250))))) (@List.cons @PySem.DictEntry (@PySem.DictEntry.mk (@PySem.PyData.keyHash P (Str.ofString "_law_octets")) (@PySem.Value.str (Str.ofString "_law_octets") (@OfNat.ofNat @Nat (nat_lit 571) (@instOfNatNat (nat_lit 571)))) (@PySem.Value.ref (@OfNat.ofNat @Nat (nat_lit 257) (@instOfNatNat (nat_lit 257))))) (@List.cons @PySem.DictEntry (@PySem.DictEntry.mk (@PySem.PyData.keyHash P (Str.ofString "_law_entries")) (@PySem.Value.str (Str.ofString "_law_entries") (@OfNat.ofNat @Nat (nat_lit 579) (@instOfNatNat (nat_lit 579)))) (@PySem.Value.ref (@OfNat.ofNat @Nat (nat_lit 264) (@instOfNatNat (nat_lit 264))))) (@List.cons @PySem.DictEntry (@PySem.DictEntry.mk (@PySem.PyData.keyHash P (Str.ofString "_law_word")) (@PySem.Value.str (Str.ofString "_law_word") (@OfNat.ofNat @Nat (nat_lit 587) (@instOfNatNat (nat_lit 587)))) (@PySem.Value.ref (@OfNat.ofNat @Nat (nat_lit 271) (@instOfNatNat (nat_lit 271))))) (@List.cons @PySem.DictEntry (@PySem.DictEntry.mk (@PySem.PyData.keyHash P (Str.ofString "_law_written")) (@PySem.Value.str (Str.ofString "_law_written") (@OfNat.ofNat @Nat (nat_lit 598) (@instOfNatNat (nat_lit 598)))) (@PySem.Value.ref (@OfNat.ofNat @Nat (nat_lit 278) (@instOfNatNat (nat_lit 278))))) (@List.cons @PySem.DictEntry (@PySem.DictEntry.mk (@PySem.PyData.keyHash P (Str.ofString "_law_read")) (@PySem.Value.str (Str.ofString "_law_read") (@OfNat.ofNat @Nat (nat_lit 604) (@instOfNatNat (nat_lit 604)))) (@PySem.Value.ref (@OfNat.ofNat @Nat (nat_lit 283) (@instOfNatNat (nat_lit 283))))) (@List.cons @PySem.DictEntry (@PySem.DictEntry.mk (@PySem.PyData.keyHash P (Str.ofString "law")) (@PySem.Value.str (Str.ofString "law") (@OfNat.ofNat @Nat (nat_lit 610) (@instOfNatNat (nat_lit 610)))) (@PySem.Value.ref (@OfNat.ofNat @Nat (nat_lit 288) (@instOfNatNat (nat_lit 288))))) (@List.nil @PySem.DictEntry)))))))))))))))))))))))))))))))) (@OfNat.ofNat @Nat (nat_lit 30) (@instOfNatNat (nat_lit 30)))) (@List.toArray (@Option @PySem.Value) (@List.nil (@Option @PySem.Value))))
noncomputable abbrev top.o_19 : Params → Obj := fun P => (@PySem.Obj.mk (@PySem.Value.type "code") (@Option.none @Nat) (@PySem.Data.fields (@List.toArray @PySem.Value (@List.cons @PySem.Value (@PySem.Value.str (Str.ofString "add") (@OfNat.ofNat @Nat (nat_lit 196) (@instOfNatNat (nat_lit 196)))) (@List.cons @PySem.Value (@PySem.Value.str (Str.ofString "add") (@OfNat.ofNat @Nat (nat_lit 197) (@instOfNatNat (nat_lit 197)))) (@List.cons @PySem.Value (@PySem.Value.str (Str.ofString "/claim/cut.py") (@OfNat.ofNat @Nat (nat_lit 198) (@instOfNatNat (nat_lit 198)))) (@List.cons @PySem.Value (@PySem.Value.int (@OfNat.ofNat @Int (nat_lit 5) (@instOfNat (nat_lit 5))) (@OfNat.ofNat @Nat (nat_lit 0) (@instOfNatNat (nat_lit 0)))) (@List.cons @PySem.Value (@PySem.Value.int (@OfNat.ofNat @Int (nat_lit 2) (@instOfNat (nat_lit 2))) (@OfNat.ofNat @Nat (nat_lit 0) (@instOfNatNat (nat_lit 0)))) (@List.cons @PySem.Value (@PySem.Value.int (@OfNat.ofNat @Int (nat_lit 0) (@instOfNat (nat_lit 0))) (@OfNat.ofNat @Nat (nat_lit 0) (@instOfNatNat (nat_lit 0)))) (@List.cons @PySem.Value (@PySem.Value.int (@OfNat.ofNat @Int (nat_lit 0) (@instOfNat (nat_lit 0))) (@OfNat.ofNat @Nat (nat_lit 0) (@instOfNatNat (nat_lit 0)))) (@List.cons @PySem.Value (@PySem.Value.int (@OfNat.ofNat @Int (nat_lit 3) (@instOfNat (nat_lit 3))) (@OfNat.ofNat @Nat (nat_lit 0) (@instOfNatNat (nat_lit 0)))) (@List.cons @PySem.Value (@PySem.Value.ref (@OfNat.ofNat @Nat (nat_lit 22) (@instOfNatNat (nat_lit 22)))) (@List.cons @PySem.Value (@PySem.Value.bool @Bool.true) (@List.cons @PySem.Value (@PySem.Value.int (@OfNat.ofNat @Int (nat_lit 181) (@instOfNat (nat_lit 181))) (@OfNat.ofNat @Nat (nat_lit 0) (@instOfNatNat (nat_lit 0)))) (@List.cons @PySem.Value (@PySem.Value.ref (@OfNat.ofNat @Nat (nat_lit 23) (@instOfNatNat (nat_lit 23)))) (@List.cons @PySem.Value @PySem.Value.none (@List.cons @PySem.Value (@PySem.Value.ref (@OfNat.ofNat @Nat (nat_lit 24) (@instOfNatNat (nat_lit 24)))) (@List.cons @PySem.Value (@PySem.Value.ref (@OfNat.ofNat @Nat (nat_lit 25) (@instOfNatNat (nat_lit 25)))) (@List.cons @PySem.Value (@PySem.Value.ref (@OfNat.ofNat @Nat (nat_lit 26) (@instOfNatNat (nat_lit 26)))) (@List.cons @PySem.Value (@PySem.Value.int (@OfNat.ofNat @Int (nat_lit 201) (@instOfNat (nat_lit 201))) (@OfNat.ofNat @Nat (nat_lit 0) (@instOfNatNat (nat_lit 0)))) (@List.cons @PySem.Value (@PySem.Value.int (@OfNat.ofNat @Int (nat_lit 5) (@instOfNat (nat_lit 5))) (@OfNat.ofNat @Nat (nat_lit 0) (@instOfNatNat (nat_lit 0)))) (@List.cons @PySem.Value (@PySem.Value.str (Str.ofString "/claim/cut.py") (@OfNat.ofNat @Nat (nat_lit 202) (@instOfNatNat (nat_lit 202)))) (@List.nil @PySem.Value)))))))))))))))))))))) (@List.toArray (@Option @PySem.Value) (@List.nil (@Option @PySem.Value))))
noncomputable def ls_20 : { x : Params → Obj // x = fun P => (@PySem.Obj.mk (@PySem.Value.type "function") (@Option.none @Nat) (@PySem.Data.func (@PySem.FuncData.mk (Str.ofString "add") (Str.ofString "add") la_20.1 (FuncBody.stmts lb_20.1) lc_20.1 (@OfNat.ofNat @Nat (nat_lit 3) (@instOfNatNat (nat_lit 3))) (@List.nil (@Prod @PySem.Str @Nat)) @PySem.Value.none @PySem.Value.none (@PySem.Value.str (Str.ofString "Same as a + b.") (@OfNat.ofNat @Nat (nat_lit 203) (@instOfNatNat (nat_lit 203)))) (@PySem.Value.str (Str.ofString "cpy313.operator") (@OfNat.ofNat @Nat (nat_lit 194) (@instOfNatNat (nat_lit 194)))) (@Option.none @Nat) (@PySem.Value.ref (@OfNat.ofNat @Nat (nat_lit 27) (@instOfNatNat (nat_lit 27)))) @PySem.Value.none (@OfNat.ofNat @Nat (nat_lit 0) (@instOfNatNat (nat_lit 0))))) (@List.toArray (@Option @PySem.Value) (@List.nil (@Option @PySem.Value)))) } := ⟨_, by dsimp only [la_20, lb_20, lc_20]⟩
noncomputable abbrev top.o_20 : Params → Obj := ls_20.1
noncomputable abbrev top.o_26 : Params → Obj := fun P => (@PySem.Obj.mk (@PySem.Value.type "code") (@Option.none @Nat) (@PySem.Data.fields (@List.toArray @PySem.Value (@List.cons @PySem.Value (@PySem.Value.str (Str.ofString "floordiv") (@OfNat.ofNat @Nat (nat_lit 205) (@instOfNatNat (nat_lit 205)))) (@List.cons @PySem.Value (@PySem.Value.str (Str.ofString "floordiv") (@OfNat.ofNat @Nat (nat_lit 206) (@instOfNatNat (nat_lit 206)))) (@List.cons @PySem.Value (@PySem.Value.str (Str.ofString "/claim/cut.py") (@OfNat.ofNat @Nat (nat_lit 207) (@instOfNatNat (nat_lit 207)))) (@List.cons @PySem.Value (@PySem.Value.int (@OfNat.ofNat @Int (nat_lit 8) (@instOfNat (nat_lit 8))) (@OfNat.ofNat @Nat (nat_lit 0) (@instOfNatNat (nat_lit 0)))) (@List.cons @PySem.Value (@PySem.Value.int (@OfNat.ofNat @Int (nat_lit 2) (@instOfNat (nat_lit 2))) (@OfNat.ofNat @Nat (nat_lit 0) (@instOfNatNat (nat_lit 0)))) (@List.cons @PySem.Value (@PySem.Value.int (@OfNat.ofNat @Int (nat_lit 0) (@instOfNat (nat_lit 0))) (@OfNat.ofNat @Nat (nat_lit 0) (@instOfNatNat (nat_lit 0)))) (@List.cons @PySem.Value (@PySem.Value.int (@OfNat.ofNat @Int (nat_lit 0) (@instOfNat (nat_lit 0))) (@OfNat.ofNat @Nat (nat_lit 0) (@instOfNatNat (nat_lit 0)))) (@List.cons @PySem.Value (@PySem.Value.int (@OfNat.ofNat @Int (nat_lit 3) (@instOfNat (nat_lit 3))) (@OfNat.ofNat @Nat (nat_lit 0) (@instOfNatNat (nat_lit 0)))) (@List.cons @PySem.Value (@PySem.Value.ref (@OfNat.ofNat @Nat (nat_lit 29) (@instOfNatNat (nat_lit 29)))) (@List.cons @PySem.Value (@PySem.Value.bool @Bool.true) (@List.cons @PySem.Value (@PySem.Value.int (@OfNat.ofNat @Int (nat_lit 181) (@instOfNat (nat_lit 181))) (@OfNat.ofNat @Nat (nat_lit 0) (@instOfNatNat (nat_lit 0)))) (@List.cons @PySem.Value (@PySem.Value.ref (@OfNat.ofNat @Nat (nat_lit 30) (@instOfNatNat (nat_lit 30)))) (@List.cons @PySem.Value @PySem.Value.none (@List.cons @PySem.Value (@PySem.Value.ref (@OfNat.ofNat @Nat (nat_lit 31) (@instOfNatNat (nat_lit 31)))) (@List.cons @PySem.Value (@PySem.Value.ref (@OfNat.ofNat @Nat (nat_lit 32) (@instOfNatNat (nat_lit 32)))) (@List.cons @PySem.Value (@PySem.Value.ref (@OfNat.ofNat @Nat (nat_lit 33) (@instOfNatNat (nat_lit 33)))) (@List.cons @PySem.Value (@PySem.Value.int (@OfNat.ofNat @Int (nat_lit 210) (@instOfNat (nat_lit 210))) (@OfNat.ofNat @Nat (nat_lit 0) (@instOfNatNat (nat_lit 0)))) (@List.cons @PySem.Value (@PySem.Value.int (@OfNat.ofNat @Int (nat_lit 8) (@instOfNat (nat_lit 8))) (@OfNat.ofNat @Nat (nat_lit 0) (@instOfNatNat (nat_lit 0)))) (@List.cons @PySem.Value (@PySem.Value.str (Str.ofString "/claim/cut.py") (@OfNat.ofNat @Nat (nat_lit 211) (@instOfNatNat (nat_lit 211)))) (@List.nil @PySem.Value)))))))))))))))))))))) (@List.toArray (@Option @PySem.Value) (@List.nil (@Option @PySem.Value))))
noncomputable def ls_27 : { x : Params → Obj // x = fun P => (@PySem.Obj.mk (@PySem.Value.type "function") (@Option.none @Nat) (@PySem.Data.func (@PySem.FuncData.mk (Str.ofString "floordiv") (Str.ofString "floordiv") la_27.1 (FuncBody.stmts lb_27.1) lc_27.1 (@OfNat.ofNat @Nat (nat_lit 3) (@instOfNatNat (nat_lit 3))) (@List.nil (@Prod @PySem.Str @Nat)) @PySem.Value.none @PySem.Value.none (@PySem.Value.str (Str.ofString "Same as a // b.") (@OfNat.ofNat @Nat (nat_lit 212) (@instOfNatNat (nat_lit 212)))) (@PySem.Value.str (Str.ofString "cpy313.operator") (@OfNat.ofNat @Nat (nat_lit 194) (@instOfNatNat (nat_lit 194)))) (@Option.none @Nat) (@PySem.Value.ref (@OfNat.ofNat @Nat (nat_lit 34) (@instOfNatNat (nat_lit 34)))) @PySem.Value.none (@OfNat.ofNat @Nat (nat_lit 0) (@instOfNatNat (nat_lit 0))))) (@List.toArray (@Option @PySem.Value) (@List.nil (@Option @PySem.Value)))) } := ⟨_, by dsimp only [la_27, lb_27, lc_27]⟩
noncomputable abbrev top.o_27 : Params → Obj := ls_27.1
noncomputable abbrev top.o_33 : Params → Obj := fun P => (@PySem.Obj.mk (@PySem.Value.type "code") (@Option.none @Nat) (@PySem.Data.fields (@List.toArray @PySem.Value (@List.cons @PySem.Value (@PySem.Value.str (Str.ofString "mod") (@OfNat.ofNat @Nat (nat_lit 214) (@instOfNatNat (nat_lit 214)))) (@List.cons @PySem.Value (@PySem.Value.str (Str.ofString "mod") (@OfNat.ofNat @Nat (nat_lit 215) (@instOfNatNat (nat_lit 215)))) (@List.cons @PySem.Value (@PySem.Value.str (Str.ofString "/claim/cut.py") (@OfNat.ofNat @Nat (nat_lit 216) (@instOfNatNat (nat_lit 216)))) (@List.cons @PySem.Value (@PySem.Value.int (@OfNat.ofNat @Int (nat_lit 11) (@instOfNat (nat_lit 11))) (@OfNat.ofNat @Nat (nat_lit 0) (@instOfNatNat (nat_lit 0)))) (@List.cons @PySem.Value (@PySem.Value.int (@OfNat.ofNat @Int (nat_lit 2) (@instOfNat (nat_lit 2))) (@OfNat.ofNat @Nat (nat_lit 0) (@instOfNatNat (nat_lit 0)))) (@List.cons @PySem.Value (@PySem.Value.int (@OfNat.ofNat @Int (nat_lit 0) (@instOfNat (nat_lit 0))) (@OfNat.ofNat @Nat (nat_lit 0) (@instOfNatNat (nat_lit 0)))) (@List.cons @PySem.Value (@PySem.Value.int (@OfNat.ofNat @Int (nat_lit 0) (@instOfNat (nat_lit 0))) (@OfNat.ofNat @Nat (nat_lit 0) (@instOfNatNat (nat_lit 0)))) (@List.cons @PySem.Value (@PySem.Value.int (@OfNat.ofNat @Int (nat_lit 3) (@instOfNat (nat_lit 3))) (@OfNat.ofNat @Nat (nat_lit 0) (@instOfNatNat (nat_lit 0)))) (@List.cons @PySem.Value (@PySem.Value.ref (@OfNat.ofNat @Nat (nat_lit 36) (@instOfNatNat (nat_lit 36)))) (@List.cons @PySem.Value (@PySem.Value.bool @Bool.true) (@List.cons @PySem.Value (@PySem.Value.int (@OfNat.ofNat @Int (nat_lit 181) (@instOfNat (nat_lit 181))) (@OfNat.ofNat @Nat (nat_lit 0) (@instOfNatNat (nat_lit 0)))) (@List.cons @PySem.Value (@PySem.Value.ref (@OfNat.ofNat @Nat (nat_lit 37) (@instOfNatNat (nat_lit 37)))) (@List.cons @PySem.Value @PySem.Value.none (@List.cons @PySem.Value (@PySem.Value.ref (@OfNat.ofNat @Nat (nat_lit 38) (@instOfNatNat (nat_lit 38)))) (@List.cons @PySem.Value (@PySem.Value.ref (@OfNat.ofNat @Nat (nat_lit 39) (@instOfNatNat (nat_lit 39)))) (@List.cons @PySem.Value (@PySem.Value.ref (@OfNat.ofNat @Nat (nat_lit 40) (@instOfNatNat (nat_lit 40)))) (@List.cons @PySem.Value (@PySem.Value.int (@OfNat.ofNat @Int (nat_lit 219) (@instOfNat (nat_lit 219))) (@OfNat.ofNat @Nat (nat_lit 0) (@instOfNatNat (nat_lit 0)))) (@List.cons @PySem.Value (@PySem.Value.int (@OfNat.ofNat @Int (nat_lit 11) (@instOfNat (nat_lit 11))) (@OfNat.ofNat @Nat (nat_lit 0) (@instOfNatNat (nat_lit 0)))) (@List.cons @PySem.Value (@PySem.Value.str (Str.ofString "/claim/cut.py") (@OfNat.ofNat @Nat (nat_lit 220) (@instOfNatNat (nat_lit 220)))) (@List.nil @PySem.Value)))))))))))))))))))))) (@List.toArray (@Option @PySem.Value) (@List.nil (@Option @PySem.Value))))
noncomputable def ls_34 : { x : Params → Obj // x = fun P => (@PySem.Obj.mk (@PySem.Value.type "function") (@Option.none @Nat) (@PySem.Data.func (@PySem.FuncData.mk (Str.ofString "mod") (Str.ofString "mod") la_34.1 (FuncBody.stmts lb_34.1) lc_34.1 (@OfNat.ofNat @Nat (nat_lit 3) (@instOfNatNat (nat_lit 3))) (@List.nil (@Prod @PySem.Str @Nat)) @PySem.Value.none @PySem.Value.none (@PySem.Value.str (Str.ofString "Same as a % b.") (@OfNat.ofNat @Nat (nat_lit 221) (@instOfNatNat (nat_lit 221)))) (@PySem.Value.str (Str.ofString "cpy313.operator") (@OfNat.ofNat @Nat (nat_lit 194) (@instOfNatNat (nat_lit 194)))) (@Option.none @Nat) (@PySem.Value.ref (@OfNat.ofNat @Nat (nat_lit 41) (@instOfNatNat (nat_lit 41)))) @PySem.Value.none (@OfNat.ofNat @Nat (nat_lit 0) (@instOfNatNat (nat_lit 0))))) (@List.toArray (@Option @PySem.Value) (@List.nil (@Option @PySem.Value)))) } := ⟨_, by dsimp only [la_34, lb_34, lc_34]⟩
noncomputable abbrev top.o_34 : Params → Obj := ls_34.1
noncomputable abbrev top.o_40 : Params → Obj := fun P => (@PySem.Obj.mk (@PySem.Value.type "code") (@Option.none @Nat) (@PySem.Data.fields (@List.toArray @PySem.Value (@List.cons @PySem.Value (@PySem.Value.str (Str.ofString "mul") (@OfNat.ofNat @Nat (nat_lit 223) (@instOfNatNat (nat_lit 223)))) (@List.cons @PySem.Value (@PySem.Value.str (Str.ofString "mul") (@OfNat.ofNat @Nat (nat_lit 224) (@instOfNatNat (nat_lit 224)))) (@List.cons @PySem.Value (@PySem.Value.str (Str.ofString "/claim/cut.py") (@OfNat.ofNat @Nat (nat_lit 225) (@instOfNatNat (nat_lit 225)))) (@List.cons @PySem.Value (@PySem.Value.int (@OfNat.ofNat @Int (nat_lit 14) (@instOfNat (nat_lit 14))) (@OfNat.ofNat @Nat (nat_lit 0) (@instOfNatNat (nat_lit 0)))) (@List.cons @PySem.Value (@PySem.Value.int (@OfNat.ofNat @Int (nat_lit 2) (@instOfNat (nat_lit 2))) (@OfNat.ofNat @Nat (nat_lit 0) (@instOfNatNat (nat_lit 0)))) (@List.cons @PySem.Value (@PySem.Value.int (@OfNat.ofNat @Int (nat_lit 0) (@instOfNat (nat_lit 0))) (@OfNat.ofNat @Nat (nat_lit 0) (@instOfNatNat (nat_lit 0)))) (@List.cons @PySem.Value (@PySem.Value.int (@OfNat.ofNat @Int (nat_lit 0) (@instOfNat (nat_lit 0))) (@OfNat.ofNat @Nat (nat_lit 0) (@instOfNatNat (nat_lit 0)))) (@List.cons @PySem.Value (@PySem.Value.int (@OfNat.ofNat @Int (nat_lit 3) (@instOfNat (nat_lit 3))) (@OfNat.ofNat @Nat (nat_lit 0) (@instOfNatNat (nat_lit 0)))) (@List.cons @PySem.Value (@PySem.Value.ref (@OfNat.ofNat @Nat (nat_lit 43) (@instOfNatNat (nat_lit 43)))) (@List.cons @PySem.Value (@PySem.Value.bool @Bool.true) (@List.cons @PySem.Value (@PySem.Value.int (@OfNat.ofNat @Int (nat_lit 181) (@instOfNat (nat_lit 181))) (@OfNat.ofNat @Nat (nat_lit 0) (@instOfNatNat (nat_lit 0)))) (@List.cons @PySem.Value (@PySem.Value.ref (@OfNat.ofNat @Nat (nat_lit 44) (@instOfNatNat (nat_lit 44)))) (@List.cons @PySem.Value @PySem.Value.none (@List.cons @PySem.Value (@PySem.Value.ref (@OfNat.ofNat @Nat (nat_lit 45) (@instOfNatNat (nat_lit 45)))) (@List.cons @PySem.Value (@PySem.Value.ref (@OfNat.ofNat @Nat (nat_lit 46) (@instOfNatNat (nat_lit 46)))) (@List.cons @PySem.Value (@PySem.Value.ref (@OfNat.ofNat @Nat (nat_lit 47) (@instOfNatNat (nat_lit 47)))) (@List.cons @PySem.Value (@PySem.Value.int (@OfNat.ofNat @Int (nat_lit 228) (@instOfNat (nat_lit 228))) (@OfNat.ofNat @Nat (nat_lit 0) (@instOfNatNat (nat_lit 0)))) (@List.cons @PySem.Value (@PySem.Value.int (@OfNat.ofNat @Int (nat_lit 14) (@instOfNat (nat_lit 14))) (@OfNat.ofNat @Nat (nat_lit 0) (@instOfNatNat (nat_lit 0)))) (@List.cons @PySem.Value (@PySem.Value.str (Str.ofString "/claim/cut.py") (@OfNat.ofNat @Nat (nat_lit 229) (@instOfNatNat (nat_lit 229)))) (@List.nil @PySem.Value)))))))))))))))))))))) (@List.toArray (@Option @PySem.Value) (@List.nil (@Option @PySem.Value))))
noncomputable def ls_41 : { x : Params → Obj // x = fun P => (@PySem.Obj.mk (@PySem.Value.type "function") (@Option.none @Nat) (@PySem.Data.func (@PySem.FuncData.mk (Str.ofString "mul") (Str.ofString "mul") la_41.1 (FuncBody.stmts lb_41.1) lc_41.1 (@OfNat.ofNat @Nat (nat_lit 3) (@instOfNatNat (nat_lit 3))) (@List.nil (@Prod @PySem.Str @Nat)) @PySem.Value.none @PySem.Value.none (@PySem.Value.str (Str.ofString "Same as a * b.") (@OfNat.ofNat @Nat (nat_lit 230) (@instOfNatNat (nat_lit 230)))) (@PySem.Value.str (Str.ofString "cpy313.operator") (@OfNat.ofNat @Nat (nat_lit 194) (@instOfNatNat (nat_lit 194)))) (@Option.none @Nat) (@PySem.Value.ref (@OfNat.ofNat @Nat (nat_lit 48) (@instOfNatNat (nat_lit 48)))) @PySem.Value.none (@OfNat.ofNat @Nat (nat_lit 0) (@instOfNatNat (nat_lit 0))))) (@List.toArray (@Option @PySem.Value) (@List.nil (@Option @PySem.Value)))) } := ⟨_, by dsimp only [la_41, lb_41, lc_41]⟩
noncomputable abbrev top.o_41 : Params → Obj := ls_41.1
noncomputable abbrev top.o_47 : Params → Obj := fun P => (@PySem.Obj.mk (@PySem.Value.type "code") (@Option.none @Nat) (@PySem.Data.fields (@List.toArray @PySem.Value (@List.cons @PySem.Value (@PySem.Value.str (Str.ofString "sub") (@OfNat.ofNat @Nat (nat_lit 232) (@instOfNatNat (nat_lit 232)))) (@List.cons @PySem.Value (@PySem.Value.str (Str.ofString "sub") (@OfNat.ofNat @Nat (nat_lit 233) (@instOfNatNat (nat_lit 233)))) (@List.cons @PySem.Value (@PySem.Value.str (Str.ofString "/claim/cut.py") (@OfNat.ofNat @Nat (nat_lit 234) (@instOfNatNat (nat_lit 234)))) (@List.cons @PySem.Value (@PySem.Value.int (@OfNat.ofNat @Int (nat_lit 17) (@instOfNat (nat_lit 17))) (@OfNat.ofNat @Nat (nat_lit 0) (@instOfNatNat (nat_lit 0)))) (@List.cons @PySem.Value (@PySem.Value.int (@OfNat.ofNat @Int (nat_lit 2) (@instOfNat (nat_lit 2))) (@OfNat.ofNat @Nat (nat_lit 0) (@instOfNatNat (nat_lit 0)))) (@List.cons @PySem.Value (@PySem.Value.int (@OfNat.ofNat @Int (nat_lit 0) (@instOfNat (nat_lit 0))) (@OfNat.ofNat @Nat (nat_lit 0) (@instOfNatNat (nat_lit 0)))) (@List.cons @PySem.Value (@PySem.Value.int (@OfNat.ofNat @Int (nat_lit 0) (@instOfNat (nat_lit 0))) (@OfNat.ofNat @Nat (nat_lit 0) (@instOfNatNat (nat_lit 0)))) (@List.cons @PySem.Value (@PySem.Value.int (@OfNat.ofNat @Int (nat_lit 3) (@instOfNat (nat_lit 3))) (@OfNat.ofNat @Nat (nat_lit 0) (@instOfNatNat (nat_lit 0)))) (@List.cons @PySem.Value (@PySem.Value.ref (@OfNat.ofNat @Nat (nat_lit 50) (@instOfNatNat (nat_lit 50)))) (@List.cons @PySem.Value (@PySem.Value.bool @Bool.true) (@List.cons @PySem.Value (@PySem.Value.int (@OfNat.ofNat @Int (nat_lit 181) (@instOfNat (nat_lit 181))) (@OfNat.ofNat @Nat (nat_lit 0) (@instOfNatNat (nat_lit 0)))) (@List.cons @PySem.Value (@PySem.Value.ref (@OfNat.ofNat @Nat (nat_lit 51) (@instOfNatNat (nat_lit 51)))) (@List.cons @PySem.Value @PySem.Value.none (@List.cons @PySem.Value (@PySem.Value.ref (@OfNat.ofNat @Nat (nat_lit 52) (@instOfNatNat (nat_lit 52)))) (@List.cons @PySem.Value (@PySem.Value.ref (@OfNat.ofNat @Nat (nat_lit 53) (@instOfNatNat (nat_lit 53)))) (@List.cons @PySem.Value (@PySem.Value.ref (@OfNat.ofNat @Nat (nat_lit 54) (@instOfNatNat (nat_lit 54)))) (@List.cons @PySem.Value (@PySem.Value.int (@OfNat.ofNat @Int (nat_lit 237) (@instOfNat (nat_lit 237))) (@OfNat.ofNat @Nat (nat_lit 0) (@instOfNatNat (nat_lit 0)))) (@List.cons @PySem.Value (@PySem.Value.int (@OfNat.ofNat @Int (nat_lit 17) (@instOfNat (nat_lit 17))) (@OfNat.ofNat @Nat (nat_lit 0) (@instOfNatNat (nat_lit 0)))) (@List.cons @PySem.Value (@PySem.Value.str (Str.ofString "/claim/cut.py") (@OfNat.ofNat @Nat (nat_lit 238) (@instOfNatNat (nat_lit 238)))) (@List.nil @PySem.Value)))))))))))))))))))))) (@List.toArray (@Option @PySem.Value) (@List.nil (@Option @PySem.Value))))
noncomputable def ls_48 : { x : Params → Obj // x = fun P => (@PySem.Obj.mk (@PySem.Value.type "function") (@Option.none @Nat) (@PySem.Data.func (@PySem.FuncData.mk (Str.ofString "sub") (Str.ofString "sub") la_48.1 (FuncBody.stmts lb_48.1) lc_48.1 (@OfNat.ofNat @Nat (nat_lit 3) (@instOfNatNat (nat_lit 3))) (@List.nil (@Prod @PySem.Str @Nat)) @PySem.Value.none @PySem.Value.none (@PySem.Value.str (Str.ofString "Same as a - b.") (@OfNat.ofNat @Nat (nat_lit 239) (@instOfNatNat (nat_lit 239)))) (@PySem.Value.str (Str.ofString "cpy313.operator") (@OfNat.ofNat @Nat (nat_lit 194) (@instOfNatNat (nat_lit 194)))) (@Option.none @Nat) (@PySem.Value.ref (@OfNat.ofNat @Nat (nat_lit 55) (@instOfNatNat (nat_lit 55)))) @PySem.Value.none (@OfNat.ofNat @Nat (nat_lit 0) (@instOfNatNat (nat_lit 0))))) (@List.toArray (@Option @PySem.Value) (@List.nil (@Option @PySem.Value)))) } := ⟨_, by dsimp only [la_48, lb_48, lc_48]⟩
noncomputable abbrev top.o_48 : Params → Obj := ls_48.1
noncomputable abbrev top.o_54 : Params → Obj := fun P => (@PySem.Obj.mk (@PySem.Value.type "code") (@Option.none @Nat) (@PySem.Data.fields (@List.toArray @PySem.Value (@List.cons @PySem.Value (@PySem.Value.str (Str.ofString "concat") (@OfNat.ofNat @Nat (nat_lit 241) (@instOfNatNat (nat_lit 241)))) (@List.cons @PySem.Value (@PySem.Value.str (Str.ofString "concat") (@OfNat.ofNat @Nat (nat_lit 242) (@instOfNatNat (nat_lit 242)))) (@List.cons @PySem.Value (@PySem.Value.str (Str.ofString "/claim/cut.py") (@OfNat.ofNat @Nat (nat_lit 243) (@instOfNatNat (nat_lit 243)))) (@List.cons @PySem.Value (@PySem.Value.int (@OfNat.ofNat @Int (nat_lit 20) (@instOfNat (nat_lit 20))) (@OfNat.ofNat @Nat (nat_lit 0) (@instOfNatNat (nat_lit 0)))) (@List.cons @PySem.Value (@PySem.Value.int (@OfNat.ofNat @Int (nat_lit 2) (@instOfNat (nat_lit 2))) (@OfNat.ofNat @Nat (nat_lit 0) (@instOfNatNat (nat_lit 0)))) (@List.cons @PySem.Value (@PySem.Value.int (@OfNat.ofNat @Int (nat_lit 0) (@instOfNat (nat_lit 0))) (@OfNat.ofNat @Nat (nat_lit 0) (@instOfNatNat (nat_lit 0)))) (@List.cons @PySem.Value (@PySem.Value.int (@OfNat.ofNat @Int (nat_lit 0) (@instOfNat (nat_lit 0))) (@OfNat.ofNat @Nat (nat_lit 0) (@instOfNatNat (nat_lit 0)))) (@List.cons @PySem.Value (@PySem.Value.int (@OfNat.ofNat @Int (nat_lit 3) (@instOfNat (nat_lit 3))) (@OfNat.ofNat @Nat (nat_lit 0) (@instOfNatNat (nat_lit 0)))) (@List.cons @PySem.Value (@PySem.Value.ref (@OfNat.ofNat @Nat (nat_lit 57) (@instOfNatNat (nat_lit 57)))) (@List.cons @PySem.Value (@PySem.Value.bool @Bool.true) (@List.cons @PySem.Value (@PySem.Value.int (@OfNat.ofNat @Int (nat_lit 181) (@instOfNat (nat_lit 181))) (@OfNat.ofNat @Nat (nat_lit 0) (@instOfNatNat (nat_lit 0)))) (@List.cons @PySem.Value (@PySem.Value.ref (@OfNat.ofNat @Nat (nat_lit 58) (@instOfNatNat (nat_lit 58)))) (@List.cons @PySem.Value @PySem.Value.none (@List.cons @PySem.Value (@PySem.Value.ref (@OfNat.ofNat @Nat (nat_lit 59) (@instOfNatNat (nat_lit 59)))) (@List.cons @PySem.Value (@PySem.Value.ref (@OfNat.ofNat @Nat (nat_lit 60) (@instOfNatNat (nat_lit 60)))) (@List.cons @PySem.Value (@PySem.Value.ref (@OfNat.ofNat @Nat (nat_lit 61) (@instOfNatNat (nat_lit 61)))) (@List.cons @PySem.Value (@PySem.Value.int (@OfNat.ofNat @Int (nat_lit 247) (@instOfNat (nat_lit 247))) (@OfNat.ofNat @Nat (nat_lit 0) (@instOfNatNat (nat_lit 0)))) (@List.cons @PySem.Value (@PySem.Value.int (@OfNat.ofNat @Int (nat_lit 20) (@instOfNat (nat_lit 20))) (@OfNat.ofNat @Nat (nat_lit 0) (@instOfNatNat (nat_lit 0)))) (@List.cons @PySem.Value (@PySem.Value.str (Str.ofString "/claim/cut.py") (@OfNat.ofNat @Nat (nat_lit 248) (@instOfNatNat (nat_lit 248)))) (@List.nil @PySem.Value)))))))))))))))))))))) (@List.toArray (@Option @PySem.Value) (@List.nil (@Option @PySem.Value))))
noncomputable def ls_55 : { x : Params → Obj // x = fun P => (@PySem.Obj.mk (@PySem.Value.type "function") (@Option.none @Nat) (@PySem.Data.func (@PySem.FuncData.mk (Str.ofString "concat") (Str.ofString "concat") la_55.1 (FuncBody.stmts lb_55.1) lc_55.1 (@OfNat.ofNat @Nat (nat_lit 3) (@instOfNatNat (nat_lit 3))) (@List.nil (@Prod @PySem.Str @Nat)) @PySem.Value.none @PySem.Value.none (@PySem.Value.str (Str.ofString "Same as a + b, for a and b sequences.") (@OfNat.ofNat @Nat (nat_lit 249) (@instOfNatNat (nat_lit 249)))) (@PySem.Value.str (Str.ofString "cpy313.operator") (@OfNat.ofNat @Nat (nat_lit 194) (@instOfNatNat (nat_lit 194)))) (@Option.none @Nat) (@PySem.Value.ref (@OfNat.ofNat @Nat (nat_lit 62) (@instOfNatNat (nat_lit 62)))) @PySem.Value.none (@OfNat.ofNat @Nat (nat_lit 0) (@instOfNatNat (nat_lit 0))))) (@List.toArray (@Option @PySem.Value) (@List.nil (@Option @PySem.Value)))) } := ⟨_, by dsimp only [la_55, lb_55, lc_55]⟩
noncomputable abbrev top.o_55 : Params → Obj := ls_55.1
noncomputable abbrev top.o_120 : Params → Obj := fun P => (@PySem.Obj.mk (@PySem.Value.type "dict") (@Option.none @Nat) (@PySem.Data.dict (@List.toArray @PySem.DictEntry (@List.cons @PySem.DictEntry (@PySem.DictEntry.mk (@PySem.PyData.keyHash P (Str.ofString "__module__")) (@PySem.Value.str (Str.ofString "__module__") (@OfNat.ofNat @Nat (nat_lit 317) (@instOfNatNat (nat_lit 317)))) (@PySem.Value.str (Str.ofString "cpy313.dis") (@OfNat.ofNat @Nat (nat_lit 251) (@instOfNatNat (nat_lit 251))))) (@List.cons @PySem.DictEntry (@PySem.DictEntry.mk (@PySem.PyData.keyHash P (Str.ofString "__firstlineno__")) (@PySem.Value.str (Str.ofString "__firstlineno__") (@OfNat.ofNat @Nat (nat_lit 321) (@instOfNatNat (nat_lit 321)))) (@PySem.Value.int (@OfNat.ofNat @Int (nat_lit 45) (@instOfNat (nat_lit 45))) (@OfNat.ofNat @Nat (nat_lit 320) (@instOfNatNat (nat_lit 320))))) (@List.cons @PySem.DictEntry (@PySem.DictEntry.mk (@PySem.PyData.keyHash P (Str.ofString "__repr__")) (@PySem.Value.str (Str.ofString "__repr__") (@OfNat.ofNat @Nat (nat_lit 328) (@instOfNatNat (nat_lit 328)))) (@PySem.Value.ref (@OfNat.ofNat @Nat (nat_lit 120) (@instOfNatNat (nat_lit 120))))) (@List.cons @PySem.DictEntry (@PySem.DictEntry.mk (@PySem.PyData.keyHash P (Str.ofString "__static_attributes__")) (@PySem.Value.str (Str.ofString "__static_attributes__") (@OfNat.ofNat @Nat (nat_lit 329) (@instOfNatNat (nat_lit 329)))) (@PySem.Value.ref (@OfNat.ofNat @Nat (nat_lit 121) (@instOfNatNat (nat_lit 121))))) (@List.cons @PySem.DictEntry (@PySem.DictEntry.mk (@PySem.PyData.keyHash P (Str.ofString "__dict__")) (@PySem.Value.str (Str.ofString "__dict__") (@OfNat.ofNat @Nat (nat_lit 331) (@instOfNatNat (nat_lit 331)))) (@PySem.Value.ref (@OfNat.ofNat @Nat (nat_lit 124) (@instOfNatNat (nat_lit 124))))) (@List.cons @PySem.DictEntry (@PySem.DictEntry.mk (@PySem.PyData.keyHash P (Str.ofString "__weakref__")) (@PySem.Value.str (Str.ofString "__weakref__") (@OfNat.ofNat @Nat (nat_lit 333) (@instOfNatNat (nat_lit 333)))) (@PySem.Value.ref (@OfNat.ofNat @Nat (nat_lit 125) (@instOfNatNat (nat_lit 125))))) (@List.cons @PySem.DictEntry (@PySem.DictEntry.mk (@PySem.PyData.keyHash P (Str.ofString "__doc__")) (@PySem.Value.str (Str.ofString "__doc__") (@OfNat.ofNat @Nat (nat_lit 334) (@instOfNatNat (nat_lit 334)))) @PySem.Value.none) (@List.nil @PySem.DictEntry))))))))) (@OfNat.ofNat @Nat (nat_lit 4) (@instOfNatNat (nat_lit 4)))) (@List.toArray (@Option @PySem.Value) (@List.nil (@Option @PySem.Value))))
noncomputable abbrev top.o_121 : Params → Obj := fun P => (@PySem.Obj.mk (@PySem.Value.type "type") (@Option.none @Nat) (@PySem.Data.cls (@PySem.ClassData.mk (Str.ofString "_Unknown") (@List.cons @PySem.Value (@PySem.Value.type "object") (@List.nil @PySem.Value)) (@List.cons @PySem.Value (@PySem.Value.ref (@OfNat.ofNat @Nat (nat_lit 123) (@instOfNatNat (nat_lit 123)))) (@List.cons @PySem.Value (@PySem.Value.type "object") (@List.nil @PySem.Value))) (@OfNat.ofNat @Nat (nat_lit 122) (@instOfNatNat (nat_lit 122))) (Str.ofString "_Unknown") @Bool.true (@List.nil @PySem.Str) (@List.nil @PySem.Value) @Bool.false (@Option.none @Bool) @Bool.false)) (@List.toArray (@Option @PySem.Value) (@List.cons (@Option @PySem.Value) (@Option.none @PySem.Value) (@List.cons (@Option @PySem.Value) (@Option.none @PySem.Value) (@List.cons (@Option @PySem.Value) (@Option.some @PySem.Value (@PySem.Value.str (Str.ofString "_Unknown") (@OfNat.ofNat @Nat (nat_lit 310) (@instOfNatNat (nat_lit 310))))) (@List.cons (@Option @PySem.Value) (@Option.some @PySem.Value (@PySem.Value.str (Str.ofString "_Unknown") (@OfNat.ofNat @Nat (nat_lit 318) (@instOfNatNat (nat_lit 318))))) (@List.cons (@Option @PySem.Value) (@Option.some @PySem.Value (@PySem.Value.builtin "object.__new__")) (@List.cons (@Option @PySem.Value) (@Option.some @PySem.Value (@PySem.Value.bool @Bool.true)) (@List.nil (@Option @PySem.Value))))))))))
noncomputable abbrev top.o_145 : Params → Obj := fun P => (@PySem.Obj.mk (@PySem.Value.type "code") (@Option.none @Nat) (@PySem.Data.fields (@List.toArray @PySem.Value (@List.cons @PySem.Value (@PySem.Value.str (Str.ofString "__new__") (@OfNat.ofNat @Nat (nat_lit 360) (@instOfNatNat (nat_lit 360)))) (@List.cons @PySem.Value (@PySem.Value.str (Str.ofString "_ExceptionTableEntryBase.__new__") (@OfNat.ofNat @Nat (nat_lit 361) (@instOfNatNat (nat_lit 361)))) (@List.cons @PySem.Value (@PySem.Value.str (Str.ofString "/claim/cut.py") (@OfNat.ofNat @Nat (nat_lit 362) (@instOfNatNat (nat_lit 362)))) (@List.cons @PySem.Value (@PySem.Value.int (@OfNat.ofNat @Int (nat_lit 55) (@instOfNat (nat_lit 55))) (@OfNat.ofNat @Nat (nat_lit 0) (@instOfNatNat (nat_lit 0)))) (@List.cons @PySem.Value (@PySem.Value.int (@OfNat.ofNat @Int (nat_lit 6) (@instOfNat (nat_lit 6))) (@OfNat.ofNat @Nat (nat_lit 0) (@instOfNatNat (nat_lit 0)))) (@List.cons @PySem.Value (@PySem.Value.int (@OfNat.ofNat @Int (nat_lit 0) (@instOfNat (nat_lit 0))) (@OfNat.ofNat @Nat (nat_lit 0) (@instOfNatNat (nat_lit 0)))) (@List.cons @PySem.Value (@PySem.Value.int (@OfNat.ofNat @Int (nat_lit 0) (@instOfNat (nat_lit 0))) (@OfNat.ofNat @Nat (nat_lit 0) (@instOfNatNat (nat_lit 0)))) (@List.cons @PySem.Value (@PySem.Value.int (@OfNat.ofNat @Int (nat_lit 3) (@instOfNat (nat_lit 3))) (@OfNat.ofNat @Nat (nat_lit 0) (@instOfNatNat (nat_lit 0)))) (@List.cons @PySem.Value (@PySem.Value.ref (@OfNat.ofNat @Nat (nat_lit 139) (@instOfNatNat (nat_lit 139)))) (@List.cons @PySem.Value (@PySem.Value.bool @Bool.true) (@List.cons @PySem.Value (@PySem.Value.int (@OfNat.ofNat @Int (nat_lit 181) (@instOfNat (nat_lit 181))) (@OfNat.ofNat @Nat (nat_lit 0) (@instOfNatNat (nat_lit 0)))) (@List.cons @PySem.Value (@PySem.Value.ref (@OfNat.ofNat @Nat (nat_lit 140) (@instOfNatNat (nat_lit 140)))) (@List.cons @PySem.Value @PySem.Value.none (@List.cons @PySem.Value (@PySem.Value.ref (@OfNat.ofNat @Nat (nat_lit 141) (@instOfNatNat (nat_lit 141)))) (@List.cons @PySem.Value (@PySem.Value.ref (@OfNat.ofNat @Nat (nat_lit 142) (@instOfNatNat (nat_lit 142)))) (@List.cons @PySem.Value (@PySem.Value.ref (@OfNat.ofNat @Nat (nat_lit 143) (@instOfNatNat (nat_lit 143)))) (@List.cons @PySem.Value (@PySem.Value.int (@OfNat.ofNat @Int (nat_lit 369) (@instOfNat (nat_lit 369))) (@OfNat.ofNat @Nat (nat_lit 0) (@instOfNatNat (nat_lit 0)))) (@List.cons @PySem.Value (@PySem.Value.int (@OfNat.ofNat @Int (nat_lit 55) (@instOfNat (nat_lit 55))) (@OfNat.ofNat @Nat (nat_lit 0) (@instOfNatNat (nat_lit 0)))) (@List.cons @PySem.Value (@PySem.Value.str (Str.ofString "/claim/cut.py") (@OfNat.ofNat @Nat (nat_lit 370) (@instOfNatNat (nat_lit 370)))) (@List.nil @PySem.Value)))))))))))))))))))))) (@List.toArray (@Option @PySem.Value) (@List.nil (@Option @PySem.Value))))
noncomputable def ls_146 : { x : Params → Obj // x = fun P => (@PySem.Obj.mk (@PySem.Value.type "function") (@Option.none @Nat) (@PySem.Data.func (@PySem.FuncData.mk (Str.ofString "__new__") (Str.ofString "_ExceptionTableEntryBase.__new__") la_146.1 (FuncBody.stmts lb_146.1) lc_146.1 (@OfNat.ofNat @Nat (nat_lit 3) (@instOfNatNat (nat_lit 3))) (@List.nil (@Prod @PySem.Str @Nat)) @PySem.Value.none @PySem.Value.none (@PySem.Value.str (Str.ofString "Create new instance of _ExceptionTableEntryBase(start, end, target, depth, lasti)") (@OfNat.ofNat @Nat (nat_lit 371) (@instOfNatNat (nat_lit 371)))) (@PySem.Value.str (Str.ofString "cpy313.dis") (@OfNat.ofNat @Nat (nat_lit 251) (@instOfNatNat (nat_lit 251)))) (@Option.none @Nat) (@PySem.Value.ref (@OfNat.ofNat @Nat (nat_lit 144) (@instOfNatNat (nat_lit 144)))) @PySem.Value.none (@OfNat.ofNat @Nat (nat_lit 0) (@instOfNatNat (nat_lit 0))))) (@List.toArray (@Option @PySem.Value) (@List.nil (@Option @PySem.Value)))) } := ⟨_, by dsimp only [la_146, lb_146, lc_146]⟩
noncomputable abbrev top.o_146 : Params → Obj := ls_146.1
noncomputable abbrev top.o_204 : Params → Obj := fun P => (@PySem.Obj.mk (@PySem.Value.type "dict") (@Option.none @Nat) (@PySem.Data.dict (@List.toArray @PySem.DictEntry (@List.cons @PySem.DictEntry (@PySem.DictEntry.mk (@PySem.PyData.keyHash P (Str.ofString "__module__")) (@PySem.Value.str (Str.ofString "__module__") (@OfNat.ofNat @Nat (nat_lit 344) (@instOfNatNat (nat_lit 344)))) (@PySem.Value.str (Str.ofString "cpy313.dis") (@OfNat.ofNat @Nat (nat_lit 251) (@instOfNatNat (nat_lit 251))))) (@List.cons @PySem.DictEntry (@PySem.DictEntry.mk (@PySem.PyData.keyHash P (Str.ofString "__firstlineno__")) (@PySem.Value.str (Str.ofString "__firstlineno__") (@OfNat.ofNat @Nat (nat_lit 348) (@instOfNatNat (nat_lit 348)))) (@PySem.Value.int (@OfNat.ofNat @Int (nat_lit 49) (@instOfNat (nat_lit 49))) (@OfNat.ofNat @Nat (nat_lit 347) (@instOfNatNat (nat_lit 347))))) (@List.cons @PySem.DictEntry (@PySem.DictEntry.mk (@PySem.PyData.keyHash P (Str.ofString "__doc__")) (@PySem.Value.str (Str.ofString "__doc__") (@OfNat.ofNat @Nat (nat_lit 350) (@instOfNatNat (nat_lit 350)))) (@PySem.Value.str (Str.ofString "_ExceptionTableEntryBase(start, end, target, depth, lasti)") (@OfNat.ofNat @Nat (nat_lit 349) (@instOfNatNat (nat_lit 349))))) (@List.cons @PySem.DictEntry (@PySem.DictEntry.mk (@PySem.PyData.keyHash P (Str.ofString "__slots__")) (@PySem.Value.str (Str.ofString "__slots__") (@OfNat.ofNat @Nat (nat_lit 352) (@instOfNatNat (nat_lit 352)))) (@PySem.Value.ref (@OfNat.ofNat @Nat (nat_lit 136) (@instOfNatNat (nat_lit 136))))) (@List.cons @PySem.DictEntry (@PySem.DictEntry.mk (@PySem.PyData.keyHash P (Str.ofString "_fields")) (@PySem.Value.str (Str.ofString "_fields") (@OfNat.ofNat @Nat (nat_lit 358) (@instOfNatNat (nat_lit 358)))) (@PySem.Value.ref (@OfNat.ofNat @Nat (nat_lit 137) (@instOfNatNat (nat_lit 137))))) (@List.cons @PySem.DictEntry (@PySem.DictEntry.mk (@PySem.PyData.keyHash P (Str.ofString "_field_defaults")) (@PySem.Value.str (Str.ofString "_field_defaults") (@OfNat.ofNat @Nat (nat_lit 359) (@instOfNatNat (nat_lit 359)))) (@PySem.Value.ref (@OfNat.ofNat @Nat (nat_lit 138) (@instOfNatNat (nat_lit 138))))) (@List.cons @PySem.DictEntry (@PySem.DictEntry.mk (@PySem.PyData.keyHash P (Str.ofString "__new__")) (@PySem.Value.str (Str.ofString "__new__") (@OfNat.ofNat @Nat (nat_lit 372) (@instOfNatNat (nat_lit 372)))) (@PySem.Value.ref (@OfNat.ofNat @Nat (nat_lit 205) (@instOfNatNat (nat_lit 205))))) (@List.cons @PySem.DictEntry (@PySem.DictEntry.mk (@PySem.PyData.keyHash P (Str.ofString "_make")) (@PySem.Value.str (Str.ofString "_make") (@OfNat.ofNat @Nat (nat_lit 394) (@instOfNatNat (nat_lit 394)))) (@PySem.Value.ref (@OfNat.ofNat @Nat (nat_lit 154) (@instOfNatNat (nat_lit 154))))) (@List.cons @PySem.DictEntry (@PySem.DictEntry.mk (@PySem.PyData.keyHash P (Str.ofString "_replace")) (@PySem.Value.str (Str.ofString "_replace") (@OfNat.ofNat @Nat (nat_lit 405) (@instOfNatNat (nat_lit 405)))) (@PySem.Value.ref (@OfNat.ofNat @Nat (nat_lit 163) (@instOfNatNat (nat_lit 163))))) (@List.cons @PySem.DictEntry (@PySem.DictEntry.mk (@PySem.PyData.keyHash P (Str.ofString "__replace__")) (@PySem.Value.str (Str.ofString "__replace__") (@OfNat.ofNat @Nat (nat_lit 406) (@instOfNatNat (nat_lit 406)))) (@PySem.Value.ref (@OfNat.ofNat @Nat (nat_lit 163) (@instOfNatNat (nat_lit 163))))) (@List.cons @PySem.DictEntry (@PySem.DictEntry.mk (@PySem.PyData.keyHash P (Str.ofString "__repr__")) (@PySem.Value.str (Str.ofString "__repr__") (@OfNat.ofNat @Nat (nat_lit 414) (@instOfNatNat (nat_lit 414)))) (@PySem.Value.ref (@OfNat.ofNat @Nat (nat_lit 170) (@instOfNatNat (nat_lit 170))))) (@List.cons @PySem.DictEntry (@PySem.DictEntry.mk (@PySem.PyData.keyHash P (Str.ofString "_asdict")) (@PySem.Value.str (Str.ofString "_asdict") (@OfNat.ofNat @Nat (nat_lit 421) (@instOfNatNat (nat_lit 421)))) (@PySem.Value.ref (@OfNat.ofNat @Nat (nat_lit 177) (@instOfNatNat (nat_lit 177))))) (@List.cons @PySem.DictEntry (@PySem.DictEntry.mk (@PySem.PyData.keyHash P (Str.ofString "__getnewargs__")) (@PySem.Value.str (Str.ofString "__getnewargs__") (@OfNat.ofNat @Nat (nat_lit 429) (@instOfNatNat (nat_lit 429)))) (@PySem.Value.ref (@OfNat.ofNat @Nat (nat_lit 184) (@instOfNatNat (nat_lit 184))))) (@List.cons @PySem.DictEntry (@PySem.DictEntry.mk (@PySem.PyData.keyHash P (Str.ofString "__match_args__")) (@PySem.Value.str (Str.ofString "__match_args__") (@OfNat.ofNat @Nat (nat_lit 435) (@instOfNatNat (nat_lit 435)))) (@PySem.Value.ref (@OfNat.ofNat @Nat (nat_lit 185) (@instOfNatNat (nat_lit 185))))) (@List.cons @PySem.DictEntry (@PySem.DictEntry.mk (@PySem.PyData.keyHash P (Str.ofString "start")) (@PySem.Value.str (Str.ofString "start") (@OfNat.ofNat @Nat (nat_lit 445) (@instOfNatNat (nat_lit 445)))) (@PySem.Value.ref (@OfNat.ofNat @Nat (nat_lit 187) (@instOfNatNat (nat_lit 187))))) (@List.cons @PySem.DictEntry (@PySem.DictEntry.mk (@PySem.PyData.keyHash P (Str.ofString "end")) (@PySem.Value.str (Str.ofString "end") (@OfNat.ofNat @Nat (nat_lit 455) (@instOfNatNat (nat_lit 455)))) (@PySem.Value.ref (@OfNat.ofNat @Nat (nat_lit 190) (@instOfNatNat (nat_lit 190))))) (@List.cons @PySem.DictEntry (@PySem.DictEntry.mk (@PySem.PyData.keyHash P (Str.ofString "target")) (@PySem.Value.str (Str.ofString "target") (@OfNat.ofNat @Nat (nat_lit 465) (@instOfNatNat (nat_lit 465)))) (@PySem.Value.ref (@OfNat.ofNat @Nat (nat_lit 193) (@instOfNatNat (nat_lit 193))))) (@List.cons @PySem.DictEntry (@PySem.DictEntry.mk (@PySem.PyData.keyHash P (Str.ofString "depth")) (@PySem.Value.str (Str.ofString "depth") (@OfNat.ofNat @Nat (nat_lit 475) (@instOfNatNat (nat_lit 475)))) (@PySem.Value.ref (@OfNat.ofNat @Nat (nat_lit 196) (@instOfNatNat (nat_lit 196))))) (@List.cons @PySem.DictEntry (@PySem.DictEntry.mk (@PySem.PyData.keyHash P (Str.ofString "lasti")) (@PySem.Value.str (Str.ofString "lasti") (@OfNat.ofNat @Nat (nat_lit 485) (@instOfNatNat (nat_lit 485)))) (@PySem.Value.ref (@OfNat.ofNat @Nat (nat_lit 199) (@instOfNatNat (nat_lit 199))))) (@List.cons @PySem.DictEntry (@PySem.DictEntry.mk (@PySem.PyData.keyHash P (Str.ofString "__static_attributes__")) (@PySem.Value.str (Str.ofString "__static_attributes__") (@OfNat.ofNat @Nat (nat_lit 486) (@instOfNatNat (nat_lit 486)))) (@PySem.Value.ref (@OfNat.ofNat @Nat (nat_lit 201) (@instOfNatNat (nat_lit 201))))) (@List.nil @PySem.DictEntry)))))))))))))))))))))) (@OfNat.ofNat @Nat (nat_lit 2) (@instOfNatNat (nat_lit 2)))) (@List.toArray (@Option @PySem.Value) (@List.nil (@Option @PySem.Value))))
noncomputable abbrev top.o_284 : Params → Obj := fun P => (@PySem.Obj.mk (@PySem.Value.type "type") (@Option.none @Nat) (@PySem.Data.cls (@PySem.ClassData.mk (Str.ofString "_ExceptionTableEntryBase") (@List.cons @PySem.Value (@PySem.Value.type "tuple") (@List.nil @PySem.Value)) (@List.cons @PySem.Value (@PySem.Value.ref (@OfNat.ofNat @Nat (nat_lit 204) (@instOfNatNat (nat_lit 204)))) (@List.cons @PySem.Value (@PySem.Value.type "tuple") (@List.cons @PySem.Value (@PySem.Value.type "object") (@List.nil @PySem.Value)))) (@OfNat.ofNat @Nat (nat_lit 203) (@instOfNatNat (nat_lit 203))) (Str.ofString "_ExceptionTableEntryBase") @Bool.false (@List.nil @PySem.Str) (@List.cons @PySem.Value (@PySem.Value.ref (@OfNat.ofNat @Nat (nat_lit 217) (@instOfNatNat (nat_lit 217)))) (@List.nil @PySem.Value)) @Bool.false (@Option.none @Bool) @Bool.false)) (@List.toArray (@Option @PySem.Value) (@List.cons (@Option @PySem.Value) (@Option.some @PySem.Value (@PySem.Value.ref (@OfNat.ofNat @Nat (nat_lit 128) (@instOfNatNat (nat_lit 128))))) (@List.cons (@Option @PySem.Value) (@Option.none @PySem.Value) (@List.cons (@Option @PySem.Value) (@Option.some @PySem.Value (@PySem.Value.str (Str.ofString "_ExceptionTableEntryBase") (@OfNat.ofNat @Nat (nat_lit 337) (@instOfNatNat (nat_lit 337))))) (@List.cons (@Option @PySem.Value) (@Option.some @PySem.Value (@PySem.Value.str (Str.ofString "_ExceptionTableEntryBase") (@OfNat.ofNat @Nat (nat_lit 345) (@instOfNatNat (nat_lit 345))))) (@List.cons (@Option @PySem.Value) (@Option.some @PySem.Value @PySem.Value.none) (@List.cons (@Option @PySem.Value) (@Option.some @PySem.Value (@PySem.Value.bool @Bool.false)) (@List.nil (@Option @PySem.Value))))))))))
noncomputable abbrev top.o_206 : Params → Obj := fun P => (@PySem.Obj.mk (@PySem.Value.type "staticmethod") (@Option.none @Nat) (@PySem.Data.fields (@List.toArray @PySem.Value (@List.cons @PySem.Value (@PySem.Value.ref (@OfNat.ofNat @Nat (nat_lit 145) (@instOfNatNat (nat_lit 145)))) (@List.nil @PySem.Value)))) (@List.toArray (@Option @PySem.Value) (@List.nil (@Option @PySem.Value))))
noncomputable abbrev top.o_293 : Params → Obj := fun P => (@PySem.Obj.mk (@PySem.Value.type "dict") (@Option.none @Nat) (@PySem.Data.dict (@List.toArray @PySem.DictEntry (@List.cons @PySem.DictEntry (@PySem.DictEntry.mk (@PySem.PyData.keyHash P (Str.ofString "__module__")) (@PySem.Value.str (Str.ofString "__module__") (@OfNat.ofNat @Nat (nat_lit 498) (@instOfNatNat (nat_lit 498)))) (@PySem.Value.str (Str.ofString "cpy313.dis") (@OfNat.ofNat @Nat (nat_lit 251) (@instOfNatNat (nat_lit 251))))) (@List.cons @PySem.DictEntry (@PySem.DictEntry.mk (@PySem.PyData.keyHash P (Str.ofString "__firstlineno__")) (@PySem.Value.str (Str.ofString "__firstlineno__") (@OfNat.ofNat @Nat (nat_lit 502) (@instOfNatNat (nat_lit 502)))) (@PySem.Value.int (@OfNat.ofNat @Int (nat_lit 94) (@instOfNat (nat_lit 94))) (@OfNat.ofNat @Nat (nat_lit 501) (@instOfNatNat (nat_lit 501))))) (@List.cons @PySem.DictEntry (@PySem.DictEntry.mk (@PySem.PyData.keyHash P (Str.ofString "__static_attributes__")) (@PySem.Value.str (Str.ofString "__static_attributes__") (@OfNat.ofNat @Nat (nat_lit 503) (@instOfNatNat (nat_lit 503)))) (@PySem.Value.ref (@OfNat.ofNat @Nat (nat_lit 215) (@instOfNatNat (nat_lit 215))))) (@List.cons @PySem.DictEntry (@PySem.DictEntry.mk (@PySem.PyData.keyHash P (Str.ofString "__dict__")) (@PySem.Value.str (Str.ofString "__dict__") (@OfNat.ofNat @Nat (nat_lit 505) (@instOfNatNat (nat_lit 505)))) (@PySem.Value.ref (@OfNat.ofNat @Nat (nat_lit 218) (@instOfNatNat (nat_lit 218))))) (@List.cons @PySem.DictEntry (@PySem.DictEntry.mk (@PySem.PyData.keyHash P (Str.ofString "__doc__")) (@PySem.Value.str (Str.ofString "__doc__") (@OfNat.ofNat @Nat (nat_lit 506) (@instOfNatNat (nat_lit 506)))) @PySem.Value.none) (@List.nil @PySem.DictEntry))))))) (@OfNat.ofNat @Nat (nat_lit 3) (@instOfNatNat (nat_lit 3)))) (@List.toArray (@Option @PySem.Value) (@List.nil (@Option @PySem.Value))))
noncomputable abbrev top.o_294 : Params → Obj := fun P => (@PySem.Obj.mk (@PySem.Value.type "type") (@Option.none @Nat) (@PySem.Data.cls (@PySem.ClassData.mk (Str.ofString "_ExceptionTableEntry") (@List.cons @PySem.Value (@PySem.Value.ref (@OfNat.ofNat @Nat (nat_lit 204) (@instOfNatNat (nat_lit 204)))) (@List.nil @PySem.Value)) (@List.cons @PySem.Value (@PySem.Value.ref (@OfNat.ofNat @Nat (nat_lit 217) (@instOfNatNat (nat_lit 217)))) (@List.cons @PySem.Value (@PySem.Value.ref (@OfNat.ofNat @Nat (nat_lit 204) (@instOfNatNat (nat_lit 204)))) (@List.cons @PySem.Value (@PySem.Value.type "tuple") (@List.cons @PySem.Value (@PySem.Value.type "object") (@List.nil @PySem.Value))))) (@OfNat.ofNat @Nat (nat_lit 216) (@instOfNatNat (nat_lit 216))) (Str.ofString "_ExceptionTableEntry") @Bool.true (@List.nil @PySem.Str) (@List.nil @PySem.Value) @Bool.false (@Option.none @Bool) @Bool.false)) (@List.toArray (@Option @PySem.Value) (@List.cons (@Option @PySem.Value) (@Option.some @PySem.Value (@PySem.Value.ref (@OfNat.ofNat @Nat (nat_lit 208) (@instOfNatNat (nat_lit 208))))) (@List.cons (@Option @PySem.Value) (@Option.none @PySem.Value) (@List.cons (@Option @PySem.Value) (@Option.some @PySem.Value (@PySem.Value.str (Str.ofString "_ExceptionTableEntry") (@OfNat.ofNat @Nat (nat_lit 491) (@instOfNatNat (nat_lit 491))))) (@List.cons (@Option @PySem.Value) (@Option.some @PySem.Value (@PySem.Value.str (Str.ofString "_ExceptionTableEntry") (@OfNat.ofNat @Nat (nat_lit 499) (@instOfNatNat (nat_lit 499))))) (@List.cons (@Option @PySem.Value) (@Option.some @PySem.Value @PySem.Value.none) (@List.cons (@Option @PySem.Value) (@Option.some @PySem.Value (@PySem.Value.bool @Bool.false)) (@List.nil (@Option @PySem.Value))))))))))
noncomputable abbrev top.o_303 : Params → Obj := fun P => (@PySem.Obj.mk (@PySem.Value.type "code") (@Option.none @Nat) (@PySem.Data.fields (@List.toArray @PySem.Value (@List.cons @PySem.Value (@PySem.Value.str (Str.ofString "_parse_varint") (@OfNat.ofNat @Nat (nat_lit 509) (@instOfNatNat (nat_lit 509)))) (@List.cons @PySem.Value (@PySem.Value.str (Str.ofString "_parse_varint") (@OfNat.ofNat @Nat (nat_lit 510) (@instOfNatNat (nat_lit 510)))) (@List.cons @PySem.Value (@PySem.Value.str (Str.ofString "/claim/cut.py") (@OfNat.ofNat @Nat (nat_lit 511) (@instOfNatNat (nat_lit 511)))) (@List.cons @PySem.Value (@PySem.Value.int (@OfNat.ofNat @Int (nat_lit 96) (@instOfNat (nat_lit 96))) (@OfNat.ofNat @Nat (nat_lit 0) (@instOfNatNat (nat_lit 0)))) (@List.cons @PySem.Value (@PySem.Value.int (@OfNat.ofNat @Int (nat_lit 1) (@instOfNat (nat_lit 1))) (@OfNat.ofNat @Nat (nat_lit 0) (@instOfNatNat (nat_lit 0)))) (@List.cons @PySem.Value (@PySem.Value.int (@OfNat.ofNat @Int (nat_lit 0) (@instOfNat (nat_lit 0))) (@OfNat.ofNat @Nat (nat_lit 0) (@instOfNatNat (nat_lit 0)))) (@List.cons @PySem.Value (@PySem.Value.int (@OfNat.ofNat @Int (nat_lit 0) (@instOfNat (nat_lit 0))) (@OfNat.ofNat @Nat (nat_lit 0) (@instOfNatNat (nat_lit 0)))) (@List.cons @PySem.Value (@PySem.Value.int (@OfNat.ofNat @Int (nat_lit 3) (@instOfNat (nat_lit 3))) (@OfNat.ofNat @Nat (nat_lit 0) (@instOfNatNat (nat_lit 0)))) (@List.cons @PySem.Value (@PySem.Value.ref (@OfNat.ofNat @Nat (nat_lit 221) (@instOfNatNat (nat_lit 221)))) (@List.cons @PySem.Value (@PySem.Value.bool @Bool.true) (@List.cons @PySem.Value (@PySem.Value.int (@OfNat.ofNat @Int (nat_lit 181) (@instOfNat (nat_lit 181))) (@OfNat.ofNat @Nat (nat_lit 0) (@instOfNatNat (nat_lit 0)))) (@List.cons @PySem.Value (@PySem.Value.ref (@OfNat.ofNat @Nat (nat_lit 222) (@instOfNatNat (nat_lit 222)))) (@List.cons @PySem.Value @PySem.Value.none (@List.cons @PySem.Value (@PySem.Value.ref (@OfNat.ofNat @Nat (nat_lit 223) (@instOfNatNat (nat_lit 223)))) (@List.cons @PySem.Value (@PySem.Value.ref (@OfNat.ofNat @Nat (nat_lit 224) (@instOfNatNat (nat_lit 224)))) (@List.cons @PySem.Value (@PySem.Value.ref (@OfNat.ofNat @Nat (nat_lit 225) (@instOfNatNat (nat_lit 225)))) (@List.cons @PySem.Value (@PySem.Value.int (@OfNat.ofNat @Int (nat_lit 515) (@instOfNat (nat_lit 515))) (@OfNat.ofNat @Nat (nat_lit 0) (@instOfNatNat (nat_lit 0)))) (@List.cons @PySem.Value (@PySem.Value.int (@OfNat.ofNat @Int (nat_lit 96) (@instOfNat (nat_lit 96))) (@OfNat.ofNat @Nat (nat_lit 0) (@instOfNatNat (nat_lit 0)))) (@List.cons @PySem.Value (@PySem.Value.str (Str.ofString "/claim/cut.py") (@OfNat.ofNat @Nat (nat_lit 516) (@instOfNatNat (nat_lit 516)))) (@List.nil @PySem.Value)))))))))))))))))))))) (@List.toArray (@Option @PySem.Value) (@List.nil (@Option @PySem.Value))))
noncomputable def ls_304 : { x : Params → Obj // x = fun P => (@PySem.Obj.mk (@PySem.Value.type "function") (@Option.none @Nat) (@PySem.Data.func (@PySem.FuncData.mk (Str.ofString "_parse_varint") (Str.ofString "_parse_varint") la_304.1 (FuncBody.stmts lb_304.1) lc_304.1 (@OfNat.ofNat @Nat (nat_lit 3) (@instOfNatNat (nat_lit 3))) (@List.nil (@Prod @PySem.Str @Nat)) @PySem.Value.none @PySem.Value.none @PySem.Value.none (@PySem.Value.str (Str.ofString "cpy313.dis") (@OfNat.ofNat @Nat (nat_lit 251) (@instOfNatNat (nat_lit 251)))) (@Option.none @Nat) (@PySem.Value.ref (@OfNat.ofNat @Nat (nat_lit 226) (@instOfNatNat (nat_lit 226)))) @PySem.Value.none (@OfNat.ofNat @Nat (nat_lit 0) (@instOfNatNat (nat_lit 0))))) (@List.toArray (@Option @PySem.Value) (@List.nil (@Option @PySem.Value)))) } := ⟨_, by dsimp only [la_304, lb_304, lc_304]⟩
noncomputable abbrev top.o_304 : Params → Obj := ls_304.1
noncomputable abbrev top.o_310 : Params → Obj := fun P => (@PySem.Obj.mk (@PySem.Value.type "code") (@Option.none @Nat) (@PySem.Data.fields (@List.toArray @PySem.Value (@List.cons @PySem.Value (@PySem.Value.str (Str.ofString "_parse_exception_table") (@OfNat.ofNat @Nat (nat_lit 518) (@instOfNatNat (nat_lit 518)))) (@List.cons @PySem.Value (@PySem.Value.str (Str.ofString "_parse_exception_table") (@OfNat.ofNat @Nat (nat_lit 519) (@instOfNatNat (nat_lit 519)))) (@List.cons @PySem.Value (@PySem.Value.str (Str.ofString "/claim/cut.py") (@OfNat.ofNat @Nat (nat_lit 520) (@instOfNatNat (nat_lit 520)))) (@List.cons @PySem.Value (@PySem.Value.int (@OfNat.ofNat @Int (nat_lit 104) (@instOfNat (nat_lit 104))) (@OfNat.ofNat @Nat (nat_lit 0) (@instOfNatNat (nat_lit 0)))) (@List.cons @PySem.Value (@PySem.Value.int (@OfNat.ofNat @Int (nat_lit 1) (@instOfNat (nat_lit 1))) (@OfNat.ofNat @Nat (nat_lit 0) (@instOfNatNat (nat_lit 0)))) (@List.cons @PySem.Value (@PySem.Value.int (@OfNat.ofNat @Int (nat_lit 0) (@instOfNat (nat_lit 0))) (@OfNat.ofNat @Nat (nat_lit 0) (@instOfNatNat (nat_lit 0)))) (@List.cons @PySem.Value (@PySem.Value.int (@OfNat.ofNat @Int (nat_lit 0) (@instOfNat (nat_lit 0))) (@OfNat.ofNat @Nat (nat_lit 0) (@instOfNatNat (nat_lit 0)))) (@List.cons @PySem.Value (@PySem.Value.int (@OfNat.ofNat @Int (nat_lit 3) (@instOfNat (nat_lit 3))) (@OfNat.ofNat @Nat (nat_lit 0) (@instOfNatNat (nat_lit 0)))) (@List.cons @PySem.Value (@PySem.Value.ref (@OfNat.ofNat @Nat (nat_lit 228) (@instOfNatNat (nat_lit 228)))) (@List.cons @PySem.Value (@PySem.Value.bool @Bool.true) (@List.cons @PySem.Value (@PySem.Value.int (@OfNat.ofNat @Int (nat_lit 181) (@instOfNat (nat_lit 181))) (@OfNat.ofNat @Nat (nat_lit 0) (@instOfNatNat (nat_lit 0)))) (@List.cons @PySem.Value (@PySem.Value.ref (@OfNat.ofNat @Nat (nat_lit 229) (@instOfNatNat (nat_lit 229)))) (@List.cons @PySem.Value @PySem.Value.none (@List.cons @PySem.Value (@PySem.Value.ref (@OfNat.ofNat @Nat (nat_lit 230) (@instOfNatNat (nat_lit 230)))) (@List.cons @PySem.Value (@PySem.Value.ref (@OfNat.ofNat @Nat (nat_lit 231) (@instOfNatNat (nat_lit 231)))) (@List.cons @PySem.Value (@PySem.Value.ref (@OfNat.ofNat @Nat (nat_lit 232) (@instOfNatNat (nat_lit 232)))) (@List.cons @PySem.Value (@PySem.Value.int (@OfNat.ofNat @Int (nat_lit 531) (@instOfNat (nat_lit 531))) (@OfNat.ofNat @Nat (nat_lit 0) (@instOfNatNat (nat_lit 0)))) (@List.cons @PySem.Value (@PySem.Value.int (@OfNat.ofNat @Int (nat_lit 104) (@instOfNat (nat_lit 104))) (@OfNat.ofNat @Nat (nat_lit 0) (@instOfNatNat (nat_lit 0)))) (@List.cons @PySem.Value (@PySem.Value.str (Str.ofString "/claim/cut.py") (@OfNat.ofNat @Nat (nat_lit 532) (@instOfNatNat (nat_lit 532)))) (@List.nil @PySem.Value)))))))))))))))))))))) (@List.toArray (@Option @PySem.Value) (@List.nil (@Option @PySem.Value))))
noncomputable def ls_311 : { x : Params → Obj // x = fun P => (@PySem.Obj.mk (@PySem.Value.type "function") (@Option.none @Nat) (@PySem.Data.func (@PySem.FuncData.mk (Str.ofString "_parse_exception_table") (Str.ofString "_parse_exception_table") la_311.1 (FuncBody.stmts lb_311.1) lc_311.1 (@OfNat.ofNat @Nat (nat_lit 3) (@instOfNatNat (nat_lit 3))) (@List.nil (@Prod @PySem.Str @Nat)) @PySem.Value.none @PySem.Value.none @PySem.Value.none (@PySem.Value.str (Str.ofString "cpy313.dis") (@OfNat.ofNat @Nat (nat_lit 251) (@instOfNatNat (nat_lit 251)))) (@Option.none @Nat) (@PySem.Value.ref (@OfNat.ofNat @Nat (nat_lit 233) (@instOfNatNat (nat_lit 233)))) @PySem.Value.none (@OfNat.ofNat @Nat (nat_lit 0) (@instOfNatNat (nat_lit 0))))) (@List.toArray (@Option @PySem.Value) (@List.nil (@Option @PySem.Value)))) } := ⟨_, by dsimp only [la_311, lb_311, lc_311]⟩
noncomputable abbrev top.o_311 : Params → Obj := ls_311.1
noncomputable abbrev top.o_312 : Params → Obj := fun P => (@PySem.Obj.mk (@PySem.Value.type "dict") (@Option.none @Nat) (@PySem.Data.dict (@List.toArray @PySem.DictEntry (@List.cons @PySem.DictEntry (@PySem.DictEntry.mk (@PySem.PyData.keyHash P (Str.ofString "insert_final_newline")) (@PySem.Value.str (Str.ofString "insert_final_newline") (@OfNat.ofNat @Nat (nat_lit 536) (@instOfNatNat (nat_lit 536)))) (@PySem.Value.bool @Bool.true)) (@List.cons @PySem.DictEntry (@PySem.DictEntry.mk (@PySem.PyData.keyHash P (Str.ofString "colorize")) (@PySem.Value.str (Str.ofString "colorize") (@OfNat.ofNat @Nat (nat_lit 537) (@instOfNatNat (nat_lit 537)))) (@PySem.Value.bool @Bool.false)) (@List.nil @PySem.DictEntry)))) (@OfNat.ofNat @Nat (nat_lit 2) (@instOfNatNat (nat_lit 2)))) (@List.toArray (@Option @PySem.Value) (@List.nil (@Option @PySem.Value))))
noncomputable abbrev top.o_318 : Params → Obj := fun P => (@PySem.Obj.mk (@PySem.Value.type "code") (@Option.none @Nat) (@PySem.Data.fields (@List.toArray @PySem.Value (@List.cons @PySem.Value (@PySem.Value.str (Str.ofString "_format_final_exc_line") (@OfNat.ofNat @Nat (nat_lit 538) (@instOfNatNat (nat_lit 538)))) (@List.cons @PySem.Value (@PySem.Value.str (Str.ofString "_format_final_exc_line") (@OfNat.ofNat @Nat (nat_lit 539) (@instOfNatNat (nat_lit 539)))) (@List.cons @PySem.Value (@PySem.Value.str (Str.ofString "/claim/cut.py") (@OfNat.ofNat @Nat (nat_lit 540) (@instOfNatNat (nat_lit 540)))) (@List.cons @PySem.Value (@PySem.Value.int (@OfNat.ofNat @Int (nat_lit 120) (@instOfNat (nat_lit 120))) (@OfNat.ofNat @Nat (nat_lit 0) (@instOfNatNat (nat_lit 0)))) (@List.cons @PySem.Value (@PySem.Value.int (@OfNat.ofNat @Int (nat_lit 2) (@instOfNat (nat_lit 2))) (@OfNat.ofNat @Nat (nat_lit 0) (@instOfNatNat (nat_lit 0)))) (@List.cons @PySem.Value (@PySem.Value.int (@OfNat.ofNat @Int (nat_lit 0) (@instOfNat (nat_lit 0))) (@OfNat.ofNat @Nat (nat_lit 0) (@instOfNatNat (nat_lit 0)))) (@List.cons @PySem.Value (@PySem.Value.int (@OfNat.ofNat @Int (nat_lit 2) (@instOfNat (nat_lit 2))) (@OfNat.ofNat @Nat (nat_lit 0) (@instOfNatNat (nat_lit 0)))) (@List.cons @PySem.Value (@PySem.Value.int (@OfNat.ofNat @Int (nat_lit 3) (@instOfNat (nat_lit 3))) (@OfNat.ofNat @Nat (nat_lit 0) (@instOfNatNat (nat_lit 0)))) (@List.cons @PySem.Value (@PySem.Value.ref (@OfNat.ofNat @Nat (nat_lit 236) (@instOfNatNat (nat_lit 236)))) (@List.cons @PySem.Value (@PySem.Value.bool @Bool.true) (@List.cons @PySem.Value (@PySem.Value.int (@OfNat.ofNat @Int (nat_lit 181) (@instOfNat (nat_lit 181))) (@OfNat.ofNat @Nat (nat_lit 0) (@instOfNatNat (nat_lit 0)))) (@List.cons @PySem.Value (@PySem.Value.ref (@OfNat.ofNat @Nat (nat_lit 237) (@instOfNatNat (nat_lit 237)))) (@List.cons @PySem.Value @PySem.Value.none (@List.cons @PySem.Value (@PySem.Value.ref (@OfNat.ofNat @Nat (nat_lit 238) (@instOfNatNat (nat_lit 238)))) (@List.cons @PySem.Value (@PySem.Value.ref (@OfNat.ofNat @Nat (nat_lit 239) (@instOfNatNat (nat_lit 239)))) (@List.cons @PySem.Value (@PySem.Value.ref (@OfNat.ofNat @Nat (nat_lit 240) (@instOfNatNat (nat_lit 240)))) (@List.cons @PySem.Value (@PySem.Value.int (@OfNat.ofNat @Int (nat_lit 548) (@instOfNat (nat_lit 548))) (@OfNat.ofNat @Nat (nat_lit 0) (@instOfNatNat (nat_lit 0)))) (@List.cons @PySem.Value (@PySem.Value.int (@OfNat.ofNat @Int (nat_lit 120) (@instOfNat (nat_lit 120))) (@OfNat.ofNat @Nat (nat_lit 0) (@instOfNatNat (nat_lit 0)))) (@List.cons @PySem.Value (@PySem.Value.str (Str.ofString "/claim/cut.py") (@OfNat.ofNat @Nat (nat_lit 549) (@instOfNatNat (nat_lit 549)))) (@List.nil @PySem.Value)))))))))))))))))))))) (@List.toArray (@Option @PySem.Value) (@List.nil (@Option @PySem.Value))))
noncomputable def ls_319 : { x : Params → Obj // x = fun P => (@PySem.Obj.mk (@PySem.Value.type "function") (@Option.none @Nat) (@PySem.Data.func (@PySem.FuncData.mk (Str.ofString "_format_final_exc_line") (Str.ofString "_format_final_exc_line") la_319.1 (FuncBody.stmts lb_319.1) lc_319.1 (@OfNat.ofNat @Nat (nat_lit 3) (@instOfNatNat (nat_lit 3))) (@List.nil (@Prod @PySem.Str @Nat)) @PySem.Value.none (@PySem.Value.ref (@OfNat.ofNat @Nat (nat_lit 235) (@instOfNatNat (nat_lit 235)))) @PySem.Value.none (@PySem.Value.str (Str.ofString "cpy313.traceback") (@OfNat.ofNat @Nat (nat_lit 534) (@instOfNatNat (nat_lit 534)))) (@Option.none @Nat) (@PySem.Value.ref (@OfNat.ofNat @Nat (nat_lit 241) (@instOfNatNat (nat_lit 241)))) @PySem.Value.none (@OfNat.ofNat @Nat (nat_lit 0) (@instOfNatNat (nat_lit 0))))) (@List.toArray (@Option @PySem.Value) (@List.nil (@Option @PySem.Value)))) } := ⟨_, by dsimp only [la_319, lb_319, lc_319]⟩
noncomputable abbrev top.o_319 : Params → Obj := ls_319.1
noncomputable abbrev top.o_320 : Params → Obj := fun P => (@PySem.Obj.mk (@PySem.Value.type "tuple") (@Option.none @Nat) (@PySem.Data.seq (@List.toArray @PySem.Value (@List.cons @PySem.Value (@PySem.Value.type "str") (@List.nil @PySem.Value))) (@OfNat.ofNat @Nat (nat_lit 0) (@instOfNatNat (nat_lit 0)))) (@List.toArray (@Option @PySem.Value) (@List.nil (@Option @PySem.Value))))
noncomputable abbrev top.o_326 : Params → Obj := fun P => (@PySem.Obj.mk (@PySem.Value.type "code") (@Option.none @Nat) (@PySem.Data.fields (@List.toArray @PySem.Value (@List.cons @PySem.Value (@PySem.Value.str (Str.ofString "_safe_string") (@OfNat.ofNat @Nat (nat_lit 551) (@instOfNatNat (nat_lit 551)))) (@List.cons @PySem.Value (@PySem.Value.str (Str.ofString "_safe_string") (@OfNat.ofNat @Nat (nat_lit 552) (@instOfNatNat (nat_lit 552)))) (@List.cons @PySem.Value (@PySem.Value.str (Str.ofString "/claim/cut.py") (@OfNat.ofNat @Nat (nat_lit 553) (@instOfNatNat (nat_lit 553)))) (@List.cons @PySem.Value (@PySem.Value.int (@OfNat.ofNat @Int (nat_lit 133) (@instOfNat (nat_lit 133))) (@OfNat.ofNat @Nat (nat_lit 0) (@instOfNatNat (nat_lit 0)))) (@List.cons @PySem.Value (@PySem.Value.int (@OfNat.ofNat @Int (nat_lit 3) (@instOfNat (nat_lit 3))) (@OfNat.ofNat @Nat (nat_lit 0) (@instOfNatNat (nat_lit 0)))) (@List.cons @PySem.Value (@PySem.Value.int (@OfNat.ofNat @Int (nat_lit 0) (@instOfNat (nat_lit 0))) (@OfNat.ofNat @Nat (nat_lit 0) (@instOfNatNat (nat_lit 0)))) (@List.cons @PySem.Value (@PySem.Value.int (@OfNat.ofNat @Int (nat_lit 0) (@instOfNat (nat_lit 0))) (@OfNat.ofNat @Nat (nat_lit 0) (@instOfNatNat (nat_lit 0)))) (@List.cons @PySem.Value (@PySem.Value.int (@OfNat.ofNat @Int (nat_lit 3) (@instOfNat (nat_lit 3))) (@OfNat.ofNat @Nat (nat_lit 0) (@instOfNatNat (nat_lit 0)))) (@List.cons @PySem.Value (@PySem.Value.ref (@OfNat.ofNat @Nat (nat_lit 244) (@instOfNatNat (nat_lit 244)))) (@List.cons @PySem.Value (@PySem.Value.bool @Bool.true) (@List.cons @PySem.Value (@PySem.Value.int (@OfNat.ofNat @Int (nat_lit 181) (@instOfNat (nat_lit 181))) (@OfNat.ofNat @Nat (nat_lit 0) (@instOfNatNat (nat_lit 0)))) (@List.cons @PySem.Value (@PySem.Value.ref (@OfNat.ofNat @Nat (nat_lit 245) (@instOfNatNat (nat_lit 245)))) (@List.cons @PySem.Value @PySem.Value.none (@List.cons @PySem.Value (@PySem.Value.ref (@OfNat.ofNat @Nat (nat_lit 246) (@instOfNatNat (nat_lit 246)))) (@List.cons @PySem.Value (@PySem.Value.ref (@OfNat.ofNat @Nat (nat_lit 247) (@instOfNatNat (nat_lit 247)))) (@List.cons @PySem.Value (@PySem.Value.ref (@OfNat.ofNat @Nat (nat_lit 248) (@instOfNatNat (nat_lit 248)))) (@List.cons @PySem.Value (@PySem.Value.int (@OfNat.ofNat @Int (nat_lit 557) (@instOfNat (nat_lit 557))) (@OfNat.ofNat @Nat (nat_lit 0) (@instOfNatNat (nat_lit 0)))) (@List.cons @PySem.Value (@PySem.Value.int (@OfNat.ofNat @Int (nat_lit 133) (@instOfNat (nat_lit 133))) (@OfNat.ofNat @Nat (nat_lit 0) (@instOfNatNat (nat_lit 0)))) (@List.cons @PySem.Value (@PySem.Value.str (Str.ofString "/claim/cut.py") (@OfNat.ofNat @Nat (nat_lit 558) (@instOfNatNat (nat_lit 558)))) (@List.nil @PySem.Value)))))))))))))))))))))) (@List.toArray (@Option @PySem.Value) (@List.nil (@Option @PySem.Value))))
noncomputable def ls_327 : { x : Params → Obj // x = fun P => (@PySem.Obj.mk (@PySem.Value.type "function") (@Option.none @Nat) (@PySem.Data.func (@PySem.FuncData.mk (Str.ofString "_safe_string") (Str.ofString "_safe_string") la_327.1 (FuncBody.stmts lb_327.1) lc_327.1 (@OfNat.ofNat @Nat (nat_lit 3) (@instOfNatNat (nat_lit 3))) (@List.nil (@Prod @PySem.Str @Nat)) (@PySem.Value.ref (@OfNat.ofNat @Nat (nat_lit 243) (@instOfNatNat (nat_lit 243)))) @PySem.Value.none @PySem.Value.none (@PySem.Value.str (Str.ofString "cpy313.traceback") (@OfNat.ofNat @Nat (nat_lit 534) (@instOfNatNat (nat_lit 534)))) (@Option.none @Nat) (@PySem.Value.ref (@OfNat.ofNat @Nat (nat_lit 249) (@instOfNatNat (nat_lit 249)))) @PySem.Value.none (@OfNat.ofNat @Nat (nat_lit 0) (@instOfNatNat (nat_lit 0))))) (@List.toArray (@Option @PySem.Value) (@List.nil (@Option @PySem.Value)))) } := ⟨_, by dsimp only [la_327, lb_327, lc_327]⟩
noncomputable abbrev top.o_327 : Params → Obj := ls_327.1
noncomputable abbrev top.o_336 : Params → Obj := fun P => (@PySem.Obj.mk (@PySem.Value.type "code") (@Option.none @Nat) (@PySem.Data.fields (@List.toArray @PySem.Value (@List.cons @PySem.Value (@PySem.Value.str (Str.ofString "_law_octets") (@OfNat.ofNat @Nat (nat_lit 562) (@instOfNatNat (nat_lit 562)))) (@List.cons @PySem.Value (@PySem.Value.str (Str.ofString "_law_octets") (@OfNat.ofNat @Nat (nat_lit 563) (@instOfNatNat (nat_lit 563)))) (@List.cons @PySem.Value (@PySem.Value.str (Str.ofString "/claim/cut.py") (@OfNat.ofNat @Nat (nat_lit 564) (@instOfNatNat (nat_lit 564)))) (@List.cons @PySem.Value (@PySem.Value.int (@OfNat.ofNat @Int (nat_lit 139) (@instOfNat (nat_lit 139))) (@OfNat.ofNat @Nat (nat_lit 0) (@instOfNatNat (nat_lit 0)))) (@List.cons @PySem.Value (@PySem.Value.int (@OfNat.ofNat @Int (nat_lit 1) (@instOfNat (nat_lit 1))) (@OfNat.ofNat @Nat (nat_lit 0) (@instOfNatNat (nat_lit 0)))) (@List.cons @PySem.Value (@PySem.Value.int (@OfNat.ofNat @Int (nat_lit 0) (@instOfNat (nat_lit 0))) (@OfNat.ofNat @Nat (nat_lit 0) (@instOfNatNat (nat_lit 0)))) (@List.cons @PySem.Value (@PySem.Value.int (@OfNat.ofNat @Int (nat_lit 0) (@instOfNat (nat_lit 0))) (@OfNat.ofNat @Nat (nat_lit 0) (@instOfNatNat (nat_lit 0)))) (@List.cons @PySem.Value (@PySem.Value.int (@OfNat.ofNat @Int (nat_lit 3) (@instOfNat (nat_lit 3))) (@OfNat.ofNat @Nat (nat_lit 0) (@instOfNatNat (nat_lit 0)))) (@List.cons @PySem.Value (@PySem.Value.ref (@OfNat.ofNat @Nat (nat_lit 251) (@instOfNatNat (nat_lit 251)))) (@List.cons @PySem.Value (@PySem.Value.bool @Bool.true) (@List.cons @PySem.Value (@PySem.Value.int (@OfNat.ofNat @Int (nat_lit 181) (@instOfNat (nat_lit 181))) (@OfNat.ofNat @Nat (nat_lit 0) (@instOfNatNat (nat_lit 0)))) (@List.cons @PySem.Value (@PySem.Value.ref (@OfNat.ofNat @Nat (nat_lit 252) (@instOfNatNat (nat_lit 252)))) (@List.cons @PySem.Value @PySem.Value.none (@List.cons @PySem.Value (@PySem.Value.ref (@OfNat.ofNat @Nat (nat_lit 253) (@instOfNatNat (nat_lit 253)))) (@List.cons @PySem.Value (@PySem.Value.ref (@OfNat.ofNat @Nat (nat_lit 254) (@instOfNatNat (nat_lit 254)))) (@List.cons @PySem.Value (@PySem.Value.ref (@OfNat.ofNat @Nat (nat_lit 255) (@instOfNatNat (nat_lit 255)))) (@List.cons @PySem.Value (@PySem.Value.int (@OfNat.ofNat @Int (nat_lit 569) (@instOfNat (nat_lit 569))) (@OfNat.ofNat @Nat (nat_lit 0) (@instOfNatNat (nat_lit 0)))) (@List.cons @PySem.Value (@PySem.Value.int (@OfNat.ofNat @Int (nat_lit 139) (@instOfNat (nat_lit 139))) (@OfNat.ofNat @Nat (nat_lit 0) (@instOfNatNat (nat_lit 0)))) (@List.cons @PySem.Value (@PySem.Value.str (Str.ofString "/claim/cut.py") (@OfNat.ofNat @Nat (nat_lit 570) (@instOfNatNat (nat_lit 570)))) (@List.nil @PySem.Value)))))))))))))))))))))) (@List.toArray (@Option @PySem.Value) (@List.nil (@Option @PySem.Value))))
noncomputable def ls_337 : { x : Params → Obj // x = fun P => (@PySem.Obj.mk (@PySem.Value.type "function") (@Option.none @Nat) (@PySem.Data.func (@PySem.FuncData.mk (Str.ofString "_law_octets") (Str.ofString "_law_octets") la_337.1 (FuncBody.stmts lb_337.1) lc_337.1 (@OfNat.ofNat @Nat (nat_lit 3) (@instOfNatNat (nat_lit 3))) (@List.nil (@Prod @PySem.Str @Nat)) @PySem.Value.none @PySem.Value.none @PySem.Value.none (@PySem.Value.str (Str.ofString "law_kl0476_01") (@OfNat.ofNat @Nat (nat_lit 560) (@instOfNatNat (nat_lit 560)))) (@Option.none @Nat) (@PySem.Value.ref (@OfNat.ofNat @Nat (nat_lit 256) (@instOfNatNat (nat_lit 256)))) @PySem.Value.none (@OfNat.ofNat @Nat (nat_lit 0) (@instOfNatNat (nat_lit 0))))) (@List.toArray (@Option @PySem.Value) (@List.nil (@Option @PySem.Value)))) } := ⟨_, by dsimp only [la_337, lb_337, lc_337]⟩
noncomputable abbrev top.o_337 : Params → Obj := ls_337.1
noncomputable abbrev top.o_343 : Params → Obj := fun P => (@PySem.Obj.mk (@PySem.Value.type "code") (@Option.none @Nat) (@PySem.Data.fields (@List.toArray @PySem.Value (@List.cons @PySem.Value (@PySem.Value.str (Str.ofString "_law_entries") (@OfNat.ofNat @Nat (nat_lit 572) (@instOfNatNat (nat_lit 572)))) (@List.cons @PySem.Value (@PySem.Value.str (Str.ofString "_law_entries") (@OfNat.ofNat @Nat (nat_lit 573) (@instOfNatNat (nat_lit 573)))) (@List.cons @PySem.Value (@PySem.Value.str (Str.ofString "/claim/cut.py") (@OfNat.ofNat @Nat (nat_lit 574) (@instOfNatNat (nat_lit 574)))) (@List.cons @PySem.Value (@PySem.Value.int (@OfNat.ofNat @Int (nat_lit 149) (@instOfNat (nat_lit 149))) (@OfNat.ofNat @Nat (nat_lit 0) (@instOfNatNat (nat_lit 0)))) (@List.cons @PySem.Value (@PySem.Value.int (@OfNat.ofNat @Int (nat_lit 1) (@instOfNat (nat_lit 1))) (@OfNat.ofNat @Nat (nat_lit 0) (@instOfNatNat (nat_lit 0)))) (@List.cons @PySem.Value (@PySem.Value.int (@OfNat.ofNat @Int (nat_lit 0) (@instOfNat (nat_lit 0))) (@OfNat.ofNat @Nat (nat_lit 0) (@instOfNatNat (nat_lit 0)))) (@List.cons @PySem.Value (@PySem.Value.int (@OfNat.ofNat @Int (nat_lit 0) (@instOfNat (nat_lit 0))) (@OfNat.ofNat @Nat (nat_lit 0) (@instOfNatNat (nat_lit 0)))) (@List.cons @PySem.Value (@PySem.Value.int (@OfNat.ofNat @Int (nat_lit 3) (@instOfNat (nat_lit 3))) (@OfNat.ofNat @Nat (nat_lit 0) (@instOfNatNat (nat_lit 0)))) (@List.cons @PySem.Value (@PySem.Value.ref (@OfNat.ofNat @Nat (nat_lit 258) (@instOfNatNat (nat_lit 258)))) (@List.cons @PySem.Value (@PySem.Value.bool @Bool.true) (@List.cons @PySem.Value (@PySem.Value.int (@OfNat.ofNat @Int (nat_lit 181) (@instOfNat (nat_lit 181))) (@OfNat.ofNat @Nat (nat_lit 0) (@instOfNatNat (nat_lit 0)))) (@List.cons @PySem.Value (@PySem.Value.ref (@OfNat.ofNat @Nat (nat_lit 259) (@instOfNatNat (nat_lit 259)))) (@List.cons @PySem.Value @PySem.Value.none (@List.cons @PySem.Value (@PySem.Value.ref (@OfNat.ofNat @Nat (nat_lit 260) (@instOfNatNat (nat_lit 260)))) (@List.cons @PySem.Value (@PySem.Value.ref (@OfNat.ofNat @Nat (nat_lit 261) (@instOfNatNat (nat_lit 261)))) (@List.cons @PySem.Value (@PySem.Value.ref (@OfNat.ofNat @Nat (nat_lit 262) (@instOfNatNat (nat_lit 262)))) (@List.cons @PySem.Value (@PySem.Value.int (@OfNat.ofNat @Int (nat_lit 577) (@instOfNat (nat_lit 577))) (@OfNat.ofNat @Nat (nat_lit 0) (@instOfNatNat (nat_lit 0)))) (@List.cons @PySem.Value (@PySem.Value.int (@OfNat.ofNat @Int (nat_lit 149) (@instOfNat (nat_lit 149))) (@OfNat.ofNat @Nat (nat_lit 0) (@instOfNatNat (nat_lit 0)))) (@List.cons @PySem.Value (@PySem.Value.str (Str.ofString "/claim/cut.py") (@OfNat.ofNat @Nat (nat_lit 578) (@instOfNatNat (nat_lit 578)))) (@List.nil @PySem.Value)))))))))))))))))))))) (@List.toArray (@Option @PySem.Value) (@List.nil (@Option @PySem.Value))))
noncomputable def ls_344 : { x : Params → Obj // x = fun P => (@PySem.Obj.mk (@PySem.Value.type "function") (@Option.none @Nat) (@PySem.Data.func (@PySem.FuncData.mk (Str.ofString "_law_entries") (Str.ofString "_law_entries") la_344.1 (FuncBody.stmts lb_344.1) lc_344.1 (@OfNat.ofNat @Nat (nat_lit 3) (@instOfNatNat (nat_lit 3))) (@List.nil (@Prod @PySem.Str @Nat)) @PySem.Value.none @PySem.Value.none @PySem.Value.none (@PySem.Value.str (Str.ofString "law_kl0476_01") (@OfNat.ofNat @Nat (nat_lit 560) (@instOfNatNat (nat_lit 560)))) (@Option.none @Nat) (@PySem.Value.ref (@OfNat.ofNat @Nat (nat_lit 263) (@instOfNatNat (nat_lit 263)))) @PySem.Value.none (@OfNat.ofNat @Nat (nat_lit 0) (@instOfNatNat (nat_lit 0))))) (@List.toArray (@Option @PySem.Value) (@List.nil (@Option @PySem.Value)))) } := ⟨_, by dsimp only [la_344, lb_344, lc_344]⟩
noncomputable abbrev top.o_344 : Params → Obj := ls_344.1
noncomputable abbrev top.o_350 : Params → Obj := fun P => (@PySem.Obj.mk (@PySem.Value.type "code") (@Option.none @Nat) (@PySem.Data.fields (@List.toArray @PySem.Value (@List.cons @PySem.Value (@PySem.Value.str (Str.ofString "_law_word") (@OfNat.ofNat @Nat (nat_lit 580) (@instOfNatNat (nat_lit 580)))) (@List.cons @PySem.Value (@PySem.Value.str (Str.ofString "_law_word") (@OfNat.ofNat @Nat (nat_lit 581) (@instOfNatNat (nat_lit 581)))) (@List.cons @PySem.Value (@PySem.Value.str (Str.ofString "/claim/cut.py") (@OfNat.ofNat @Nat (nat_lit 582) (@instOfNatNat (nat_lit 582)))) (@List.cons @PySem.Value (@PySem.Value.int (@OfNat.ofNat @Int (nat_lit 153) (@instOfNat (nat_lit 153))) (@OfNat.ofNat @Nat (nat_lit 0) (@instOfNatNat (nat_lit 0)))) (@List.cons @PySem.Value (@PySem.Value.int (@OfNat.ofNat @Int (nat_lit 1) (@instOfNat (nat_lit 1))) (@OfNat.ofNat @Nat (nat_lit 0) (@instOfNatNat (nat_lit 0)))) (@List.cons @PySem.Value (@PySem.Value.int (@OfNat.ofNat @Int (nat_lit 0) (@instOfNat (nat_lit 0))) (@OfNat.ofNat @Nat (nat_lit 0) (@instOfNatNat (nat_lit 0)))) (@List.cons @PySem.Value (@PySem.Value.int (@OfNat.ofNat @Int (nat_lit 0) (@instOfNat (nat_lit 0))) (@OfNat.ofNat @Nat (nat_lit 0) (@instOfNatNat (nat_lit 0)))) (@List.cons @PySem.Value (@PySem.Value.int (@OfNat.ofNat @Int (nat_lit 3) (@instOfNat (nat_lit 3))) (@OfNat.ofNat @Nat (nat_lit 0) (@instOfNatNat (nat_lit 0)))) (@List.cons @PySem.Value (@PySem.Value.ref (@OfNat.ofNat @Nat (nat_lit 265) (@instOfNatNat (nat_lit 265)))) (@List.cons @PySem.Value (@PySem.Value.bool @Bool.true) (@List.cons @PySem.Value (@PySem.Value.int (@OfNat.ofNat @Int (nat_lit 181) (@instOfNat (nat_lit 181))) (@OfNat.ofNat @Nat (nat_lit 0) (@instOfNatNat (nat_lit 0)))) (@List.cons @PySem.Value (@PySem.Value.ref (@OfNat.ofNat @Nat (nat_lit 266) (@instOfNatNat (nat_lit 266)))) (@List.cons @PySem.Value @PySem.Value.none (@List.cons @PySem.Value (@PySem.Value.ref (@OfNat.ofNat @Nat (nat_lit 267) (@instOfNatNat (nat_lit 267)))) (@List.cons @PySem.Value (@PySem.Value.ref (@OfNat.ofNat @Nat (nat_lit 268) (@instOfNatNat (nat_lit 268)))) (@List.cons @PySem.Value (@PySem.Value.ref (@OfNat.ofNat @Nat (nat_lit 269) (@instOfNatNat (nat_lit 269)))) (@List.cons @PySem.Value (@PySem.Value.int (@OfNat.ofNat @Int (nat_lit 585) (@instOfNat (nat_lit 585))) (@OfNat.ofNat @Nat (nat_lit 0) (@instOfNatNat (nat_lit 0)))) (@List.cons @PySem.Value (@PySem.Value.int (@OfNat.ofNat @Int (nat_lit 153) (@instOfNat (nat_lit 153))) (@OfNat.ofNat @Nat (nat_lit 0) (@instOfNatNat (nat_lit 0)))) (@List.cons @PySem.Value (@PySem.Value.str (Str.ofString "/claim/cut.py") (@OfNat.ofNat @Nat (nat_lit 586) (@instOfNatNat (nat_lit 586)))) (@List.nil @PySem.Value)))))))))))))))))))))) (@List.toArray (@Option @PySem.Value) (@List.nil (@Option @PySem.Value))))
noncomputable def ls_351 : { x : Params → Obj // x = fun P => (@PySem.Obj.mk (@PySem.Value.type "function") (@Option.none @Nat) (@PySem.Data.func (@PySem.FuncData.mk (Str.ofString "_law_word") (Str.ofString "_law_word") la_351.1 (FuncBody.stmts lb_351.1) lc_351.1 (@OfNat.ofNat @Nat (nat_lit 3) (@instOfNatNat (nat_lit 3))) (@List.nil (@Prod @PySem.Str @Nat)) @PySem.Value.none @PySem.Value.none @PySem.Value.none (@PySem.Value.str (Str.ofString "law_kl0476_01") (@OfNat.ofNat @Nat (nat_lit 560) (@instOfNatNat (nat_lit 560)))) (@Option.none @Nat) (@PySem.Value.ref (@OfNat.ofNat @Nat (nat_lit 270) (@instOfNatNat (nat_lit 270)))) @PySem.Value.none (@OfNat.ofNat @Nat (nat_lit 0) (@instOfNatNat (nat_lit 0))))) (@List.toArray (@Option @PySem.Value) (@List.nil (@Option @PySem.Value)))) } := ⟨_, by dsimp only [la_351, lb_351, lc_351]⟩
noncomputable abbrev top.o_351 : Params → Obj := ls_351.1
noncomputable abbrev top.o_357 : Params → Obj := fun P => (@PySem.Obj.mk (@PySem.Value.type "code") (@Option.none @Nat) (@PySem.Data.fields (@List.toArray @PySem.Value (@List.cons @PySem.Value (@PySem.Value.str (Str.ofString "_law_written") (@OfNat.ofNat @Nat (nat_lit 588) (@instOfNatNat (nat_lit 588)))) (@List.cons @PySem.Value (@PySem.Value.str (Str.ofString "_law_written") (@OfNat.ofNat @Nat (nat_lit 589) (@instOfNatNat (nat_lit 589)))) (@List.cons @PySem.Value (@PySem.Value.str (Str.ofString "/claim/cut.py") (@OfNat.ofNat @Nat (nat_lit 590) (@instOfNatNat (nat_lit 590)))) (@List.cons @PySem.Value (@PySem.Value.int (@OfNat.ofNat @Int (nat_lit 159) (@instOfNat (nat_lit 159))) (@OfNat.ofNat @Nat (nat_lit 0) (@instOfNatNat (nat_lit 0)))) (@List.cons @PySem.Value (@PySem.Value.int (@OfNat.ofNat @Int (nat_lit 1) (@instOfNat (nat_lit 1))) (@OfNat.ofNat @Nat (nat_lit 0) (@instOfNatNat (nat_lit 0)))) (@List.cons @PySem.Value (@PySem.Value.int (@OfNat.ofNat @Int (nat_lit 0) (@instOfNat (nat_lit 0))) (@OfNat.ofNat @Nat (nat_lit 0) (@instOfNatNat (nat_lit 0)))) (@List.cons @PySem.Value (@PySem.Value.int (@OfNat.ofNat @Int (nat_lit 0) (@instOfNat (nat_lit 0))) (@OfNat.ofNat @Nat (nat_lit 0) (@instOfNatNat (nat_lit 0)))) (@List.cons @PySem.Value (@PySem.Value.int (@OfNat.ofNat @Int (nat_lit 3) (@instOfNat (nat_lit 3))) (@OfNat.ofNat @Nat (nat_lit 0) (@instOfNatNat (nat_lit 0)))) (@List.cons @PySem.Value (@PySem.Value.ref (@OfNat.ofNat @Nat (nat_lit 272) (@instOfNatNat (nat_lit 272)))) (@List.cons @PySem.Value (@PySem.Value.bool @Bool.true) (@List.cons @PySem.Value (@PySem.Value.int (@OfNat.ofNat @Int (nat_lit 181) (@instOfNat (nat_lit 181))) (@OfNat.ofNat @Nat (nat_lit 0) (@instOfNatNat (nat_lit 0)))) (@List.cons @PySem.Value (@PySem.Value.ref (@OfNat.ofNat @Nat (nat_lit 273) (@instOfNatNat (nat_lit 273)))) (@List.cons @PySem.Value @PySem.Value.none (@List.cons @PySem.Value (@PySem.Value.ref (@OfNat.ofNat @Nat (nat_lit 274) (@instOfNatNat (nat_lit 274)))) (@List.cons @PySem.Value (@PySem.Value.ref (@OfNat.ofNat @Nat (nat_lit 275) (@instOfNatNat (nat_lit 275)))) (@List.cons @PySem.Value (@PySem.Value.ref (@OfNat.ofNat @Nat (nat_lit 276) (@instOfNatNat (nat_lit 276)))) (@List.cons @PySem.Value (@PySem.Value.int (@OfNat.ofNat @Int (nat_lit 596) (@instOfNat (nat_lit 596))) (@OfNat.ofNat @Nat (nat_lit 0) (@instOfNatNat (nat_lit 0)))) (@List.cons @PySem.Value (@PySem.Value.int (@OfNat.ofNat @Int (nat_lit 159) (@instOfNat (nat_lit 159))) (@OfNat.ofNat @Nat (nat_lit 0) (@instOfNatNat (nat_lit 0)))) (@List.cons @PySem.Value (@PySem.Value.str (Str.ofString "/claim/cut.py") (@OfNat.ofNat @Nat (nat_lit 597) (@instOfNatNat (nat_lit 597)))) (@List.nil @PySem.Value)))))))))))))))))))))) (@List.toArray (@Option @PySem.Value) (@List.nil (@Option @PySem.Value))))
noncomputable def ls_358 : { x : Params → Obj // x = fun P => (@PySem.Obj.mk (@PySem.Value.type "function") (@Option.none @Nat) (@PySem.Data.func (@PySem.FuncData.mk (Str.ofString "_law_written") (Str.ofString "_law_written") la_358.1 (FuncBody.stmts lb_358.1) lc_358.1 (@OfNat.ofNat @Nat (nat_lit 3) (@instOfNatNat (nat_lit 3))) (@List.nil (@Prod @PySem.Str @Nat)) @PySem.Value.none @PySem.Value.none @PySem.Value.none (@PySem.Value.str (Str.ofString "law_kl0476_01") (@OfNat.ofNat @Nat (nat_lit 560) (@instOfNatNat (nat_lit 560)))) (@Option.none @Nat) (@PySem.Value.ref (@OfNat.ofNat @Nat (nat_lit 277) (@instOfNatNat (nat_lit 277)))) @PySem.Value.none (@OfNat.ofNat @Nat (nat_lit 0) (@instOfNatNat (nat_lit 0))))) (@List.toArray (@Option @PySem.Value) (@List.nil (@Option @PySem.Value)))) } := ⟨_, by dsimp only [la_358, lb_358, lc_358]⟩
noncomputable abbrev top.o_358 : Params → Obj := ls_358.1
noncomputable abbrev top.o_362 : Params → Obj := fun P => (@PySem.Obj.mk (@PySem.Value.type "code") (@Option.none @Nat) (@PySem.Data.fields (@List.toArray @PySem.Value (@List.cons @PySem.Value (@PySem.Value.str (Str.ofString "_law_read") (@OfNat.ofNat @Nat (nat_lit 599) (@instOfNatNat (nat_lit 599)))) (@List.cons @PySem.Value (@PySem.Value.str (Str.ofString "_law_read") (@OfNat.ofNat @Nat (nat_lit 600) (@instOfNatNat (nat_lit 600)))) (@List.cons @PySem.Value (@PySem.Value.str (Str.ofString "/claim/cut.py") (@OfNat.ofNat @Nat (nat_lit 601) (@instOfNatNat (nat_lit 601)))) (@List.cons @PySem.Value (@PySem.Value.int (@OfNat.ofNat @Int (nat_lit 169) (@instOfNat (nat_lit 169))) (@OfNat.ofNat @Nat (nat_lit 0) (@instOfNatNat (nat_lit 0)))) (@List.cons @PySem.Value (@PySem.Value.int (@OfNat.ofNat @Int (nat_lit 1) (@instOfNat (nat_lit 1))) (@OfNat.ofNat @Nat (nat_lit 0) (@instOfNatNat (nat_lit 0)))) (@List.cons @PySem.Value (@PySem.Value.int (@OfNat.ofNat @Int (nat_lit 0) (@instOfNat (nat_lit 0))) (@OfNat.ofNat @Nat (nat_lit 0) (@instOfNatNat (nat_lit 0)))) (@List.cons @PySem.Value (@PySem.Value.int (@OfNat.ofNat @Int (nat_lit 0) (@instOfNat (nat_lit 0))) (@OfNat.ofNat @Nat (nat_lit 0) (@instOfNatNat (nat_lit 0)))) (@List.cons @PySem.Value (@PySem.Value.int (@OfNat.ofNat @Int (nat_lit 3) (@instOfNat (nat_lit 3))) (@OfNat.ofNat @Nat (nat_lit 0) (@instOfNatNat (nat_lit 0)))) (@List.cons @PySem.Value (@PySem.Value.ref (@OfNat.ofNat @Nat (nat_lit 279) (@instOfNatNat (nat_lit 279)))) (@List.cons @PySem.Value (@PySem.Value.bool @Bool.true) (@List.cons @PySem.Value (@PySem.Value.int (@OfNat.ofNat @Int (nat_lit 181) (@instOfNat (nat_lit 181))) (@OfNat.ofNat @Nat (nat_lit 0) (@instOfNatNat (nat_lit 0)))) (@List.cons @PySem.Value (@PySem.Value.ref (@OfNat.ofNat @Nat (nat_lit 280) (@instOfNatNat (nat_lit 280)))) (@List.cons @PySem.Value @PySem.Value.none (@List.cons @PySem.Value @PySem.Value.none (@List.cons @PySem.Value @PySem.Value.none (@List.cons @PySem.Value (@PySem.Value.ref (@OfNat.ofNat @Nat (nat_lit 281) (@instOfNatNat (nat_lit 281)))) (@List.cons @PySem.Value (@PySem.Value.int (@OfNat.ofNat @Int (nat_lit 602) (@instOfNat (nat_lit 602))) (@OfNat.ofNat @Nat (nat_lit 0) (@instOfNatNat (nat_lit 0)))) (@List.cons @PySem.Value (@PySem.Value.int (@OfNat.ofNat @Int (nat_lit 169) (@instOfNat (nat_lit 169))) (@OfNat.ofNat @Nat (nat_lit 0) (@instOfNatNat (nat_lit 0)))) (@List.cons @PySem.Value (@PySem.Value.str (Str.ofString "/claim/cut.py") (@OfNat.ofNat @Nat (nat_lit 603) (@instOfNatNat (nat_lit 603)))) (@List.nil @PySem.Value)))))))))))))))))))))) (@List.toArray (@Option @PySem.Value) (@List.nil (@Option @PySem.Value))))
noncomputable def ls_363 : { x : Params → Obj // x = fun P => (@PySem.Obj.mk (@PySem.Value.type "function") (@Option.none @Nat) (@PySem.Data.func (@PySem.FuncData.mk (Str.ofString "_law_read") (Str.ofString "_law_read") la_363.1 (FuncBody.stmts lb_363.1) lc_363.1 (@OfNat.ofNat @Nat (nat_lit 3) (@instOfNatNat (nat_lit 3))) (@List.nil (@Prod @PySem.Str @Nat)) @PySem.Value.none @PySem.Value.none @PySem.Value.none (@PySem.Value.str (Str.ofString "law_kl0476_01") (@OfNat.ofNat @Nat (nat_lit 560) (@instOfNatNat (nat_lit 560)))) (@Option.none @Nat) (@PySem.Value.ref (@OfNat.ofNat @Nat (nat_lit 282) (@instOfNatNat (nat_lit 282)))) @PySem.Value.none (@OfNat.ofNat @Nat (nat_lit 0) (@instOfNatNat (nat_lit 0))))) (@List.toArray (@Option @PySem.Value) (@List.nil (@Option @PySem.Value)))) } := ⟨_, by dsimp only [la_363, lb_363, lc_363]⟩
noncomputable abbrev top.o_363 : Params → Obj := ls_363.1
noncomputable abbrev top.o_367 : Params → Obj := fun P => (@PySem.Obj.mk (@PySem.Value.type "code") (@Option.none @Nat) (@PySem.Data.fields (@List.toArray @PySem.Value (@List.cons @PySem.Value (@PySem.Value.str (Str.ofString "law") (@OfNat.ofNat @Nat (nat_lit 605) (@instOfNatNat (nat_lit 605)))) (@List.cons @PySem.Value (@PySem.Value.str (Str.ofString "law") (@OfNat.ofNat @Nat (nat_lit 606) (@instOfNatNat (nat_lit 606)))) (@List.cons @PySem.Value (@PySem.Value.str (Str.ofString "/claim/cut.py") (@OfNat.ofNat @Nat (nat_lit 607) (@instOfNatNat (nat_lit 607)))) (@List.cons @PySem.Value (@PySem.Value.int (@OfNat.ofNat @Int (nat_lit 175) (@instOfNat (nat_lit 175))) (@OfNat.ofNat @Nat (nat_lit 0) (@instOfNatNat (nat_lit 0)))) (@List.cons @PySem.Value (@PySem.Value.int (@OfNat.ofNat @Int (nat_lit 1) (@instOfNat (nat_lit 1))) (@OfNat.ofNat @Nat (nat_lit 0) (@instOfNatNat (nat_lit 0)))) (@List.cons @PySem.Value (@PySem.Value.int (@OfNat.ofNat @Int (nat_lit 0) (@instOfNat (nat_lit 0))) (@OfNat.ofNat @Nat (nat_lit 0) (@instOfNatNat (nat_lit 0)))) (@List.cons @PySem.Value (@PySem.Value.int (@OfNat.ofNat @Int (nat_lit 0) (@instOfNat (nat_lit 0))) (@OfNat.ofNat @Nat (nat_lit 0) (@instOfNatNat (nat_lit 0)))) (@List.cons @PySem.Value (@PySem.Value.int (@OfNat.ofNat @Int (nat_lit 3) (@instOfNat (nat_lit 3))) (@OfNat.ofNat @Nat (nat_lit 0) (@instOfNatNat (nat_lit 0)))) (@List.cons @PySem.Value (@PySem.Value.ref (@OfNat.ofNat @Nat (nat_lit 284) (@instOfNatNat (nat_lit 284)))) (@List.cons @PySem.Value (@PySem.Value.bool @Bool.true) (@List.cons @PySem.Value (@PySem.Value.int (@OfNat.ofNat @Int (nat_lit 181) (@instOfNat (nat_lit 181))) (@OfNat.ofNat @Nat (nat_lit 0) (@instOfNatNat (nat_lit 0)))) (@List.cons @PySem.Value (@PySem.Value.ref (@OfNat.ofNat @Nat (nat_lit 285) (@instOfNatNat (nat_lit 285)))) (@List.cons @PySem.Value @PySem.Value.none (@List.cons @PySem.Value @PySem.Value.none (@List.cons @PySem.Value @PySem.Value.none (@List.cons @PySem.Value (@PySem.Value.ref (@OfNat.ofNat @Nat (nat_lit 286) (@instOfNatNat (nat_lit 286)))) (@List.cons @PySem.Value (@PySem.Value.int (@OfNat.ofNat @Int (nat_lit 608) (@instOfNat (nat_lit 608))) (@OfNat.ofNat @Nat (nat_lit 0) (@instOfNatNat (nat_lit 0)))) (@List.cons @PySem.Value (@PySem.Value.int (@OfNat.ofNat @Int (nat_lit 175) (@instOfNat (nat_lit 175))) (@OfNat.ofNat @Nat (nat_lit 0) (@instOfNatNat (nat_lit 0)))) (@List.cons @PySem.Value (@PySem.Value.str (Str.ofString "/claim/cut.py") (@OfNat.ofNat @Nat (nat_lit 609) (@instOfNatNat (nat_lit 609)))) (@List.nil @PySem.Value)))))))))))))))))))))) (@List.toArray (@Option @PySem.Value) (@List.nil (@Option @PySem.Value))))
noncomputable def ls_368 : { x : Params → Obj // x = fun P => (@PySem.Obj.mk (@PySem.Value.type "function") (@Option.none @Nat) (@PySem.Data.func (@PySem.FuncData.mk (Str.ofString "law") (Str.ofString "law") la_368.1 (FuncBody.stmts lb_368.1) lc_368.1 (@OfNat.ofNat @Nat (nat_lit 3) (@instOfNatNat (nat_lit 3))) (@List.nil (@Prod @PySem.Str @Nat)) @PySem.Value.none @PySem.Value.none @PySem.Value.none (@PySem.Value.str (Str.ofString "law_kl0476_01") (@OfNat.ofNat @Nat (nat_lit 560) (@instOfNatNat (nat_lit 560)))) (@Option.none @Nat) (@PySem.Value.ref (@OfNat.ofNat @Nat (nat_lit 287) (@instOfNatNat (nat_lit 287)))) @PySem.Value.none (@OfNat.ofNat @Nat (nat_lit 0) (@instOfNatNat (nat_lit 0))))) (@List.toArray (@Option @PySem.Value) (@List.nil (@Option @PySem.Value)))) } := ⟨_, by dsimp only [la_368, lb_368, lc_368]⟩
noncomputable abbrev top.o_368 : Params → Obj := ls_368.1
end
end Mine
namespace Mine
section
open PySem PySem.W PyProof.Rows PySem.Spec PySem.Calls
noncomputable def K : Params → Frag := fun P =>
  (nat_lit 2, boot_o_2 P) ::
  (nat_lit 3, top.o_329 P) ::
  (nat_lit 27, top.o_19 P) ::
  (nat_lit 28, top.o_20 P) ::
  (nat_lit 34, top.o_26 P) ::
  (nat_lit 35, top.o_27 P) ::
  (nat_lit 41, top.o_33 P) ::
  (nat_lit 42, top.o_34 P) ::
  (nat_lit 48, top.o_40 P) ::
  (nat_lit 49, top.o_41 P) ::
  (nat_lit 55, top.o_47 P) ::
  (nat_lit 56, top.o_48 P) ::
  (nat_lit 62, top.o_54 P) ::
  (nat_lit 63, top.o_55 P) ::
  (nat_lit 122, top.o_120 P) ::
  (nat_lit 123, top.o_121 P) ::
  (nat_lit 144, top.o_145 P) ::
  (nat_lit 145, top.o_146 P) ::
  (nat_lit 203, top.o_204 P) ::
  (nat_lit 204, top.o_284 P) ::
  (nat_lit 205, top.o_206 P) ::
  (nat_lit 216, top.o_293 P) ::
  (nat_lit 217, top.o_294 P) ::
  (nat_lit 226, top.o_303 P) ::
  (nat_lit 227, top.o_304 P) ::
  (nat_lit 233, top.o_310 P) ::
  (nat_lit 234, top.o_311 P) ::
  (nat_lit 235, top.o_312 P) ::
  (nat_lit 241, top.o_318 P) ::
  (nat_lit 242, top.o_319 P) ::
  (nat_lit 243, top.o_320 P) ::
  (nat_lit 249, top.o_326 P) ::
  (nat_lit 250, top.o_327 P) ::
  (nat_lit 256, top.o_336 P) ::
  (nat_lit 257, top.o_337 P) ::
  (nat_lit 263, top.o_343 P) ::
  (nat_lit 264, top.o_344 P) ::
  (nat_lit 270, top.o_350 P) ::
  (nat_lit 271, top.o_351 P) ::
  (nat_lit 277, top.o_357 P) ::
  (nat_lit 278, top.o_358 P) ::
  (nat_lit 282, top.o_362 P) ::
  (nat_lit 283, top.o_363 P) ::
  (nat_lit 287, top.o_367 P) ::
  (nat_lit 288, top.o_368 P) :: []
noncomputable abbrev KA : List Addr := [2, 3, 27, 28, 34, 35, 41, 42, 48, 49, 55, 56, 62, 63, 122, 123, 144, 145, 203, 204, 205, 216, 217, 226, 227, 233, 234, 235, 241, 242, 243, 249, 250, 256, 257, 263, 264, 270, 271, 277, 278, 282, 283, 287, 288]
theorem kas : ∀ P, KA = (K P).map (·.1) := fun _ => by kernel_rfl
noncomputable def Fill (_ : Params → Frag) (_ : OpenLaw) : Prop := True
theorem fill : Fill K Challenge.rw_kl0476_01 := by
  k_fill
  exact trivial
end
end Mine
namespace Mine
section
open PySem PySem.W PyProof.Rows
set_option maxRecDepth 100000
set_option maxHeartbeats 8000000
noncomputable def fillT : BT → Nat → List Obj → Option (BT × Nat)
  | T, n, [] => some (T, n)
  | T, n, o :: l => match ((T.ins n o).get n).isSome with
    | true => fillT (T.ins n o) (n + 1) l
    | false => none
theorem fillT_abs {life : Life} : ∀ (l : List Obj) (T : BT) (n : Nat) (T' : BT) (n' : Nat), fillT T n l = some (T', n') → (absHeap T' n' life) = ⟨(absHeap T n life).objs ++ l.toArray, life⟩
  | [], T, n, T', n', h => by
    obtain ⟨rfl, rfl⟩ : T = T' ∧ n = n' := by simpa [fillT] using h
    simp [absHeap]
  | o :: l, T, n, T', n', h => by
    unfold fillT at h
    cases e : ((T.ins n o).get n).isSome with
    | false => rw [e] at h; cases h
    | true =>
      rw [e] at h
      rw [fillT_abs l _ _ _ _ h, absHeap_ins e]
      show Heap.mk _ _ = Heap.mk _ _
      congr 1
      simp [Heap.push]
noncomputable def runT (ok : Thread → Bool) (stp : SharedT → Thread → Option (SharedT × Thread)) (n : Nat) : SharedT → Thread → Option SharedT :=
  @Nat.rec (fun _ => SharedT → Thread → Option SharedT) (fun _ _ => none)
    (fun _ ih s t => @Bool.rec (fun _ => Option SharedT) (@Bool.rec (fun _ => Option SharedT) none (@Option.rec (SharedT × Thread) (fun _ => Option SharedT) none (fun r => @Prod.rec SharedT Thread (fun _ => Option SharedT) (fun s' t' => ih s' t') r) (stp s t)) (ok t)) (some s) (through t)) n
theorem runT_succ {ok stp n s t} : runT ok stp (n + 1) s t = match through t with
    | true => some s
    | false => match ok t with
      | false => none
      | true => match stp s t with
        | some (s', t') => runT ok stp n s' t'
        | none => none := by
  show @Bool.rec (fun _ => Option SharedT) _ _ _ = _
  cases through t with
  | true => rfl
  | false => cases ok t with
    | false => rfl
    | true => cases h : stp s t with
      | none => rfl
      | some r => rfl
theorem runT_of {tb : String → Option Builtin} {p : Program} {w : World} {n₀ : Nat} {ann : Option Value} : ∀ {n : Nat} {s s' : SharedT} {t : Thread}, runT (stepOk n₀ ann) (stepT (denote tb) p w) n s t = some s' → topRun tb p w n₀ ann n s.abs t = some s'.abs
  | 0, _, _, _, h => by cases h
  | n + 1, s, s', t, h => by
    rw [runT_succ] at h
    unfold topRun
    cases he : through t with
    | true => rw [he] at h; cases h; rfl
    | false =>
      rw [he] at h
      cases hk : stepOk n₀ ann t with
      | false => rw [hk] at h; cases h
      | true =>
        rw [hk] at h
        cases hs : stepT (denote tb) p w s t with
        | none => rw [hs] at h; cases h
        | some r => obtain ⟨s₂, t₂⟩ := r; rw [hs] at h; rw [stepT_spec hs]; exact runT_of h
theorem left_tree {p q : Program} {loose : List Str} {Xt : Shared → Bool} {α : Type} {Yf : Shared → α} {Ya : World → α} {N : Nat} {g0 : Bool}
    (h : ∀ w : World, ((fencedOpening treeTable p w N).bind fun s₀ => match s₀.heap.isNs mainGlobals && s₀.gens.size == 0 with
      | true => (fillT .nil 0 s₀.heap.objs.toList).bind fun T =>
        ((runT (stepOk s₀.heap.objs.size (s₀.heap.nsMap mainGlobals "__annotations__")) (stepT (denote treeTable) p w) N ⟨T.1, T.2, s₀.heap.life, s₀.gens, s₀.drawn, s₀.toks, s₀.os⟩ (topStub p)).map SharedT.abs).bind fun s₁ =>
          match staticsOk (importedModules p.main.body) s₀.heap s₁.heap && namesBound p s₁.heap && gensDone s₁ && laidKept s₀.heap s₁.heap with
          | true => some (openSeen q loose (importedModules p.main.body) Xt g0 s₁, Yf s₁)
          | false => none
      | false => none) = some (openGood q loose, Ya w)) : LeftO p q loose Xt Yf Ya N g0 := fun w => by
  obtain ⟨s₀, e, h⟩ := Option.bind_eq_some_iff.mp (h w)
  unfold openEnds
  rw [e]
  show (topFrom treeTable p w N s₀).map _ = _
  unfold topFrom
  cases hg : (s₀.heap.isNs mainGlobals && s₀.gens.size == 0) with
  | false => rw [hg] at h; cases h
  | true =>
    rw [hg] at h
    obtain ⟨⟨T, n⟩, eT, h⟩ := Option.bind_eq_some_iff.mp h
    obtain ⟨s₁, e₁, h⟩ := Option.bind_eq_some_iff.mp h
    obtain ⟨t₁, e₂, rfl⟩ := Option.map_eq_some_iff.mp e₁
    have r := runT_of e₂
    have eh : absHeap T n s₀.heap.life = s₀.heap := by
      rw [fillT_abs _ _ _ _ _ eT]
      show Heap.mk _ _ = _
      have : (absHeap BT.nil 0 s₀.heap.life).objs = #[] := rfl
      rw [this, Array.empty_append]
    have es : SharedT.abs ⟨T, n, s₀.heap.life, s₀.gens, s₀.drawn, s₀.toks, s₀.os⟩ = s₀ := by
      show Shared.mk (absHeap T n s₀.heap.life) _ _ _ _ = _
      rw [eh]
    rw [es] at r
    rw [r]
    dsimp only at h ⊢
    show Option.map _ (match _ with | true => some t₁.abs | false => none) = _
    cases hs : (staticsOk (importedModules p.main.body) s₀.heap t₁.abs.heap && namesBound p t₁.abs.heap && gensDone t₁.abs && laidKept s₀.heap t₁.abs.heap) with
    | false => rw [hs] at h; cases h
    | true => rw [hs] at h; exact h
noncomputable def st_0 : { s : Stmt // s = sAt Challenge.pw_kl0476_01.main.body 0 } := ⟨_, by conv => { rhs; whnf }⟩
noncomputable def st_2 : { s : Stmt // s = sAt Challenge.pw_kl0476_01.main.body 2 } := ⟨_, by conv => { rhs; whnf }⟩
noncomputable def st_3 : { s : Stmt // s = sAt Challenge.pw_kl0476_01.main.body 3 } := ⟨_, by conv => { rhs; whnf }⟩
noncomputable def st_4 : { s : Stmt // s = sAt Challenge.pw_kl0476_01.main.body 4 } := ⟨_, by conv => { rhs; whnf }⟩
noncomputable def st_5 : { s : Stmt // s = sAt Challenge.pw_kl0476_01.main.body 5 } := ⟨_, by conv => { rhs; whnf }⟩
noncomputable def st_6 : { s : Stmt // s = sAt Challenge.pw_kl0476_01.main.body 6 } := ⟨_, by conv => { rhs; whnf }⟩
noncomputable def st_7 : { s : Stmt // s = sAt Challenge.pw_kl0476_01.main.body 7 } := ⟨_, by conv => { rhs; whnf }⟩
noncomputable def st_9 : { s : Stmt // s = sAt Challenge.pw_kl0476_01.main.body 9 } := ⟨_, by conv => { rhs; whnf }⟩
noncomputable def st_10 : { s : Stmt // s = sAt Challenge.pw_kl0476_01.main.body 10 } := ⟨_, by conv => { rhs; whnf }⟩
noncomputable def st_11 : { s : Stmt // s = sAt Challenge.pw_kl0476_01.main.body 11 } := ⟨_, by conv => { rhs; whnf }⟩
noncomputable def st_12 : { s : Stmt // s = sAt Challenge.pw_kl0476_01.main.body 12 } := ⟨_, by conv => { rhs; whnf }⟩
noncomputable def st_13 : { s : Stmt // s = sAt Challenge.pw_kl0476_01.main.body 13 } := ⟨_, by conv => { rhs; whnf }⟩
noncomputable def st_14 : { s : Stmt // s = sAt Challenge.pw_kl0476_01.main.body 14 } := ⟨_, by conv => { rhs; whnf }⟩
noncomputable def st_19 : { s : Stmt // s = sAt Challenge.pw_kl0476_01.main.body 19 } := ⟨_, by conv => { rhs; whnf }⟩
noncomputable def st_20 : { s : Stmt // s = sAt Challenge.pw_kl0476_01.main.body 20 } := ⟨_, by conv => { rhs; whnf }⟩
noncomputable def st_21 : { s : Stmt // s = sAt Challenge.pw_kl0476_01.main.body 21 } := ⟨_, by conv => { rhs; whnf }⟩
noncomputable def st_22 : { s : Stmt // s = sAt Challenge.pw_kl0476_01.main.body 22 } := ⟨_, by conv => { rhs; whnf }⟩
noncomputable def st_23 : { s : Stmt // s = sAt Challenge.pw_kl0476_01.main.body 23 } := ⟨_, by conv => { rhs; whnf }⟩
noncomputable def st_24 : { s : Stmt // s = sAt Challenge.pw_kl0476_01.main.body 24 } := ⟨_, by conv => { rhs; whnf; zeta }⟩
noncomputable def lawVS : { p : Program // p = { Challenge.pw_kl0476_01 with main := { Challenge.pw_kl0476_01.main with body := [st_0.1, st_2.1, st_3.1, st_4.1, st_5.1, st_6.1, st_7.1, st_9.1, st_10.1, st_11.1, st_12.1, st_13.1, st_14.1, st_19.1, st_20.1, st_21.1, st_22.1, st_23.1, st_24.1] } } } := ⟨_, by dsimp only [st_0, st_2, st_3, st_4, st_5, st_6, st_7, st_9, st_10, st_11, st_12, st_13, st_14, st_19, st_20, st_21, st_22, st_23, st_24]⟩
noncomputable def lawV : Program := lawVS.1
noncomputable abbrev lawLO : List Str := [Str.ofString "_tuplegetter", Str.ofString "_ExceptionTableEntryBase", Str.ofString "_format_final_exc_line", Str.ofString "_safe_string"]
theorem lawSaid : Challenge.rw_kl0476_01.wellSaid = true := by
  rw [PySem.W.Fast.te9446332074065402090]
  kernel_rfl
theorem lawLeft : LeftO Challenge.pw_kl0476_01 lawV lawLO (fun s => xlAt lawV [] s && recOk [] s) (Hook.obs (kHook K KA kas)) (Hook.val (kHook K KA kas)) 5490 := by
  refine left_tree fun w => ?_
  unfold fencedOpening openSeen openGood xlAt
  rw [PySem.W.Fast.te14364793385576792824, PySem.W.Fast.te8920871248978507458, PySem.W.Fast.te5923862056798008813, PySem.W.Fast.te10274390034422433532, PySem.W.Fast.te1435165496053646825, PySem.W.Fast.te14289696077712309145, PySem.W.Fast.te5160383126252970620,
      PySem.W.Fast.te3399658132070893891, PySem.W.Fast.te5991557255702980513, PySem.W.Fast.te10880121769531294198, PySem.W.Fast.te821141287760084731, PySem.W.Fast.te7409074990110511671, PySem.W.Fast.te13664370479719496447, PySem.W.Fast.te14722251495701143533,
      PySem.W.Fast.te10994771534591457954, PySem.W.Fast.te479339242167458305, PySem.W.Fast.te16090120013241838585, PySem.W.Fast.te3247288618530077131, PySem.W.Fast.te2386780881361962483, PySem.W.Fast.te11698064438423848299, PySem.W.Fast.te7317090234206586261,
      PySem.W.Fast.te7369524293546568484, PySem.W.Fast.te964301259703733418, PySem.W.Fast.te10156331382660048174, PySem.W.Fast.te11892475500146522536, PySem.W.Fast.te6613529449190102663]
  kernel_rfl
end
end Mine
namespace Mine
section
open PySem PySem.W PyProof.Rows PySem.Spec PySem.Calls
noncomputable abbrev Prg := Challenge.pw_kl0476_01
/-- what a call does: it ends with a value v and objects of its own (P v own); nothing else is changed -/
noncomputable def Ctr (w : World) (f : Addr) (vs : List Value) (kw : List (Str × Value)) (news : CbLed) (d : Nat) (P : Value → CbLed → Prop) : Prop :=
  ∀ (V : Program) (LO : List Str) (mean : ExcName → Option Value) (mg mb : Str → Option Value) (dp un : Nat) (gd : Option (List Code)) (cn : Str) (cs : Scope) (a : Addr) (ccd : Value) (cl : List (Str × Addr)) (outer : List Env) (A₀ : Around) (base h₀ : Heap) (L : Addr) (m : Str → Option Value) (s : Shared) (Q E : Value → Shared → Prop),
    Below A₀ base outer h₀ → Fr h₀ L s.heap m → (K w.params).In h₀ → News h₀ L s.heap news → Top V LO mean mg mb h₀ → cs.kind = .function →
    dp + d < recursionLimit → un + 8 * d < cLine →
    (∀ v own h' tk', P v own → (∀ p ∈ own, ∀ q ∈ news, q.1 < p.1) → Fr h₀ L h' m → News h₀ L h' (own ++ news) → Q v { s with heap := h', toks := tk' }) →
      wpAny (model Prg w) (ktrTop dp un gd cn cs L a ccd cl outer) (call (.ref f) vs kw) Q E s
/-- what follows, by a short name (a proof's text stays small) -/
theorem wp_hide {α : Type} {M : Model} {A : Around} {t : Sem α} {Q : α → Shared → Prop} {E : Value → Shared → Prop} {s : Shared}
    (h : ∀ (Q' : α → Shared → Prop) (E' : Value → Shared → Prop), (∀ v s', Q v s' → Q' v s') → (∀ v s', E v s' → E' v s') → wpAny M A t Q' E' s) : wpAny M A t Q E s :=
  h Q E (fun _ _ x => x) (fun _ _ x => x)
theorem wp_hideQ {α : Type} {M : Model} {A : Around} {t : Sem α} {Q : α → Shared → Prop} {E : Value → Shared → Prop} {s : Shared}
    (h : ∀ (Q' : α → Shared → Prop), (∀ v s', Q v s' → Q' v s') → wpAny M A t Q' E s) : wpAny M A t Q E s := h Q (fun _ _ x => x)
theorem wp_hideP {α : Type} {prog : Program} {w : World} {A : Around} {env : Env} {t : Sem α} {Q : α → Shared → Prop} {E : Value → Shared → Prop} {s : Shared}
    (h : ∀ (Q' : α → Shared → Prop) (E' : Value → Shared → Prop), (∀ v s', Q v s' → Q' v s') → (∀ v s', E v s' → E' v s') → PassesOwn (model prog w) (A.deeper env) env E' → wpAny (model prog w) (A.deeper env) t Q' E' s)
    (hE : PassesOwn (model prog w) (A.deeper env) env E := by first | assumption | passes_own) : wpAny (model prog w) (A.deeper env) t Q E s :=
  h Q E (fun _ _ x => x) (fun _ _ x => x) hE
/-- an int comes back -/
noncomputable def RI (x : Int) (v : Value) (own : CbLed) : Prop := own = [] ∧ ∃ t, v = .int x t
noncomputable def RS (x : Str) (v : Value) (own : CbLed) : Prop := own = [] ∧ ∃ t, v = .str x t

theorem Ctr.retI {h₀ h' : Heap} {L : Addr} {m : Str → Option Value} {news news' : CbLed} {s : Shared} {Q : Value → Shared → Prop} {x y : Int} {t : Tok} {tk' : Nat}
    (hret : ∀ v own h' tk', RI x v own → (∀ p ∈ own, ∀ q ∈ news, q.1 < p.1) → Fr h₀ L h' m → News h₀ L h' (own ++ news) → Q v { s with heap := h', toks := tk' })
    (e : y = x) (F : Fr h₀ L h' m) (N : News h₀ L h' news') (hs : ∀ p ∈ news, p ∈ news') : Q (.int y t) { s with heap := h', toks := tk' } :=
  hret _ [] h' tk' ⟨rfl, t, by rw [e]⟩ (fun _ hp => nomatch hp) F (fun p hp => N p (hs p hp))
theorem Ctr.retS {h₀ h' : Heap} {L : Addr} {m : Str → Option Value} {news news' : CbLed} {s : Shared} {Q : Value → Shared → Prop} {x y : Str} {t : Tok} {tk' : Nat}
    (hret : ∀ v own h' tk', RS x v own → (∀ p ∈ own, ∀ q ∈ news, q.1 < p.1) → Fr h₀ L h' m → News h₀ L h' (own ++ news) → Q v { s with heap := h', toks := tk' })
    (e : y = x) (F : Fr h₀ L h' m) (N : News h₀ L h' news') (hs : ∀ p ∈ news, p ∈ news') : Q (.str y t) { s with heap := h', toks := tk' } :=
  hret _ [] h' tk' ⟨rfl, t, by rw [e]⟩ (fun _ hp => nomatch hp) F (fun p hp => N p (hs p hp))
section
variable {w : World} {f : Addr} {vs : List Value} {kw : List (Str × Value)} {news : CbLed} {d : Nat} {P : Value → CbLed → Prop} {V : Program} {LO : List Str} {mean : ExcName → Option Value} {mg mb : Str → Option Value} {dp un : Nat} {gd : Option (List Code)} {cn : Str} {cs : Scope} {a : Addr} {ccd : Value} {cl : List (Str × Addr)} {outer : List Env} {A₀ : Around} {base h₀ : Heap} {L : Addr} {m : Str → Option Value} {s : Shared} {Q E : Value → Shared → Prop}
theorem Ctr.use (C : Ctr w f vs kw news d P) (B : Below A₀ base outer h₀) (F : Fr h₀ L s.heap m) (X : (K w.params).In h₀) (N : News h₀ L s.heap news) (T : Top V LO mean mg mb h₀) (hk : cs.kind = .function)
    (hd : dp + d < recursionLimit) (hu : un + 8 * d < cLine)
    (h : ∀ v own h' tk', P v own → (∀ p ∈ own, ∀ q ∈ news, q.1 < p.1) → Fr h₀ L h' m → News h₀ L h' (own ++ news) → Q v { s with heap := h', toks := tk' }) :
    wpAny (model Prg w) (ktrTop dp un gd cn cs L a ccd cl outer) (call (.ref f) vs kw) Q E s :=
  C _ _ _ _ _ _ _ _ _ _ _ _ _ _ _ _ _ _ _ _ _ _ B F X N T hk hd hu h
theorem Ctr.useI {x : Int} (C : Ctr w f vs kw news d (RI x)) (B : Below A₀ base outer h₀) (F : Fr h₀ L s.heap m) (X : (K w.params).In h₀) (N : News h₀ L s.heap news) (T : Top V LO mean mg mb h₀) (hk : cs.kind = .function)
    (hd : dp + d < recursionLimit) (hu : un + 8 * d < cLine)
    (h : ∀ t h' tk', Fr h₀ L h' m → News h₀ L h' news → Q (.int x t) { s with heap := h', toks := tk' }) :
    wpAny (model Prg w) (ktrTop dp un gd cn cs L a ccd cl outer) (call (.ref f) vs kw) Q E s :=
  C.use B F X N T hk hd hu fun v own h' tk' hP _ F' N' => by obtain ⟨rfl, t, rfl⟩ := hP; exact h t h' tk' F' N'
theorem Ctr.useS {x : Str} (C : Ctr w f vs kw news d (RS x)) (B : Below A₀ base outer h₀) (F : Fr h₀ L s.heap m) (X : (K w.params).In h₀) (N : News h₀ L s.heap news) (T : Top V LO mean mg mb h₀) (hk : cs.kind = .function)
    (hd : dp + d < recursionLimit) (hu : un + 8 * d < cLine)
    (h : ∀ t h' tk', Fr h₀ L h' m → News h₀ L h' news → Q (.str x t) { s with heap := h', toks := tk' }) :
    wpAny (model Prg w) (ktrTop dp un gd cn cs L a ccd cl outer) (call (.ref f) vs kw) Q E s :=
  C.use B F X N T hk hd hu fun v own h' tk' hP _ F' N' => by obtain ⟨rfl, t, rfl⟩ := hP; exact h t h' tk' F' N'
end
end
end Mine
namespace Mine
section
open PySem PySem.W PyProof.Rows PySem.Spec PySem.Calls
set_option maxRecDepth 100000
set_option maxHeartbeats 8000000
variable (w : World)

theorem c_add (x y : Int) (tx ty : Tok) (news : CbLed) : Ctr w 28 [.int x tx, .int y ty] [] news 1 (RI (x + y)) := by
  intro V LO mean mg mb dp un gd cn cs a ccd cl outer A₀ base h₀ L m s Q E B F X N T hk hd hu hret
  refine wpAny_call ?_
  cell_enter
  k_steps
  all_goals exact Ctr.retI hret rfl (by assumption) (by assumption) (fun _ h => h)

theorem c_sub (x y : Int) (tx ty : Tok) (news : CbLed) : Ctr w 56 [.int x tx, .int y ty] [] news 1 (RI (x - y)) := by
  intro V LO mean mg mb dp un gd cn cs a ccd cl outer A₀ base h₀ L m s Q E B F X N T hk hd hu hret
  refine wpAny_call ?_
  cell_enter
  k_steps
  all_goals exact Ctr.retI hret rfl (by assumption) (by assumption) (fun _ h => h)

theorem c_mod (x y : Int) (tx ty : Tok) (news : CbLed) (hy : y ≠ 0) : Ctr w 42 [.int x tx, .int y ty] [] news 1 (RI (x.fmod y)) := by
  intro V LO mean mg mb dp un gd cn cs a ccd cl outer A₀ base h₀ L m s Q E B F X N T hk hd hu hret
  refine wpAny_call ?_
  cell_enter
  k_steps
  all_goals exact Ctr.retI hret rfl (by assumption) (by assumption) (fun _ h => h)

local macro_rules | `(tactic| walk_at "binaryOp FloorDiv int int") => `(tactic| (k_here; refine floordiv_int (by assumption) ?_ (Or.inl (PyProof.noPylong_of_log2 (by assumption)))))
theorem c_floordiv (x y : Int) (tx ty : Tok) (news : CbLed) (hy : y ≠ 0) (hl : y.natAbs.log2 < 9000) : Ctr w 35 [.int x tx, .int y ty] [] news 1 (RI (x.fdiv y)) := by
  intro V LO mean mg mb dp un gd cn cs a ccd cl outer A₀ base h₀ L m s Q E B F X N T hk hd hu hret
  refine wpAny_call ?_
  cell_enter
  k_steps
  all_goals exact Ctr.retI hret rfl (by assumption) (by assumption) (fun _ h => h)

theorem c_mul (x y : Int) (tx ty : Tok) (news : CbLed) (hm : IntMulOk x y) : Ctr w 49 [.int x tx, .int y ty] [] news 1 (RI (x * y)) := by
  intro V LO mean mg mb dp un gd cn cs a ccd cl outer A₀ base h₀ L m s Q E B F X N T hk hd hu hret
  refine wpAny_call ?_
  cell_enter
  k_steps
  all_goals exact Ctr.retI hret rfl (by assumption) (by assumption) (fun _ h => h)
end
end Mine
namespace Mine
section
open PySem PySem.W PyProof.Rows PySem.Spec PySem.Calls
set_option maxRecDepth 100000
set_option maxHeartbeats 4000000
theorem ha_kind : builtinKind "hasattr" = none := by decide +kernel
theorem ha_plain : plainId "hasattr" = true := by decide +kernel
theorem ha_entry : entryFor table "hasattr" = some Builtin.«hasattr» := entryFor_of_tree (by kernel_rfl)
theorem ha_args (a b : Value) : argsOk "hasattr" ⟨[a, b], []⟩ := by unfold argsOk; kernel_rfl
theorem ha_item : typeLookup (.type "str") "__getitem__" = pure (some (.builtin "str.__getitem__")) := by rw [typeLookup_type, builtinLookup_eq_fast]; kernel_rfl
theorem ha_wd : typeOf (.builtin "str.__getitem__") = pure (.type "wrapper_descriptor") := by kernel_rfl
theorem ha_get : typeLookup (.type "wrapper_descriptor") "__get__" = pure (some (.builtin "wrapper_descriptor.__get__")) := by rw [typeLookup_type, builtinLookup_eq_fast]; kernel_rfl
theorem ha_get_entry : entryFor table "wrapper_descriptor.__get__" = some Builtin.«wrapper_descriptor.__get__» := entryFor_of_tree (by kernel_rfl)
theorem ha_set : typeLookup (.type "wrapper_descriptor") "__set__" = pure none := by rw [typeLookup_type, builtinLookup_eq_fast]; kernel_rfl
theorem ha_del : typeLookup (.type "wrapper_descriptor") "__delete__" = pure none := by rw [typeLookup_type, builtinLookup_eq_fast]; kernel_rfl
theorem ha_slot : Slot "wrapper_descriptor" "__get__" "wrapper_descriptor.__get__" :=
  .of (owner := "wrapper_descriptor") (n := "__get__") (by rw [typeLookup_type, builtinLookup_eq_fast]; kernel_rfl) (by decide +kernel) (by decide +kernel) (by decide +kernel)
    (by first | exact .inl (by decide +kernel) | exact .inr (by decide +kernel)) (by rw [isSubtype_type]; kernel_rfl)
theorem ha_args3 (a b c : Value) : argsOk "wrapper_descriptor.__get__" ⟨[a, b, c], []⟩ := by unfold argsOk; kernel_rfl
theorem ha_own : ".".intercalate ("str.__getitem__".cutAt '.').dropLast = "str" := by decide +kernel
theorem ha_sub : isSubtype (.type "str") (.type (".".intercalate ("str.__getitem__".cutAt '.').dropLast)) = pure true := by rw [ha_own, isSubtype_type]; kernel_rfl
section
variable {prog : Program} {w : World} {A : Around} {E : Value → Shared → Prop} {s : Shared} {x : Str} {t u : Tok}
theorem ha_wget {Q : Value → Shared → Prop} (h : ∀ a o, Q (.ref a) { s with heap := s.heap.push o }) :
    wpAny (model prog w) A (call (.builtin "wrapper_descriptor.__get__") [.builtin "str.__getitem__", .str x t, .type "str"]) Q E s := by
  obtain ⟨hp, g, d, tk, os⟩ := s
  have hT : ∀ s' : Shared, s'.TypeIs (.str x t) "str" := fun _ => rfl
  have f5 := ha_wd
  have f9 := ha_sub
  refine wpAny_call_entry ha_slot rfl ha_get_entry ?_ (ha_args3 _ _ _)
  unfold Builtin.«wrapper_descriptor.__get__»
  repeat (any_goals (first | assumption | wp_step))
  exact ⟨_, rfl, h _ _⟩
theorem ha_find {Q : Builtin.ObjectAttr.Found → Shared → Prop} (h : Q (.bind (.builtin "wrapper_descriptor.__get__") (.builtin "str.__getitem__")) s) :
    wpAny (model prog w) A (Builtin.ObjectAttr.find (.str x t) (.type "str") "__getitem__") Q E s := by
  obtain ⟨hp, g, d, tk, os⟩ := s
  have f2 := ha_item
  have f5 := ha_wd
  have f6 := ha_get
  have f7 := ha_set
  have f8 := ha_del
  unfold Builtin.ObjectAttr.find
  repeat (any_goals (first | assumption | wp_step))
theorem ha_oga {Q : Value → Shared → Prop} (h : ∀ a o, Q (.ref a) { s with heap := s.heap.push o }) :
    wpAny (model prog w) A (call (.builtin "object.__getattribute__") [.str x t, .str (Str.ofString "__getitem__") u]) Q E s := by
  refine wpAny_call_entry F.slot_str_getattribute rfl F.entry_object_getattribute ?_ (F.args_object_getattribute_2 _ _)
  unfold Builtin.«object.__getattribute__»
  refine wpAny_bind (wpAny_pure ?_)
  refine wpAny_bind (wpAny_pure ?_)
  refine wpAny_bind (wpAny_typeOf (T := "str") rfl ?_)
  refine wpAny_bind (ha_find ?_)
  show wpAny _ _ (holding _ _ >>= ret) _ _ _
  exact wpAny_bind (wpAny_holding (ha_wget fun a o => wpAny_pure ⟨_, rfl, h a o⟩))
theorem ha_by {Q : Option Value → Shared → Prop} (h : ∀ a o, Q (some (.ref a)) { s with heap := s.heap.push o }) :
    wpAny (model prog w) A (getAttrBy? (.str x t) (.str (Str.ofString "__getitem__") u)) Q E s := by
  have f3 := F.slot_str_getattribute.lookup
  have f4 := F.slot_str_getattribute.bind (.str x t)
  unfold getAttrBy? getAttrBy
  refine wpAny_bind (wpAny_attempt (wpAny_holding (wpAny_bind (wpAny_typeOf (T := "str") rfl (wpAny_bind (wpAny_of_eq f3 ?_))))))
  show wpAny _ _ (getAttrByItsOwn _ _ _ _ _ _) _ _ _
  unfold getAttrByItsOwn hookBefore callGetattribute boundAndCalled
  refine wpAny_bind (wpAny_pure (wpAny_bind (wpAny_attempt (wpAny_holding ?_))))
  show wpAny _ _ (bindSpecial _ _ >>= _) _ _ _
  refine wpAny_bind (wpAny_of_eq f4 ?_)
  refine ha_oga fun a o => ?_
  show wpAny _ _ (handedOut (.ref a)) _ _ _
  rw [handedOut_of rfl]
  exact wpAny_pure (wpAny_pure (h a o))
theorem hasattr_str {Q : Value → Shared → Prop} (h : ∀ o : Obj, Q (.bool true) { s with heap := s.heap.push o }) :
    wpAny (model prog w) A (call (.builtin "hasattr") [.str x t, .str (Str.ofString "__getitem__") u]) Q E s := by
  refine Calls.call_function_entry ha_kind ha_plain ha_entry (ha_args _ _) ?_
  have f2 := ha_item
  unfold Builtin.«hasattr»
  refine wpAny_bind (wpAny_of_eq (a := [Value.str x t, Value.str (Str.ofString "__getitem__") u]) (by first | rfl | kernel_rfl) ?_)
  dsimp only
  refine wpAny_bind (wpAny_pure ?_)
  show wpAny _ _ (typeOf (.str x t) >>= _) _ _ _
  refine wpAny_bind (wpAny_typeOf (T := "str") rfl ?_)
  show wpAny _ _ (asStr? (.str (Str.ofString "__getitem__") u) >>= _) _ _ _
  refine wpAny_bind (wpAny_pure ?_)
  show wpAny _ _ (typeLookup (.type "str") (Str.ofString "__getitem__") >>= _) _ _ _
  refine wpAny_bind (wpAny_of_eq f2 ?_)
  dsimp only
  refine wpAny_bind (wpAny_of_eq F.slot_str_getattribute.lookup ?_)
  refine wpAny_ite_split (fun hab => absurd hab (by decide +kernel)) (fun _ => ?_)
  refine wpAny_bind (wpAny_pure ?_)
  refine wpAny_ite_split (fun hab => absurd hab (by decide +kernel)) (fun _ => ?_)
  refine wpAny_bind (ha_by fun a o => ?_)
  refine wpAny_ite_split (fun hab => absurd hab Bool.false_ne_true) (fun _ => ?_)
  exact wpAny_pure ⟨_, rfl, h o⟩
end
end
end Mine
namespace Mine
section
open PySem PySem.W PyProof.Rows PySem.Spec PySem.Calls
set_option maxRecDepth 100000
set_option maxHeartbeats 8000000
section
variable {prog : Program} {w : World} {A : Around} {E : Value → Shared → Prop} {s : Shared} {x : Str} {t u : Tok} {h₀ : Heap} {L : Addr} {m : Str → Option Value} {news : CbLed}
theorem hasattr_K {Q : Value → Shared → Prop} (F : Fr h₀ L s.heap m) (N : News h₀ L s.heap news) (h : ∀ h', Fr h₀ L h' m → News h₀ L h' news → Q (.bool true) { s with heap := h' }) :
    wpAny (model prog w) A (call (.builtin "hasattr") [.str x t, .str (Str.ofString "__getitem__") u]) Q E s :=
  hasattr_str fun o => h _ (F.push o) fun p hp => ⟨Heap.get?_push_of_some _ (N p hp).1, (N p hp).2⟩
end
local macro_rules | `(tactic| walk_at "call builtin:hasattr") => `(tactic| (k_here; k_dflt (refine' hasattr_K ?k1 ?k2 ?_; (case k1 => k_asm); (case k2 => k_asm); k_whole); intro h' F' N'; (try k_sweep)))
local macro_rules | `(tactic| walk_at "binaryOp Add str str") => `(tactic| (k_here; refine PyProof.Rows.add_str (fun t' tk' => ?_) (by assumption)))
local macro_rules | `(tactic| walk_at "binaryOp Mult str int") => `(tactic| (k_here; refine SB.mul (by assumption) ?_; intro t' tk'))
variable (w : World)
theorem c_concat (x y : Str) (tx ty : Tok) (news : CbLed) (hs : x.length + y.length ≤ sizeLine) : Ctr w 63 [.str x tx, .str y ty] [] news 1 (RS (x ++ y)) := by
  intro V LO mean mg mb dp un gd cn cs a ccd cl outer A₀ base h₀ L m s Q E B F X N T hk hd hu hret
  refine wpAny_call ?_
  cell_enter
  k_steps
  all_goals exact Ctr.retS hret rfl (by assumption) (by assumption) (fun _ h => h)

theorem c_mulS (x : Str) (k : Int) (tx ty : Tok) (news : CbLed) (hs : MulOk x k) : Ctr w 49 [.str x tx, .int k ty] [] news 1 (RS (Txt.mul x k)) := by
  intro V LO mean mg mb dp un gd cn cs a ccd cl outer A₀ base h₀ L m s Q E B F X N T hk hd hu hret
  refine wpAny_call ?_
  cell_enter
  k_steps
  all_goals exact Ctr.retS hret rfl (by assumption) (by assumption) (fun _ h => h)
end
end Mine
namespace Mine
section
open PySem PySem.W PyProof.Rows PySem.Spec PySem.Calls
set_option maxRecDepth 100000
set_option maxHeartbeats 8000000
noncomputable def kwEs (P : Params) : Array DictEntry := match (top.o_312 P).data with
  | .dict es _ => es
  | _ => #[]
theorem kwNs {P : Params} {h : Heap} (X : (K P).In h) : h.Ns 235 (nsFind (kwEs P)) := by
  refine ⟨top.o_312 P, kwEs P, 2, X 235 _ (by kernel_rfl), rfl, fun e he => ?_, fun _ => rfl⟩
  have he' : e ∈ (kwEs P).toList := Array.mem_toList_iff.mpr he
  rcases he' with _ | ⟨_, _ | ⟨_, he'⟩⟩
  · exact ⟨_, _, rfl⟩
  · exact ⟨_, _, rfl⟩
  · cases he'
theorem kwNl {P : Params} : nsFind (kwEs P) (Str.ofString "insert_final_newline") = some (.bool true) := by rfl
theorem kwCo {P : Params} : nsFind (kwEs P) (Str.ofString "colorize") = some (.bool false) := by rfl


noncomputable def fmtFd (P : Params) : FuncData := match (top.o_319 P).data with
  | .func f => f
  | _ => default
theorem fb2 (P : Params) (s : Shared) (X : (K P).In s.heap) (v1 v2 : Value) : BindsTo s (fmtFd P) ⟨[v1, v2], []⟩ [(Str.ofString "etype", v1), (Str.ofString "value", v2), (Str.ofString "insert_final_newline", .bool true), (Str.ofString "colorize", .bool false)] := by
  intro M A E Q hq
  have hn := kwNs X
  unfold bindArgs
  repeat (first | with_reducible refine wpAny_bind (wpAny_nsGet hn ?_) | with_reducible refine wpAny_pure ?_ | with_reducible refine wpAny_bind ?_ | ((with_reducible apply wpAny_ite_false); focus (rfl; done)) | ((with_reducible apply wpAny_ite_true); focus (rfl; done)) | wp_delta | with_reducible_and_instances refine wpAny_pure ?_ | with_reducible_and_instances refine wpAny_bind ?_)
  exact hq
theorem fb1 (P : Params) (s : Shared) (X : (K P).In s.heap) (v1 v2 : Value) : BindsTo s (fmtFd P) ⟨[v1, v2], [(Str.ofString "insert_final_newline", .bool false)]⟩ [(Str.ofString "etype", v1), (Str.ofString "value", v2), (Str.ofString "insert_final_newline", .bool false), (Str.ofString "colorize", .bool false)] := by
  intro M A E Q hq
  have hn := kwNs X
  unfold bindArgs
  repeat (first | with_reducible refine wpAny_bind (wpAny_nsGet hn ?_) | with_reducible refine wpAny_pure ?_ | with_reducible refine wpAny_bind ?_ | ((with_reducible apply wpAny_ite_false); focus (rfl; done)) | ((with_reducible apply wpAny_ite_true); focus (rfl; done)) | wp_delta | with_reducible_and_instances refine wpAny_pure ?_ | with_reducible_and_instances refine wpAny_bind ?_)
  exact hq
end
end Mine
namespace Mine
section
open PySem PySem.W PyProof.Rows PySem.Spec PySem.Calls
set_option maxRecDepth 100000
set_option maxHeartbeats 8000000
local macro_rules | `(tactic| walk_at "m_enterD") => `(tactic| (refine' code_def ?k1 ?k2 ?k3 ?k4 ?k5 ?kA ?kF ?kK ?k6 ?k7 ?k8 ?k9 ?kB ?_ ?c2 ?c3 ?c4 ?c5; (case kA => exact rfl); (case kF => exact rfl); (case kK => assumption); (case k1 => k_asm); (case k2 => k_asm); (case k3 => k_asm); (case k4 => k_asm); (case k5 => k_asm); (case k6 => k_is); (case k7 => k_is); (case k8 => ktr_room); (case k9 => exact binds_K (by k_in) rfl (by k_is) rfl rfl rfl); (case c5 => decide); (case kB => exact locs rfl); (case c2 => exact rfl); (case c3 => exact rfl); (case c4 => exact rfl); k_whole; intro g' L' h' FG' F' N' B' X' T'; (try dsimp only); (try k_lift B'); (try k_fold)))
variable (w : World)
theorem c_safeN (te : Tok) (e : Str) (news : CbLed) : Ctr w 250 [.none, .str e te] [] news 1 (RS (Str.ofString "None")) := by
  intro V LO mean mg mb dp un gd cn cs a ccd cl outer A₀ base h₀ L m s Q E B F X N T hk hd hu hret
  refine wpAny_call ?_
  walk_at "m_enterD"
  k_steps
  all_goals (try exact Ctr.retS hret rfl (by assumption) (by assumption) (fun _ h => h))
theorem c_safeS (te : Tok) (e r : Str) (tr : Tok) (news : CbLed) : Ctr w 250 [.str r tr, .str e te] [] news 1 (RS r) := by
  intro V LO mean mg mb dp un gd cn cs a ccd cl outer A₀ base h₀ L m s Q E B F X N T hk hd hu hret
  refine wpAny_call ?_
  walk_at "m_enterD"
  k_steps
  all_goals (try exact Ctr.retS hret rfl (by assumption) (by assumption) (fun _ h => h))
end
end Mine
namespace Mine
section
open PySem PySem.W PyProof.Rows PySem.Spec PySem.Calls
set_option maxRecDepth 100000
set_option maxHeartbeats 8000000
local macro_rules | `(tactic| walk_at "m_fmt2") => `(tactic| (refine' code_def ?k1 ?k2 ?k3 ?k4 ?k5 ?kA ?kF ?kK ?k6 ?k7 ?k8 ?k9 ?kB ?_ ?c2 ?c3 ?c4 ?c5; (case kA => exact rfl); (case kF => exact rfl); (case kK => assumption); (case k1 => k_asm); (case k2 => k_asm); (case k3 => k_asm); (case k4 => k_asm); (case k5 => k_asm); (case k6 => k_is); (case k7 => k_is); (case k8 => ktr_room); (case k9 => exact fb2 _ _ (Frag.In.keeps (by k_asm) (Fr.keep (by k_asm))) _ _); (case c5 => decide); (case kB => exact locs rfl); (case c2 => exact rfl); (case c3 => exact rfl); (case c4 => exact rfl); k_whole; intro g' L' h' FG' F' N' B' X' T'; (try dsimp only); (try k_lift B'); (try k_fold)))
local macro_rules | `(tactic| walk_at "m_fmt1") => `(tactic| (refine' code_def ?k1 ?k2 ?k3 ?k4 ?k5 ?kA ?kF ?kK ?k6 ?k7 ?k8 ?k9 ?kB ?_ ?c2 ?c3 ?c4 ?c5; (case kA => exact rfl); (case kF => exact rfl); (case kK => assumption); (case k1 => k_asm); (case k2 => k_asm); (case k3 => k_asm); (case k4 => k_asm); (case k5 => k_asm); (case k6 => k_is); (case k7 => k_is); (case k8 => ktr_room); (case k9 => exact fb1 _ _ (Frag.In.keeps (by k_asm) (Fr.keep (by k_asm))) _ _); (case c5 => decide); (case kB => exact locs rfl); (case c2 => exact rfl); (case c3 => exact rfl); (case c4 => exact rfl); k_whole; intro g' L' h' FG' F' N' B' X' T'; (try dsimp only); (try k_lift B'); (try k_fold)))
-- a contract used at a call: the premises by what is at hand
local macro_rules | `(tactic| walk_at "m_use") => `(tactic| ((case k1 => k_asm); (case k2 => k_asm); (case k3 => k_asm); (case k4 => k_asm); (case k5 => k_asm); (case k6 => first | exact rfl | assumption); (case k7 => ktr_room); (case k8 => ktr_units); k_whole))
local macro_rules | `(tactic| walk_at "call ref") => `(tactic| (k_here; k_dflt (refine' Ctr.useS (c_safeN _ _ _ _) ?k1 ?k2 ?k3 ?k4 ?k5 ?k6 ?k7 ?k8 ?_; walk_at "m_use"); intro t' h' tk' F' N'; (try dsimp only)))
local macro_rules | `(tactic| walk_at "call ref") => `(tactic| (k_here; k_dflt (refine' Ctr.useS (c_safeS _ _ _ _ _ _) ?k1 ?k2 ?k3 ?k4 ?k5 ?k6 ?k7 ?k8 ?_; walk_at "m_use"); intro t' h' tk' F' N'; (try dsimp only)))
variable (w : World)
theorem truthyS {prog : Program} {w : World} {A : Around} {E : Value → Shared → Prop} {s : Shared} {x : Str} {t : Tok} {b : Bool} {Q : Bool → Shared → Prop} (hb : ((x.length : Int) != 0) = b) (hf : x.length ≤ sizeLine) (h : Q b { s with toks := s.toks + 1 + 1 }) :
    wpAny (model prog w) A (truthy (.str x t)) Q E s := by
  refine P.truthy_str (by simp only [sizeLine_eq] at hf; omega) ?_
  rw [hb]; exact h
local macro_rules | `(tactic| walk_at "truthy str") => `(tactic| (k_here; refine truthyS (by assumption) (by omega) ?_))
/-- a last line: the word, what follows it, its end -/
noncomputable def fmtR (e : Str) (r : Option Str) (nl : Bool) : Str :=
  (match r with
    | none => e
    | some r => if r.length = 0 then e else e ++ Str.ofString ": " ++ r) ++ (if nl = true then Str.ofString "\n" else Str.ofString "")
theorem fmt_l2 : (Str.ofString ": ").length = 2 := by decide +kernel
theorem fmt_l1 : (Str.ofString "\n").length = 1 := by decide +kernel
theorem fmt_l0 : (Str.ofString "").length = 0 := by decide +kernel
theorem fmt_e : Str.ofString "" = Str.empty := by decide +kernel
theorem fmt_S0 {r : Str} (hb : ((r.length : Int) != 0) = false) : r.length = 0 := by simpa using hb
theorem fmt_S1 {r : Str} (hb : ((r.length : Int) != 0) = true) : ¬ r.length = 0 := by simpa using hb
theorem c_fmtN (e : Str) (te : Tok) (news : CbLed) (hs : e.length + 1 ≤ sizeLine) : Ctr w 242 [.str e te, .none] [] news 2 (RS (fmtR e none true)) := by
  intro V LO mean mg mb dp un gd cn cs a ccd cl outer A₀ base h₀ L m s Q E B F X N T hk hd hu hret
  refine wpAny_call ?_
  walk_at "m_fmt2"
  k_steps
  all_goals first
    | exact Ctr.retS hret (by rw [Str.empty_append]; rfl) (by assumption) (by assumption) (fun _ h => h)
    | (simp only [Str.empty_append, Str.length_append, fmt_l2, fmt_l1, fmt_l0]; omega)
    | (simp only [Str.empty_append]; omega)
theorem c_fmtN1 (e : Str) (te : Tok) (news : CbLed) (hs : e.length + 1 ≤ sizeLine) : Ctr w 242 [.str e te, .none] [(Str.ofString "insert_final_newline", .bool false)] news 2 (RS (fmtR e none false)) := by
  intro V LO mean mg mb dp un gd cn cs a ccd cl outer A₀ base h₀ L m s Q E B F X N T hk hd hu hret
  refine wpAny_call ?_
  walk_at "m_fmt1"
  k_steps
  all_goals first
    | exact Ctr.retS hret (by rw [Str.empty_append]; rfl) (by assumption) (by assumption) (fun _ h => h)
    | (simp only [Str.empty_append, Str.length_append, fmt_l2, fmt_l1, fmt_l0]; omega)
    | (simp only [Str.empty_append]; omega)
theorem c_fmtS_0 (e r : Str) (te tr : Tok) (news : CbLed) (hs : e.length + r.length + 3 ≤ sizeLine) (hb : ((r.length : Int) != 0) = false) : Ctr w 242 [.str e te, .str r tr] [] news 2 (RS (fmtR e (some r) true)) := by
  intro V LO mean mg mb dp un gd cn cs a ccd cl outer A₀ base h₀ L m s Q E B F X N T hk hd hu hret
  refine wpAny_call ?_
  walk_at "m_fmt2"
  k_steps
  all_goals first
    | exact Ctr.retS hret (by rw [Str.empty_append]; unfold fmtR; dsimp only; rw [if_pos (fmt_S0 (by assumption))]; rfl) (by assumption) (by assumption) (fun _ h => h)
    | (simp only [Str.empty_append, Str.length_append, fmt_l2, fmt_l1, fmt_l0]; omega)
    | (simp only [Str.empty_append]; omega)
theorem c_fmtS1_0 (e r : Str) (te tr : Tok) (news : CbLed) (hs : e.length + r.length + 3 ≤ sizeLine) (hb : ((r.length : Int) != 0) = false) : Ctr w 242 [.str e te, .str r tr] [(Str.ofString "insert_final_newline", .bool false)] news 2 (RS (fmtR e (some r) false)) := by
  intro V LO mean mg mb dp un gd cn cs a ccd cl outer A₀ base h₀ L m s Q E B F X N T hk hd hu hret
  refine wpAny_call ?_
  walk_at "m_fmt1"
  k_steps
  all_goals first
    | exact Ctr.retS hret (by rw [Str.empty_append]; unfold fmtR; dsimp only; rw [if_pos (fmt_S0 (by assumption))]; rfl) (by assumption) (by assumption) (fun _ h => h)
    | (simp only [Str.empty_append, Str.length_append, fmt_l2, fmt_l1, fmt_l0]; omega)
    | (simp only [Str.empty_append]; omega)
theorem c_fmtS_1 (e r : Str) (te tr : Tok) (news : CbLed) (hs : e.length + r.length + 3 ≤ sizeLine) (hb : ((r.length : Int) != 0) = true) : Ctr w 242 [.str e te, .str r tr] [] news 2 (RS (fmtR e (some r) true)) := by
  intro V LO mean mg mb dp un gd cn cs a ccd cl outer A₀ base h₀ L m s Q E B F X N T hk hd hu hret
  refine wpAny_call ?_
  walk_at "m_fmt2"
  k_steps
  all_goals first
    | exact Ctr.retS hret (by rw [Str.empty_append]; unfold fmtR; dsimp only; rw [if_neg (fmt_S1 (by assumption))]; rfl) (by assumption) (by assumption) (fun _ h => h)
    | (simp only [Str.empty_append, Str.length_append, fmt_l2, fmt_l1, fmt_l0]; omega)
    | (simp only [Str.empty_append]; omega)
theorem c_fmtS1_1 (e r : Str) (te tr : Tok) (news : CbLed) (hs : e.length + r.length + 3 ≤ sizeLine) (hb : ((r.length : Int) != 0) = true) : Ctr w 242 [.str e te, .str r tr] [(Str.ofString "insert_final_newline", .bool false)] news 2 (RS (fmtR e (some r) false)) := by
  intro V LO mean mg mb dp un gd cn cs a ccd cl outer A₀ base h₀ L m s Q E B F X N T hk hd hu hret
  refine wpAny_call ?_
  walk_at "m_fmt1"
  k_steps
  all_goals first
    | exact Ctr.retS hret (by rw [Str.empty_append]; unfold fmtR; dsimp only; rw [if_neg (fmt_S1 (by assumption))]; rfl) (by assumption) (by assumption) (fun _ h => h)
    | (simp only [Str.empty_append, Str.length_append, fmt_l2, fmt_l1, fmt_l0]; omega)
    | (simp only [Str.empty_append]; omega)
end
end Mine
namespace Mine
section
open PySem PySem.W PyProof.Rows PySem.Spec PySem.Calls
set_option maxRecDepth 100000
set_option maxHeartbeats 4000000
section
variable {M : Model} {P : Params} {h : Heap}
theorem at217 (X : (K P).In h) : h.get? 217 = some (top.o_294 P) := X _ _ (by kernel_rfl)
theorem at204 (X : (K P).In h) : h.get? 204 = some (top.o_284 P) := X _ _ (by kernel_rfl)
theorem en_made (X : (K P).In h) : Looks M h (Bind.madeBy (.ref 217)) none := by
  intro A Q E s k q
  obtain ⟨hp, g, d, tk, os⟩ := s
  have h1 := k _ _ (at217 X)
  have h2 := k _ _ (at204 X)
  dsimp only at h1 h2
  unfold Bind.madeBy
  repeat lk
  exact q
theorem en_made2 (X : (K P).In h) : Looks M h (Bind.madeBy (.ref 204)) none := by
  intro A Q E s k q
  obtain ⟨hp, g, d, tk, os⟩ := s
  have h1 := k _ _ (at217 X)
  have h2 := k _ _ (at204 X)
  dsimp only at h1 h2
  unfold Bind.madeBy
  repeat lk
  exact q
theorem en_static (X : (K P).In h) : Looks M h (Bind.staticBase (.ref 217)) (.type "tuple") := by
  intro A Q E s k q
  obtain ⟨hp, g, d, tk, os⟩ := s
  have h1 := k _ _ (at217 X)
  have h2 := k _ _ (at204 X)
  have m1 := (en_made (M := M) X).keeps k
  have m2 := (en_made2 (M := M) X).keeps k
  have m3 : Looks M hp (Bind.madeBy (.type "tuple")) (some "tuple.__new__") := Looks.of_pure F.called_tuple.made
  dsimp only at h1 h2
  unfold Bind.staticBase
  repeat lk
  exact q
theorem tn_plain : plainId "tuple.__new__" = true := by decide +kernel
theorem tn_kind : builtinKind "tuple.__new__" = some .builtinFn := by decide +kernel
theorem tn_split : splitId "tuple.__new__" = some ("tuple", "__new__") := by decide +kernel
theorem tn_check (X : (K P).In h) (a : Value) : Looks M h (checkBuiltinCall "tuple.__new__" ⟨[.ref 217, a], []⟩) () := by
  intro A Q E s k q
  obtain ⟨hp, g, d, tk, os⟩ := s
  have h1 := k _ _ (at217 X)
  have h2 := k _ _ (at204 X)
  have m4 := (en_static (M := M) X).keeps k
  have m3 : Looks M hp (Bind.madeBy (.type "tuple")) (some "tuple.__new__") := Looks.of_pure F.called_tuple.made
  have m5 : Looks M hp (isSubtype (.ref 217) (.type "tuple")) true := (looks_subIn (K := K P) (X.keeps k) (by kernel_rfl))
  have m6 : Looks M hp (isType (.ref 217)) true := (Looks.ld h1).andThen .now
  simp only [checkBuiltinCall, tn_kind, tn_split]
  repeat lk
  exact q
theorem tn_here (X : (K P).In h) : Looks M h (Bind.madeHere "tuple.__new__" (.ref 217)) () := by
  intro A Q E s k q
  obtain ⟨hp, g, d, tk, os⟩ := s
  have m4 := (en_static (M := M) X).keeps k
  have m3 : Looks M hp (Bind.madeBy (.type "tuple")) (some "tuple.__new__") := Looks.of_pure F.called_tuple.made
  unfold Bind.madeHere
  repeat lk
  exact q
theorem tn_init (X : (K P).In h) : Looks M h (typeLookup (.ref 217) "__init__") (some (.builtin "object.__init__")) := looks_findIn X (by kernel_rfl)
end
/-- an entry of the table: a tuple of a class of the text's own -/
noncomputable def entObj (dx : Addr) (vs : List Value) : Obj := { cls := .ref 217, dict := some dx, data := .seq vs.toArray }
section
variable {w : World} {A : Around} {E : Value → Shared → Prop} {s : Shared}
theorem tn_call {t : Addr} {o : Obj} {vs : List Value} {n : Nat} {Q : Value → Shared → Prop} (X : (K w.params).In s.heap) (ho : s.heap.get? t = some o) (hc : o.cls = .type "tuple") (hd : o.data = .seq vs.toArray n) (hsz : vs.length ≤ 1000)
    (h : ∀ h' a dx, (∀ b o', s.heap.get? b = some o' → h'.get? b = some o') → (∀ b o', s.heap.get? b = some o' → b < a) → h'.get? a = some (entObj dx vs) → Q (.ref a) { s with heap := h' }) :
    wpAny (model Prg w) A (call (.builtin "tuple.__new__") [.ref 217, .ref t]) Q E s := by
  refine wpAny_call (codeAny_call_builtin tn_plain F.entry_tuple_new ((tn_check X (.ref t)).here ?_))
  obtain ⟨hp, g, d, tk, os⟩ := s
  have h1 := at217 X
  have m6 : Looks (model Prg w) hp (isType (.ref 217)) true := (Looks.ld h1).andThen .now
  have m5 : Looks (model Prg w) hp (isSubtype (.ref 217) (.type "tuple")) true := looks_subIn (K := K w.params) X (by kernel_rfl)
  have m7 := tn_here (M := model Prg w) X
  have m8 := tn_init (M := model Prg w) X
  unfold Builtin.«tuple.__new__»
  repeat (first | (with_reducible refine wpAny_collect_seq t (.inr rfl) ho hc hd (fun h' k' => ?_) (by simp only [List.size_toArray, sizeLine_eq]; omega)) | lk)
  rw [if_neg (by simp only [List.size_toArray, sizeLine_eq]; omega)]
  have e1 : ((h'.push { cls := .type "dict", data := .dict #[] }).push (entObj h'.objs.size vs)).get? 217 = some (top.o_294 w.params) := Heap.get?_push_of_some _ (Heap.get?_push_of_some _ (k' _ _ h1))
  show wpAny _ _ (newObjAsIs _ _ _) _ _ _
  unfold newObjAsIs classHasDel
  refine wpAny_bind (wpAny_alloc (wpAny_bind (wpAny_bind (wpAny_load e1 (wpAny_pure ?_)))))
  refine wpAny_pure (wpAny_pure ?_)
  refine h _ (h'.push { cls := .type "dict", data := .dict #[] }).objs.size h'.objs.size (fun b o' e => Heap.get?_push_of_some _ (Heap.get?_push_of_some _ (k' _ _ e))) (fun b o' e => ?_) (Heap.get?_push_size _ rfl)
  rw [Heap.size_push]
  exact Nat.lt_succ_of_lt (Heap.lt_size (k' _ _ e))
end
end
end Mine
namespace Mine
section
open PySem PySem.W PyProof.Rows PySem.Spec PySem.Calls
set_option maxRecDepth 100000
set_option maxHeartbeats 8000000
section
variable {w : World} {A : Around} {E : Value → Shared → Prop} {s : Shared} {h₀ : Heap} {L : Addr} {m : Str → Option Value} {news : CbLed}
theorem news_at {h h' : Heap} {a : Addr} {o : Obj} (F : Fr h₀ L h m) (N : News h₀ L h news) (k : ∀ b o', h.get? b = some o' → h'.get? b = some o') (lt : ∀ b o', h.get? b = some o' → b < a) (e : h'.get? a = some o) :
    Fr h₀ L h' m ∧ News h₀ L h' ((a, o) :: news) ∧ ∀ q ∈ news, q.1 < a := by
  obtain ⟨oL, es, ep, hL, r⟩ := F.ns
  refine ⟨⟨⟨oL, es, ep, k _ _ hL, r⟩, fun b o' q => k _ _ (F.keep b o' q), F.above⟩, fun p hp => ?_, fun q hq => lt _ _ (N q hq).1⟩
  rcases List.mem_cons.mp hp with rfl | hp
  · refine ⟨e, Nat.ne_of_gt (lt _ _ hL), ?_⟩
    cases q : h₀.get? a with
    | none => rfl
    | some o' => exact absurd (lt _ _ (F.keep _ _ q)) (Nat.lt_irrefl _)
  · exact ⟨k _ _ (N p hp).1, (N p hp).2⟩
theorem tn_K {t : Addr} {vs : List Value} {Q : Value → Shared → Prop} (F : Fr h₀ L s.heap m) (X₀ : (K w.params).In h₀) (N : News h₀ L s.heap news) (hm : (t, ({ cls := .type "tuple", data := .seq vs.toArray } : Obj)) ∈ news) (hsz : vs.length ≤ 1000)
    (h : ∀ a dx h', Fr h₀ L h' m → News h₀ L h' ((a, entObj dx vs) :: news) → (∀ q ∈ news, q.1 < a) → Q (.ref a) { s with heap := h' }) :
    wpAny (model Prg w) A (call (.builtin "tuple.__new__") [.ref 217, .ref t]) Q E s :=
  tn_call (X₀.keeps F.keep) (N _ hm).1 rfl rfl hsz fun h' a dx k lt e => let ⟨F', N', l⟩ := news_at F N k lt e; h a dx h' F' N' l
end
/-- one entry comes back -/
noncomputable def RE (vs : List Value) (v : Value) (own : CbLed) : Prop := ∃ a dx, v = .ref a ∧ own = [(a, entObj dx vs)]
variable (w : World)
theorem c_new (x y z d : Int) (tx ty tz td : Tok) (b : Bool) (news : CbLed) : Ctr w 145 [.ref 217, .int x tx, .int y ty, .int z tz, .int d td, .bool b] [] news 1 (RE [.int x tx, .int y ty, .int z tz, .int d td, .bool b]) := by
  intro V LO mean mg mb dp un gd cn cs a ccd cl outer A₀ base h₀ L m s Q E B F X N T hk hd hu hret
  refine wpAny_call ?_
  cell_enter
  k_steps
  refine' method_type (v := .builtin "tuple.__new__") ?F ?X ?m ?s ?e ?h ?_
  case F => k_asm
  case X => k_asm
  case m => kernel_rfl
  case s => decide +kernel
  case e => k_dflt k_is
  case h => exact rfl
  k_steps
  refine' tn_K ?F ?X ?N ?m ?s ?_
  case F => k_asm
  case X => k_asm
  case N => k_asm
  case m => k_mem
  case s => simp
  intro a' dx' h' F' N' l1
  try dsimp only
  k_steps
  all_goals exact hret _ [_] _ _ ⟨_, _, rfl, rfl⟩ (fun p hp q hq => by rw [List.mem_singleton.mp hp]; exact l1 q (List.mem_cons_of_mem _ hq)) (by assumption) (kst_newsOf (by assumption) (fun p hp => by rcases List.mem_cons.mp hp with rfl | hp; exact .head _; exact .tail _ (.tail _ hp)))
end
end Mine
namespace Mine
section
open PySem PySem.W PyProof.Rows PySem.Spec PySem.Calls
set_option maxRecDepth 100000
set_option maxHeartbeats 8000000
theorem en_mro {M : Model} {P : Params} {h : Heap} (X : (K P).In h) : Looks M h (mroOf (.ref 217)) [.ref 217, .ref 204, .type "tuple", .type "object"] := by
  intro A Q E s k q
  obtain ⟨hp, g, d, tk, os⟩ := s
  have h1 := k _ _ (at217 X)
  dsimp only at h1
  unfold mroOf
  repeat lk
  exact q
theorem oi_args6 (a b c d e f : Value) : argsOk "object.__init__" ⟨[a, b, c, d, e, f], []⟩ := by unfold argsOk; kernel_rfl
variable (w : World)
theorem c_entry (x y z d : Int) (tx ty tz td : Tok) (b : Bool) (news : CbLed) : Ctr w 217 [.int x tx, .int y ty, .int z tz, .int d td, .bool b] [] news 3 (RE [.int x tx, .int y ty, .int z tz, .int d td, .bool b]) := by
  intro V LO mean mg mb dp un gd cn cs a ccd cl outer A₀ base h₀ L m s Q E B F X N T hk hd hu hret
  obtain ⟨hp, gg, dd, tk, os⟩ := s
  have Xh := X.keeps F.keep
  have h1 := at217 Xh
  have call : Looks (model Prg w) hp (specialOf (.ref 217) "__call__") (some (.builtin "type.__call__")) := looks_specialIn Xh (by kernel_rfl)
  have typ : Looks (model Prg w) hp (isInstance (.ref 217) (.type "type")) true := looks_instIn Xh (by kernel_rfl)
  have made := en_made (M := model Prg w) Xh
  refine wpAny_call (codeAny_of_tree ?_)
  show wpAny _ _ (callAny (.ref 217) _) _ _ _
  refine nd_load h1 ?_
  show wpAny _ _ (callAny.viaDunder (.ref 217) _) _ _ _
  unfold callAny.viaDunder
  refine wpAny_bind (call.at ?_)
  dsimp only
  rw [tc_bind]
  refine wpAny_bind (wpAny_pure (wpAny_bind (wpAny_pure ?_)))
  refine wpAny_pure (a := Fin.again (.call (.builtin "type.__call__") ⟨[.ref 217, .int x tx, .int y ty, .int z tz, .int d td, .bool b], []⟩)) (And.intro rfl ?_)
  refine codeAny_call_builtin_at (Code.quiet_builtin _ (by decide +kernel)) entry_typeCall (check_slot tc_kind tc_split typ (tc_args _ _ _) ?_)
  have hm := en_mro (M := model Prg w) Xh
  unfold Builtin.«type.__call__»
  repeat ((fail_if_success (with_reducible show wpAny _ _ (getAttr _ _ _) _ _ _)); lk)
  refine' cls_sm (f := .ref 145) ?k1 ?k2 ?k3 ?k4 ?k5 ?k6 ?k7 ?_
  case k1 => exact F
  case k2 => exact X
  case k3 => k_dflt k_is
  case k4 => k_dflt k_is
  case k5 => k_dflt k_is
  case k6 => k_dflt k_is
  case k7 => exact rfl
  dsimp only
  refine wpAny_bind (wpAny_holding ?_)
  refine Ctr.use (c_new w x y z d tx ty tz td b news) B F X N T hk ?hd ?hu ?_
  case hd => exact Nat.lt_of_le_of_lt (Nat.add_le_add_left (by decide +kernel : 1 + 1 ≤ 3) dp) hd
  case hu => exact Nat.lt_of_le_of_lt (Nat.add_le_add_left (by decide +kernel : 1 + 8 * 1 ≤ 8 * 3) un) hu
  intro v own h' tk' hP lt F' N'
  obtain ⟨e, dx, rfl, rfl⟩ := hP
  have Xh' := X.keeps F'.keep
  have he : h'.get? e = some (entObj dx _) := (N' _ (.head _)).1
  have t1 : Looks (model Prg w) h' (typeOf (.ref e)) (.ref 217) := (Looks.ld he).andThen .now
  have s1 : Looks (model Prg w) h' (isSubtype (.ref 217) (.ref 217)) true := looks_subIn (K := K w.params) Xh' (by kernel_rfl)
  have i1 := tn_init (M := model Prg w) Xh'
  have made' := en_made (M := model Prg w) Xh'
  have b1 : Looks (model Prg w) h' (bindSpecial (.builtin "object.__init__") (.ref e)) (.builtin "object.__init__", [.ref e]) := Looks.of_pure (oi_bind _)
  dsimp only
  unfold isInstance callSpecial? specialOf
  repeat ((fail_if_success (with_reducible show wpAny _ _ (PySem.call (.builtin "object.__init__") _ _) _ _ _)); lk)
  have t2 : Looks (model Prg w) h' (isInstance (.ref e) (.type "object")) true := t1.andThen (looks_subIn (K := K w.params) Xh' (by kernel_rfl))
  refine wpAny_call (codeAny_call_builtin oi_plain entry_oi (@check_slot (model Prg w) _ _ _ "object.__init__" "object" "__init__" (.ref e) [.int x tx, .int y ty, .int z tz, .int d td, .bool b] [] _ oi_kind oi_split t2 (oi_args6 _ _ _ _ _ _) ?_))
  unfold Builtin.«object.__init__»
  repeat lk
  exact hret _ _ _ _ ⟨e, dx, rfl, rfl⟩ lt F' N'
end
end Mine
namespace Mine
section
open PySem PySem.W PyProof.Rows PySem.Spec PySem.Calls
set_option maxRecDepth 100000
set_option maxHeartbeats 4000000
/-- an iterator over a list, at its i-th place (or at its end: none) -/
noncomputable def itObj (v : Value) (i : Nat) : Obj := { cls := .type "list_iterator", data := .fields #[v, .int i 0] }
section
variable {prog : Program} {w : World} {A : Around} {E : Value → Shared → Prop} {s : Shared} {h₀ : Heap} {L it l : Addr} {m : Str → Option Value} {rest : CbLed} {i : Nat} {items : Array Value} {x : Value}
theorem it_is {h : Heap} {it l : Addr} {i : Nat} (e : h.get? it = some (itObj (.ref l) i)) : h.IsListIter it l i := ⟨_, e, rfl, rfl⟩
theorem ix_iter {news : CbLed} {Q : Value → Shared → Prop} (F : Fr h₀ L s.heap m) (N : News h₀ L s.heap news) (hl : s.heap.IsList l items)
    (h : ∀ I h', Fr h₀ L h' m → News h₀ L h' ((I, itObj (.ref l) 0) :: news) → (∀ p ∈ news, p.1 < I) → Q (.ref I) { s with heap := h' }) :
    wpAny (model prog w) A (call (.builtin "iter") [.ref l]) Q E s := by
  refine call_function_entry (by decide +kernel) (by decide +kernel) kdk_entry_iter (kdk_args_iter _) ?_
  unfold Builtin.«iter»
  refine wpAny_bind (m := someArgs "iter" 1 2 _) (wpAny_of_eq (a := [Value.ref l]) (by first | rfl | kernel_rfl!) ?_)
  show wpAny _ _ (pyIter (.ref l) >>= _) _ _ _
  refine wpAny_bind (wpAny_pyIter_list hl ?_)
  exact wpAny_pure ⟨_, rfl, h _ _ (F.push _) (News.push F N _ rfl) (fun q hq => Heap.lt_size (N q hq).1)⟩
theorem ix_next {Q : Value → Shared → Prop} (F : Fr h₀ L s.heap m) (N : News h₀ L s.heap ((it, itObj (.ref l) i) :: rest)) (off : ∀ p ∈ rest, p.1 ≠ it) (hl : s.heap.IsList l items) (hx : items[i]? = some x)
    (h : ∀ h', Fr h₀ L h' m → News h₀ L h' ((it, itObj (.ref l) (i + 1)) :: rest) → Q x { s with heap := h' }) :
    wpAny (model prog w) A (call (.builtin "next") [.ref it]) Q E s := by
  have hm := N _ (.head _)
  have hit : s.heap.IsListIter it l i := it_is hm.1
  obtain ⟨ol, hol, _, nl, hdl⟩ := hl
  refine call_function_entry (by decide +kernel) (by decide +kernel) kdk_entry_next (kdk_args_next _) ?_
  unfold Builtin.«next»
  refine wpAny_bind (m := someArgs "next" 1 2 _) (wpAny_of_eq (a := [Value.ref it]) (by first | rfl | kernel_rfl!) ?_)
  dsimp only
  refine wpAny_bind (wpAny_specialOf (name := Str.ofString "__next__") hit.typeIs slot_listiter_next.lookup ?_)
  refine wpAny_ite_split (fun hab => absurd hab (by decide)) (fun _ => ?_)
  refine wpAny_bind (wpAny_callSpecial?_slot (name := Str.ofString "__next__") hit.typeIs slot_listiter_next
    (wpAny_call_entry slot_listiter_next hit.typeIs entry_listiter_next ?_ (args_listiter_next _)))
  show wpAny _ _ (field (.ref it) 0 >>= _) _ _ s
  refine wpAny_bind (wpAny_field hm.1 rfl (x := .ref l) rfl ?_)
  show wpAny _ _ (if (Value.ref l == Value.none) = true then _ else _) _ _ s
  rw [if_neg (show ¬ ((Value.ref l == Value.none) = true) from Bool.false_ne_true)]
  show wpAny _ _ (field (.ref it) 1 >>= _) _ _ s
  refine wpAny_bind (wpAny_field hm.1 rfl (x := .int i 0) rfl ?_)
  show wpAny _ _ (seqItems? (.ref l) >>= _) _ _ s
  refine wpAny_bind (wpAny_seqItems hol hdl ?_)
  simp only [Int.toNat_natCast, hx]
  have hs : Heap.SameBut it s.heap (s.heap.update it (Obj.mapFields (·.setIfInBounds 1 (rawInt ((i : Int) + 1))))) := Heap.SameBut.update ..
  have he : (s.heap.update it (Obj.mapFields (·.setIfInBounds 1 (rawInt ((i : Int) + 1))))).get? it = some (itObj (.ref l) (i + 1)) := Heap.get?_update_self _ hm.1 rfl
  refine wpAny_bind (wpAny_setField hm.1 rfl (by simp) (wpAny_pure ⟨x, rfl, wpAny_pure ⟨_, rfl, h _ (F.change hs hm.2.1 hm.2.2) ?_⟩⟩))
  exact News.setIn (own := []) N (fun _ hp => nomatch hp) off hs he
theorem ix_end {Q : Value → Shared → Prop} (hh : A.handled = none) (F : Fr h₀ L s.heap m) (N : News h₀ L s.heap ((it, itObj (.ref l) i) :: rest)) (off : ∀ p ∈ rest, p.1 ≠ it) (hl : s.heap.IsList l items) (hx : items[i]? = none)
    (h : ∀ h1 h' e, Fr h₀ L h1 m → News h₀ L h1 ((it, itObj .none i) :: rest) → Heap.NewExc h1 h' e "StopIteration" → E (.ref e) { s with heap := h' }) :
    wpAny (model prog w) A (call (.builtin "next") [.ref it]) Q E s := by
  have hm := N _ (.head _)
  have hit : s.heap.IsListIter it l i := it_is hm.1
  obtain ⟨ol, hol, _, nl, hdl⟩ := hl
  refine call_function_entry (by decide +kernel) (by decide +kernel) kdk_entry_next (kdk_args_next _) ?_
  unfold Builtin.«next»
  refine wpAny_bind (m := someArgs "next" 1 2 _) (wpAny_of_eq (a := [Value.ref it]) (by first | rfl | kernel_rfl!) ?_)
  dsimp only
  refine wpAny_bind (wpAny_specialOf (name := Str.ofString "__next__") hit.typeIs slot_listiter_next.lookup ?_)
  refine wpAny_ite_split (fun hab => absurd hab (by decide)) (fun _ => ?_)
  refine wpAny_bind (wpAny_callSpecial?_slot (name := Str.ofString "__next__") hit.typeIs slot_listiter_next
    (wpAny_call_entry slot_listiter_next hit.typeIs entry_listiter_next ?_ (args_listiter_next _)))
  show wpAny _ _ (field (.ref it) 0 >>= _) _ _ s
  refine wpAny_bind (wpAny_field hm.1 rfl (x := .ref l) rfl ?_)
  show wpAny _ _ (if (Value.ref l == Value.none) = true then _ else _) _ _ s
  rw [if_neg (show ¬ ((Value.ref l == Value.none) = true) from Bool.false_ne_true)]
  show wpAny _ _ (field (.ref it) 1 >>= _) _ _ s
  refine wpAny_bind (wpAny_field hm.1 rfl (x := .int i 0) rfl ?_)
  show wpAny _ _ (seqItems? (.ref l) >>= _) _ _ s
  refine wpAny_bind (wpAny_seqItems hol hdl ?_)
  simp only [Int.toNat_natCast, hx]
  have hs : Heap.SameBut it s.heap (s.heap.update it (Obj.mapFields (·.setIfInBounds 0 .none))) := Heap.SameBut.update ..
  have he : (s.heap.update it (Obj.mapFields (·.setIfInBounds 0 .none))).get? it = some (itObj .none i) := Heap.get?_update_self _ hm.1 rfl
  have F1 := F.change hs hm.2.1 hm.2.2
  have N1 : News h₀ L _ ((it, itObj .none i) :: rest) := News.setIn (own := []) N (fun _ hp => nomatch hp) off hs he
  refine wpAny_bind (wpAny_rule (wpAny_bind (wpAny_setField hm.1 rfl (by simp) ?_)))
  show wpAny _ _ (newExc (.type "StopIteration") [] >>= _) _ _ _
  refine wpAny_bind ?_
  simp only [newExc, newTuple]
  refine wpAny_bind (wpAny_newObj_type ?_ (by size_fits))
  refine wpAny_bind (m := firstArgMember _ _) (wpAny_of_eq (a := Value.none) (by first | rfl | (simp only [firstArgMember]; rfl)) ?_)
  refine wpAny_newObj_type ?_ (by size_fits)
  simp only [raiseNew]
  refine wpAny_bind (wpAny_handled ?_)
  rw [show A.in1.in1.handled = none from hh]
  refine wpAny_bind (wpAny_pure (wpAny_throw ?_))
  refine h _ _ _ F1 N1 ⟨fun b o e => Heap.get?_push_of_some _ (Heap.get?_push_of_some _ e), ?_, ⟨_, _, Heap.get?_push_size _ rfl, rfl, rfl⟩⟩
  exact Heap.get?_none_of_le (by rw [Heap.size_push]; exact Nat.le_succ _)
end
end
end Mine
namespace Mine
section
open PySem PySem.W PyProof.Rows PySem.Spec PySem.Calls
set_option maxRecDepth 100000
set_option maxHeartbeats 8000000
/-- what is left of a varint: all octets but the last bear the mark 64 -/
noncomputable def vRest : Int → List Int → Prop
  | b, [] => b / 64 % 2 = 0
  | b, c :: r => b / 64 % 2 = 1 ∧ vRest c r
noncomputable def vFold : Int → List Int → Int
  | v, [] => v
  | v, c :: r => vFold (v * 64 + c % 64) r
theorem vFold_ge : ∀ (r : List Int) (v : Int), 0 ≤ v → v ≤ vFold v r
  | [], v, _ => Int.le_refl _
  | c :: r, v, h => Int.le_trans (by omega) (vFold_ge r (v * 64 + c % 64) (by omega))
theorem v_and (x : Int) : Builtin.bitAnd x 63 = x % 64 := bitAnd_m6 x
theorem v_bit (x : Int) : Builtin.bitAnd x 64 = x / 64 % 2 * 64 := kbt_bit x 6
theorem v_or (v r : Int) (h : 0 ≤ r) (h' : r < 64) : Builtin.bitOr (v * 64) r = v * 64 + r := by
  have h1 : Builtin.bitAnd (v * 64) r = 0 := by
    have z : Builtin.bitAnd v 0 = 0 := bitAnd_zero v
    rw [kbt_halves, show v * 64 / 2 = v * 32 by omega, kbt_halves, show v * 32 / 2 = v * 16 by omega, kbt_halves, show v * 16 / 2 = v * 8 by omega, kbt_halves, show v * 8 / 2 = v * 4 by omega,
      kbt_halves, show v * 4 / 2 = v * 2 by omega, kbt_halves, show v * 2 / 2 = v by omega, show r / 2 / 2 / 2 / 2 / 2 / 2 = 0 by omega, z,
      if_neg (by omega), if_neg (by omega), if_neg (by omega), if_neg (by omega), if_neg (by omega), if_neg (by omega)]
    rfl
  rw [bitOr_and, h1]
  omega
theorem v_end {b : Int} {r : List Int} (h : Builtin.bitAnd b 64 = 0) (p : vRest b r) : r = [] := by
  cases r with
  | nil => rfl
  | cons c r => rw [v_bit] at h; have := p.1; omega
theorem v_more {b : Int} {r : List Int} (h : Builtin.bitAnd b 64 ≠ 0) (p : vRest b r) : ∃ c r', r = c :: r' ∧ vRest c r' := by
  cases r with
  | nil => rw [v_bit] at h; have : b / 64 % 2 = 0 := p; omega
  | cons c r => exact ⟨c, r, rfl, p.2⟩
theorem v_fits {v R : Int} (h : 0 ≤ v) (hR : v ≤ R) (hB : R.natAbs < 2 ^ 1000) : (Builtin.Int.intBits v : Int) + 6 ≤ 2 ^ 27 := by
  have : Builtin.Int.intBits v ≤ 1000 := intBits_le_iff.mpr (Nat.lt_of_le_of_lt (by omega) hB)
  omega
/-- a contract whose call may raise and whose ledger is another behind it -/
noncomputable def CtrN (w : World) (f : Addr) (vs : List Value) (news : CbLed) (d : Nat) (P : Value → CbLed → Prop) (R : String → CbLed → Prop) : Prop :=
  ∀ (V : Program) (LO : List Str) (mean : ExcName → Option Value) (mg mb : Str → Option Value) (dp un : Nat) (gd : Option (List Code)) (cn : Str) (cs : Scope) (a : Addr) (ccd : Value) (outer : List Env) (A₀ : Around) (base h₀ : Heap) (L : Addr) (m : Str → Option Value) (s : Shared) (Q E : Value → Shared → Prop),
    Below A₀ base outer h₀ → Fr h₀ L s.heap m → (K w.params).In h₀ → News h₀ L s.heap news → Top V LO mean mg mb h₀ → cs.kind = .function →
    dp + d < recursionLimit → un + 8 * d < cLine →
    (∀ v h' tk' news', P v news' → Fr h₀ L h' m → News h₀ L h' news' → Q v { s with heap := h', toks := tk' }) →
    (∀ c G e h' tk' news', R c news' → Fr h₀ L G m → RaisedSN base G (envOf cn cs L a ccd :: outer) e (.type c) news' h' → G.UpToSlots h' → E (.ref e) { s with heap := h', toks := tk' }) →
      wpAny (model Prg w) (ktrTop dp un gd cn cs L a ccd [] outer) (call (.ref f) vs) Q E s
noncomputable def RV (it l : Addr) (j : Nat) (x : Int) (rest : CbLed) (v : Value) (news : CbLed) : Prop := news = (it, itObj (.ref l) j) :: rest ∧ ∃ t, v = .int x t
noncomputable def RX (it : Addr) (j : Nat) (rest : CbLed) (c : String) (news : CbLed) : Prop := c = "StopIteration" ∧ news = (it, itObj .none j) :: rest
variable (w : World)
theorem c_varEnd (it l : Addr) (i nn : Nat) (vs : List Value) (rest : CbLed) (off : ∀ p ∈ rest, p.1 ≠ it) (hl : (l, listOf vs.toArray nn) ∈ rest) (hi : vs.length ≤ i) :
    CtrN w 227 [.ref it] ((it, itObj (.ref l) i) :: rest) 1 (fun _ _ => False) (RX it i rest) := by
  intro V LO mean mg mb dp un gd cn cs a ccd outer A₀ base h₀ L m s Q E B F X N T hk hd hu hret hexc
  refine wpAny_call ?_
  cell_enter
  k_steps
  refine' ix_end (l := l) (i := i) (items := vs.toArray) ?hh ?F ?N ?off ?hl ?hx ?_
  case hh => exact rfl
  case F => k_asm
  case N => assumption
  case off => exact off
  case hl => exact kso_isList (by assumption : News _ _ _ ((it, itObj (.ref l) i) :: rest)) (.tail _ hl) rfl
  case hx => simpa using hi
  intro h1 h' e F1 N1 X1
  dsimp only [ek]
  refine' leave_newS (h := h1) ?K ?hx ?F ?N ?_
  case K => assumption
  case hx => exact X1
  case F => exact F1
  case N => exact N1
  intro h2 R2 _ U2
  exact hexc "StopIteration" _ e _ _ _ ⟨rfl, rfl⟩ (by assumption) R2 U2
theorem ix_nextL {prog : Program} {w : World} {A : Around} {E : Value → Shared → Prop} {s : Shared} {h₀ : Heap} {L it l : Addr} {m : Str → Option Value} {rest : CbLed} {i nn : Nat} {vs : List Value} {os : List Int} {b : Int} {tl : List Int} {Q : Value → Shared → Prop}
    (F : Fr h₀ L s.heap m) (N : News h₀ L s.heap ((it, itObj (.ref l) i) :: rest)) (off : ∀ p ∈ rest, p.1 ≠ it) (hl : (l, listOf vs.toArray nn) ∈ rest) (hi : IntsAre vs os) (hx : os.drop i = b :: tl)
    (h : ∀ t h', os.drop (i + 1) = tl → Fr h₀ L h' m → News h₀ L h' ((it, itObj (.ref l) (i + 1)) :: rest) → Q (.int b t) { s with heap := h' }) :
    wpAny (model prog w) A (call (.builtin "next") [.ref it]) Q E s := by
  have e : os[i]? = some b := by
    have := List.getElem?_drop (xs := os) (i := i) (j := 0)
    rw [hx] at this
    simpa using this.symm
  have e2 : os.drop (i + 1) = tl := by
    rw [← List.drop_drop, hx]; rfl
  obtain ⟨t, ht⟩ := hi.get i b e
  exact ix_next F N off (kso_isList N (.tail _ hl) rfl) (by simpa using ht) (fun h' F' N' => h t h' e2 F' N')
theorem c_var (it l : Addr) (i j nn : Nat) (vs : List Value) (rest : CbLed) (os seg tl : List Int) (b R : Int) (off : ∀ p ∈ rest, p.1 ≠ it) (hl : (l, listOf vs.toArray nn) ∈ rest) (hi : IntsAre vs os)
    (hd : os.drop i = b :: (seg ++ tl)) (hv : vRest b seg) (hR : vFold (b % 64) seg = R) (hj : j = i + 1 + seg.length) (hB : R.natAbs < 2 ^ 1000) :
    CtrN w 227 [.ref it] ((it, itObj (.ref l) i) :: rest) 1 (RV it l j R rest) (fun _ _ => False) := by
  intro V LO mean mg mb dp un gd cn cs a ccd outer A₀ base h₀ L m s Q E B F X N T hk hd hu hret hexc
  refine wpAny_call ?_
  cell_enter
  k_steps
  refine' ix_nextL (l := l) ?F ?N ?off ?hl ?hi ?hx ?_
  case F => k_asm
  case N => assumption
  case off => exact off
  case hl => exact hl
  case hi => exact hi
  case hx => assumption
  intro tb h1 hd1 F1 N1
  try dsimp only
  repeat' ((fail_if_success (with_reducible show wpAny _ _ (exec (Stmt.While _ _ _ _) _) _ _ _)); (first | (k_unfold; (try dsimp only)) | walk1 | (dsimp only; walk1)))
  refine' ksw_while (σ := Nat × Int × Tok × Int × Tok × List Int) (fun c => (it, itObj (.ref l) c.1) :: rest)
    (fun c => [(Str.ofString "b", .int c.2.1 c.2.2.1), (Str.ofString "val", .int c.2.2.2.1 c.2.2.2.2.1)]) (fun _ => True) []
    (fun c => vRest c.2.1 c.2.2.2.2.2 ∧ 0 ≤ c.2.2.2.1 ∧ vFold c.2.2.2.1 c.2.2.2.2.2 = R ∧ os.drop c.1 = c.2.2.2.2.2 ++ tl ∧ c.1 + c.2.2.2.2.2.length = j)
    (fun c => c.2.2.2.2.2.length) (i + 1, b, tb, Builtin.bitAnd b 63, tk + 1, seg) ?zF ?zN trivial ?zk ?zp ?zt ?zE
  case zF => k_asm
  case zN => assumption
  case zk => exact List.forall_mem_cons.mpr ⟨rfl, List.forall_mem_cons.mpr ⟨rfl, nofun⟩⟩
  case zp => exact ⟨hv, by rw [v_and]; exact Int.emod_nonneg _ (by decide), by rw [v_and]; exact hR, hd1, hj.symm⟩
  case zE => passes_own
  rintro ⟨i1, b1, tb1, v1, tv1, r1⟩ u h2 tk2 _ ⟨p1, p2, p3, p4, p5⟩ F2 N2
  try dsimp only at p1 p2 p3 p4 p5 N2
  repeat' ((fail_if_success (with_reducible show wpAny _ _ (inplaceOp _ _ _) _ _ _)); (first | (k_unfold; (try dsimp only)) | walk1 | (dsimp only; walk1) | (leave1; walk_say "STEP leave1"; try dsimp only)))
  all_goals first
    | (rename (Builtin.bitAnd _ 64 = 0) => z0
       obtain rfl := v_end z0 p1
       obtain rfl : i1 = j := by simpa using p5
       obtain rfl : v1 = R := p3
       exact hret _ _ _ _ ⟨rfl, _, rfl⟩ (by assumption) (by assumption))
    | skip
  rename (Builtin.bitAnd _ 64 ≠ 0) => z1
  obtain ⟨c1, r2, rfl, p1'⟩ := v_more z1 p1
  have p3' : vFold (v1 * 64 + c1 % 64) r2 = R := p3
  refine ilshift_int (by decide) (v_fits p2 (by rw [← p3]; exact vFold_ge _ _ p2) hB) ?_
  try dsimp only
  repeat' ((fail_if_success (with_reducible show wpAny _ _ (PySem.call _ _ _) _ _ _)); (first | (k_unfold; (try dsimp only)) | walk1 | (dsimp only; walk1)))
  refine' ix_nextL (l := l) ?yF ?yN ?yoff ?yhl ?yhi ?yhx ?_
  case yF => k_asm
  case yN => assumption
  case yoff => exact off
  case yhl => exact hl
  case yhi => exact hi
  case yhx => exact p4
  intro t3 h3 p4' F3 N3
  try dsimp only
  repeat' ((fail_if_success (with_reducible show KswPost _ _ _ _ _ _ _ _ _ _ _ _ _ _)); (first | (k_unfold; (try dsimp only)) | walk1 | (dsimp only; walk1)))
  dsimp only [KswPost]
  have e1 : v1 * 2 ^ (6 : Int).toNat = v1 * 64 := rfl
  have e2 : Builtin.bitOr (v1 * 2 ^ (6 : Int).toNat) (Builtin.bitAnd c1 63) = v1 * 64 + c1 % 64 := by
    rw [e1, v_and]; exact v_or _ _ (Int.emod_nonneg _ (by decide)) (Int.emod_lt_of_pos _ (by decide))
  rename Fr _ _ _ _ => F9
  rename News _ _ _ _ => N9
  generalize Builtin.bitOr (v1 * 2 ^ (6 : Int).toNat) (Builtin.bitAnd c1 63) = X at F9 e2
  have e3 : vFold X r2 = R := by rw [e2]; exact p3'
  have e4 : 0 ≤ X := by
    rw [e2]; have := Int.emod_nonneg c1 (show (64 : Int) ≠ 0 by decide); omega
  have e5 : i1 + 1 + r2.length = j := by simp only [List.length_cons] at p5; omega
  exact ksw_end (i1 + 1, c1, t3, X, _, r2) F9 N9 (fun _ h => h) trivial (List.forall_mem_cons.mpr ⟨rfl, List.forall_mem_cons.mpr ⟨rfl, nofun⟩⟩) (fun z h2 _ => by simp only [List.forall_mem_cons, ne_eq] at h2; simp [h2, kstB]) ⟨p1', e4, e3, p4', e5⟩ (Nat.lt_succ_self _)
end
end Mine
namespace Mine
section
open PySem PySem.W PyProof.Rows PySem.Spec PySem.Calls
set_option maxRecDepth 100000
set_option maxHeartbeats 8000000
section
variable {prog : Program} {w : World} {A₀ A : Around} {s : Shared} {base h₀ : Heap} {L : Addr} {m : Str → Option Value} {env : Env} {news : CbLed} {KF : Frag} {p : Program} {loose : List Str} {mean : ExcName → Option Value} {mg mb : Str → Option Value}
    {R : Result → Shared → Prop} {name qual : Str} {params : Arguments} {body : List Stmt} {scope : Scope} {dV kV doc pm cdv ct oc : Value} {an od : Option Addr} {osl : Array (Option Value)} {f : Addr} {args : Args} {binds : List (Str × Value)}
/-- a def called from the lowest frame (which may have cells), beneath which an exception is caught -/
theorem code_low (B : Below A₀ base [] h₀) (F : Fr h₀ L s.heap m) (X₀ : KF.In h₀) (N : News h₀ L s.heap news) (T : Top p loose mean mg mb h₀) (hA : A.frames = some [env]) (hf : env.frame = some L) (hke : env.scope.kind = .function)
    (ho : KF.lookup f = some ⟨oc, od, .func (fnOf name qual params body scope dV kV doc pm an cdv ct), osl⟩) (hcd : codeIn KF cdv qual = true) (hroom : A.depth < recursionLimit)
    (hbind : BindsTo s (fnOf name qual params body scope dV kV doc pm an cdv ct) args binds) (hloc : ∀ y ∈ binds, scope.names.lookup y.1 = some .local)
    (h : ∀ g L' h₁, Fr g L' h₁ (fun y => binds.reverse.lookup y) → News g L' h₁ news → Below A base [env] g → KF.In g → Top p loose mean mg mb g → KtsDicts ([env].filterMap (·.frame)) g →
      wpAny (model prog w) (A.deeper (envOf qual scope L' f cdv)) (execs body (envOf qual scope L' f cdv))
        (fun fl s' => LeaveS0 ([env].filterMap (·.frame)) h₀ L m g R (match fl with | .ret v => v | _ => .none) s')
        (fun e s' => wpAny (model prog w) (A.deeper (envOf qual scope L' f cdv)) («leaving» (envOf qual scope L' f cdv) e) (fun _ s'' => R (.error e) s'') (fun e' s'' => R (.error e') s'') s')
        { s with heap := h₁, toks := s.toks + binds.length })
    (hco : scope.isCoroutine = false) (hgen : scope.isGenerator = false) (hk : scope.kind = .function)
    (hcell : ∀ x ∈ scope.names, x.2 ≠ .cell) : codeAny (model prog w) A (.call (.ref f) args) R s := by
  obtain ⟨FG, BG, st, _⟩ := groundX (R := R) B F N hA hf hke
  obtain ⟨oL, es, ep, hLg, hLd, hLr⟩ := FG.ns
  have one : [env].filterMap (·.frame) = [L] := by simp [hf]
  have low : h₀.get? L = none := kts_self F
  refine codeAny_call_def (fd := fnOf name qual params body scope dV kV doc pm an cdv ct) (body := body) (binds := binds) hroom ((X₀.keeps F.keep) _ _ ho) rfl (T.nolimit.keeps F.keep) (codeRec_of (X₀.keeps F.keep) hcd) rfl hbind hcell hloc (fun h₁ hns hk₁ => ?_) hco hgen hk
  refine wpAny_mono (h _ s.heap.objs.size h₁ ⟨hns, fun b o e => hk₁ b o (of_hideAll _ e), Nat.le_of_eq (hideAll_size _ _)⟩
    (fun q hq => ⟨hk₁ _ _ (N q hq).1, Nat.ne_of_lt (Heap.lt_size (N q hq).1), hideAll_none _ (List.mem_map_of_mem hq)⟩) BG (X₀.keeps st) (T.keeps st) (fun b hb => ?_)) (fun fl s' hl => ?_) fun _ _ y => y
  · rw [one] at hb
    obtain rfl := List.mem_singleton.mp hb
    exact ⟨oL, es, ep, hLg, hLd⟩
  · obtain ⟨g', L', m', news', T', F', N', k⟩ := hl
    rw [one] at T'
    obtain ⟨sl, hs⟩ := T'.up hLg
    refine k ⟨⟨_, es, ep, F'.keep _ _ hs, hLd, hLr⟩, fun b o e => ?_, F.above⟩ fun q hq => ⟨(N' q hq).1, fun z => ?_, ?_⟩
    · refine F'.keep b o (T'.other b o (st b o e) fun z => ?_)
      rw [List.mem_singleton.mp z, low] at e
      cases e
    · have := (N' q hq).2.2
      rw [z, hs] at this
      cases this
    · cases z : h₀.get? q.1 with
      | none => rfl
      | some o =>
        obtain ⟨sl', hs'⟩ := T'.up (st _ _ z)
        have := (N' q hq).2.2
        rw [hs'] at this
        cases this
end
noncomputable def EntIs (p : Addr × Obj) (q : Int × Int × Int × Int × Bool) : Prop := ∃ dx t1 t2 t3 t4, p.2 = entObj dx [.int q.1 t1, .int q.2.1 t2, .int q.2.2.1 t3, .int q.2.2.2.1 t4, .bool q.2.2.2.2]
inductive EntsAre : CbLed → List (Int × Int × Int × Int × Bool) → Prop
  | nil : EntsAre [] []
  | cons {p q es qs} : EntIs p q → EntsAre es qs → EntsAre (p :: es) (q :: qs)
theorem EntsAre.snoc {es qs} (h : EntsAre es qs) {p q} (e : EntIs p q) : EntsAre (es ++ [p]) (qs ++ [q]) := by
  induction h with
  | nil => exact .cons e .nil
  | cons h _ ih => exact .cons h ih
/-- an entry out of four whole numbers -/
noncomputable def rowOf (a b c d : Int) : Int × Int × Int × Int × Bool := (a * 2, a * 2 + b * 2, c * 2, d / 2, d % 2 != 0)
noncomputable def rowsOf : List Int → List (Int × Int × Int × Int × Bool)
  | a :: b :: c :: d :: r => rowOf a b c d :: rowsOf r
  | _ => []
/-- one varint: its first octet and the others -/
noncomputable def vVal (g : Int × List Int) : Int := vFold (g.1 % 64) g.2
noncomputable def vFlat : List (Int × List Int) → List Int
  | [] => []
  | g :: r => g.1 :: (g.2 ++ vFlat r)
noncomputable def vOk (g : Int × List Int) : Prop := vRest g.1 g.2 ∧ (vVal g).natAbs < 2 ^ 1000 ∧ 0 ≤ vVal g
noncomputable def REs (R : List (Int × Int × Int × Int × Bool)) (v : Value) (own : CbLed) : Prop := ∃ e n es, v = .ref e ∧ own = (e, listOf (es.map fun p => Value.ref p.1).toArray n) :: es ∧ EntsAre es R
noncomputable def CtrL (w : World) (f : Addr) (vs : List Value) (news : CbLed) (d : Nat) (P : Value → CbLed → Prop) : Prop :=
  ∀ (V : Program) (LO : List Str) (mean : ExcName → Option Value) (mg mb : Str → Option Value) (dp un : Nat) (gd : Option (List Code)) (cn : Str) (cs : Scope) (a : Addr) (ccd : Value) (cl : List (Str × Addr)) (A₀ : Around) (base h₀ : Heap) (L : Addr) (m : Str → Option Value) (s : Shared) (Q E : Value → Shared → Prop),
    Below A₀ base [] h₀ → Fr h₀ L s.heap m → (K w.params).In h₀ → (K w.params).In base → News h₀ L s.heap news → Top V LO mean mg mb h₀ → Top V LO mean mg mb base → cs.kind = .function →
    dp + d < recursionLimit → un + 8 * d < cLine →
    (∀ v own h' tk', P v own → (∀ p ∈ own, ∀ q ∈ news, q.1 < p.1) → Fr h₀ L h' m → News h₀ L h' (own ++ news) → Q v { s with heap := h', toks := tk' }) →
      wpAny (model Prg w) (ktrTop dp un gd cn cs L a ccd cl []) (call (.ref f) vs) Q E s
/-- one entry comes back, known by its five things -/
noncomputable def RQ (q : Int × Int × Int × Int × Bool) (v : Value) (own : CbLed) : Prop := ∃ e o, v = .ref e ∧ own = [(e, o)] ∧ EntIs (e, o) q
theorem c_entryQ (w : World) (x y z d : Int) (tx ty tz td : Tok) (b : Bool) (news : CbLed) : Ctr w 217 [.int x tx, .int y ty, .int z tz, .int d td, .bool b] [] news 3 (RQ (x, y, z, d, b)) :=
  fun _ _ _ _ _ _ _ _ _ _ _ _ _ _ _ _ _ _ _ _ _ _ B F X N T hk hd hu h =>
    (c_entry w x y z d tx ty tz td b news).use B F X N T hk hd hu fun v own h' tk' hP => h v own h' tk' (by
      obtain ⟨e, dx, rfl, rfl⟩ := hP
      exact ⟨e, _, rfl, rfl, dx, tx, ty, tz, td, rfl⟩)
theorem EntsAre.length {es qs} (h : EntsAre es qs) : es.length = qs.length := by
  induction h with
  | nil => rfl
  | cons _ _ ih => exact congrArg (· + 1) ih
theorem rowsOf_len : ∀ l : List Int, (rowsOf l).length ≤ l.length
  | a :: b :: c :: d :: r => by have := rowsOf_len r; simp only [rowsOf, List.length_cons]; omega
  | [] | [_] | [_, _] | [_, _, _] => by simp [rowsOf]
theorem vFlat_len : ∀ sg, sg.length ≤ (vFlat sg).length
  | [] => Nat.le_refl _
  | g :: r => by have := vFlat_len r; simp only [vFlat, List.length_cons, List.length_append]; omega
theorem rowOf_eq (a b c d : Int) : rowOf a b c d = (a * 2, a * 2 + b * 2, c * 2, d.fdiv (2 ^ (1 : Int).toNat), Builtin.bitAnd d 1 != 0) := by
  rw [bitAnd_m1]
  show _ = (a * 2, a * 2 + b * 2, c * 2, d.fdiv 2, d % 2 != 0)
  rw [Int.fdiv_eq_ediv_of_nonneg d (by decide)]; rfl
theorem CtrN.use {w : World} {f : Addr} {vs : List Value} {news : CbLed} {d : Nat} {P : Value → CbLed → Prop} {R : String → CbLed → Prop} (C : CtrN w f vs news d P R)
    {V : Program} {LO : List Str} {mean : ExcName → Option Value} {mg mb : Str → Option Value} {dp un : Nat} {gd : Option (List Code)} {cn : Str} {cs : Scope} {a : Addr} {ccd : Value} {outer : List Env} {A₀ : Around} {base h₀ : Heap} {L : Addr} {m : Str → Option Value} {s : Shared} {Q E : Value → Shared → Prop}
    (B : Below A₀ base outer h₀) (F : Fr h₀ L s.heap m) (X : (K w.params).In h₀) (N : News h₀ L s.heap news) (T : Top V LO mean mg mb h₀) (hk : cs.kind = .function) (hd : dp + d < recursionLimit) (hu : un + 8 * d < cLine)
    (h : ∀ v h' tk' news', P v news' → Fr h₀ L h' m → News h₀ L h' news' → Q v { s with heap := h', toks := tk' })
    (hx : ∀ c G e h' tk' news', R c news' → Fr h₀ L G m → RaisedSN base G (envOf cn cs L a ccd :: outer) e (.type c) news' h' → G.UpToSlots h' → E (.ref e) { s with heap := h', toks := tk' }) :
    wpAny (model Prg w) (ktrTop dp un gd cn cs L a ccd [] outer) (call (.ref f) vs) Q E s :=
  C _ _ _ _ _ _ _ _ _ _ _ _ _ _ _ _ _ _ _ _ _ B F X N T hk hd hu h hx
theorem v_at {os : List Int} {i : Nat} {g : Int × List Int} {gs : List (Int × List Int)} (h : os.drop i = vFlat (g :: gs)) : os.drop (i + 1 + g.2.length) = vFlat gs := by
  have e : os.drop (i + 1) = g.2 ++ vFlat gs := by rw [← List.drop_drop, h]; rfl
  rw [← List.drop_drop, e, List.drop_left]
theorem v_out {os : List Int} {vs : List Value} {i : Nat} (hi : IntsAre vs os) (h : os.drop i = vFlat []) : vs.length ≤ i := by
  rw [hi.length]; exact List.drop_eq_nil_iff.mp h
end
end Mine
namespace Mine
section
open PySem PySem.W PyProof.Rows PySem.Spec PySem.Calls
set_option maxRecDepth 100000
set_option maxHeartbeats 8000000
variable (w : World)
/-- where the loop over a table stops: the iterator at its end, the exception in flight out of the call of the varint -/
noncomputable def EStop (base g : Heap) (L it l lst : Addr) (rest0 : CbLed) (os0 : List Env) (m₀ : Str → Option Value) (R : List (Int × Int × Int × Int × Bool)) (s : Shared) (v : Value) (s' : Shared) : Prop :=
  ∃ G e h' tk' m' es n i, v = .ref e ∧ s' = { s with heap := h', toks := tk' } ∧ m' (Str.ofString "entries") = m₀ (Str.ofString "entries") ∧ EntsAre es R ∧ (∀ p ∈ es, ∀ q ∈ (lst, listOf #[] 0) :: rest0, q.1 < p.1) ∧ Fr g L G m' ∧
    RaisedSN base G os0 e (.type "StopIteration") ((it, itObj .none i) :: (lst, listOf (es.map fun p => Value.ref p.1).toArray n) :: (es ++ rest0)) h' ∧ G.UpToSlots h'
theorem stop_by {α : Type} {M : Model} {A A₁ : Around} {base g : Heap} {os0 os1 : List Env} {L : Addr} {h : Heap} {m₀ : Str → Option Value} {t : Sem α} {Q : α → Shared → Prop} {E : Value → Shared → Prop} {s1 : Shared} (it l lst : Addr) (rest0 : CbLed) (R : List (Int × Int × Int × Int × Bool)) (s : Shared)
    (_ : A.frames = some os0) (_ : Below A₁ base os1 g) (_ : Fr g L h m₀) (body : wpAny M A t Q (EStop base g L it l lst rest0 os0 m₀ R s) s1) (caught : ∀ v s', EStop base g L it l lst rest0 os0 m₀ R s v s' → E v s') : wpAny M A t Q E s1 :=
  wpAny_mono body (fun _ _ h => h) caught
theorem c_entries (l : Addr) (nn : Nat) (vs : List Value) (news : CbLed) (os : List Int) (sg : List (Int × List Int)) (hl : (l, listOf vs.toArray nn) ∈ news) (hi : IntsAre vs os)
    (hs : vFlat sg = os) (ok : ∀ g ∈ sg, vOk g) (hb : os.length ≤ 100000) :
    CtrL w 264 [.ref l] news 7 (REs (rowsOf (sg.map vVal))) := by
  intro V LO mean mg mb dp un gd cn cs a ccd cl A₀ base h₀ L m s Q E B F X XB N T TB hk hd hu hret
  refine wpAny_call ?_
  refine' code_low ?k1 ?k2 ?k3 ?k4 ?k5 ?kA ?kF ?kK ?k6 ?k7 ?k8 ?k9 ?kB ?_ ?c2 ?c3 ?c4 ?c5
  case kA => exact rfl
  case kF => exact rfl
  case kK => assumption
  case k1 => k_asm
  case k2 => k_asm
  case k3 => k_asm
  case k4 => k_asm
  case k5 => k_asm
  case k6 => k_is
  case k7 => k_is
  case k8 => ktr_room
  case k9 => exact BindsTo.of_eq rfl
  case c5 => decide
  case kB => exact locs rfl
  case c2 => exact rfl
  case c3 => exact rfl
  case c4 => exact rfl
  intro g1 L1 h1 F1 N1 B1 X1 T1 D1
  try dsimp only
  refine wp_hide fun Q1 E1 kQ1 _ => ?_
  repeat' ((fail_if_success (with_reducible show wpAny _ _ (PySem.call (Value.ref 234) _ _) _ _ _)); (first | (k_unfold; (try dsimp only)) | walk1 | (dsimp only; walk1)))
  refine wpAny_call ?_
  refine' code_defS (g₀ := g1) ?j1 ?j2 ?j3 ?j4 ?j5 ?jXB ?jTB ?jD ?jT0 ?jA ?j6 ?j7 ?j8 ?j9 ?jB ?_ ?jK ?d2 ?d3 ?d4 ?d5
  case jA => exact rfl
  case j2 => k_asm
  case j1 => exact B1
  case jXB => exact XB
  case jTB => exact TB
  case jD => exact D1
  case jT0 => exact KtsTurn.refl
  case j3 => exact X1
  case j4 => assumption
  case j5 => exact T1
  case j6 => k_is
  case j7 => k_is
  case j8 => ktr_room
  case j9 => exact BindsTo.of_eq rfl
  case jB => exact locs rfl
  case jK => exact rfl
  case d2 => exact rfl
  case d3 => exact rfl
  case d4 => exact rfl
  case d5 => decide
  intro g2 L2 h2 FG2 F2 N2 B2 X2 T2 D2
  try dsimp only
  refine wp_hideQ fun Q2 kQ2 => ?_
  repeat' ((fail_if_success (with_reducible show wpAny _ _ (exec (Stmt.While _ _ _ _) _) _ _ _)); (fail_if_success (with_reducible show wpAny _ _ (PySem.call (Value.builtin _) _ _) _ _ _)); (first | (k_unfold; (try dsimp only)) | walk1 | (dsimp only; walk1)))
  refine' ix_iter (items := vs.toArray) ?iF ?iN ?il ?_
  case iF => k_asm
  case iN => k_asm
  case il => exact kso_isList (by assumption : News g2 _ _ (_ :: _ :: news)) (.tail _ (.tail _ hl)) rfl
  intro it h3 F3 N3 lt3
  try dsimp only
  repeat' ((fail_if_success (with_reducible show wpAny _ _ (exec (Stmt.While _ _ _ _) _) _ _ _)); (first | (k_unfold; (try dsimp only)) | walk1 | (dsimp only; walk1)))
  rename (it < _ ∧ _) => ltL
  rename (∀ p ∈ news, p.1 < _) => ltd
  rename (_ < _) => ltx
  rename News g2 L2 _ _ => N4
  rename Fr g2 L2 _ _ => F4
  generalize hr : (_ :: _ :: news : CbLed) = rest0 at N4 lt3
  have hl0 : (l, listOf vs.toArray nn) ∈ rest0 := hr ▸ .tail _ (.tail _ hl)
  rename_i lst hq h4
  refine' ksw_while (σ := Nat × CbLed × Nat × List (Int × List Int) × List (Int × Int × Int × Int × Bool))
    (fun c => (it, itObj (.ref l) c.1) :: (lst, listOf (c.2.1.map fun p => Value.ref p.1).toArray c.2.2.1) :: (c.2.1 ++ rest0)) (fun _ => []) (fun _ => True)
    [Str.ofString "start", Str.ofString "length", Str.ofString "end", Str.ofString "target", Str.ofString "dl", Str.ofString "depth", Str.ofString "lasti"]
    (fun c => os.drop c.1 = vFlat c.2.2.2.1 ∧ (∀ g ∈ c.2.2.2.1, vOk g) ∧ EntsAre c.2.1 c.2.2.2.2 ∧ c.2.2.2.2 ++ rowsOf (c.2.2.2.1.map vVal) = rowsOf (sg.map vVal) ∧ (∀ p ∈ c.2.1, ∀ q ∈ (lst, listOf #[] 0) :: rest0, q.1 < p.1))
    (fun c => c.2.2.2.1.length) (0, [], 0, sg, []) ?zF ?zN trivial ?zk ?zp ?zt ?zE
  case zF => exact F4
  case zN => exact kst_newsOf N4 (fun p hp => by
    rcases List.mem_cons.mp hp with rfl | hp
    · exact .tail _ (.head _)
    · rcases List.mem_cons.mp hp with rfl | hp
      · exact .head _
      · exact .tail _ (.tail _ hp))
  case zk => exact nofun
  case zp =>
    dsimp only
    exact ⟨by rw [List.drop_zero, hs], ok, .nil, List.nil_append _, fun p hp => by cases hp⟩
  case zE => with_unfolding_all passes_own
  rintro ⟨i, es, n, gs, done⟩ u h5 tk5 _ ⟨p1, p2, p3, p4, p5⟩ F5 N5
  try dsimp only at p1 p2 p3 p4 p5 N5
  repeat' ((fail_if_success (with_reducible show wpAny _ _ (execs _ _) _ _ _)); (first | (k_unfold; (try dsimp only)) | walk1 | (dsimp only; walk1)))
  refine' stop_by it l lst rest0 (rowsOf (sg.map vVal)) s rfl B2 F4 ?body ?caught
  case caught =>
    rintro v s' ⟨G, e, h', tk', m', es, n, i, rfl, rfl, em, hes, lt, FG, RS, US⟩
    refine' caught_SN0 (T' := "StopIteration") RS FG B2 US XB TB D2 KtsTurn.refl ?ex PyProof.Rows.Boot.«StopIteration» ?hn ?he ?ht ?hs ?_
    case ex => k_is
    case hn => decide
    case hs => kts_sub
    case he => rw [isSubtype_type]; kernel_rfl!
    case ht => rw [isSubtype_type]; kernel_rfl!
    intro h9 g9 T9 F9 N9 B9 X9 P9 D9
    have em' : m' (Str.ofString "entries") = some (.ref lst) := em
    have F9' : Fr g9 L2 h9 (fun y => if y = Str.ofString "entries" then some (.ref lst) else m' y) := by
      have z : (fun y => if y = Str.ofString "entries" then some (Value.ref lst) else m' y) = m' := funext fun y => by
        by_cases q : y = Str.ofString "entries"
        · rw [if_pos q, q, em']
        · rw [if_neg q]
      rw [z]; exact F9
    clear F9
    try dsimp only
    repeat' (first | (k_unfold; (try dsimp only)) | walk1 | (dsimp only; walk1))
    refine kQ2 _ _ ?_
    try dsimp only
    refine' leaveS_r ?lF ?lN ?lT ?_
    case lF => exact F9'
    case lN => exact N9
    case lT => exact T9
    intro kg kT kF kN kB kX kP kD
    dsimp only
    refine kQ1 _ _ ?_
    dsimp only
    refine' leaveS0_ kF kN kT ?_
    intro kF2 kN2
    have own : ∀ p ∈ (lst, listOf (es.map fun p => Value.ref p.1).toArray n) :: es, ∀ q ∈ news, q.1 < p.1 := by
      intro p hp q hq
      have hq0 : q ∈ rest0 := hr ▸ .tail _ (.tail _ hq)
      have z := Nat.lt_trans (lt3 q hq0) ltL.1
      rcases List.mem_cons.mp hp with rfl | hp
      · exact z
      · exact Nat.lt_trans z (lt p hp _ (.head _))
    refine hret (.ref lst) _ _ _ ⟨lst, n, es, rfl, rfl, hes⟩ own kF2 (kst_newsOf kN2 fun p hp => ?_)
    rcases List.mem_append.mp hp with hp | hp
    · rcases List.mem_cons.mp hp with rfl | hp
      · exact .tail _ (.head _)
      · exact .tail _ (.tail _ (List.mem_append_left _ hp))
    · exact .tail _ (.tail _ (List.mem_append_right _ (hr ▸ .tail _ (.tail _ hp))))
  clear hret
  refine wp_hide fun Q3 E3 kQ3 kE3 => ?_
  have off : ∀ (es : CbLed) (n : Nat), (∀ p ∈ es, ∀ q ∈ (lst, listOf #[] 0) :: rest0, q.1 < p.1) → ∀ p ∈ (lst, listOf (es.map fun p => Value.ref p.1).toArray n) :: (es ++ rest0), p.1 ≠ it := by
    intro es n h5 p hp
    rcases List.mem_cons.mp hp with rfl | hp
    · exact Nat.ne_of_gt ltL.1
    · rcases List.mem_append.mp hp with hp | hp
      · exact Nat.ne_of_gt (Nat.lt_trans ltL.1 (h5 p hp _ (.head _)))
      · exact Nat.ne_of_lt (lt3 p hp)
  have inn : ∀ (es : CbLed) (n : Nat), (l, listOf vs.toArray nn) ∈ (lst, listOf (es.map fun p => Value.ref p.1).toArray n) :: (es ++ rest0) := fun es n => .tail _ (List.mem_append_right _ hl0)
  repeat' ((fail_if_success (with_reducible show wpAny _ _ (PySem.call (Value.ref 227) _ _) _ _ _)); (first | (k_unfold; (try dsimp only)) | walk1 | (dsimp only; walk1)))
  rcases gs with _ | ⟨g1, gs⟩
  · refine' CtrN.use (c_varEnd w it l i nn vs _ (off es n p5) (inn es n) (v_out hi p1)) ?xa1 ?xa2 ?xa3 ?xa4 ?xa5 ?xa6 ?xa7 ?xa8 ?xa9 ?xax
    case xa1 => k_asm
    case xa2 => k_asm
    case xa3 => k_asm
    case xa4 => assumption
    case xa5 => k_asm
    case xa6 => exact rfl
    case xa7 => ktr_room
    case xa8 => ktr_units
    case xa9 => exact fun _ _ _ _ h => h.elim
    case xax =>
      rintro _ G e h' tk' _ ⟨rfl, rfl⟩ FG RS US
      have p3' : EntsAre es (rowsOf (sg.map vVal)) := by rw [← p4]; simpa [rowsOf] using p3
      exact kE3 _ _ ⟨G, e, h', tk', _, es, n, _, rfl, rfl, rfl, p3', p5, FG, RS, US⟩
  have ok1 := p2 g1 (.head _)
  obtain ⟨i1, ei1⟩ : ∃ j, j = i + 1 + g1.2.length := ⟨_, rfl⟩
  have q1 := v_at p1
  rw [← ei1] at q1
  refine' CtrN.use (c_var w it l i i1 nn vs _ os g1.2 (vFlat gs) g1.1 (vVal g1) (off es n p5) (inn es n) hi p1 ok1.1 rfl ei1 ok1.2.1) ?ya1 ?ya2 ?ya3 ?ya4 ?ya5 ?ya6 ?ya7 ?ya8 ?ya9 ?yay
  case ya1 => k_asm
  case ya2 => k_asm
  case ya3 => k_asm
  case ya4 => assumption
  case ya5 => k_asm
  case ya6 => exact rfl
  case ya7 => ktr_room
  case ya8 => ktr_units
  case yay => exact fun _ _ _ _ _ _ h => h.elim
  rintro _ h1' tk1' _ ⟨rfl, t1, rfl⟩ F1' N1'
  try dsimp only
  repeat' ((fail_if_success (with_reducible show wpAny _ _ (PySem.call (Value.ref 227) _ _) _ _ _)); (first | (k_unfold; (try dsimp only)) | walk1 | (dsimp only; walk1)))
  rcases gs with _ | ⟨g2, gs⟩
  · refine' CtrN.use (c_varEnd w it l i1 nn vs _ (off es n p5) (inn es n) (v_out hi q1)) ?xb1 ?xb2 ?xb3 ?xb4 ?xb5 ?xb6 ?xb7 ?xb8 ?xb9 ?xbx
    case xb1 => k_asm
    case xb2 => k_asm
    case xb3 => k_asm
    case xb4 => assumption
    case xb5 => k_asm
    case xb6 => exact rfl
    case xb7 => ktr_room
    case xb8 => ktr_units
    case xb9 => exact fun _ _ _ _ h => h.elim
    case xbx =>
      rintro _ G e h' tk' _ ⟨rfl, rfl⟩ FG RS US
      have p3' : EntsAre es (rowsOf (sg.map vVal)) := by rw [← p4]; simpa [rowsOf] using p3
      exact kE3 _ _ ⟨G, e, h', tk', _, es, n, _, rfl, rfl, rfl, p3', p5, FG, RS, US⟩
  have ok2 := p2 g2 (.tail _ (.head _))
  obtain ⟨i2, ei2⟩ : ∃ j, j = i1 + 1 + g2.2.length := ⟨_, rfl⟩
  have q2 := v_at q1
  rw [← ei2] at q2
  refine' CtrN.use (c_var w it l i1 i2 nn vs _ os g2.2 (vFlat gs) g2.1 (vVal g2) (off es n p5) (inn es n) hi q1 ok2.1 rfl ei2 ok2.2.1) ?yb1 ?yb2 ?yb3 ?yb4 ?yb5 ?yb6 ?yb7 ?yb8 ?yb9 ?yby
  case yb1 => k_asm
  case yb2 => k_asm
  case yb3 => k_asm
  case yb4 => assumption
  case yb5 => k_asm
  case yb6 => exact rfl
  case yb7 => ktr_room
  case yb8 => ktr_units
  case yby => exact fun _ _ _ _ _ _ h => h.elim
  rintro _ h2' tk2' _ ⟨rfl, t2, rfl⟩ F2' N2'
  try dsimp only
  repeat' ((fail_if_success (with_reducible show wpAny _ _ (PySem.call (Value.ref 227) _ _) _ _ _)); (first | (k_unfold; (try dsimp only)) | walk1 | (dsimp only; walk1)))
  rcases gs with _ | ⟨g3, gs⟩
  · refine' CtrN.use (c_varEnd w it l i2 nn vs _ (off es n p5) (inn es n) (v_out hi q2)) ?xc1 ?xc2 ?xc3 ?xc4 ?xc5 ?xc6 ?xc7 ?xc8 ?xc9 ?xcx
    case xc1 => k_asm
    case xc2 => k_asm
    case xc3 => k_asm
    case xc4 => assumption
    case xc5 => k_asm
    case xc6 => exact rfl
    case xc7 => ktr_room
    case xc8 => ktr_units
    case xc9 => exact fun _ _ _ _ h => h.elim
    case xcx =>
      rintro _ G e h' tk' _ ⟨rfl, rfl⟩ FG RS US
      have p3' : EntsAre es (rowsOf (sg.map vVal)) := by rw [← p4]; simpa [rowsOf] using p3
      exact kE3 _ _ ⟨G, e, h', tk', _, es, n, _, rfl, rfl, rfl, p3', p5, FG, RS, US⟩
  have ok3 := p2 g3 (.tail _ (.tail _ (.head _)))
  obtain ⟨i3, ei3⟩ : ∃ j, j = i2 + 1 + g3.2.length := ⟨_, rfl⟩
  have q3 := v_at q2
  rw [← ei3] at q3
  refine' CtrN.use (c_var w it l i2 i3 nn vs _ os g3.2 (vFlat gs) g3.1 (vVal g3) (off es n p5) (inn es n) hi q2 ok3.1 rfl ei3 ok3.2.1) ?yc1 ?yc2 ?yc3 ?yc4 ?yc5 ?yc6 ?yc7 ?yc8 ?yc9 ?ycy
  case yc1 => k_asm
  case yc2 => k_asm
  case yc3 => k_asm
  case yc4 => assumption
  case yc5 => k_asm
  case yc6 => exact rfl
  case yc7 => ktr_room
  case yc8 => ktr_units
  case ycy => exact fun _ _ _ _ _ _ h => h.elim
  rintro _ h3' tk3' _ ⟨rfl, t3, rfl⟩ F3' N3'
  try dsimp only
  repeat' ((fail_if_success (with_reducible show wpAny _ _ (PySem.call (Value.ref 227) _ _) _ _ _)); (first | (k_unfold; (try dsimp only)) | walk1 | (dsimp only; walk1)))
  rcases gs with _ | ⟨g4, gs⟩
  · refine' CtrN.use (c_varEnd w it l i3 nn vs _ (off es n p5) (inn es n) (v_out hi q3)) ?xd1 ?xd2 ?xd3 ?xd4 ?xd5 ?xd6 ?xd7 ?xd8 ?xd9 ?xdx
    case xd1 => k_asm
    case xd2 => k_asm
    case xd3 => k_asm
    case xd4 => assumption
    case xd5 => k_asm
    case xd6 => exact rfl
    case xd7 => ktr_room
    case xd8 => ktr_units
    case xd9 => exact fun _ _ _ _ h => h.elim
    case xdx =>
      rintro _ G e h' tk' _ ⟨rfl, rfl⟩ FG RS US
      have p3' : EntsAre es (rowsOf (sg.map vVal)) := by rw [← p4]; simpa [rowsOf] using p3
      exact kE3 _ _ ⟨G, e, h', tk', _, es, n, _, rfl, rfl, rfl, p3', p5, FG, RS, US⟩
  have ok4 := p2 g4 (.tail _ (.tail _ (.tail _ (.head _))))
  obtain ⟨i4, ei4⟩ : ∃ j, j = i3 + 1 + g4.2.length := ⟨_, rfl⟩
  have q4 := v_at q3
  rw [← ei4] at q4
  refine' CtrN.use (c_var w it l i3 i4 nn vs _ os g4.2 (vFlat gs) g4.1 (vVal g4) (off es n p5) (inn es n) hi q3 ok4.1 rfl ei4 ok4.2.1) ?yd1 ?yd2 ?yd3 ?yd4 ?yd5 ?yd6 ?yd7 ?yd8 ?yd9 ?ydy
  case yd1 => k_asm
  case yd2 => k_asm
  case yd3 => k_asm
  case yd4 => assumption
  case yd5 => k_asm
  case yd6 => exact rfl
  case yd7 => ktr_room
  case yd8 => ktr_units
  case ydy => exact fun _ _ _ _ _ _ h => h.elim
  rintro _ h4' tk4' _ ⟨rfl, t4, rfl⟩ F4' N4'
  try dsimp only
  repeat' ((fail_if_success (with_reducible show wpAny _ _ (PySem.call (Value.ref 217) _ _) _ _ _)); (first | (k_unfold; (try dsimp only)) | walk1 | (dsimp only; walk1)))
  refine' Ctr.use (c_entryQ w _ _ _ _ _ _ _ _ _ _) ?z1 ?z2 ?z3 ?z4 ?z5 ?z6 ?z7 ?z8 ?_
  case z1 => k_asm
  case z2 => k_asm
  case z3 => k_asm
  case z4 => k_asm
  case z5 => k_asm
  case z6 => exact rfl
  case z7 => ktr_room
  case z8 => ktr_units
  rintro _ _ h6 tk6 ⟨e, oe, rfl, rfl, hq6⟩ lt6 F6 N6
  try dsimp only
  repeat' ((fail_if_success (with_reducible show wpAny _ _ (PySem.call (Value.builtin "list.append") _ _) _ _ _)); (first | (k_unfold; (try dsimp only)) | walk1 | (dsimp only; walk1)))
  have lt_l : ∀ p ∈ es ++ rest0, p.1 ≠ lst := fun p hp => by
    rcases List.mem_append.mp hp with hp | hp
    · exact Nat.ne_of_gt (p5 p hp _ (.head _))
    · exact Nat.ne_of_lt (Nat.lt_trans (lt3 p hp) ltL.1)
  have lt_e := lt6 _ (.head _)
  have few : es.length ≤ 100000 := by
    have z1 := p3.length
    have z2 := congrArg List.length p4
    rw [List.length_append] at z2
    have z3 := rowsOf_len (sg.map vVal)
    rw [List.length_map] at z3
    have z4 := vFlat_len sg
    rw [hs] at z4
    omega
  refine' append_K ?aF N6 (.tail (Nat.ne_of_gt (lt_e _ (.tail _ (.head _)))) (.tail (Nat.ne_of_lt ltL.1) (.head lt_l))) ?_ ?az
  case aF => k_asm
  case az => simp only [List.size_toArray, List.length_map, sizeLine_eq]; omega
  intro h7 F7 N7
  try dsimp only
  repeat' (first | (k_unfold; (try dsimp only)) | walk1 | (dsimp only; walk1))
  refine kQ3 _ _ ?_
  dsimp only [KswPost]
  have p3' := p3.snoc hq6
  rw [← rowOf_eq] at p3'
  have eL : ((es.map fun p => Value.ref p.1).toArray.push (.ref e)) = ((es ++ [(e, oe)]).map fun p => Value.ref p.1).toArray := by simp
  rw [eL] at N7
  refine' ksw_end (i4, es ++ [(e, oe)], n + 1, gs, done ++ [rowOf (vVal g1) (vVal g2) (vVal g3) (vVal g4)]) F7 N7 ?en trivial nofun ?er ⟨q4, ?ep2, p3', ?ep4, ?ep5⟩ ?em
  case er => exact fun z _ h3 => by simp only [List.contains_cons, List.contains_nil, Bool.or_false, Bool.or_eq_false_iff, beq_eq_false_iff_ne, ne_eq] at h3; simp [h3, kstB]
  case em => simp only [List.length_cons]; omega
  case ep2 => exact fun g hg => p2 g (.tail _ (.tail _ (.tail _ (.tail _ hg))))
  case ep4 => rw [← p4]; simp [rowsOf]
  case ep5 =>
    intro p hp q hq
    rcases List.mem_append.mp hp with hp | hp
    · exact p5 p hp q hq
    · rw [List.mem_singleton.mp hp]
      rcases List.mem_cons.mp hq with rfl | hq
      · exact (lt_e (lst, _) (.tail _ (.head _)) : lst < e)
      · exact lt_e _ (.tail _ (.tail _ (List.mem_append_right _ hq)))
  case en =>
    intro p hp
    rcases List.mem_cons.mp hp with rfl | hp
    · exact .tail _ (.head _)
    · rcases List.mem_cons.mp hp with rfl | hp
      · exact .tail _ (.tail _ (.head _))
      · rcases List.mem_append.mp hp with hp | hp
        · rcases List.mem_append.mp hp with hp | hp
          · exact .tail _ (.tail _ (.tail _ (List.mem_append_left _ hp)))
          · rw [List.mem_singleton.mp hp]; exact .head _
        · exact .tail _ (.tail _ (.tail _ (List.mem_append_right _ hp)))
end
end Mine
namespace Mine
section
open PySem PySem.W PyProof.Rows PySem.Spec PySem.Calls
set_option maxRecDepth 100000
set_option maxHeartbeats 8000000
/-- the higher figures of a number to the base 64, each with the mark -/
noncomputable def hiF (y : Nat) : List Int := if h : y = 0 then [] else hiF (y / 64) ++ [((y % 64 : Nat) : Int) + 64]
termination_by y
decreasing_by omega
theorem hiF_zero : hiF 0 = [] := by unfold hiF; simp
theorem hiF_pos {y : Nat} (h : y ≠ 0) : hiF y = hiF (y / 64) ++ [((y % 64 : Nat) : Int) + 64] := by rw [hiF]; simp [h]
noncomputable def segF (x : Nat) : List Int := hiF (x / 64) ++ [((x % 64 : Nat) : Int)]
noncomputable def octF (ns : List Nat) : List Int := ns.flatMap segF
noncomputable def up (l : List Int) : List Int := match l with | [] => [] | a :: r => (a + 128) :: r
/-- a list of whole numbers comes back -/
noncomputable def RL (os : List Int) (v : Value) (own : CbLed) : Prop := ∃ l vs n, v = .ref l ∧ IntsAre vs os ∧ own = [(l, listOf vs.toArray n)]
theorem hiF_len : ∀ (k y : Nat), y < 64 ^ k → (hiF y).length ≤ k
  | 0, y, h => by have : y = 0 := by simpa using h
                  rw [this, hiF_zero]; exact Nat.le_refl _
  | k + 1, y, h => by
    by_cases e : y = 0
    · rw [e, hiF_zero]; exact Nat.zero_le _
    · rw [hiF_pos e, List.length_append]
      have := hiF_len k (y / 64) (Nat.div_lt_of_lt_mul (by rw [Nat.pow_succ] at h; omega))
      simp only [List.length_singleton]; omega
theorem segF_len {x : Nat} (h : x < 2 ^ 1000) : (segF x).length ≤ 200 := by
  have := hiF_len 199 (x / 64) (Nat.lt_of_le_of_lt (Nat.div_le_self _ _) (Nat.lt_trans h (by decide)))
  rw [segF, List.length_append, List.length_singleton]; omega
theorem i_div (y : Nat) : ((y : Int)).fdiv 64 = ((y / 64 : Nat) : Int) := by rw [Int.fdiv_eq_ediv_of_nonneg _ (by decide)]; rfl
theorem i_mod (y : Nat) : ((y : Int)).fmod 64 = ((y % 64 : Nat) : Int) := by rw [Int.fmod_eq_emod_of_nonneg _ (by decide)]; rfl
theorem flat_len : ∀ (l : List Int), (∀ z ∈ l, z.toNat < 2 ^ 1000) → (l.flatMap fun (z : Int) => segF z.toNat).length ≤ 200 * l.length
  | [], _ => Nat.le_refl _
  | a :: r, h => by
    have h1 := segF_len (h a (.head _))
    have h2 := flat_len r (fun z hz => h z (.tail _ hz))
    rw [List.flatMap_cons, List.length_append, List.length_cons]; omega
theorem flat_nat : ∀ ns : List Nat, (ns.map fun (x : Nat) => (x : Int)).flatMap (fun (z : Int) => segF z.toNat) = octF ns
  | [] => rfl
  | a :: r => by rw [List.map_cons, List.flatMap_cons, flat_nat r]; rfl
theorem segF_ne (x : Nat) : segF x ≠ [] := by simp [segF]
theorem octF_ne {ns : List Nat} (h : ns ≠ []) : octF ns ≠ [] := by
  cases ns with
  | nil => exact absurd rfl h
  | cons a r => intro z; exact segF_ne a (List.append_eq_nil_iff.mp z).1
variable (w : World)
theorem c_octets (l : Addr) (nn : Nat) (vs : List Value) (news : CbLed) (ns : List Nat) (hl : (l, listOf vs.toArray nn) ∈ news) (hi : IntsAre vs (ns.map fun (x : Nat) => (x : Int))) (hne : ns ≠ []) (hsz : ns.length ≤ 1000) (hb : ∀ x ∈ ns, x < 2 ^ 1000) :
    Ctr w 257 [.ref l] [] news 2 (RL (up (octF ns))) := by
  intro V LO mean mg mb dp un gd cn cs a ccd cl outer A₀ base h₀ L m s Q E B F X N T hk hd hu hret
  refine wpAny_call ?_
  cell_enter
  refine wp_hideP fun Q1 E1 kQ1 _ pE1 => ?_
  repeat' ((fail_if_success (with_reducible show wpAny _ _ (pyIter _) _ _ _)); (first | (k_unfold; (try dsimp only)) | walk1 | (dsimp only; walk1)))
  rename News _ _ _ ((_, listOf #[] 0) :: news) => N3
  rename Fr _ _ _ _ => F3
  rename IntsAre _ _ => hi
  rename (∀ p ∈ news, p.1 < _) => ltO
  rename_i o _ h3
  refine' kst_listL (σ := List Value × List Int × Nat) (fun c => (o, listOf c.1.toArray c.2.2) :: news) (fun _ => []) (fun _ => True) [Str.ofString "figures"]
    (fun pre c => IntsAre c.1 c.2.1 ∧ c.2.1 = pre.flatMap (fun (z : Int) => segF z.toNat)) ([], [], 0) rfl (fun _ => .tail _ hl) hi ?zF ?zN trivial nofun ⟨.nil, rfl⟩ ?turn ?done
  case zF => exact F3
  case zN => exact N3
  case turn =>
    rintro ⟨ovs, os, on⟩ pre post x tx u h4 tk4 own ens hx hoff _ ⟨p1, p2⟩ F4 N4
    obtain ⟨x, hxm, rfl⟩ := List.mem_map.mp hx
    have hxb := hb x hxm
    try dsimp only at p1 p2 N4
    refine wp_hideP fun Q2 E2 kQ2 _ pE2 => ?_
    repeat' ((fail_if_success (with_reducible show wpAny _ _ (exec (Stmt.While _ _ _ _) _) _ _ _)); (first | (k_unfold; (try dsimp only)) | walk1 | (dsimp only; walk1)))
    rename News _ _ _ ((_, listOf #[_] 0) :: _) => N5
    rename Fr _ _ _ _ => F5
    rename_i f _ _ _ ltF h5
    refine' ksw_while (σ := Nat × Tok × List Value × List Int × Nat) (fun c => (f, listOf c.2.2.1.toArray c.2.2.2.2) :: ((o, listOf ovs.toArray on) :: news ++ own)) (fun c => [(Str.ofString "number", .int (c.1 : Int) c.2.1)]) (fun _ => True) []
      (fun c => IntsAre c.2.2.1 c.2.2.2.1 ∧ hiF (c.1 / 64) ++ c.2.2.2.1.reverse = segF x ∧ c.1 < 2 ^ 1000) (fun c => c.1) (x, tx, [.int ((x : Int).fmod 64) (tk4 + 1)], [(x : Int).fmod 64], 0) ?wF ?wN trivial ?wk ?wp ?wt ?wE
    case wF => exact F5
    case wN => exact N5
    case wk => exact List.forall_mem_cons.mpr ⟨rfl, nofun⟩
    case wp => exact ⟨.cons _ _ .nil, by rw [Int.fmod_eq_emod_of_nonneg _ (by decide)]; rfl, hxb⟩
    case wE => exact pE2
    rintro ⟨y, ty, fvs, fs, k⟩ u6 h6 tk6 _ ⟨r1, r2, r3⟩ F6 N6
    try dsimp only at r1 r2 r3 N6
    have fl : fs.length ≤ 200 := by
      have z := congrArg List.length r2
      rw [List.length_append, List.length_reverse] at z
      have := segF_len hxb
      omega
    have fl2 : fvs.length ≤ 200 := by rw [r1.length]; exact fl
    repeat' ((fail_if_success (with_reducible show wpAny _ _ (execs _ _) _ _ _)); (first | (k_unfold; (try dsimp only)) | walk1 | (dsimp only; walk1)))
    all_goals dsimp only
    · refine wp_hide fun Q3 E3 kQ3 _ => ?_
      rename (63 < _) => big
      dsimp only at big
      repeat' ((fail_if_success (with_reducible show wpAny _ _ (PySem.call (Value.builtin "list.append") _ _) _ _ _)); (first | (k_unfold; (try dsimp only)) | walk1 | (dsimp only; walk1)))
      rename News _ _ _ ((f, _) :: _) => N6'
      refine' append_K ?aF N6' (.head (fun p hp => Nat.ne_of_lt (ltF p hp))) ?_ ?az
      case aF => k_asm
      case az => simp only [List.size_toArray, sizeLine_eq]; omega
      intro h7 F7 N7
      try dsimp only
      repeat' (first | (k_unfold; (try dsimp only)) | walk1 | (dsimp only; walk1))
      refine kQ3 _ _ ?_
      dsimp only [KswPost]
      dsimp only at F7 N7
      rw [i_div] at F7 N7
      rw [i_mod, List.push_toArray] at N7
      refine ksw_end (y / 64, _, fvs ++ [.int (((y / 64 % 64 : Nat) : Int) + 64) _], fs ++ [((y / 64 % 64 : Nat) : Int) + 64], k + 1) F7 N7 (fun _ h => h) trivial (List.forall_mem_cons.mpr ⟨rfl, nofun⟩) (fun z h2 _ => by simp only [List.forall_mem_cons, ne_eq] at h2; simp [h2, kstB]) ⟨r1.append (.cons _ _ .nil), ?_, ?_⟩ (Nat.div_lt_self (by omega) (by decide))
      · have : y / 64 ≠ 0 := by omega
        rw [← r2, hiF_pos this, List.reverse_append]; simp
      · exact Nat.lt_of_le_of_lt (Nat.div_le_self _ _) r3
    · rename (¬ 63 < _) => small
      dsimp only at small
      have e0 : fs.reverse = segF x := by
        have : y / 64 = 0 := by omega
        rw [this, hiF_zero] at r2; exact r2
      repeat' ((fail_if_success (with_reducible show wpAny _ _ (subscriptTail _ _ _ _) _ _ _)); (first | (k_unfold; (try dsimp only)) | walk1 | (dsimp only; walk1)))
      rename News _ _ _ ((f, _) :: _) => N6'
      refine' krv_ints ?qF N6' (kso_isList N6' (.head _) rfl) (.int _ _) r1 ?_ ?qs ?qt ?qz
      case qF => k_asm
      case qs => with_unfolding_all rfl
      case qt => kmk_pure
      case qz => simp only [List.size_toArray, sizeLine_eq]; omega
      intro D ws h8 F8 N8 lt8 hI8 _
      try dsimp only
      repeat' ((fail_if_success (with_reducible show wpAny _ _ (PySem.call (Value.builtin "list.extend") _ _) _ _ _)); (first | (k_unfold; (try dsimp only)) | walk1 | (dsimp only; walk1)))
      have prel : pre.length ≤ 1000 := by
        have z := congrArg List.length ens
        rw [List.length_map, List.length_append] at z
        omega
      have preb : ∀ z ∈ pre, z.toNat < 2 ^ 1000 := fun z hz => by
        have : z ∈ ns.map fun (x : Nat) => (x : Int) := ens ▸ List.mem_append_left _ hz
        obtain ⟨y, hy, rfl⟩ := List.mem_map.mp this
        exact hb y hy
      have ol := flat_len pre preb
      have ol2 : ovs.length ≤ 200000 := by rw [p1.length, p2]; omega
      have wl : ws.length ≤ 200 := by rw [hI8.length, List.length_reverse]; exact fl
      refine' extend_in_ints (own := [(D, _), (f, _)]) (rest := news ++ own) ?eF N8 ?eo ?ea (N8 _ (.head _)).1 p1 hI8 ?_ ?ez
      case eF => k_asm
      case ez => simp only [List.size_toArray, sizeLine_eq]; omega
      case eo =>
        intro p hp
        rcases List.mem_cons.mp hp with rfl | hp
        · exact Nat.ne_of_gt (lt8 (o, _) (.tail _ (.head _)))
        · rw [List.mem_singleton.mp hp]; exact Nat.ne_of_gt (ltF (o, _) (.head _))
      case ea =>
        intro p hp
        rcases List.mem_append.mp hp with hp | hp
        · exact Nat.ne_of_lt (ltO p hp)
        · exact hoff p hp o (.head _)
      intro h9 n9 F9 N9 I9
      try dsimp only
      repeat' (first | (k_unfold; (try dsimp only)) | walk1 | (dsimp only; walk1))
      refine kQ2 _ _ ?_
      dsimp only [InvPostN]
      refine kst_end (_, _, n9) F9 N9 ?_ ?_ rfl trivial nofun ?_ ⟨I9, ?_⟩
      · intro p hp
        rcases List.mem_cons.mp hp with rfl | hp
        · exact .tail _ (.tail _ (.head _))
        · exact .tail _ (.tail _ (.tail _ (List.mem_append_left _ hp)))
      · exact fun p hp => .tail _ (.tail _ (.tail _ (List.mem_append_right _ hp)))
      · intro z h1 _ h3
        simp only [List.contains_cons, List.contains_nil, Bool.or_false, beq_eq_false_iff_ne, ne_eq] at h3
        simp [h1, h3, kstB]
      · rw [e0, p2, List.flatMap_append, List.flatMap_singleton]; rfl
  case done =>
    rintro ⟨ovs, os, on⟩ u h4 tk4 _ ⟨p1, p2⟩ F4 N4
    try dsimp only at p1 p2 N4
    try dsimp only
    rw [flat_nat] at p2
    obtain ⟨a0, r0, e0⟩ := List.exists_cons_of_ne_nil (octF_ne hne)
    rw [e0] at p2
    subst p2
    obtain ⟨t0, ovs', rfl, p1'⟩ := p1.cons_inv
    repeat' ((fail_if_success (with_reducible show wpAny _ _ (subscriptTail _ _ _ _) _ _ _)); (first | (k_unfold; (try dsimp only)) | walk1 | (dsimp only; walk1)))
    refine' item_list_intsR (kso_isList N4 (.head _) rfl) (.cons a0 t0 p1') (by decide) ?_ (by decide) ?_ ?_
    · simp only [List.length_cons]; omega
    rotate_left
    · with_unfolding_all rfl
    intro t1
    try dsimp only
    repeat' ((fail_if_success (with_reducible show wpAny _ _ (setItem _ _ _) _ _ _)); (first | (k_unfold; (try dsimp only)) | walk1 | (dsimp only; walk1)))
    refine' ki_set (q := .int (a0 + 128) _ :: ovs') ?sF N4 (by decide) (by decide) rfl (.head (fun p hp => Nat.ne_of_lt (ltO p hp))) ?_
    case sF => k_asm
    intro h5 F5 N5
    try dsimp only
    repeat' (first | (k_unfold; (try dsimp only)) | walk1 | (dsimp only; walk1))
    refine kQ1 _ _ ?_
    dsimp only [qk]
    repeat' (first | (k_unfold; (try dsimp only)) | walk1 | (dsimp only; walk1))
    refine hret _ [(o, _)] _ _ ⟨o, _, _, rfl, ?_, rfl⟩ (fun p hp q hq => by rw [List.mem_singleton.mp hp]; exact ltO q hq) (by assumption) (by assumption)
    rw [e0]
    exact .cons (a0 + 128) _ p1'
end
end Mine
namespace Mine
section
open PySem PySem.W PyProof.Rows PySem.Spec PySem.Calls
set_option maxRecDepth 100000
set_option maxHeartbeats 8000000
/-- a number's signs: its figures to the base 64, from 64 on -/
noncomputable def wordL (y : Nat) : List Nat := if h : y = 0 then [] else wordL (y / 64) ++ [64 + y % 64]
termination_by y
decreasing_by omega
theorem wordL_zero : wordL 0 = [] := by unfold wordL; simp
theorem wordL_pos {y : Nat} (h : y ≠ 0) : wordL y = wordL (y / 64) ++ [64 + y % 64] := by rw [wordL]; simp [h]
noncomputable def wordF (x : Nat) : Str := ⟨(wordL x).toArray⟩
theorem wordL_len : ∀ (k y : Nat), y < 64 ^ k → (wordL y).length ≤ k
  | 0, y, h => by have : y = 0 := by simpa using h
                  rw [this, wordL_zero]; exact Nat.le_refl _
  | k + 1, y, h => by
    by_cases e : y = 0
    · rw [e, wordL_zero]; exact Nat.zero_le _
    · rw [wordL_pos e, List.length_append]
      have := wordL_len k (y / 64) (Nat.div_lt_of_lt_mul (by rw [Nat.pow_succ] at h; omega))
      simp only [List.length_singleton]; omega
theorem w_empty : Str.ofString "" = (⟨([] : List Nat).toArray⟩ : Str) := by decide +kernel
theorem w_chr (y : Nat) : ((64 : Int) + ((y % 64 : Nat) : Int)).toNat = 64 + y % 64 := by omega
theorem w_cat (a : Nat) (l : List Nat) : (⟨#[a]⟩ : Str) ++ ⟨l.toArray⟩ = ⟨(a :: l).toArray⟩ := by
  show (⟨#[a] ++ l.toArray⟩ : Str) = _
  simp
theorem w_div (y : Nat) : ((y : Int)).fdiv 64 = ((y / 64 : Nat) : Int) := by rw [Int.fdiv_eq_ediv_of_nonneg _ (by decide)]; rfl
theorem w_mod (y : Nat) : ((y : Int)).fmod 64 = ((y % 64 : Nat) : Int) := by rw [Int.fmod_eq_emod_of_nonneg _ (by decide)]; rfl
variable (w : World)
theorem c_word (x : Nat) (tx : Tok) (news : CbLed) (hx : x < 2 ^ 1000) : Ctr w 271 [.int (x : Int) tx] [] news 2 (RS (wordF x)) := by
  intro V LO mean mg mb dp un gd cn cs a ccd cl outer A₀ base h₀ L m s Q E B F X N T hk hd hu hret
  refine wpAny_call ?_
  cell_enter
  refine wp_hideP fun Q1 E1 kQ1 _ pE1 => ?_
  repeat' ((fail_if_success (with_reducible show wpAny _ _ (exec (Stmt.While _ _ _ _) _) _ _ _)); (first | (k_unfold; (try dsimp only)) | walk1 | (dsimp only; walk1)))
  rename News _ _ _ news => N5
  rename Fr _ _ _ _ => F5
  rename_i h5
  refine' ksw_while (σ := Nat × Tok × List Nat × Tok) (fun _ => news) (fun c => [(Str.ofString "number", .int (c.1 : Int) c.2.1), (Str.ofString "signs", .str ⟨c.2.2.1.toArray⟩ c.2.2.2)]) (fun _ => True) []
    (fun c => wordL c.1 ++ c.2.2.1 = wordL x ∧ c.1 < 2 ^ 1000) (fun c => c.1) (x, tx, [], tk) ?wF ?wN trivial ?wk ?wp ?wt ?wE
  case wF => exact F5
  case wN => exact N5
  case wk => exact List.forall_mem_cons.mpr ⟨rfl, List.forall_mem_cons.mpr ⟨congrArg (fun z => some (Value.str z tk)) w_empty, nofun⟩⟩
  case wp => exact ⟨List.append_nil _, hx⟩
  case wE => exact pE1
  rintro ⟨y, ty, l, tl⟩ u6 h6 tk6 _ ⟨r1, r2⟩ F6 N6
  try dsimp only at r1 r2 N6
  have ll : l.length ≤ 200 := by
    have z := congrArg List.length r1
    rw [List.length_append] at z
    have := wordL_len 199 x (Nat.lt_trans hx (by decide))
    omega
  repeat' ((fail_if_success (with_reducible show wpAny _ _ (execs _ _) _ _ _)); (first | (k_unfold; (try dsimp only)) | walk1 | (dsimp only; walk1)))
  all_goals dsimp only
  · rename (0 < _) => pos
    dsimp only at pos
    have hy : y ≠ 0 := by omega
    refine wp_hide fun Q3 E3 kQ3 _ => ?_
    repeat' ((fail_if_success (with_reducible show wpAny _ _ (PySem.call _ _ _) _ _ _)); (first | (k_unfold; (try dsimp only)) | walk1 | (dsimp only; walk1)))
    refine' Ctr.useI (c_mod w _ _ _ _ _ (by decide)) ?a1 ?a2 ?a3 ?a4 ?a5 ?a6 ?a7 ?a8 ?_
    case a1 => k_asm
    case a2 => k_asm
    case a3 => k_asm
    case a4 => k_asm
    case a5 => k_asm
    case a6 => exact rfl
    case a7 => ktr_room
    case a8 => ktr_units
    intro t7 h7 tk7 F7 N7
    rw [w_mod]
    try dsimp only
    repeat' ((fail_if_success (with_reducible show wpAny _ _ (PySem.call _ _ _) _ _ _)); (first | (k_unfold; (try dsimp only)) | walk1 | (dsimp only; walk1)))
    refine chr_of_range (by omega) (by omega) ?_
    rw [w_chr]
    try dsimp only
    repeat' ((fail_if_success (with_reducible show wpAny _ _ (binaryOp _ _ _) _ _ _)); (first | (k_unfold; (try dsimp only)) | walk1 | (dsimp only; walk1)))
    refine PyProof.Rows.add_str (fun t8 tk8 => ?_) ?len
    case len => simp only [PySem.Str.length, List.size_toArray, List.length_cons, List.length_nil, sizeLine_eq]; omega
    rw [w_cat]
    try dsimp only
    repeat' ((fail_if_success (with_reducible show wpAny _ _ (PySem.call _ _ _) _ _ _)); (first | (k_unfold; (try dsimp only)) | walk1 | (dsimp only; walk1)))
    refine' Ctr.useI (c_floordiv w _ _ _ _ _ (by decide) (by decide)) ?b1 ?b2 ?b3 ?b4 ?b5 ?b6 ?b7 ?b8 ?_
    case b1 => k_asm
    case b2 => k_asm
    case b3 => k_asm
    case b4 => k_asm
    case b5 => k_asm
    case b6 => exact rfl
    case b7 => ktr_room
    case b8 => ktr_units
    intro t9 h9 tk9 F9 N9
    rw [w_div]
    try dsimp only
    repeat' (first | (k_unfold; (try dsimp only)) | walk1 | (dsimp only; walk1))
    refine kQ3 _ _ ?_
    dsimp only [KswPost]
    rename Fr _ _ _ _ => F10
    refine ksw_end (y / 64, _, (64 + y % 64) :: l, _) F10 (by assumption) (fun _ h => h) trivial (List.forall_mem_cons.mpr ⟨rfl, List.forall_mem_cons.mpr ⟨rfl, nofun⟩⟩) (fun z h2 _ => by simp only [List.forall_mem_cons, ne_eq] at h2; simp [h2, kstB]) ⟨?_, ?_⟩ (Nat.div_lt_self (by omega) (by decide))
    · show wordL (y / 64) ++ ((64 + y % 64) :: l) = wordL x
      rw [← r1, wordL_pos hy, List.append_assoc]; rfl
    · exact Nat.lt_of_le_of_lt (Nat.div_le_self _ _) r2
  · rename (¬ 0 < _) => npos
    dsimp only at npos
    have hy : y = 0 := by omega
    subst hy
    rw [wordL_zero, List.nil_append] at r1
    repeat' (first | (k_unfold; (try dsimp only)) | walk1 | (dsimp only; walk1))
    refine kQ1 _ _ ?_
    dsimp only [qk]
    repeat' (first | (k_unfold; (try dsimp only)) | walk1 | (dsimp only; walk1))
    exact Ctr.retS hret (by rw [r1]; rfl) (by assumption) (by assumption) (fun _ h => h)
end
end Mine
namespace Mine
section
open PySem PySem.W PyProof.Rows PySem.Spec PySem.Calls
set_option maxRecDepth 100000
set_option maxHeartbeats 4000000
section
variable {prog : Program} {w : World} {A : Around} {E : Value → Shared → Prop} {s : Shared} {env : Env} {h₀ : Heap} {l : Addr} {vs : List Value} {nn : Nat} {tgt : PySem.Expr} {body : List Stmt} {Q : Flow → Shared → Prop} {m : Str → Option Value} {led : CbLed}
theorem own_go {M : Model} {it : Addr} {o : Obj} {v : Value} {Q : Unit → Shared → Prop} (ho : s.heap.get? it = some o) (hc : o.cls = .type "list_iterator") (hq : Q () s) : wpAny M A (letOwnedTupleGo tgt (.ref it) v) Q E s := by
  unfold letOwnedTupleGo
  split
  · split
    · rename_i r a e
      obtain ⟨e1, e2⟩ := Prod.mk.inj e
      injection e1 with e1
      subst e1
      refine wpAny_bind (wpAny_load ho ?_)
      rw [hc]
      split
      · rename_i n vs e3 _
        injection e3 with e3
        subst e3
        refine wpAny_ite_split (fun hab => absurd hab ?_) (fun _ => wpAny_pure hq)
        simp
      · exact wpAny_pure hq
    · exact wpAny_pure hq
  · split
    · rename_i r a e
      obtain ⟨e1, e2⟩ := Prod.mk.inj e
      injection e1 with e1
      subst e1
      refine wpAny_bind (wpAny_load ho ?_)
      rw [hc]
      split
      · rename_i n vs e3 _
        injection e3 with e3
        subst e3
        refine wpAny_ite_split (fun hab => absurd hab ?_) (fun _ => wpAny_pure hq)
        simp
      · exact wpAny_pure hq
    · exact wpAny_pure hq
  · exact wpAny_pure hq
/-- what a turn of a loop over a list must end in -/
noncomputable def ForEnd (h₀ : Heap) (L : Addr) (J : (Str → Option Value) → CbLed → Prop) (lo itO : Addr × Obj) (s₁ : Shared) (Q : Flow → Shared → Prop) (f : Flow) (s₂ : Shared) : Prop :=
  match f with
  | .ret v => Q (.ret v) s₂
  | .brk => Q .next s₂
  | _ => ∃ h' tk m' news' led', s₂ = { s₁ with heap := h', toks := tk } ∧ Fr h₀ L h' m' ∧ News h₀ L h' news' ∧ itO ∈ news' ∧ (∀ p ∈ led', p ∈ news') ∧ lo ∈ led' ∧ (∀ p ∈ led', p.1 ≠ itO.1) ∧ J m' led'
theorem loop_list (J : Nat → (Str → Option Value) → CbLed → Prop) (hh : A.handled = none) (hE : PassesOwn (model prog w) A env E) (F : Fr h₀ env.locals s.heap m) (N : News h₀ env.locals s.heap led) (hl : (l, listOf vs.toArray nn) ∈ led) (hj : J 0 m led)
    (turn : ∀ it o i v m₁ led₁ h tk, vs[i]? = some v → (∀ p ∈ led, p.1 < it) → (∀ p ∈ led₁, p.1 ≠ it) → (l, listOf vs.toArray nn) ∈ led₁ → J i m₁ led₁ → Fr h₀ env.locals h m₁ → News h₀ env.locals h ((it, o) :: led₁) →
      wpAny (model prog w) A (assign tgt env v) (fun _ s₂ => wpAny (model prog w) A (execs body env) (ForEnd h₀ env.locals (J (i + 1)) (l, listOf vs.toArray nn) (it, o) { s with heap := h, toks := tk } Q) E s₂) E { s with heap := h, toks := tk })
    (done : ∀ m₁ led₁ h tk, J vs.length m₁ led₁ → Fr h₀ env.locals h m₁ → News h₀ env.locals h led₁ → Q .next { s with heap := h, toks := tk }) :
    wpAny (model prog w) A (pyIter (.ref l)) (fun it s₂ => codeAny (model prog w) A (.forLoop tgt it body [] env) (fun r s' => match r with | .ok f => Q f s' | .error e => cameBackBy (model prog w) A env E e s') s₂) E s := by
  refine wpAny_pyIter_list (kso_isList N hl rfl) ?_
  have new : ∀ p ∈ led, p.1 < s.heap.objs.size := fun p hp => Heap.lt_size (N p hp).1
  have Np := News.push F N { cls := .type "list_iterator", data := .fields #[.ref l, .int 0 0] } rfl
  generalize s.heap.objs.size = it at Np new ⊢
  refine codeAny_forLoop_any (fun n s' => ∃ h tk m' led' o i, s' = { s with heap := h, toks := tk } ∧ Fr h₀ env.locals h m' ∧ News h₀ env.locals h ((it, o) :: led') ∧ o.cls = .type "list_iterator" ∧ o.data = .fields #[.ref l, .int (i : Nat) 0] ∧ (l, listOf vs.toArray nn) ∈ led' ∧ (∀ p ∈ led', p.1 ≠ it) ∧ J i m' led' ∧ i ≤ vs.length ∧ n = vs.length + 1 - i)
    ?_ (vs.length + 1) ⟨_, s.toks, m, led, _, 0, rfl, F.push _, Np, rfl, rfl, hl, fun p hp => Nat.ne_of_lt (new p hp), hj, Nat.zero_le _, rfl⟩
  rintro n s' ⟨h, tk, m', led', o, i, rfl, F', N', oc, od, hl', off, hJ, hi, rfl⟩
  have hm := N' _ (.head _)
  have hit : h.IsListIter it l i := ⟨o, hm.1, oc, od⟩
  have hls : h.IsList l vs.toArray := ⟨_, (N' _ (.tail _ hl')).1, rfl, nn, rfl⟩
  by_cases hlt : i < vs.length
  · refine wpAny_pyNext_list_item hit hls (x := vs[i]) (by simp [hlt]) fun h1 hit1 hs1 => ?_
    obtain ⟨o1, ho1, oc1, od1⟩ := hit1
    refine own_go ho1 oc1 ?_
    have N1 : News h₀ env.locals h1 ((it, o1) :: led') := News.setIn (own := []) N' (fun _ hp => nomatch hp) off hs1 ho1
    refine wpAny_mono (wpAny_mono (turn it o1 i vs[i] m' led' h1 tk (by simp [hlt]) new off hl' hJ (F'.change hs1 hm.2.1 hm.2.2) N1) (fun _ s₂ k => ?_) fun _ _ x => x) (fun _ _ x => x) hE
    refine wpAny_mono k (fun f s₃ p => ?_) hE
    cases f with
    | ret v => exact p
    | brk => exact p
    | next =>
      obtain ⟨h2, tk2, m2, news2, led2, rfl, F2, N2, hi2, hn2, hl2, off2, hJ2⟩ := p
      exact ⟨vs.length + 1 - (i + 1), by omega, h2, tk2, m2, led2, o1, i + 1, rfl, F2, fun q hq => by rcases List.mem_cons.mp hq with rfl | hq; exact N2 _ hi2; exact N2 _ (hn2 q hq), oc1, od1, hl2, off2, hJ2, hlt, rfl⟩
    | cont =>
      obtain ⟨h2, tk2, m2, news2, led2, rfl, F2, N2, hi2, hn2, hl2, off2, hJ2⟩ := p
      exact ⟨vs.length + 1 - (i + 1), by omega, h2, tk2, m2, led2, o1, i + 1, rfl, F2, fun q hq => by rcases List.mem_cons.mp hq with rfl | hq; exact N2 _ hi2; exact N2 _ (hn2 q hq), oc1, od1, hl2, off2, hJ2, hlt, rfl⟩
  · obtain rfl : i = vs.length := by omega
    refine wpAny_pyNext_list_end hh hit hls (by simp) fun h1 he => wpAny_execs_nil ?_
    refine done m' led' h1 tk hJ ⟨F'.ns.at' fun o e => he _ o (Ne.symm hm.2.1) e, fun b ob e => he b ob (fun z => ?_) (F'.keep b ob e), F'.above⟩ (fun q hq => ⟨he _ _ (off q hq) (N' q (.tail _ hq)).1, (N' q (.tail _ hq)).2⟩)
    rw [z, hm.2.2] at e; cases e
end
end
end Mine
namespace Mine
section
open PySem PySem.W PyProof.Rows PySem.Spec PySem.Calls
set_option maxRecDepth 100000
set_option maxHeartbeats 4000000
noncomputable def optV (r : Option Str) (t : Tok) : Value := match r with
  | none => .none
  | some r => .str r t
noncomputable def optL (r : Option Str) : Nat := match r with
  | none => 0
  | some r => r.length
variable (w : World)
theorem c_fmt1G (e : Str) (r : Option Str) (te tr : Tok) (news : CbLed) (hs : e.length + optL r + 3 ≤ sizeLine) : Ctr w 242 [.str e te, optV r tr] [(Str.ofString "insert_final_newline", .bool false)] news 2 (RS (fmtR e r false)) := by
  cases r with
  | none => exact c_fmtN1 w e te news (Nat.le_trans (by simp only [optL]; omega) hs)
  | some r =>
    by_cases h : ((r.length : Int) != 0) = true
    · exact c_fmtS1_1 w e r te tr news hs h
    · exact c_fmtS1_0 w e r te tr news hs (by simpa using h)
theorem c_fmtG (e : Str) (r : Option Str) (te tr : Tok) (news : CbLed) (hs : e.length + optL r + 3 ≤ sizeLine) : Ctr w 242 [.str e te, optV r tr] [] news 2 (RS (fmtR e r true)) := by
  cases r with
  | none => exact c_fmtN w e te news (Nat.le_trans (by simp only [optL]; omega) hs)
  | some r =>
    by_cases h : ((r.length : Int) != 0) = true
    · exact c_fmtS_1 w e r te tr news hs h
    · exact c_fmtS_0 w e r te tr news hs (by simpa using h)
theorem fmtR_len (e : Str) (r : Option Str) (b : Bool) : (fmtR e r b).length ≤ e.length + optL r + 3 := by
  have h1 := fmt_l1
  have h0 := fmt_l0
  have h2 := fmt_l2
  cases r with
  | none => cases b <;> simp [fmtR, optL, Str.length_append, h1, h0]
  | some r =>
    by_cases hz : r.length = 0
    · cases b <;> simp [fmtR, optL, Str.length_append, h1, h0, hz]
    · cases b <;> simp [fmtR, optL, Str.length_append, h1, h0, h2, hz] <;> omega
/-- the words behind the first, innermost last -/
noncomputable def restF (r : Option Str) (ws : List Str) : Option Str := ws.foldl (fun r w => some (fmtR w r false)) r
theorem restF_len : ∀ (ws : List Str) (r : Option Str), (∀ x ∈ ws, x.length ≤ 200) → optL (restF r ws) ≤ optL r + 203 * ws.length
  | [], _, _ => Nat.le_refl _
  | a :: ws, r, h => by
    have h1 := restF_len ws (some (fmtR a r false)) (fun x hx => h x (.tail _ hx))
    have h2 := fmtR_len a r false
    have h3 := h a (.head _)
    have e : restF r (a :: ws) = restF (some (fmtR a r false)) ws := rfl
    have e2 : optL (some (fmtR a r false)) = (fmtR a r false).length := rfl
    rw [e]
    simp only [List.length_cons]
    omega
noncomputable def lineF (k : Nat) (ws : List Str) : Str := match ws with
  | [] => Str.empty
  | a :: r => fmtR a (restF (if k % 2 = 0 then some (Str.ofString "") else none) r.reverse) true
/-- the lines from the k-th on, behind a text -/
noncomputable def textF (T : Str) (k : Nat) : List (List Str) → Str
  | [] => T
  | a :: r => textF (T ++ lineF k a) (k + 1) r
theorem textF_snoc : ∀ (l : List (List Str)) (T : Str) (k : Nat) (a : List Str), textF T k (l ++ [a]) = textF T k l ++ lineF (k + l.length) a
  | [], _, _, _ => rfl
  | b :: l, T, k, a => by
    have := textF_snoc l (T ++ lineF k b) (k + 1) a
    show textF (T ++ lineF k b) (k + 1) (l ++ [a]) = textF (T ++ lineF k b) (k + 1) l ++ _
    rw [this, List.length_cons, show k + 1 + l.length = k + (l.length + 1) by omega]
theorem lineF_len (k : Nat) (ws : List Str) (h : ∀ x ∈ ws, x.length ≤ 200) (hn : ws.length ≤ 10) : (lineF k ws).length ≤ 3000 := by
  cases ws with
  | nil => exact Nat.zero_le _
  | cons a r =>
    have h1 := fmtR_len a (restF (if k % 2 = 0 then some (Str.ofString "") else none) r.reverse) true
    have h2 := restF_len r.reverse (if k % 2 = 0 then some (Str.ofString "") else none) (fun x hx => h x (.tail _ (List.mem_reverse.mp hx)))
    have h3 := h a (.head _)
    have h4 : optL (if k % 2 = 0 then some (Str.ofString "") else none) = 0 := by
      by_cases q : k % 2 = 0
      · rw [if_pos q]; exact fmt_l0
      · rw [if_neg q]; rfl
    rw [h4, List.length_reverse] at h2
    simp only [List.length_cons] at hn
    show (fmtR a _ true).length ≤ 3000
    omega
theorem pick1 {l : List Value} (h : l ≠ []) : kms_pick l (some 1) none = l.drop 1 := by
  cases l with
  | nil => exact absurd rfl h
  | cons a r =>
    have e : kms_lo (some 1) (a :: r).length = 1 := by
      simp only [kms_lo, List.length_cons, show ¬ ((1 : Int) < 0) by decide, if_false]
      have : (1 : Int).toNat = 1 := rfl
      omega
    unfold kms_pick
    rw [e]
    show ((a :: r).drop 1).take ((a :: r).length - 1) = _
    simp
theorem Fr.dup {g h : Heap} {L : Addr} {x : Str} {a b : Option Value} {mB : Str → Option Value} (F : Fr g L h (fun y => if y = x then a else if y = x then b else mB y)) : Fr g L h (fun y => if y = x then a else mB y) := by
  have e : (fun y => if y = x then a else if y = x then b else mB y) = fun y => if y = x then a else mB y := funext fun y => by
    by_cases q : y = x <;> simp [q]
  rw [← e]; exact F
theorem join_rest {M : Model} {A : Around} {t : Sem Flow} {Q : Flow → Shared → Prop} {E : Value → Shared → Prop} {s : Shared} {g : Heap} {L : Addr} {x : Str} {v0 : Option Value} {mB : Str → Option Value} {news : CbLed} (r : Option Str) (_ : Fr g L s.heap (fun y => if y = x then v0 else mB y)) (_ : News g L s.heap news)
    (h1 : wpAny M A t (fun f s' => f = .next ∧ ∃ h tk tt, s' = { s with heap := h, toks := tk } ∧ Fr g L h (fun y => if y = x then some (optV r tt) else mB y) ∧ News g L h news) E s)
    (h2 : ∀ h tk tt, Fr g L h (fun y => if y = x then some (optV r tt) else mB y) → News g L h news → Q .next { s with heap := h, toks := tk }) : wpAny M A t Q E s :=
  wpAny_mono h1 (fun f s' ⟨e, h, tk, tt, e2, F, N⟩ => by subst e; subst e2; exact h2 h tk tt F N) fun _ _ e => e
noncomputable def sv (l : List (Str × Tok)) : List Value := l.map fun p => .str p.1 p.2
theorem Fr.dup2 {g h : Heap} {L : Addr} {x z : Str} {a b c d : Option Value} {mB : Str → Option Value} (F : Fr g L h (fun y => if y = x then a else if y = z then b else if y = x then c else if y = z then d else mB y)) : Fr g L h (fun y => if y = x then a else if y = z then b else mB y) := by
  have e : (fun y => if y = x then a else if y = z then b else if y = x then c else if y = z then d else mB y) = fun y => if y = x then a else if y = z then b else mB y := funext fun y => by
    by_cases q : y = x
    · simp [q]
    · by_cases q2 : y = z <;> simp [q, q2]
  rw [← e]; exact F
theorem loop_rest {prog : Program} {w : World} {A : Around} {E : Value → Shared → Prop} {s : Shared} {env : Env} {h₀ : Heap} {l : Addr} {nn : Nat} {tgt : PySem.Expr} {body : List Stmt} {Q : Flow → Shared → Prop} {led : CbLed} {rn wn : Str} {mB : Str → Option Value} {r0 : Option Str} {t0 : Tok} {ps : List (Str × Tok)}
    (hne : rn ≠ wn) (hh : A.handled = none) (hE : PassesOwn (model prog w) A env E) (F : Fr h₀ env.locals s.heap (fun y => if y = rn then some (optV r0 t0) else mB y)) (N : News h₀ env.locals s.heap led) (hl : (l, listOf (sv ps).toArray nn) ∈ led)
    (turn : ∀ it o (pre : List (Str × Tok)) (p : Str × Tok) post t u h tk, ps = pre ++ p :: post → (∀ q ∈ led, q.1 < it) →
      Fr h₀ env.locals h (fun y => if y = rn then some (optV (restF r0 (pre.map (·.1))) t) else if y = wn then u else mB y) → News h₀ env.locals h ((it, o) :: led) →
      wpAny (model prog w) A (assign tgt env (.str p.1 p.2)) (fun _ s₂ => wpAny (model prog w) A (execs body env) (fun f s₃ => f = .next ∧ ∃ h' tk' t' u', s₃ = { s with heap := h', toks := tk' } ∧
        Fr h₀ env.locals h' (fun y => if y = rn then some (optV (some (fmtR p.1 (restF r0 (pre.map (·.1))) false)) t') else if y = wn then u' else mB y) ∧ News h₀ env.locals h' ((it, o) :: led)) E s₂) E { s with heap := h, toks := tk })
    (done : ∀ t u h tk, Fr h₀ env.locals h (fun y => if y = rn then some (optV (restF r0 (ps.map (·.1))) t) else if y = wn then u else mB y) → News h₀ env.locals h led → Q .next { s with heap := h, toks := tk }) :
    wpAny (model prog w) A (pyIter (.ref l)) (fun it s₂ => codeAny (model prog w) A (.forLoop tgt it body [] env) (fun r s' => match r with | .ok f => Q f s' | .error e => cameBackBy (model prog w) A env E e s') s₂) E s := by
  have len : (sv ps).length = ps.length := List.length_map _
  refine loop_list (vs := sv ps) (fun i m' led' => led' = led ∧ ∃ t u, m' = fun y => if y = rn then some (optV (restF r0 ((ps.take i).map (·.1))) t) else if y = wn then u else mB y) hh hE F N hl ⟨rfl, t0, mB wn, funext fun y => ?_⟩ ?_ ?_
  · by_cases q : y = rn
    · rw [if_pos q, if_pos q]; rfl
    · rw [if_neg q, if_neg q]
      by_cases q2 : y = wn
      · rw [if_pos q2, q2]
      · rw [if_neg q2]
  · rintro it o i v m₁ led₁ h tk hv new off hl₁ ⟨rfl, t, u, rfl⟩ F₁ N₁
    have hi : i < ps.length := by
      have := (List.getElem?_eq_some_iff.mp hv).1
      omega
    have hv' : v = .str ps[i].1 ps[i].2 := by
      have : (sv ps)[i]? = some (.str ps[i].1 ps[i].2) := by simp [sv, hi]
      rw [this] at hv; exact (Option.some.inj hv).symm
    rw [hv']
    have sp : ps = ps.take i ++ ps[i] :: ps.drop (i + 1) := by simp
    refine wpAny_mono (turn it o (ps.take i) ps[i] (ps.drop (i + 1)) t u h tk sp new F₁ N₁) (fun _ s₂ k => ?_) fun _ _ x => x
    refine wpAny_mono k (fun f s₃ z => ?_) fun _ _ x => x
    obtain ⟨rfl, h', tk', t', u', rfl, F', N'⟩ := z
    refine ⟨h', tk', _, _, led₁, rfl, F', N', .head _, fun q hq => .tail _ hq, hl₁, off, rfl, t', u', ?_⟩
    have e : (ps.take (i + 1)).map (·.1) = (ps.take i).map (·.1) ++ [ps[i].1] := by rw [List.take_add_one, List.getElem?_eq_getElem hi, List.map_append]; rfl
    rw [e]
    simp only [restF, List.foldl_append, List.foldl_cons, List.foldl_nil]
  · rintro m₁ led₁ h tk ⟨rfl, t, u, rfl⟩ F₁ N₁
    rw [len, List.take_length] at F₁
    exact done t u h tk F₁ N₁
end
end Mine
namespace Mine
section
open PySem PySem.W PyProof.Rows PySem.Spec PySem.Calls
set_option maxRecDepth 100000
set_option maxHeartbeats 8000000
noncomputable abbrev Line := Addr × Nat × List (Str × Tok)
noncomputable def LineIn (x : Line) (news : CbLed) : Prop := (x.1, listOf (sv x.2.2).toArray x.2.1) ∈ news ∧ x.2.2 ≠ [] ∧ x.2.2.length ≤ 10 ∧ ∀ p ∈ x.2.2, p.1.length ≤ 200
noncomputable def wordsOf (W : List Line) : List (List Str) := W.map fun x => x.2.2.map (·.1)
variable (w : World)
theorem c_written (ll : Addr) (nn : Nat) (W : List Line) (news : CbLed) (hl : (ll, listOf (W.map fun x => Value.ref x.1).toArray nn) ∈ news) (hW : ∀ x ∈ W, LineIn x news) (hn : W.length ≤ 10) :
    Ctr w 278 [.ref ll] [] news 3 (RS (textF (Str.ofString "") 0 (wordsOf W))) := by
  intro V LO mean mg mb dp un gd cn cs a ccd cl outer A₀ base h₀ L m s Q E B F X N T hk hd hu hret
  refine wpAny_call ?_
  cell_enter
  refine wp_hideP fun Q1 E1 kQ1 _ pE1 => ?_
  repeat' ((fail_if_success (with_reducible show wpAny _ _ (pyIter _) _ _ _)); (fail_if_success (with_reducible show wpAny _ _ (PySem.call _ _) _ _ _)); (first | (k_unfold; (try dsimp only)) | walk1 | (dsimp only; walk1)))
  refine kst_len (by assumption : News _ _ _ news) hl (List.length_map _) (by omega) ?_
  try dsimp only
  repeat' ((fail_if_success (with_reducible show wpAny _ _ (pyIter _) _ _ _)); (fail_if_success (with_reducible show wpAny _ _ (PySem.call _ _) _ _ _)); (first | (k_unfold; (try dsimp only)) | walk1 | (dsimp only; walk1)))
  refine' range1_rows ?rF (by assumption : News _ _ _ news) ?_
  case rF => k_asm
  intro h1 tk1 t1 u1 v1 hr F1 N1 _
  generalize (_ : Heap).objs.size = rg at hr ⊢
  try dsimp only
  refine' kst_range (σ := Str × Tok) (n := W.length) (fun _ => news) (fun c => [(Str.ofString "text", .str c.1 c.2)]) (fun _ => True) [Str.ofString "rest", Str.ofString "word"]
    (fun pre c => c.1 = textF (Str.ofString "") 0 ((wordsOf W).take pre.length) ∧ c.1.length ≤ 3000 * pre.length) (Str.ofString "", _) rfl hr ?rsm ?rsz F1 N1 trivial (List.forall_mem_cons.mpr ⟨rfl, nofun⟩) ⟨rfl, ?rl⟩ ?turn ?done
  case rl => exact Nat.le_of_eq fmt_l0
  case rsm => exact small_one (by decide) (by decide) (by omega) (by omega)
  case rsz => rw [rangeSize_nat]; omega
  case turn =>
    rintro ⟨T1, t1⟩ pre k tk u h2 tk2 own hk2 hlt hoff _ ⟨p1, p2⟩ F2 N2
    rw [Int.zero_add] at hk2
    subst hk2
    try dsimp only at p1 p2 N2
    refine wp_hideP fun Q2 E2 kQ2 _ pE2 => ?_
    repeat' ((fail_if_success (with_reducible show wpAny _ _ (exec (Stmt.If _ _ _ _) _) _ _ _)); (first | (k_unfold; (try dsimp only)) | walk1 | (dsimp only; walk1)))
    refine' join_rest (if pre.length % 2 = 0 then some (Str.ofString "") else none) ?jF ?jN ?jI ?_
    case jF => k_asm
    case jN => k_asm
    case jI =>
      refine wp_hide fun Qj Ej kj _ => ?_
      repeat' (first | (k_unfold; (try dsimp only)) | walk1 | (dsimp only; walk1))
      · have ev : pre.length % 2 = 0 := by
          rename (Int.fmod _ 2 = 0) => z
          rw [Int.fmod_eq_emod_of_nonneg _ (by decide)] at z; omega
        rw [if_pos ev] at kj
        rename Fr _ _ _ _ => Fj
        exact kj _ _ ⟨rfl, _, _, _, rfl, Mine.Fr.dup Fj, by assumption⟩
      · have od : ¬ pre.length % 2 = 0 := by
          rename (¬ Int.fmod _ 2 = 0) => z
          rw [Int.fmod_eq_emod_of_nonneg _ (by decide)] at z; omega
        rw [if_neg od] at kj
        rename Fr _ _ _ _ => Fj
        exact kj _ _ ⟨rfl, _, _, 0, rfl, Fj, by assumption⟩
    intro h3 tk3 tt3 F3 N3
    dsimp only
    repeat' ((fail_if_success (with_reducible show wpAny _ _ (exec (Stmt.For _ _ _ _ _) _) _ _ _)); (first | (k_unfold; (try dsimp only)) | walk1 | (dsimp only; walk1)))
    refine wpAny_For ?_ ?hs
    case hs => intro _; with_unfolding_all rfl
    repeat' ((fail_if_success (with_reducible show wpAny _ _ (subscriptTail _ _ _ _) _ _ _)); (first | (k_unfold; (try dsimp only)) | walk1 | (dsimp only; walk1)))
    obtain ⟨x, hxe⟩ : ∃ x, W[pre.length]? = some x := ⟨_, List.getElem?_eq_getElem hlt⟩
    have hxW : x ∈ W := List.mem_of_getElem? hxe
    obtain ⟨hx1, hx2, hx3, hx4⟩ := hW x hxW
    have hxi : (W.map fun x => Value.ref x.1).toArray[((pre.length : Nat) : Int).toNat]? = some (.ref x.1) := by simp [hxe]
    have svn : sv x.2.2 ≠ [] := by simpa [sv] using hx2
    have svl : (sv x.2.2).length ≤ 10 := by simpa [sv] using hx3
    refine' item_listR (kso_isList (by assumption : News _ _ _ (news ++ own)) (List.mem_append_left _ hl) rfl) (by omega) (by omega) hxi ?_ ?hs1
    case hs1 => with_unfolding_all rfl
    try dsimp only
    repeat' ((fail_if_success (with_reducible show wpAny _ _ (subscriptTail _ _ _ _) _ _ _)); (first | (k_unfold; (try dsimp only)) | walk1 | (dsimp only; walk1)))
    refine kba_turn (value' := .Name (Str.ofString "lines") default) (fun _ => rfl) ?_
    refine' kms_slice_lit (zs := sv (x.2.2.drop 1)) ?s1F (by assumption : News _ _ _ (news ++ own)) (kso_isList (by assumption : News _ _ _ (news ++ own)) (List.mem_append_left _ hx1) rfl) (.int 1 _) .none ((pick1 svn).trans (by simp [sv])) ?_ ?s1s ?s1t ?s1z
    case s1F => k_asm
    case s1s => with_unfolding_all rfl
    case s1t => exact fun _ => rfl
    case s1z => simp only [List.size_toArray, sizeLine_eq]; omega
    intro D1 h4 F4 N4 lt4
    try dsimp only
    repeat' ((fail_if_success (with_reducible show wpAny _ _ (subscriptTail _ _ _ _) _ _ _)); (first | (k_unfold; (try dsimp only)) | walk1 | (dsimp only; walk1)))
    refine kba_turn (value' := .Name (Str.ofString "lines") default) (fun _ => rfl) ?_
    refine' krv_lit (zs := sv (x.2.2.drop 1).reverse) ?s2F (by assumption : News _ _ _ ((D1, _) :: (news ++ own))) (kso_isList (by assumption : News _ _ _ ((D1, _) :: (news ++ own))) (.head _) rfl) (.int _ _) (by simp [sv]) ?_ ?s2s ?s2t ?s2z
    case s2F => k_asm
    case s2s => with_unfolding_all rfl
    case s2t => exact fun _ => rfl
    case s2z => simp only [List.size_toArray, List.length_drop, List.length_map, sv, sizeLine_eq]; omega
    intro D2 h5 F5 N5 lt5
    try dsimp only
    have few : ∀ pre2 : List (Str × Tok), (∀ q ∈ pre2, q ∈ x.2.2) → pre2.length ≤ 10 → optL (restF (if pre.length % 2 = 0 then some (Str.ofString "") else none) (pre2.map (·.1))) ≤ 2030 := by
      intro pre2 h1 h2
      have z := restF_len (pre2.map (·.1)) (if pre.length % 2 = 0 then some (Str.ofString "") else none) (fun q hq => by
        obtain ⟨p, hp, rfl⟩ := List.mem_map.mp hq
        exact hx4 p (h1 p hp))
      have h4 : optL (if pre.length % 2 = 0 then some (Str.ofString "") else none) = 0 := by
        by_cases q : pre.length % 2 = 0
        · rw [if_pos q]; exact fmt_l0
        · rw [if_neg q]; rfl
      rw [h4, List.length_map] at z
      omega
    refine' loop_rest (wn := Str.ofString "word") ?lne rfl pE2 F5 N5 (.head _) ?lturn ?ldone
    case lne => decide
    case lturn =>
      intro it o pre2 p post2 t u9 h9 tk9 hps new F9 N9
      have hpm : p ∈ x.2.2 := List.mem_of_mem_drop (List.mem_reverse.mp (hps ▸ List.mem_append_right _ (.head _)))
      have hpre : ∀ q ∈ pre2, q ∈ x.2.2 := fun q hq => List.mem_of_mem_drop (List.mem_reverse.mp (hps ▸ List.mem_append_left _ hq))
      have hpl : pre2.length ≤ 10 := by
        have z := congrArg List.length hps
        simp only [List.length_reverse, List.length_drop, List.length_append, List.length_cons] at z
        omega
      have small := few pre2 hpre hpl
      have pl := hx4 p hpm
      generalize restF (if pre.length % 2 = 0 then some (Str.ofString "") else none) (pre2.map (·.1)) = r9 at F9 small ⊢
      repeat' ((fail_if_success (with_reducible show wpAny _ _ (execs _ _) _ _ _)); (first | (k_unfold; (try dsimp only)) | walk1 | (dsimp only; walk1)))
      refine wp_hide fun Q4 E4 kQ4 _ => ?_
      dsimp only
      repeat' ((fail_if_success (with_reducible show wpAny _ _ (PySem.call _ _ _) _ _ _)); (first | (k_unfold; (try dsimp only)) | walk1 | (dsimp only; walk1)))
      refine' Ctr.useS (c_fmt1G w _ r9 _ _ _ ?sz) ?a1 ?a2 ?a3 ?a4 ?a5 ?a6 ?a7 ?a8 ?_
      case sz => rw [sizeLine_eq]; omega
      case a1 => k_asm
      case a2 => k_asm
      case a3 => k_asm
      case a4 => k_asm
      case a5 => k_asm
      case a6 => exact rfl
      case a7 => ktr_room
      case a8 => ktr_units
      intro t10 h10 tk10 F10 N10
      try dsimp only
      repeat' (first | (k_unfold; (try dsimp only)) | walk1 | (dsimp only; walk1))
      rename Fr _ _ _ _ => F11
      exact kQ4 _ _ ⟨rfl, _, _, _, _, rfl, Mine.Fr.dup2 F11, by assumption⟩
    case ldone =>
      intro t u9 h9 tk9 F9 N9
      have small := few (x.2.2.drop 1).reverse (fun q hq => List.mem_of_mem_drop (List.mem_reverse.mp hq)) (by rw [List.length_reverse, List.length_drop]; omega)
      generalize hr9 : restF (if pre.length % 2 = 0 then some (Str.ofString "") else none) ((x.2.2.drop 1).reverse.map (·.1)) = r9 at F9 small
      try dsimp only
      repeat' ((fail_if_success (with_reducible show wpAny _ _ (subscriptTail _ _ _ _) _ _ _)); (first | (k_unfold; (try dsimp only)) | walk1 | (dsimp only; walk1)))
      refine' item_listR (kso_isList N9 (.tail _ (.tail _ (List.mem_append_left _ hl))) rfl) (by omega) (by omega) hxi ?_ ?hs2
      case hs2 => with_unfolding_all rfl
      try dsimp only
      repeat' ((fail_if_success (with_reducible show wpAny _ _ (subscriptTail _ _ _ _) _ _ _)); (first | (k_unfold; (try dsimp only)) | walk1 | (dsimp only; walk1)))
      obtain ⟨p0, tail, hpt⟩ := List.exists_cons_of_ne_nil hx2
      have hp0 : (sv x.2.2).toArray[(0 : Int).toNat]? = some (.str p0.1 p0.2) := by rw [hpt]; rfl
      have p0l : p0.1.length ≤ 200 := hx4 p0 (hpt ▸ .head _)
      refine' item_listR (kso_isList N9 (.tail _ (.tail _ (List.mem_append_left _ hx1))) rfl) (by decide) (by decide) hp0 ?_ ?hs3
      case hs3 => with_unfolding_all rfl
      try dsimp only
      repeat' ((fail_if_success (with_reducible show wpAny _ _ (PySem.call _ _ _) _ _ _)); (first | (k_unfold; (try dsimp only)) | walk1 | (dsimp only; walk1)))
      refine' Ctr.useS (c_fmtG w _ r9 _ _ _ ?sz) ?b1 ?b2 ?b3 ?b4 ?b5 ?b6 ?b7 ?b8 ?_
      case sz => rw [sizeLine_eq]; omega
      case b1 => k_asm
      case b2 => k_asm
      case b3 => k_asm
      case b4 => k_asm
      case b5 => k_asm
      case b6 => exact rfl
      case b7 => ktr_room
      case b8 => ktr_units
      intro t10 h10 tk10 F10 N10
      have hfl := fmtR_len p0.1 r9 true
      have ef : fmtR p0.1 r9 true = lineF pre.length (x.2.2.map (·.1)) := by
        rw [hpt, List.map_cons]
        show _ = fmtR p0.1 (restF _ (tail.map (·.1)).reverse) true
        rw [← hr9, hpt, ← List.map_reverse]; rfl
      rw [ef] at hfl
      rw [ef]
      generalize hLn : lineF pre.length (x.2.2.map (·.1)) = Ln at hfl ⊢
      try dsimp only
      repeat' ((fail_if_success (with_reducible show wpAny _ _ (PySem.call _ _ _) _ _ _)); (first | (k_unfold; (try dsimp only)) | walk1 | (dsimp only; walk1)))
      refine' Ctr.useS (c_concat w T1 Ln _ _ _ ?sz2) ?c1 ?c2 ?c3 ?c4 ?c5 ?c6 ?c7 ?c8 ?_
      case sz2 => rw [sizeLine_eq]; omega
      case c1 => k_asm
      case c2 => k_asm
      case c3 => k_asm
      case c4 => k_asm
      case c5 => k_asm
      case c6 => exact rfl
      case c7 => ktr_room
      case c8 => ktr_units
      intro t11 h11 tk11 F11 N11
      try dsimp only
      repeat' (first | (k_unfold; (try dsimp only)) | walk1 | (dsimp only; walk1))
      rename Fr _ _ _ _ => F12
      rename News _ _ _ _ => N12
      refine kQ2 _ _ ?_
      dsimp only [InvPostN]
      refine kst_end (T1 ++ Ln, t11) F12 N12 ?_ ?_ rfl trivial (List.forall_mem_cons.mpr ⟨rfl, nofun⟩) ?_ ⟨?_, ?_⟩
      · exact fun p hp => .tail _ (.tail _ (List.mem_append_left _ hp))
      · exact fun p hp => .tail _ (.tail _ (List.mem_append_right _ hp))
      · intro z h1 h2 h3
        simp only [List.contains_cons, List.contains_nil, Bool.or_false, Bool.or_eq_false_iff, beq_eq_false_iff_ne, ne_eq] at h3
        simp only [List.forall_mem_cons, ne_eq] at h2
        simp [h1, h2, h3, kstB]
      · have e1 : (wordsOf W)[pre.length]? = some (x.2.2.map (·.1)) := by simp [wordsOf, hxe]
        have e2 : ((wordsOf W).take pre.length).length = pre.length := by rw [List.length_take, wordsOf, List.length_map]; omega
        show T1 ++ Ln = _
        rw [List.length_append, List.length_singleton, List.take_add_one, e1]
        show T1 ++ Ln = textF _ 0 ((wordsOf W).take pre.length ++ [x.2.2.map (·.1)])
        rw [textF_snoc, e2, Nat.zero_add, hLn, ← p1]
      · show (T1 ++ Ln).length ≤ _
        rw [Str.length_append, List.length_append, List.length_singleton]
        omega
  case done =>
    rintro ⟨T1, t1⟩ u h2 tk2 _ ⟨p1, p2⟩ F2 N2
    try dsimp only at p1 p2 N2
    try dsimp only
    repeat' (first | (k_unfold; (try dsimp only)) | walk1 | (dsimp only; walk1))
    refine kQ1 _ _ ?_
    dsimp only [qk]
    repeat' (first | (k_unfold; (try dsimp only)) | walk1 | (dsimp only; walk1))
    refine Ctr.retS hret ?_ (by assumption) (by assumption) (fun _ h => h)
    have e2 : (wordsOf W).length ≤ (rangeKs 0 W.length).length := by rw [rangeKs_length, wordsOf, List.length_map]; exact Nat.le_refl _
    rw [p1, List.take_of_length_le e2]
end
end Mine
namespace Mine
section
open PySem PySem.W PyProof.Rows PySem.Spec PySem.Calls
set_option maxRecDepth 100000
set_option maxHeartbeats 4000000
section
variable {prog : Program} {w : World} {A : Around} {E : Value → Shared → Prop} {s : Shared} {env : Env} {h₀ : Heap} {l : Addr} {vs : List Value} {nn : Nat} {tgt : PySem.Expr} {body : List Stmt} {Q : Flow → Shared → Prop} {mB : Str → Option Value}
noncomputable def StEnd {σ : Type} (h₀ : Heap) (L : Addr) (Led : σ → CbLed) (stored : List Str) (mB : Str → Option Value) (P : σ → Prop) (itO : Addr × Obj) (s : Shared) (f : Flow) (s₂ : Shared) : Prop :=
  f = .next ∧ ∃ c h' tk' m' news', s₂ = { s with heap := h', toks := tk' } ∧ Fr h₀ L h' m' ∧ News h₀ L h' news' ∧ itO ∈ news' ∧ (∀ p ∈ Led c, p ∈ news') ∧ P c ∧ (∀ z, stored.contains z = false → m' z = mB z)
theorem loop_st {σ : Type} (Led : σ → CbLed) (stored : List Str) (P : Nat → σ → Prop) (c₀ : σ) (hh : A.handled = none) (hE : PassesOwn (model prog w) A env E) (hl : ∀ c, (l, listOf vs.toArray nn) ∈ Led c) (adr : ∀ c, (Led c).map (·.1) = (Led c₀).map (·.1))
    (F : Fr h₀ env.locals s.heap mB) (N : News h₀ env.locals s.heap (Led c₀)) (hp : P 0 c₀)
    (turn : ∀ it o i v c (u : Str → Option Value) h tk, vs[i]? = some v → (∀ q ∈ Led c₀, q.1 < it) → P i c → Fr h₀ env.locals h (fun y => if stored.contains y then u y else mB y) → News h₀ env.locals h ((it, o) :: Led c) →
      wpAny (model prog w) A (assign tgt env v) (fun _ s₂ => wpAny (model prog w) A (execs body env) (StEnd h₀ env.locals Led stored mB (P (i + 1)) (it, o) { s with heap := h, toks := tk }) E s₂) E { s with heap := h, toks := tk })
    (done : ∀ c (u : Str → Option Value) h tk, P vs.length c → Fr h₀ env.locals h (fun y => if stored.contains y then u y else mB y) → News h₀ env.locals h (Led c) → Q .next { s with heap := h, toks := tk }) :
    wpAny (model prog w) A (pyIter (.ref l)) (fun it s₂ => codeAny (model prog w) A (.forLoop tgt it body [] env) (fun r s' => match r with | .ok f => Q f s' | .error e => cameBackBy (model prog w) A env E e s') s₂) E s := by
  have same : ∀ (m' : Str → Option Value), (∀ z, stored.contains z = false → m' z = mB z) → (fun y => if stored.contains y then m' y else mB y) = m' := fun m' h => funext fun y => by
    cases q : stored.contains y with
    | true => simp
    | false => simp [h y q]
  refine loop_list (vs := vs) (fun i m' led' => (∀ z, stored.contains z = false → m' z = mB z) ∧ ∃ c, led' = Led c ∧ P i c) hh hE F N (hl c₀) ⟨fun _ _ => rfl, c₀, rfl, hp⟩ ?_ ?_
  · rintro it o i v m₁ led₁ h tk hv new off hl₁ ⟨hm, c, rfl, hP⟩ F₁ N₁
    rw [← same m₁ hm] at F₁
    refine wpAny_mono (turn it o i v c m₁ h tk hv new hP F₁ N₁) (fun _ s₂ k => wpAny_mono k (fun f s₃ z => ?_) fun _ _ x => x) fun _ _ x => x
    obtain ⟨rfl, c', h', tk', m', news', rfl, F', N', hi, hn, hP', hm'⟩ := z
    refine ⟨h', tk', m', news', Led c', rfl, F', N', hi, hn, hl c', fun p hp => ?_, hm', c', rfl, hP'⟩
    have : p.1 ∈ (Led c').map (·.1) := List.mem_map_of_mem hp
    rw [adr c'] at this
    obtain ⟨q, hq, e⟩ := List.mem_map.mp this
    rw [← e]
    exact Nat.ne_of_lt (new q hq)
  · rintro m₁ led₁ h tk ⟨hm, c, rfl, hP⟩ F₁ N₁
    rw [← same m₁ hm] at F₁
    exact done c m₁ h tk hP F₁ N₁
end
end
end Mine
namespace Mine
section
open PySem PySem.W PyProof.Rows PySem.Spec PySem.Calls
set_option maxRecDepth 100000
set_option maxHeartbeats 4000000
open PyProof.Rows.LCg PyProof.Rows.LCt
section
variable {prog : Program} {w : World} {A : Around} {s : Shared} {h₀ : Heap} {L : Addr} {m : Str → Option Value} {env : Env} {ct elt : PySem.Expr} {x : Str} {scope : Scope} {cl : List (Str × Addr)} {S : CbLed → Prop} {P : Nat → Value → Prop} {Fin : List Value → CbLed → Prop} {n : Nat} {news0 : CbLed}
theorem compU_fold (Inv : Nat → List Value → CbLed → Prop) (h0 : Inv 0 [] news0)
    (turn : ∀ i v I oI C oC D m₂ h tk (E' : Value → Shared → Prop) ys news, i < n → P i v → Inv i ys news → NsObj oC m₂ → m₂ x = some v → Fr h₀ L h m → News h₀ L h ((I, oI) :: (C, oC) :: (D, lst ys) :: news) → Off3 I C D news → ((@Ne Nat I C) ∧ (@Ne Nat I D) ∧ (@Ne Nat C D)) →
      wpAny (model prog w) A (eval elt (compEnvC scope cl C env)) (CompEnd h₀ L m { s with heap := h, toks := tk } I oI C oC D (lst ys) S (fun y news' => Inv (i + 1) (ys ++ [y]) news')) E' { s with heap := h, toks := tk })
    (fin : ∀ ys news, Inv n ys news → Fin ys news) : CompRest prog w A h₀ L m env elt x scope cl s S P Fin n 0 [] news0 := by
  have go : ∀ k i ys news, i + k = n → Inv i ys news → CompRest prog w A h₀ L m env elt x scope cl s S P Fin k i ys news := by
    intro k
    induction k with
    | zero => intro i ys news e hI; obtain rfl : i = n := by omega
              exact CompRest.zero (fin ys news hI)
    | succ k ih =>
      intro i ys news e hI
      refine CompRest.succ fun v I oI C oC D m₂ h tk E' hP hN hm F N off ne => ?_
      refine wpAny_mono (turn i v I oI C oC D m₂ h tk E' ys news (by omega) hP hI hN hm F N off ne) (fun y s₂ z => ?_) fun _ _ x => x
      obtain ⟨h', tk', news', e', F', N', off', hS, hI'⟩ := z
      exact ⟨h', tk', news', e', F', N', off', hS, ih (i + 1) _ _ (by omega) hI'⟩
  exact go n 0 [] news0 (by omega) h0
theorem compT_fold (Inv : Nat → List Value → CbLed → Prop) (h0 : Inv 0 [] news0)
    (turn : ∀ i v I oI C oC D m₂ h tk (E' : Value → Shared → Prop) ys news, i < n → P i v → Inv i ys news → NsObj oC m₂ → m₂ x = some v → Fr h₀ L h m → News h₀ L h ((I, oI) :: (C, oC) :: (D, lst ys) :: news) → Off3 I C D news → ((@Ne Nat I C) ∧ (@Ne Nat I D) ∧ (@Ne Nat C D)) →
      wpAny (model prog w) A (isTrue ct (compEnvC scope cl C env) (eval ct (compEnvC scope cl C env))) (fun ok s' => if ok = true then
        wpAny (model prog w) A (eval elt (compEnvC scope cl C env)) (CompEnd h₀ L m { s with heap := h, toks := tk } I oI C oC D (lst ys) S (fun y news' => Inv (i + 1) (ys ++ [y]) news')) E' s'
        else CompEnd h₀ L m { s with heap := h, toks := tk } I oI C oC D (lst ys) S (fun _ news' => Inv (i + 1) ys news') Value.none s') E' { s with heap := h, toks := tk })
    (fin : ∀ ys news, Inv n ys news → Fin ys news) : CompRestT prog w A h₀ L m env ct elt x scope cl s S P Fin n 0 [] news0 := by
  have go : ∀ k i ys news, i + k = n → Inv i ys news → CompRestT prog w A h₀ L m env ct elt x scope cl s S P Fin k i ys news := by
    intro k
    induction k with
    | zero => intro i ys news e hI; obtain rfl : i = n := by omega
              exact CompRestT.zero (fin ys news hI)
    | succ k ih =>
      intro i ys news e hI
      refine CompRestT.succ fun v I oI C oC D m₂ h tk E' hP hN hm F N off ne => ?_
      refine wpAny_mono (turn i v I oI C oC D m₂ h tk E' ys news (by omega) hP hI hN hm F N off ne) (fun ok s₂ z => ?_) fun _ _ x => x
      cases ok with
      | true =>
        simp only [if_true] at z ⊢
        refine wpAny_mono z (fun y s₃ z => ?_) fun _ _ x => x
        obtain ⟨h', tk', news', e', F', N', off', hS, hI'⟩ := z
        exact ⟨h', tk', news', e', F', N', off', hS, ih (i + 1) _ _ (by omega) hI'⟩
      | false =>
        simp only [Bool.false_eq_true, if_false] at z ⊢
        obtain ⟨h', tk', news', e', F', N', off', hS, hI'⟩ := z
        exact ⟨h', tk', news', e', F', N', off', hS, ih (i + 1) _ _ (by omega) hI'⟩
  exact go n 0 [] news0 (by omega) h0
end
end
end Mine
namespace Mine
section
open PySem PySem.W PyProof.Rows PySem.Spec PySem.Calls
set_option maxRecDepth 100000
set_option maxHeartbeats 4000000
open PyProof.Rows.LCg
section
variable {prog : Program} {w : World} {A : Around} {E : Value → Shared → Prop} {s : Shared} {h₀ : Heap} {L : Addr} {m : Str → Option Value} {env : Env}
/-- an iterator that stands on one object alone stays as long as that stands -/
theorem walk_st {I : Addr} {n : Nat} {P : Nat → Value → Prop} {St : Nat → Heap → Prop} {S : CbLed → Prop} (W : Walks prog w A I [I] [I] n P St) (i : Nat) (h h' : Heap) (o : Obj) (nw : CbLed) (st : St i h) (e : h.get? I = some o) (e' : h'.get? I = some o)
    (_ : ∀ b o, h₀.get? b = some o → h'.get? b = some o) (_ : News h₀ L h' nw) (_ : S nw) : St i h' :=
  W.frame i h h' st fun b hb o' q => by
    rw [List.mem_singleton.mp hb] at q ⊢; rw [e] at q; rw [e', q]
/-- a list built over the signs of a plain text -/
theorem comp_text {elt iter : PySem.Expr} {x : Str} {px : Pos} {scope : Scope} {cl : List (Str × Addr)} {pos : Pos} {Q : Value → Shared → Prop} (F₀ : Fr h₀ L s.heap m)
    (hclos : closureFor scope env = pure cl) (hcell : ∀ y ∈ scope.names, y.2 ≠ .cell) (hkind : scope.kind = .function)
    (hnames : ∀ y ∈ scope.names, y.2 = .local → scope.names.lookup y.1 = some .local) (hx : scope.names.lookup x = some .local)
    (h : wpAny (model prog w) A (eval iter env) (fun xv s₁ => ∃ X t news, xv = .str X t ∧ A.handled = none ∧ X.cps.all (· < 128) = true ∧ X.cps.size ≤ sizeLine ∧ Fr h₀ L s₁.heap m ∧ News h₀ L s₁.heap news ∧
      ∀ g, CompRest prog w A h₀ L m env elt x scope cl { s₁ with heap := g } (fun _ => True) (SignAt X) (FinE h₀ L m { s₁ with heap := g } Q) X.cps.size 0 [] news) E s)
    (hs : ∀ x, foldedSetIterable iter env x = pure x := by intro _; rfl) :
    wpAny (model prog w) A (eval (.ListComp elt [⟨.Name x px, iter, [], 0⟩] scope pos) env) Q E s := by
  rw [eval_ListComp]
  refine wpAny_comprehension_free (use := none) rfl hs hclos hkind hnames (wpAny_mono h (fun xv s₁ h₁ => ?_) fun _ _ e => e)
  obtain ⟨X, t, news, rfl, hh, ha, hsz, F, N, R⟩ := h₁
  refine wpAny_pyIter_ascii ha ?_
  have up : ∀ b o, s₁.heap.get? b = some o → (s₁.heap.push { cls := .type "str_ascii_iterator", data := .fields #[.str X t, .int 0 0] }).get? b = some o := fun b o e => Heap.get?_push_of_some _ e
  have W := Walks.strAscii (prog := prog) (w := w) hh s₁.heap.objs.size X t
  refine block_U W hsz (fun i h st => let ⟨o, ho, _⟩ := st; ⟨o, ho⟩) (walk_st W) hcell hkind hx ⟨_, Heap.get?_push_size _ rfl, rfl, rfl⟩ (fun b hb => ?_)
    (F.keeps up) (N.grown up) (Nat.ne_of_lt F.ns.lt) (next_is_new F) (fun p hp => Nat.ne_of_lt (Heap.lt_size (N p hp).1)) trivial (R _) ?_
  · rw [List.mem_singleton.mp hb]
    show s₁.heap.objs.size < (s₁.heap.push _).objs.size
    rw [Heap.size_push]; exact Nat.lt_succ_self _
  · intro D C h tk m' ys news' F' N' o1 hn hC₀ hD₀ hCL hDL hCD offC fin
    refine ⟨m', hn, fun h'' hs'' => fin D h'' tk (F'.change hs'' hCL hC₀) (fun p hp => ⟨hs''.extBut _ _ ?_ (N' p hp).1, (N' p hp).2⟩) o1⟩
    rcases List.mem_cons.mp hp with rfl | hp
    · exact Ne.symm hCD
    · exact offC p hp
/-- a name gets a list that is built over a range with a step -/
theorem comp_step {elt iter : PySem.Expr} {x y : Str} {px py : Pos} {scope : Scope} {cl : List (Str × Addr)} {pos spos : Pos} {Q : Flow → Shared → Prop} (F₀ : Fr h₀ L s.heap m) (hLe : env.locals = L)
    (hsw : swapsWith (.ListComp elt [⟨.Name x px, iter, [], 0⟩] scope pos) (some (.Name y py)) spos.line env = pure true)
    (hclos : closureFor scope env = pure cl) (hcell : ∀ z ∈ scope.names, z.2 ≠ .cell) (hkind : scope.kind = .function)
    (hnames : ∀ z ∈ scope.names, z.2 = .local → scope.names.lookup z.1 = some .local) (hx : scope.names.lookup x = some .local)
    (hy : env.kindOf y = some .local) (hp : (env.scope.kind == .class || (env.scope.kind == .module && env.locals != env.globals)) = false)
    (h : wpAny (model prog w) A (eval iter env) (fun xv s₁ => ∃ r a b c t u v n news, xv = .ref r ∧ A.handled = none ∧ IsRange s₁.heap r a b c t u v ∧ Builtin.Range.small a b c = true ∧ Builtin.Range.rangeSize a b c = ((n : Nat) : Int) ∧ n ≤ sizeLine ∧ Fr h₀ L s₁.heap m ∧ News h₀ L s₁.heap news ∧
      ∀ g, CompRest prog w A h₀ L m env elt x scope cl { s₁ with heap := g } (fun _ => True) (fun i v => ∃ t, v = .int (a + i * c) t) (FinA h₀ L m { s₁ with heap := g } y Q) n 0 [] news) E s)
    (hs : ∀ x, foldedSetIterable iter env x = pure x := by intro _; rfl) :
    wpAny (model prog w) A (exec (.Assign [.Name y py] (.ListComp elt [⟨.Name x px, iter, [], 0⟩] scope pos) spos) env) Q E s := by
  subst hLe
  rw [exec_Assign_Name_used _ _ _ _ hsw]
  refine wpAny_bind (wpAny_standAt (wpAny_bind ?_))
  show wpAny _ A (do let _ ← comprehension (.ListComp elt [⟨.Name x px, iter, [], 0⟩] scope pos) scope env _ (newList []) false (eval iter env) (some (assign (.Name y py) env))) _ _ s
  refine wpAny_bind (wpAny_mono (wpAny_comprehension_free (use := some (assign (.Name y py) env)) (Q := fun _ s' => Q .next s') rfl hs hclos hkind hnames
    (wpAny_mono h (fun xv s₁ h₁ => ?_) fun _ _ e => e)) (fun _ s' hq => wpAny_pure (wpAny_pure hq)) fun _ _ e => e)
  obtain ⟨r, a, b, c, t, u, v, n, news, rfl, hh, hr, hsm, hn, hsz, F, N, R⟩ := h₁
  refine wpAny_pyIter_range hr hsm ?_
  have W := Walks.range (prog := prog) (w := w) hh s₁.heap.objs.size a c n
  refine block_U W hsz (fun i h st => ⟨_, st⟩) (walk_st W) hcell hkind hx (by show IsRangeIter _ _ _ _ _; rw [hn]; simpa using Heap.get?_push_size _ rfl) (fun b hb => ?_)
    (F.keeps fun _ _ e => Heap.get?_push_of_some _ e) (N.grown fun _ _ e => Heap.get?_push_of_some _ e) (Nat.ne_of_lt F.ns.lt) (next_is_new F) (fun p hp => Nat.ne_of_lt (Heap.lt_size (N p hp).1)) trivial (R _) ?_
  · rw [List.mem_singleton.mp hb]
    show s₁.heap.objs.size < (s₁.heap.push _).objs.size
    rw [Heap.size_push]; exact Nat.lt_succ_self _
  · intro D C h' tk m' ys news' F' N' o1 hn hC₀ hD₀ hCL hDL hCD offC fin
    show wpAny _ A (assign (.Name y py) env (.ref D)) _ _ _
    refine wpAny_assign_Name (wpAny_storeName_local hy F'.ns (fun h₂ hn₂ hs₂ => ?_) hp)
    have hL₀ : h₀.get? env.locals = none := Heap.get?_none_of_le F'.above
    have F₂ : Fr h₀ env.locals h₂ (fun z => if z = y then some (.ref D) else m z) := ⟨hn₂, fun b o e => hs₂.extBut b o (fun q => by rw [q, hL₀] at e; cases e) (F'.keep b o e), F'.above⟩
    refine ⟨m', hn.sameBut hs₂ hCL, fun h'' hs'' => fin D h'' _ (F₂.change hs'' hCL hC₀) (fun p hp => ?_) o1⟩
    have z : h₂.get? p.1 = some p.2 := hs₂.extBut _ _ (N' p hp).2.1 (N' p hp).1
    refine ⟨hs''.extBut _ _ ?_ z, (N' p hp).2⟩
    rcases List.mem_cons.mp hp with rfl | hp
    · exact Ne.symm hCD
    · exact offC p hp
end
end
end Mine
namespace Mine
section
open PySem PySem.W PyProof.Rows PySem.Spec PySem.Calls
set_option maxRecDepth 100000
set_option maxHeartbeats 4000000
theorem ti_kind : builtinKind "tuple.__iter__" = some .slot := by decide +kernel
theorem ti_split : splitId "tuple.__iter__" = some ("tuple", "__iter__") := by decide +kernel
theorem ti_plain : plainId "tuple.__iter__" = true := by decide +kernel
section
variable {w : World} {A : Around} {E : Value → Shared → Prop} {s : Shared}
theorem ti_find {M : Model} {P : Params} {h : Heap} (X : (K P).In h) : Looks M h (typeLookup (.ref 217) "__iter__") (some (.builtin "tuple.__iter__")) := looks_findIn X (by kernel_rfl)
theorem ent_iter {e dx : Addr} {vs : List Value} {Q : Value → Shared → Prop} (X : (K w.params).In s.heap) (he : s.heap.get? e = some (entObj dx vs))
    (hQ : Q (.ref s.heap.objs.size) { s with heap := s.heap.push { cls := .type "tuple_iterator", data := .fields #[.ref e, .int 0 0] } }) :
    wpAny (model Prg w) A (pyIter (.ref e)) Q E s := by
  obtain ⟨hp, g, d, tk, os⟩ := s
  have t1 : Looks (model Prg w) hp (typeOf (.ref e)) (.ref 217) := (Looks.ld he).andThen .now
  have i1 := ti_find (M := model Prg w) X
  have b1 : Looks (model Prg w) hp (bindSpecial (.builtin "tuple.__iter__") (.ref e)) (.builtin "tuple.__iter__", [.ref e]) := Looks.of_pure (F.slot_tuple_iter.bind _)
  have s1 : Looks (model Prg w) hp (isSubtype (.ref 217) (.type "tuple")) true := looks_subIn (K := K w.params) X (by kernel_rfl)
  unfold pyIter callSpecialIfBoundUnlessNone? bindSpecialIfBound? specialOf
  repeat ((fail_if_success (with_reducible show wpAny _ _ (ite _ _ _) _ _ _)); lk)
  refine wpAny_mono (Q := fun a s' => a = some (.builtin "tuple.__iter__", [.ref e]) ∧ s' = ⟨hp, g, d, tk, os⟩) ?_ (fun a s' ⟨e1, e2⟩ => ?_) (fun _ _ x => x)
  · refine wpAny_ite_split (fun _ => ?_) (fun _ => ?_)
    · repeat lk
      exact ⟨rfl, rfl⟩
    · refine wpAny_tryCatch ?_
      repeat lk
      exact ⟨rfl, rfl⟩
  subst e1
  subst e2
  dsimp only
  repeat ((fail_if_success (with_reducible show wpAny _ _ (PySem.call _ _ _) _ _ _)); lk)
  have t2 : Looks (model Prg w) hp (isInstance (.ref e) (.type "tuple")) true := t1.andThen s1
  refine wpAny_call (codeAny_call_builtin ti_plain F.entry_tuple_iter (check_slot (self := .ref e) (rest := []) ti_kind ti_split t2 (F.args_tuple_iter_1 _) ?_))
  show wpAny _ _ (do ret (← newFields "tuple_iterator" [.ref e, rawInt 0])) _ _ _
  refine wpAny_bind (wpAny_newObj_type (wpAny_pure ?_))
  have hI : (hp.push { cls := .type "tuple_iterator", data := .fields #[.ref e, .int 0 0] }).get? hp.objs.size = some { cls := .type "tuple_iterator", data := .fields #[.ref e, .int 0 0] } := Heap.get?_push_size _ rfl
  have t3 : Looks (model Prg w) (hp.push { cls := .type "tuple_iterator", data := .fields #[.ref e, .int 0 0] }) (typeOf (.ref hp.objs.size)) (.type "tuple_iterator") := (Looks.ld hI).andThen .now
  have i3 : Looks (model Prg w) (hp.push { cls := .type "tuple_iterator", data := .fields #[.ref e, .int 0 0] }) (typeLookup (.type "tuple_iterator") "__next__") _ := Looks.of_pure F.slot_tuple_iterator_next.lookup
  repeat lk
  exact hQ
/-- an iterator over an entry, at its i-th place -/
noncomputable def AtE (h : Heap) (it e : Addr) (i : Nat) : Prop := ∃ o, h.get? it = some o ∧ o.cls = .type "tuple_iterator" ∧ o.data = .fields #[.ref e, .int i 0]
noncomputable def SeqE (h : Heap) (e : Addr) (vs : List Value) : Prop := ∃ o n, h.get? e = some o ∧ o.data = .seq vs.toArray n
theorem AtE.typeIs {it e : Addr} {i : Nat} (x : AtE s.heap it e i) : s.TypeIs (.ref it) "tuple_iterator" := let ⟨o, ho, hc, _⟩ := x; ⟨o, ho, hc⟩
theorem SeqE.ext {h h' : Heap} {e b : Addr} {vs : List Value} (x : SeqE h e vs) (hs : Heap.ExtBut b h h') (hab : e ≠ b) : SeqE h' e vs := let ⟨o, n, ho, r⟩ := x; ⟨o, n, hs e o hab ho, r⟩
variable {prog : Program}
theorem nextE {it e : Addr} {i : Nat} {vs : List Value} {x : Value} {Q : Option Value → Shared → Prop} (hit : AtE s.heap it e i) (he : SeqE s.heap e vs) (hx : vs[i]? = some x)
    (hQ : ∀ h', AtE h' it e (i + 1) → Heap.SameBut it s.heap h' → Q (some x) { s with heap := h' }) : wpAny (model prog w) A (pyNext (.ref it)) Q E s := by
  have ht := hit.typeIs
  obtain ⟨o, ho, hc, hd⟩ := hit
  obtain ⟨oe, n, hoe, hde⟩ := he
  unfold pyNext
  refine wpAny_bind (wpAny_attempt (wpAny_callSpecial?_slot (name := Str.ofString "__next__") ht F.slot_tuple_iterator_next (wpAny_call_entry F.slot_tuple_iterator_next ht F.entry_tuple_iterator_next ?_ (F.args_tuple_iterator_next_1 _))))
  show wpAny _ _ (field (.ref it) 0 >>= _) _ _ s
  refine wpAny_bind (wpAny_field ho hd (x := .ref e) rfl ?_)
  show wpAny _ _ (if (Value.ref e == Value.none) = true then _ else _) _ _ s
  rw [if_neg (show ¬ ((Value.ref e == Value.none) = true) from Bool.false_ne_true)]
  show wpAny _ _ (field (.ref it) 1 >>= _) _ _ s
  refine wpAny_bind (wpAny_field ho hd (x := .int i 0) rfl ?_)
  show wpAny _ _ (seqItems? (.ref e) >>= _) _ _ s
  refine wpAny_bind (wpAny_seqItems hoe hde ?_)
  have hx' : vs.toArray[i]? = some x := by simpa using hx
  simp only [Int.toNat_natCast, hx']
  refine wpAny_bind (wpAny_setField ho hd (by simp) (wpAny_pure ⟨x, rfl, wpAny_pure (hQ _ ⟨_, Heap.get?_update_self _ ho (Obj.isFreed_of_fields (Obj.data_mapFields hd _)), (Obj.cls_mapFields ..).trans hc, ?_⟩ (Heap.SameBut.update ..))⟩))
  rw [Obj.data_mapFields hd]; simp [rawInt]
theorem stopE {it e : Addr} {i : Nat} {vs : List Value} {Q : Option Value → Shared → Prop} (hh : A.handled = none) (hit : AtE s.heap it e i) (he : SeqE s.heap e vs) (hx : vs[i]? = none)
    (hQ : ∀ h', Heap.ExtBut it s.heap h' → Q none { s with heap := h' }) : wpAny (model prog w) A (pyNext (.ref it)) Q E s := by
  have ht := hit.typeIs
  obtain ⟨o, ho, hc, hd⟩ := hit
  obtain ⟨oe, n, hoe, hde⟩ := he
  unfold pyNext
  refine wpAny_bind (wpAny_attempt (wpAny_callSpecial?_slot (name := Str.ofString "__next__") ht F.slot_tuple_iterator_next (wpAny_call_entry F.slot_tuple_iterator_next ht F.entry_tuple_iterator_next ?_ (F.args_tuple_iterator_next_1 _))))
  show wpAny _ _ (field (.ref it) 0 >>= _) _ _ s
  refine wpAny_bind (wpAny_field ho hd (x := .ref e) rfl ?_)
  show wpAny _ _ (if (Value.ref e == Value.none) = true then _ else _) _ _ s
  rw [if_neg (show ¬ ((Value.ref e == Value.none) = true) from Bool.false_ne_true)]
  show wpAny _ _ (field (.ref it) 1 >>= _) _ _ s
  refine wpAny_bind (wpAny_field ho hd (x := .int i 0) rfl ?_)
  show wpAny _ _ (seqItems? (.ref e) >>= _) _ _ s
  refine wpAny_bind (wpAny_seqItems hoe hde ?_)
  have hx' : vs.toArray[i]? = none := by simpa using hx
  simp only [Int.toNat_natCast, hx']
  refine wpAny_bind (wpAny_rule (wpAny_bind (wpAny_setField ho hd (by simp) ?_)))
  show wpAny _ _ (newExc (.type "StopIteration") [] >>= _) _ _ _
  refine wpAny_bind ?_
  simp only [newExc, newTuple]
  refine wpAny_bind (wpAny_newObj_type ?_ (by size_fits))
  refine wpAny_bind (m := firstArgMember _ _) (wpAny_of_eq (a := Value.none) (by first | rfl | (simp only [firstArgMember]; rfl)) ?_)
  refine wpAny_newObj_type ?_ (by size_fits)
  simp only [raiseNew]
  refine wpAny_bind (wpAny_handled ?_)
  first | rw [show A.in1.handled = none from hh] | rw [hh]
  refine wpAny_bind (wpAny_pure (wpAny_throw ?_))
  refine wpAny_bind (wpAny_isInstance (T := "StopIteration") (b := true) ⟨_, Heap.get?_push_size _ rfl, rfl⟩ isSubtype_stop ?_)
  exact wpAny_pure (hQ _ (((Heap.SameBut.update ..).extBut.push _).push _))
theorem drawE {it e : Addr} {vs : List Value} (hne : e ≠ it) : ∀ (n i : Nat) (s : Shared) (Q : List Value → Shared → Prop), AtE s.heap it e i → SeqE s.heap e vs → i + n ≤ vs.length →
    (∀ h', AtE h' it e (i + n) → Heap.SameBut it s.heap h' → Q ((vs.drop i).take n) { s with heap := h' }) → wpAny (model prog w) A (draw (.ref it) n) Q E s
  | 0, i, s, Q, hit, _, _, hQ => wpAny_pure (by simpa using hQ s.heap hit (Heap.SameBut.refl ..))
  | n + 1, i, s, Q, hit, he, hle, hQ => by
    have hlt : i < vs.length := by omega
    show wpAny _ _ (pyNext (.ref it) >>= _) Q E s
    refine wpAny_bind (nextE hit he (x := vs[i]) (by simp [hlt]) fun h₁ hit₁ hs₁ => ?_)
    refine wpAny_bind (wpAny_holding (drawE hne n (i + 1) _ _ hit₁ (he.ext hs₁.extBut hne) (by omega) fun h₂ hit₂ hs₂ => wpAny_pure ?_))
    have hd : vs.drop i = vs[i] :: vs.drop (i + 1) := List.drop_eq_getElem_cons hlt
    have := hQ h₂ (by rw [show i + (n + 1) = i + 1 + n by omega]; exact hit₂) (hs₁.trans hs₂)
    rw [hd, List.take_succ_cons] at this
    exact this
theorem ent_assign {e dx : Addr} {vs : List Value} {env : Env} {elts : List PySem.Expr} {x1} {pos : Pos} {h₀ : Heap} {L : Addr} {m : Str → Option Value} {news : CbLed} {Q : Unit → Shared → Prop} (hh : A.handled = none) (X : (K w.params).In s.heap) (F : Fr h₀ L s.heap m) (N : News h₀ L s.heap news) (he : (e, entObj dx vs) ∈ news)
    (hn : (assignEach elts env).length = vs.length) (hstar : (assignEach elts env).findIdx? (·.1) = none)
    (h : ∀ h', Fr h₀ L h' m → News h₀ L h' news → wpAny (model Prg w) A (assignInOrder ((assignEach elts env).map (·.2)) vs) Q E { s with heap := h' }) :
    wpAny (model Prg w) A (assign (.Tuple elts x1 pos) env (.ref e)) Q E s := by
  have ho := (N _ he).1
  rw [assign_Tuple]
  refine wpAny_bind (wpAny_standAt ?_)
  unfold unpack
  rw [hn, hstar]
  refine wpAny_bind (wpAny_holding ?_)
  have t1 : Looks (model Prg w) s.heap (typeOf (.ref e)) (.ref 217) := (Looks.ld ho).andThen .now
  have i1 := ti_find (M := model Prg w) X
  have hlt : e ≠ s.heap.objs.size := Nat.ne_of_lt (Heap.lt_size ho)
  unfold unpackItems
  refine wpAny_bind ?_
  unfold notIterableAtAll
  have sp : Looks (model Prg w) s.heap (specialOf (.ref e) "__iter__") (some (.builtin "tuple.__iter__")) := t1.andThen i1
  refine wpAny_bind (sp.here ?_)
  refine wpAny_pure ?_
  simp only [Bool.false_eq_true, if_false]
  refine wpAny_bind (wpAny_holding (ent_iter X ho ?_))
  have se : SeqE (s.heap.push { cls := .type "tuple_iterator", data := .fields #[.ref e, .int 0 0] }) e vs := ⟨_, 0, Heap.get?_push_of_some _ ho, rfl⟩
  refine wpAny_bind (wpAny_holding (drawE hlt vs.length 0 _ _ ⟨_, Heap.get?_push_size _ rfl, rfl, rfl⟩ se (by omega) fun h₁ hit₁ hs₁ => ?_))
  have hall : List.take vs.length (List.drop 0 vs) = vs := by rw [List.drop_zero]; exact List.take_of_length_le (Nat.le_refl _)
  rw [hall, if_neg (by simp)]
  refine wpAny_bind (wpAny_holding (stopE hh hit₁ (se.ext hs₁.extBut hlt) (by simp) fun h₂ he₂ => ?_))
  simp only [Option.isSome_none, Bool.false_eq_true, if_false]
  have ext : ∀ b o, b ≠ s.heap.objs.size → s.heap.get? b = some o → h₂.get? b = some o := fun b o hb e' => he₂ b o hb (hs₁.extBut b o hb (Heap.get?_push_of_some _ e'))
  have ext' : ∀ b o, s.heap.get? b = some o → h₂.get? b = some o := fun b o e' => ext b o (Nat.ne_of_lt (Heap.lt_size e')) e'
  refine wpAny_pure (h h₂ ⟨F.ns.at' fun o e' => ext' _ o e', fun b o e' => ext' b o (F.keep b o e'), F.above⟩ fun p hp => ⟨ext' _ _ (N p hp).1, (N p hp).2⟩)
end
end
end Mine
namespace Mine
section
open PySem PySem.W PyProof.Rows PySem.Spec PySem.Calls
set_option maxRecDepth 100000
set_option maxHeartbeats 8000000
noncomputable def rowNums (q : Int × Int × Int × Int × Bool) : List Int := [q.1.fdiv 2, (q.2.1 - q.1).fdiv 2, q.2.2.1.fdiv 2, 2 * q.2.2.2.1]
noncomputable def tellF (l : List Int) : List Int := (l.filter fun x => decide (63 < x)).map fun x => x.fdiv 64
noncomputable def readF (qs : List (Int × Int × Int × Int × Bool)) : List Int := qs.flatMap fun q => tellF (rowNums q)
noncomputable def QOk (q : Int × Int × Int × Int × Bool) : Prop := q.2.2.2.1.natAbs < 2 ^ 1000
theorem EntsAre.get {es qs} (h : EntsAre es qs) : ∀ (i : Nat) (p : Addr × Obj), es[i]? = some p → ∃ q, qs[i]? = some q ∧ EntIs p q := by
  induction h with
  | nil => intro i p hp; cases hp
  | cons e _ ih =>
    intro i p hp
    cases i with
    | zero => cases hp; exact ⟨_, rfl, e⟩
    | succ i => exact ih i p hp
theorem tellF_1 {l : List Int} {j : Nat} {x : Int} (e : l[j]? = some x) (h : 63 < x) : tellF (l.take (j + 1)) = tellF (l.take j) ++ [x.fdiv 64] := by
  rw [List.take_add_one, e]; simp [tellF, h]
theorem tellF_0 {l : List Int} {j : Nat} {x : Int} (e : l[j]? = some x) (h : ¬ 63 < x) : tellF (l.take (j + 1)) = tellF (l.take j) := by
  rw [List.take_add_one, e]; simp [tellF, h]
theorem tellF_len (l : List Int) : (tellF l).length ≤ l.length := by
  rw [tellF, List.length_map]; exact List.length_filter_le _ _
theorem readF_len : ∀ qs, (readF qs).length ≤ 4 * qs.length
  | [] => Nat.le_refl _
  | q :: r => by
    have h1 := readF_len r
    have h2 := tellF_len (rowNums q)
    have h3 : (rowNums q).length = 4 := rfl
    have e : readF (q :: r) = tellF (rowNums q) ++ readF r := rfl
    rw [e, List.length_append, List.length_cons]; omega
theorem readF_snoc {qs : List (Int × Int × Int × Int × Bool)} {i : Nat} {q} (e : qs[i]? = some q) : readF (qs.take (i + 1)) = readF (qs.take i) ++ tellF (rowNums q) := by
  rw [List.take_add_one, e]; simp [readF]
theorem mul2_ok {d : Int} (h : d.natAbs < 2 ^ 1000) : IntMulOk 2 d := IntMulOk.of_le (m := 2) (n := 1000) (by decide) (intBits_le_iff.mpr h) (by decide)
variable (w : World)
theorem c_read (el : Addr) (nn : Nat) (es : CbLed) (qs : List (Int × Int × Int × Int × Bool)) (news : CbLed) (hl : (el, listOf (es.map fun p => Value.ref p.1).toArray nn) ∈ news) (hes : ∀ p ∈ es, p ∈ news) (he : EntsAre es qs) (hq : ∀ q ∈ qs, QOk q) (hn : es.length ≤ 1000) :
    Ctr w 283 [.ref el] [] news 2 (RL (readF qs)) := by
  intro V LO mean mg mb dp un gd cn cs a ccd cl outer A₀ base h₀ L m s Q E B F X N T hk hd hu hret
  refine wpAny_call ?_
  cell_enter
  refine wp_hideP fun Q1 E1 kQ1 _ pE1 => ?_
  repeat' ((fail_if_success (with_reducible show wpAny _ _ (exec (Stmt.For _ _ _ _ _) _) _ _ _)); (first | (k_unfold; (try dsimp only)) | walk1 | (dsimp only; walk1)))
  refine wpAny_For ?_ ?hs
  case hs => intro _; with_unfolding_all rfl
  repeat' ((fail_if_success (with_reducible show wpAny _ _ (pyIter _) _ _ _)); (first | (k_unfold; (try dsimp only)) | walk1 | (dsimp only; walk1)))
  rename News _ _ _ ((_, listOf #[] 0) :: news) => N3
  rename Fr _ _ _ _ => F3
  rename (∀ p ∈ news, p.1 < _) => ltO
  rename_i o _ h3
  refine' loop_st (vs := es.map fun p => Value.ref p.1) (nn := nn) (σ := List Value × List Int × Nat) (fun c => (o, listOf c.1.toArray c.2.2) :: news) [Str.ofString "start", Str.ofString "end", Str.ofString "target", Str.ofString "depth", Str.ofString "lasti", Str.ofString "numbers"]
    (fun i c => IntsAre c.1 c.2.1 ∧ c.2.1 = readF (qs.take i)) ([], [], 0) rfl pE1 (fun _ => .tail _ hl) (fun _ => rfl) F3 N3 ⟨.nil, rfl⟩ ?turn ?done
  case turn =>
    rintro it oi i v ⟨tvs, ts, tn⟩ u h4 tk4 hv new ⟨p1, p2⟩ F4 N4
    try dsimp only at p1 p2 N4
    have hi : i < es.length := by
      have := (List.getElem?_eq_some_iff.mp hv).1
      rw [List.length_map] at this; exact this
    have hpe : es[i]? = some es[i] := List.getElem?_eq_getElem hi
    obtain ⟨⟨qa, qb, qc, qd, ql⟩, hqe, dx, t1, t2, t3, t4, hob⟩ := he.get i _ hpe
    dsimp only at hob
    have hv' : v = .ref es[i].1 := by
      have : (es.map fun p => Value.ref p.1)[i]? = some (.ref es[i].1) := by simp [hi]
      rw [this] at hv; exact (Option.some.inj hv).symm
    subst hv'
    have hem : (es[i].1, entObj dx _) ∈ (it, oi) :: (o, listOf tvs.toArray tn) :: news := .tail _ (.tail _ (by rw [← hob]; exact hes _ (List.mem_of_getElem? hpe)))
    have hqo : qd.natAbs < 2 ^ 1000 := hq _ (List.mem_of_getElem? hqe)
    refine' ent_assign rfl ?eX F4 N4 hem rfl rfl ?_
    case eX => exact Frag.In.keeps (by assumption) F4.keep
    intro h5 F5 N5
    dsimp only
    repeat' ((fail_if_success (with_reducible show wpAny _ _ (execs _ _) _ _ _)); (first | (k_unfold; (try dsimp only)) | walk1 | (dsimp only; walk1)))
    dsimp only
    refine wp_hide fun Q2 E2 kQ2 _ => ?_
    repeat' ((fail_if_success (with_reducible show wpAny _ _ (PySem.call _ _ _) _ _ _)); (first | (k_unfold; (try dsimp only)) | walk1 | (dsimp only; walk1)))
    refine' Ctr.useI (c_floordiv w qa 2 _ _ _ (by decide) (by decide)) ?a1 ?a2 ?a3 ?a4 ?a5 ?a6 ?a7 ?a8 ?_
    case a1 => k_asm
    case a2 => k_asm
    case a3 => k_asm
    case a4 => k_asm
    case a5 => k_asm
    case a6 => exact rfl
    case a7 => ktr_room
    case a8 => ktr_units
    intro tA hA tkA FA NA
    try dsimp only
    repeat' ((fail_if_success (with_reducible show wpAny _ _ (PySem.call _ _ _) _ _ _)); (first | (k_unfold; (try dsimp only)) | walk1 | (dsimp only; walk1)))
    refine' Ctr.useI (c_sub w qb qa _ _ _) ?b1 ?b2 ?b3 ?b4 ?b5 ?b6 ?b7 ?b8 ?_
    case b1 => k_asm
    case b2 => k_asm
    case b3 => k_asm
    case b4 => k_asm
    case b5 => k_asm
    case b6 => exact rfl
    case b7 => ktr_room
    case b8 => ktr_units
    intro tB hB tkB FB NB
    try dsimp only
    repeat' ((fail_if_success (with_reducible show wpAny _ _ (PySem.call _ _ _) _ _ _)); (first | (k_unfold; (try dsimp only)) | walk1 | (dsimp only; walk1)))
    refine' Ctr.useI (c_floordiv w (qb - qa) 2 _ _ _ (by decide) (by decide)) ?c1 ?c2 ?c3 ?c4 ?c5 ?c6 ?c7 ?c8 ?_
    case c1 => k_asm
    case c2 => k_asm
    case c3 => k_asm
    case c4 => k_asm
    case c5 => k_asm
    case c6 => exact rfl
    case c7 => ktr_room
    case c8 => ktr_units
    intro tC hC tkC FC NC
    try dsimp only
    repeat' ((fail_if_success (with_reducible show wpAny _ _ (PySem.call _ _ _) _ _ _)); (first | (k_unfold; (try dsimp only)) | walk1 | (dsimp only; walk1)))
    refine' Ctr.useI (c_floordiv w qc 2 _ _ _ (by decide) (by decide)) ?d1 ?d2 ?d3 ?d4 ?d5 ?d6 ?d7 ?d8 ?_
    case d1 => k_asm
    case d2 => k_asm
    case d3 => k_asm
    case d4 => k_asm
    case d5 => k_asm
    case d6 => exact rfl
    case d7 => ktr_room
    case d8 => ktr_units
    intro tD hD tkD FD ND
    try dsimp only
    repeat' ((fail_if_success (with_reducible show wpAny _ _ (PySem.call _ _ _) _ _ _)); (first | (k_unfold; (try dsimp only)) | walk1 | (dsimp only; walk1)))
    refine' Ctr.useI (c_mul w 2 qd _ _ _ (mul2_ok hqo)) ?e1 ?e2 ?e3 ?e4 ?e5 ?e6 ?e7 ?e8 ?_
    case e1 => k_asm
    case e2 => k_asm
    case e3 => k_asm
    case e4 => k_asm
    case e5 => k_asm
    case e6 => exact rfl
    case e7 => ktr_room
    case e8 => ktr_units
    intro tE hE tkE FE NE
    try dsimp only
    repeat' ((fail_if_success (with_reducible show wpAny _ _ (eval (PySem.Expr.ListComp _ _ _ _) _) _ _ _)); (first | (k_unfold; (try dsimp only)) | walk1 | (dsimp only; walk1)))
    rename News _ _ _ ((_, listOf #[_, _, _, _] 0) :: _) => N6
    rename Fr _ _ _ _ => F6
    rename_i nl _ ltN h6
    generalize hits : #[Value.int (qa.fdiv 2) tA, Value.int ((qb - qa).fdiv 2) tC, Value.int (qc.fdiv 2) tD, Value.int (2 * qd) tE] = its at N6
    have hsize : its.size = 4 := by rw [← hits]; rfl
    have hints : IntsAre its.toList (rowNums (qa, qb, qc, qd, ql)) := by rw [← hits]; exact .cons _ _ (.cons _ _ (.cons _ _ (.cons _ _ .nil)))
    refine LCt.ListComp_T (F₀ := F6) (by with_unfolding_all rfl) (by decide) (by rfl) (by decide) (by rfl) ?_
    repeat' ((fail_if_success (with_reducible show LCt.CompSrcT _ _ _ _ _ _ _ _ _ _ _ _ _ _ _)); (first | (k_unfold; (try dsimp only)) | walk1 | (dsimp only; walk1)))
    refine LCt.CompSrcT.ledger rfl F6 N6 (.head _) (by rw [hsize, sizeLine_eq]; decide) fun g => ?_
    refine compT_fold (fun i ys led => led = (nl, listOf its 0) :: (it, oi) :: (o, listOf tvs.toArray tn) :: news ∧ IntsAre ys (tellF ((rowNums (qa, qb, qc, qd, ql)).take i))) ⟨rfl, .nil⟩ ?cturn ?cfin
    case cturn =>
      rintro j v I oI C oC D m₂ h7 tk7 E' ys led hj hv ⟨rfl, hys⟩ hC hm F7 N7 off7 ne7
      have hv' : its.toList[j]? = some v := by simpa using hv
      obtain ⟨x, tx, rfl, hxe⟩ := hints.at j v hv'
      try dsimp only
      repeat' ((fail_if_success (with_reducible show wpAny _ _ (PySem.call _ _ _) _ _ _)); (first | (k_unfold; (try dsimp only)) | walk1 | (dsimp only; walk1)))
      · rename (63 < x) => big
        refine' Ctr.useI (c_floordiv w x 64 _ _ _ (by decide) (by decide)) ?f1 ?f2 ?f3 ?f4 ?f5 ?f6 ?f7 ?f8 ?_
        case f1 => k_asm
        case f2 => k_asm
        case f3 => k_asm
        case f4 => k_asm
        case f5 => k_asm
        case f6 => exact rfl
        case f7 => ktr_room
        case f8 => ktr_units
        intro tG hG tkG FG NG
        dsimp only [qk]
        exact LCg.CompEnd.intro FG NG _ (fun _ h => h) off7 (.inr ⟨_, .head _, rfl, _, rfl⟩) ⟨rfl, by rw [tellF_1 hxe big]; exact hys.append (.cons _ _ .nil)⟩
      · rename (¬ 63 < x) => small
        exact LCg.CompEnd.intro F7 N7 _ (fun _ h => h) off7 (.inr ⟨_, .head _, rfl, _, rfl⟩) ⟨rfl, by rw [tellF_0 hxe small]; exact hys⟩
    case cfin =>
      rintro ys led ⟨rfl, hys⟩ D h8 tk8 F8 N8 off8
      rw [hsize] at hys
      have hys' : IntsAre ys (tellF (rowNums (qa, qb, qc, qd, ql))) := hys
      try dsimp only
      repeat' ((fail_if_success (with_reducible show wpAny _ _ (PySem.call _ _ _) _ _ _)); (first | (k_unfold; (try dsimp only)) | walk1 | (dsimp only; walk1)))
      have tl : tvs.length ≤ 4000 := by
        rw [p1.length, p2]
        have z := readF_len (qs.take i)
        rw [List.length_take] at z
        omega
      have yl : ys.length ≤ 4 := by rw [hys'.length]; exact tellF_len _
      refine' extend_in_ints (own := [(D, _), (nl, _), (it, _)]) (rest := news) ?gF N8 ?go ?ga (N8 _ (.head _)).1 p1 hys' ?_ ?gz
      case gF => exact F8
      case gz => simp only [List.size_toArray, sizeLine_eq]; omega
      case ga => exact fun p hp => Nat.ne_of_lt (ltO p hp)
      case go =>
        intro p hp
        rcases List.mem_cons.mp hp with rfl | hp
        · exact Ne.symm off8.2.2.1
        · rcases List.mem_cons.mp hp with rfl | hp
          · exact Nat.ne_of_gt ltN.2.1
          · rw [List.mem_singleton.mp hp]; exact Nat.ne_of_gt (new (o, _) (.head _))
      intro h9 n9 F9 N9 I9
      try dsimp only
      repeat' (first | (k_unfold; (try dsimp only)) | walk1 | (dsimp only; walk1))
      refine kQ2 _ _ ⟨rfl, (_, _, n9), _, _, _, _, rfl, F9, N9, .tail _ (.tail _ (.head _)), fun p hp => .tail _ (.tail _ (.tail _ hp)), ⟨I9, ?_⟩, fun z h3 => ?_⟩
      · show ts ++ tellF (rowNums (qa, qb, qc, qd, ql)) = _
        rw [readF_snoc hqe, p2]
      · have h3' := h3
        simp only [List.contains_cons, List.contains_nil, Bool.or_false, Bool.or_eq_false_iff, beq_eq_false_iff_ne, ne_eq] at h3'
        simp [h3']
  case done =>
    rintro ⟨tvs, ts, tn⟩ u h4 tk4 ⟨p1, p2⟩ F4 N4
    try dsimp only at p1 p2 N4
    try dsimp only
    repeat' (first | (k_unfold; (try dsimp only)) | walk1 | (dsimp only; walk1))
    refine kQ1 _ _ ?_
    dsimp only [qk]
    repeat' (first | (k_unfold; (try dsimp only)) | walk1 | (dsimp only; walk1))
    refine hret _ [(o, _)] _ _ ⟨o, _, _, rfl, ?_, rfl⟩ (fun p hp q hq => by rw [List.mem_singleton.mp hp]; exact ltO q hq) (by assumption) (by assumption)
    have e : readF (qs.take (es.map fun p => Value.ref p.1).length) = readF qs := by
      rw [List.length_map, he.length, List.take_length]
    rw [e] at p2
    rw [← p2]; exact p1
end
end Mine
namespace Mine
section
open PySem PySem.W PyProof.Rows PySem.Spec PySem.Calls
set_option maxRecDepth 100000
set_option maxHeartbeats 4000000
section
variable {prog : Program} {w : World} {A : Around} {E : Value → Shared → Prop} {s : Shared} {h₀ : Heap} {L l : Addr} {m : Str → Option Value} {news : CbLed} {n : Nat}
theorem sum_K {vs : List Value} {ns : List Int} {Q : Value → Shared → Prop} (hh : A.handled = none) (F : Fr h₀ L s.heap m) (N : News h₀ L s.heap news) (hm : (l, listOf vs.toArray n) ∈ news) (hi : IntsAre vs ns)
    (h : ∀ h' tk t', Fr h₀ L h' m → News h₀ L h' news → Q (.int ns.sum t') { s with heap := h', toks := tk }) : wpAny (model prog w) A (call (.builtin "sum") [.ref l]) Q E s := by
  have hl : s.heap.IsList l vs.toArray := ⟨_, (N _ hm).1, rfl, n, rfl⟩
  obtain ⟨xs, hx⟩ := hi.allInts.items
  have hn : numsOf vs.toArray.toList = ns := by rw [show vs.toArray.toList = vs from rfl, hi.numsOf]
  rw [hx] at hl hn
  rw [nums_intItems] at hn
  refine sum_intListG hh hl fun h' tk t' hk => ?_
  rw [preSum_eq, List.take_of_length_le (by simp), hn]
  exact h h' tk t' (F.keeps hk) (N.grown hk)
theorem slice3_K {value slice : PySem.Expr} {vs : List Value} {ns : List Int} {vl vu vk : Value} {lo hi st : Option Int} {ops : List Value} {Q : Value → Shared → Prop} (F : Fr h₀ L s.heap m) (N : News h₀ L s.heap news) (hl : s.heap.IsList l vs.toArray) (hi' : IntsAre vs ns)
    (pl : IsPart vl lo) (pu : IsPart vu hi) (pk : IsPart vk st) (h0 : st ≠ some 0)
    (h : ∀ D ws h', Fr h₀ L h' m → News h₀ L h' ((D, listOf (List.toArray ws) 0) :: news) → (∀ p ∈ news, p.1 < D) → IntsAre ws (pickNums ns lo hi st) → Q (.ref D) { s with heap := h' })
    (hs : subscripted slice false (.ref l) (.ref s.heap.objs.size) = operate ops (getItem (.ref l) (.ref s.heap.objs.size))) (ht : ∀ r, letTemporaryGo value (.ref l) r = pure ()) (hz : vs.length ≤ sizeLine) :
    wpAny (model prog w) A (subscriptTail value slice (.ref l) (.ref s.heap.objs.size)) Q E { s with heap := s.heap.push { cls := .type "slice", data := .fields #[vl, vu, vk] } } := by
  refine slice_list3 F N hl pl pu pk h0 (fun h' F' N' => h _ (slicePick vs.toArray lo hi st).toList h' F' ?_ (fun p hp => Nat.lt_succ_of_lt (Heap.lt_size (N p hp).1)) (hi'.pick lo hi st)) hs ht (by simpa using hz)
  rw [Array.toArray_toList]
  exact N'
theorem frame2 {g h : Heap} {a b : Str} {va vb : Int} {ta tb : Tok} {mB : Str → Option Value} (F : Fr g L h (fun y => if y = a then some (.int va ta) else if y = b then some (.int vb tb) else mB y)) :
    ∃ ta tb, Fr g L h (fun y => if y = a then some (.int va ta) else if y = b then some (.int vb tb) else mB y) := ⟨ta, tb, F⟩
theorem frame1 {g h : Heap} {a : Str} {va : Int} {ta : Tok} {mB : Str → Option Value} (F : Fr g L h (fun y => if y = a then some (.int va ta) else mB y)) : ∃ ta, Fr g L h (fun y => if y = a then some (.int va ta) else mB y) := ⟨ta, F⟩
theorem frame_st {g h : Heap} {stored : List Str} {m mB : Str → Option Value} (hm : ∀ z, stored.contains z = false → m z = mB z) (F : Fr g L h m) : Fr g L h (fun y => if stored.contains y then m y else mB y) := by
  have e : (fun y => if stored.contains y then m y else mB y) = m := funext fun y => by
    cases q : stored.contains y with
    | true => simp
    | false => simp [hm y q]
  rw [e]; exact F
theorem pick4 {l : List Value} {i : Nat} (h : l.length = i + 4) : kms_pick l (some (-4)) none = l.drop i := by
  have e : kms_lo (some (-4)) l.length = i := by
    simp only [kms_lo, show ((-4 : Int) < 0) by decide, if_true]
    have : (-(-4 : Int)).toNat = 4 := rfl
    omega
  unfold kms_pick
  rw [e]
  show (l.drop i).take (l.length - i) = _
  rw [List.take_of_length_le (by rw [List.length_drop]; exact Nat.le_refl _)]
theorem range_drop4 (f : Nat → Int) (i : Nat) : ((List.range (i + 4)).map f).drop i = [f i, f (i + 1), f (i + 2), f (i + 3)] := by
  have e : List.range (i + 4) = List.range i ++ [i, i + 1, i + 2, i + 3] := by
    rw [List.range_succ, List.range_succ, List.range_succ, List.range_succ]; simp
  rw [e, List.map_append, List.drop_left' (by simp)]
  rfl
end
end
end Mine
namespace Mine
section
open PySem PySem.W PyProof.Rows PySem.Spec PySem.Calls
set_option maxRecDepth 100000
set_option maxHeartbeats 4000000
section
variable {prog : Program} {w : World} {A : Around} {E : Value → Shared → Prop} {s : Shared} {env : Env} {h₀ : Heap} {x : Str} {px : Pos} {body : List Stmt} {Q : Flow → Shared → Prop} {m : Str → Option Value} {led : CbLed} {n : Nat}
/-- what a turn of a loop over a range must end in -/
noncomputable def RngEnd (h₀ : Heap) (L : Addr) (J : (Str → Option Value) → CbLed → Prop) (itO : Addr × Obj) (s₁ : Shared) (Q : Flow → Shared → Prop) (f : Flow) (s₂ : Shared) : Prop :=
  match f with
  | .ret v => Q (.ret v) s₂
  | .brk => Q .next s₂
  | _ => ∃ h' tk m' news' led', s₂ = { s₁ with heap := h', toks := tk } ∧ Fr h₀ L h' m' ∧ News h₀ L h' news' ∧ itO ∈ news' ∧ (∀ p ∈ led', p ∈ news') ∧ (∀ p ∈ led', p.1 ≠ itO.1) ∧ J m' led'
theorem loop_rng {r : Addr} {t₀ u₀ v₀ : Tok} (J : Nat → (Str → Option Value) → CbLed → Prop) (hh : A.handled = none) (hE : PassesOwn (model prog w) A env E) (hr : IsRange s.heap r 0 (n : Int) 1 t₀ u₀ v₀) (hn : n < 1000000) (F : Fr h₀ env.locals s.heap m) (N : News h₀ env.locals s.heap led) (hj : J 0 m led)
    (turn : ∀ it o i t m₁ led₁ h tk, i < n → (∀ p ∈ led, p.1 < it) → (∀ p ∈ led₁, p.1 ≠ it) → J i m₁ led₁ → Fr h₀ env.locals h m₁ → News h₀ env.locals h ((it, o) :: led₁) →
      wpAny (model prog w) A (assign (.Name x px) env (.int (i : Int) t)) (fun _ s₂ => wpAny (model prog w) A (execs body env) (RngEnd h₀ env.locals (J (i + 1)) (it, o) { s with heap := h, toks := tk } Q) E s₂) E { s with heap := h, toks := tk })
    (done : ∀ m₁ led₁ h tk, J n m₁ led₁ → Fr h₀ env.locals h m₁ → News h₀ env.locals h led₁ → Q .next { s with heap := h, toks := tk }) :
    wpAny (model prog w) A (pyIter (.ref r)) (fun it s₂ => codeAny (model prog w) A (.forLoop (.Name x px) it body [] env) (fun r s' => match r with | .ok f => Q f s' | .error e => cameBackBy (model prog w) A env E e s') s₂) E s := by
  refine wpAny_pyIter_range hr (small_one (by decide) (by decide) (by omega) (by omega)) ?_
  have hsz : Builtin.Range.rangeSize 0 (n : Int) 1 = (n : Int) := by rw [rangeSize_nat]; omega
  rw [hsz]
  have new : ∀ p ∈ led, p.1 < s.heap.objs.size := fun p hp => Heap.lt_size (N p hp).1
  have W : Walks prog w A s.heap.objs.size [s.heap.objs.size] [s.heap.objs.size] n (fun i v => i < n ∧ ∃ t, v = .int ((0 : Int) + i * 1) t)
      (fun i h => IsRangeIter h s.heap.objs.size ((0 : Int) + (i : Nat) * 1) ((n : Int) - (i : Nat)) 1) := (Walks.range hh _ 0 1 n).bound
  have st0 : IsRangeIter (s.heap.push { cls := Value.type "range_iterator", data := Data.fields #[rawInt 0, rawInt ↑n, rawInt 1] }) s.heap.objs.size ((0 : Int) + ((0 : Nat) : Int) * 1) ((n : Int) - ((0 : Nat) : Int)) 1 := by
    show _ = _
    simpa using Heap.get?_push_size s.heap (o := { cls := Value.type "range_iterator", data := Data.fields #[rawInt 0, rawInt ↑n, rawInt 1] }) rfl
  have F0 := F.push { cls := Value.type "range_iterator", data := Data.fields #[rawInt 0, rawInt ↑n, rawInt 1] }
  have Np := News.push F N { cls := Value.type "range_iterator", data := Data.fields #[rawInt 0, rawInt ↑n, rawInt 1] } rfl
  generalize s.heap.objs.size = it at W st0 Np new ⊢
  refine codeAny_forLoop (fun k s' => ∃ h tk m' led' o i, s' = { s with heap := h, toks := tk } ∧ Fr h₀ env.locals h m' ∧ News h₀ env.locals h ((it, o) :: led') ∧ IsRangeIter h it ((0 : Int) + (i : Nat) * 1) ((n : Int) - (i : Nat)) 1 ∧ (∀ p ∈ led', p.1 ≠ it) ∧ J i m' led' ∧ i ≤ n ∧ k = n + 1 - i)
    ?_ (n + 1) ⟨_, s.toks, m, led, _, 0, rfl, F0, Np, st0, fun p hp => Nat.ne_of_lt (new p hp), hj, Nat.zero_le _, rfl⟩
  rintro k s' ⟨h, tk, m', led', o, i, rfl, F', N', hst, off, hJ, hi, rfl⟩
  have hm := N' _ (.head _)
  have keep : ∀ h1 : Heap, (∀ b ob, b ∉ [it] → h.get? b = some ob → h1.get? b = some ob) → Fr h₀ env.locals h1 m' ∧ ∀ p ∈ led', h1.get? p.1 = some p.2 ∧ p.1 ≠ env.locals ∧ h₀.get? p.1 = none := fun h1 k1 =>
    ⟨LCg.fr_but F' k1 (Ne.symm hm.2.1) hm.2.2, fun p hp => ⟨k1 _ _ (by simpa using off p hp) (N' p (.tail _ hp)).1, (N' p (.tail _ hp)).2⟩⟩
  by_cases hlt : i < n
  · refine W.item i _ _ _ hlt hst fun v h1 tk1 hP st1 k1 => ?_
    obtain ⟨_, t, rfl⟩ := hP
    obtain ⟨F1, N1⟩ := keep h1 k1
    have ex : (0 : Int) + (i : Int) * 1 = (i : Int) := by omega
    rw [ex]
    have N1' : News h₀ env.locals h1 ((it, _) :: led') := fun q hq => by
      rcases List.mem_cons.mp hq with rfl | hq
      · exact ⟨st1, hm.2.1, hm.2.2⟩
      · exact N1 q hq
    refine wpAny_mono (wpAny_mono (turn it _ i t m' led' h1 tk1 hlt new off hJ F1 N1') (fun _ s₂ z => ?_) fun _ _ x => x) (fun _ _ x => x) hE
    refine wpAny_mono z (fun f s₃ p => ?_) hE
    cases f with
    | ret v => exact p
    | brk => exact p
    | next =>
      obtain ⟨h2, tk2, m2, news2, led2, rfl, F2, N2, hi2, hn2, off2, hJ2⟩ := p
      exact ⟨n + 1 - (i + 1), by omega, h2, tk2, m2, led2, _, i + 1, rfl, F2, fun q hq => by rcases List.mem_cons.mp hq with rfl | hq; exact N2 _ hi2; exact N2 _ (hn2 q hq), (N2 _ hi2).1, off2, hJ2, hlt, rfl⟩
    | cont =>
      obtain ⟨h2, tk2, m2, news2, led2, rfl, F2, N2, hi2, hn2, off2, hJ2⟩ := p
      exact ⟨n + 1 - (i + 1), by omega, h2, tk2, m2, led2, _, i + 1, rfl, F2, fun q hq => by rcases List.mem_cons.mp hq with rfl | hq; exact N2 _ hi2; exact N2 _ (hn2 q hq), (N2 _ hi2).1, off2, hJ2, hlt, rfl⟩
  · obtain rfl : i = n := by omega
    refine W.done _ _ _ hst fun h1 tk1 k1 => wpAny_execs_nil ?_
    obtain ⟨F1, N1⟩ := keep h1 k1
    exact done m' led' h1 tk1 hJ F1 N1
end
end
end Mine
namespace Mine
section
set_option maxRecDepth 100000
/-- the row of Gale and Robinson: four ones, then each number out of the last four -/
noncomputable def somF (a b : Nat) : Nat → Nat × Nat × Nat × Nat
  | 0 => (1, 1, 1, 1)
  | n + 1 => match somF a b n with
    | (x, y, z, w) => (y, z, w, (a * (y * w) + b * (z * z)) / x)
noncomputable def som (a b n : Nat) : Nat := (somF a b n).1
theorem somF_eq (a b : Nat) : ∀ n, somF a b n = (som a b n, som a b (n + 1), som a b (n + 2), som a b (n + 3)) := by
  intro n
  have h : ∀ n, (somF a b (n + 1)).1 = (somF a b n).2.1 ∧ (somF a b (n + 1)).2.1 = (somF a b n).2.2.1 ∧ (somF a b (n + 1)).2.2.1 = (somF a b n).2.2.2 := fun n => by
    exact ⟨rfl, rfl, rfl⟩
  have h1 := h n
  have h2 := h (n + 1)
  have h3 := h (n + 2)
  simp only [som]
  rw [Prod.ext_iff, Prod.ext_iff, Prod.ext_iff]
  refine ⟨rfl, h1.1.symm, ?_, ?_⟩
  · show (somF a b n).2.2.1 = (somF a b (n + 2)).1
    rw [h2.1, h1.2.1]
  · show (somF a b n).2.2.2 = (somF a b (n + 3)).1
    rw [h3.1, h2.2.1, h1.2.2]
theorem som_next (a b n : Nat) : som a b (n + 4) = (a * (som a b (n + 1) * som a b (n + 3)) + b * (som a b (n + 2) * som a b (n + 2))) / som a b n := by
  have e := somF_eq a b (n + 1)
  have e2 : somF a b (n + 1) = (som a b (n + 1), som a b (n + 2), som a b (n + 3), (a * (som a b (n + 1) * som a b (n + 3)) + b * (som a b (n + 2) * som a b (n + 2))) / som a b n) := by
    rw [somF, somF_eq a b n]
  rw [e2] at e
  exact (Prod.mk.inj (Prod.mk.inj (Prod.mk.inj e).2).2).2.symm
theorem som_0 (a b : Nat) : som a b 0 = 1 := rfl
theorem som_1 (a b : Nat) : som a b 1 = 1 := rfl
theorem som_2 (a b : Nat) : som a b 2 = 1 := rfl
theorem som_3 (a b : Nat) : som a b 3 = 1 := rfl
end
end Mine
namespace Mine
section
/-- a polynomial in one letter, lowest figure first; in two: a list of such -/
noncomputable def ev1 (a : Nat) : List Nat → Nat
  | [] => 0
  | c :: r => c + a * ev1 a r
noncomputable def ev2 (a b : Nat) : List (List Nat) → Nat
  | [] => 0
  | c :: r => ev1 a c + b * ev2 a b r
noncomputable def pa1 : List Nat → List Nat → List Nat
  | [], q => q
  | p, [] => p
  | c :: p, d :: q => (c + d) :: pa1 p q
noncomputable def pa2 : List (List Nat) → List (List Nat) → List (List Nat)
  | [], q => q
  | p, [] => p
  | c :: p, d :: q => pa1 c d :: pa2 p q
noncomputable def ps1 (k : Nat) (p : List Nat) : List Nat := p.map (k * ·)
noncomputable def pm1 : List Nat → List Nat → List Nat
  | [], _ => []
  | c :: p, q => pa1 (ps1 c q) (0 :: pm1 p q)
noncomputable def ps2 (k : List Nat) (p : List (List Nat)) : List (List Nat) := p.map (pm1 k)
noncomputable def pm2 : List (List Nat) → List (List Nat) → List (List Nat)
  | [], _ => []
  | c :: p, q => pa2 (ps2 c q) ([] :: pm2 p q)
theorem ev_pa1 (a : Nat) : ∀ p q, ev1 a (pa1 p q) = ev1 a p + ev1 a q
  | [], q => by rw [pa1, ev1, Nat.zero_add]
  | c :: p, [] => by rw [pa1, ev1, ev1, Nat.add_zero]; exact nofun
  | c :: p, d :: q => by rw [pa1, ev1, ev1, ev1, ev_pa1 a p q, Nat.mul_add]; omega
theorem ev_pa2 (a b : Nat) : ∀ p q, ev2 a b (pa2 p q) = ev2 a b p + ev2 a b q
  | [], q => by rw [pa2, ev2, Nat.zero_add]
  | c :: p, [] => by rw [pa2, ev2, ev2, Nat.add_zero]; exact nofun
  | c :: p, d :: q => by rw [pa2, ev2, ev2, ev2, ev_pa2 a b p q, ev_pa1, Nat.mul_add]; omega
theorem ev_ps1 (a k : Nat) : ∀ p, ev1 a (ps1 k p) = k * ev1 a p
  | [] => rfl
  | c :: p => by
    have h := ev_ps1 a k p
    show k * c + a * ev1 a (ps1 k p) = k * (c + a * ev1 a p)
    rw [h, Nat.mul_add, Nat.mul_left_comm]
theorem ev_pm1 (a : Nat) : ∀ p q, ev1 a (pm1 p q) = ev1 a p * ev1 a q
  | [], q => by rw [pm1, ev1, Nat.zero_mul]
  | c :: p, q => by rw [pm1, ev_pa1, ev_ps1, ev1, ev1, ev_pm1 a p q, Nat.zero_add, Nat.add_mul, Nat.mul_assoc]
theorem ev_ps2 (a b : Nat) (k : List Nat) : ∀ p, ev2 a b (ps2 k p) = ev1 a k * ev2 a b p
  | [] => rfl
  | c :: p => by
    have h := ev_ps2 a b k p
    show ev1 a (pm1 k c) + b * ev2 a b (ps2 k p) = ev1 a k * (ev1 a c + b * ev2 a b p)
    rw [h, ev_pm1, Nat.mul_add, Nat.mul_left_comm b]
theorem ev_pm2 (a b : Nat) : ∀ p q, ev2 a b (pm2 p q) = ev2 a b p * ev2 a b q
  | [], q => by rw [pm2, ev2, Nat.zero_mul]
  | c :: p, q => by rw [pm2, ev_pa2, ev_ps2, ev2, ev2, ev_pm2 a b p q, ev1, Nat.zero_add, Nat.add_mul, Nat.mul_assoc]
theorem ev1_mono {a A : Nat} (h : a ≤ A) : ∀ p, ev1 a p ≤ ev1 A p
  | [] => Nat.le_refl _
  | _ :: p => Nat.add_le_add_left (Nat.mul_le_mul h (ev1_mono h p)) _
theorem ev2_mono {a A b B : Nat} (h : a ≤ A) (g : b ≤ B) : ∀ p, ev2 a b p ≤ ev2 A B p
  | [] => Nat.le_refl _
  | c :: p => Nat.add_le_add (ev1_mono h c) (Nat.mul_le_mul g (ev2_mono h g p))
/-- the row's numbers as polynomials in the two -/
noncomputable def somP (n : Nat) : List (List Nat) := [
  [[1]],
  [[1]],
  [[1]],
  [[1]],
  [[0,1],[1]],
  [[0,0,1],[1,1]],
  [[0,0,0,1],[0,1,2],[0,2],[1]],
  [[0,0,0,0,0,1],[0,0,0,1,4],[0,0,3,6],[1,2,4],[0,1]],
  [[0,0,0,0,0,0,0,1],[0,0,0,0,0,3,4],[0,0,0,3,9,6],[0,1,5,10,4],[0,2,6,1],[0,3],[1]],
  [[0,0,0,0,0,0,0,0,0,1],[0,0,0,0,0,0,0,3,6],[0,0,0,0,0,3,12,18],[0,0,0,1,6,24,35],[0,0,0,6,32,46],[0,0,6,27,40],[1,3,12,22],[0,2,7],[0,1]],
  [[0,0,0,0,0,0,0,0,0,0,0,0,1],[0,0,0,0,0,0,0,0,0,0,3,9],[0,0,0,0,0,0,0,0,3,24,36],[0,0,0,0,0,0,1,25,80,84],[0,0,0,0,0,15,72,146,126],[0,0,0,6,36,102,159,126],[0,1,8,34,80,104,84],[0,2,15,37,38,36],[0,3,12,6,9],[0,4,0,1],[1]],
  [[0,0,0,0,0,0,0,0,0,0,0,0,0,0,0,1],[0,0,0,0,0,0,0,0,0,0,0,0,0,6,9],[0,0,0,0,0,0,0,0,0,0,0,15,48,36],[0,0,0,0,0,0,0,0,0,20,101,172,84],[0,0,0,0,0,0,0,15,105,300,370,126],[0,0,0,0,0,6,54,234,528,549,126],[0,0,0,1,11,76,294,637,624,84],[0,0,0,6,52,243,586,588,36],[0,0,0,21,153,432,468,9],[0,0,10,76,244,300,1],[1,4,24,94,144],[0,3,21,48],[0,2,10],[0,1]],
  [[0,0,0,0,0,0,0,0,0,0,0,0,0,0,0,0,0,0,1],[0,0,0,0,0,0,0,0,0,0,0,0,0,0,0,0,6,12],[0,0,0,0,0,0,0,0,0,0,0,0,0,0,15,60,72],[0,0,0,0,0,0,0,0,0,0,0,0,20,120,300,286],[0,0,0,0,0,0,0,0,0,0,15,120,480,1000,830],[0,0,0,0,0,0,0,0,6,60,360,1305,2445,1832],[0,0,0,0,0,0,1,12,120,782,2646,4518,3130],[0,0,0,0,0,0,12,227,1345,4032,6348,4173],[0,0,0,0,0,45,393,1726,4536,6768,4353],[0,0,0,10,90,450,1544,3690,5436,3544],[0,1,11,72,306,927,2115,3240,2232],[0,2,24,123,366,816,1392,1068],[0,3,30,96,192,408,376],[0,4,20,21,73,92],[0,5,0,6,14],[1,0,0,1]]].getD n []
/-- no end of noughts -/
noncomputable def pt1 : List Nat → List Nat
  | [] => []
  | c :: r => match c, pt1 r with
    | 0, [] => []
    | c, s => c :: s
noncomputable def pt2 (p : List (List Nat)) : List (List Nat) := p.map pt1
theorem ev_pt1 (a : Nat) : ∀ p, ev1 a (pt1 p) = ev1 a p
  | [] => rfl
  | c :: r => by
    have h := ev_pt1 a r
    show ev1 a (pt1 (c :: r)) = c + a * ev1 a r
    rw [← h]
    show ev1 a (match c, pt1 r with | 0, [] => [] | c, s => c :: s) = _
    generalize pt1 r = s
    match c, s with
    | 0, [] => rfl
    | 0, _ :: _ => rfl
    | _ + 1, [] => rfl
    | _ + 1, _ :: _ => rfl
theorem ev_pt2 (a b : Nat) : ∀ p, ev2 a b (pt2 p) = ev2 a b p
  | [] => rfl
  | c :: r => by
    have h := ev_pt2 a b r
    show ev1 a (pt1 c) + b * ev2 a b (pt2 r) = _
    rw [h, ev_pt1, ev2]
theorem somP_rec : ∀ n : Fin 9, pt2 (pm2 (somP n.1) (somP (n.1 + 4))) = pt2 (pa2 ([] :: pm2 (somP (n.1 + 2)) (somP (n.1 + 2))) ((pm2 (somP (n.1 + 1)) (somP (n.1 + 3))).map (0 :: ·))) := by decide +kernel
theorem ev2_shift (a b : Nat) : ∀ p, ev2 a b (p.map (0 :: ·)) = a * ev2 a b p
  | [] => rfl
  | c :: r => by
    have h := ev2_shift a b r
    show 0 + a * ev1 a c + b * ev2 a b (r.map (0 :: ·)) = a * (ev1 a c + b * ev2 a b r)
    rw [h, Nat.zero_add, Nat.mul_add, Nat.mul_left_comm b]
theorem somP_step (a b n : Nat) (h : n ≤ 8) : a * (ev2 a b (somP (n + 1)) * ev2 a b (somP (n + 3))) + b * (ev2 a b (somP (n + 2)) * ev2 a b (somP (n + 2))) = ev2 a b (somP n) * ev2 a b (somP (n + 4)) := by
  have e := congrArg (ev2 a b) (somP_rec ⟨n, by omega⟩)
  simp only [ev_pt2, ev_pm2, ev_pa2, ev2_shift, ev2, ev1, Nat.zero_add] at e
  omega
theorem somP_small : ∀ n : Fin 13, 0 < ev2 2 3 (somP n.1) ∧ ev2 1001 1002 (somP n.1) < 2 ^ 900 := by decide +kernel
theorem somP_pos {a b n : Nat} (ha : 2 ≤ a) (hb : 3 ≤ b) (h : n ≤ 12) : 0 < ev2 a b (somP n) :=
  Nat.lt_of_lt_of_le (somP_small ⟨n, by omega⟩).1 (ev2_mono ha hb _)
theorem som_P {a b : Nat} (ha : 2 ≤ a) (hb : 3 ≤ b) : ∀ n, n ≤ 12 → som a b n = ev2 a b (somP n)
  | 0, _ => by show 1 = 1 + a * 0 + b * 0; omega
  | 1, _ => by show 1 = 1 + a * 0 + b * 0; omega
  | 2, _ => by show 1 = 1 + a * 0 + b * 0; omega
  | 3, _ => by show 1 = 1 + a * 0 + b * 0; omega
  | n + 4, h => by
    rw [som_next, som_P ha hb n (by omega), som_P ha hb (n + 1) (by omega), som_P ha hb (n + 2) (by omega), som_P ha hb (n + 3) (by omega),
      somP_step a b n (by omega)]
    exact Nat.mul_div_cancel_left _ (somP_pos ha hb (by omega))
theorem som_lt {a b n : Nat} (la : 2 ≤ a) (lb : 3 ≤ b) (ha : a ≤ 1001) (hb : b ≤ 1002) (h : n ≤ 12) : som a b n < 2 ^ 900 := by
  rw [som_P la lb n h]
  exact Nat.lt_of_le_of_lt (ev2_mono ha hb _) (somP_small ⟨n, by omega⟩).2
theorem som_pos {a b n : Nat} (ha : 2 ≤ a) (hb : 3 ≤ b) (h : n ≤ 12) : 0 < som a b n := by
  rw [som_P ha hb n h]; exact somP_pos ha hb h
/-- nothing is left over -/
theorem som_mul {a b n : Nat} (ha : 2 ≤ a) (hb : 3 ≤ b) (h : n ≤ 8) : a * (som a b (n + 1) * som a b (n + 3)) + b * (som a b (n + 2) * som a b (n + 2)) = som a b n * som a b (n + 4) := by
  rw [som_P ha hb n (by omega), som_P ha hb (n + 1) (by omega), som_P ha hb (n + 2) (by omega), som_P ha hb (n + 3) (by omega), som_P ha hb (n + 4) (by omega)]
  exact somP_step a b n h
theorem surf_step {a b c x y z w v : Nat} (hx : 0 < x) (hv : a * (y * w) + b * (z * z) = x * v)
    (h : x * x * w * w + a * (y * y * y * w + x * z * z * z) + b * y * y * z * z = c * x * y * z * w) :
    y * y * v * v + a * (z * z * z * v + y * w * w * w) + b * z * z * w * w = c * y * z * w * v := by
  apply Nat.eq_of_mul_eq_mul_left (Nat.mul_pos hx hx)
  have e1 : x * x * (y * y * v * v + a * (z * z * z * v + y * w * w * w) + b * z * z * w * w)
      = y * y * (x * v) * (x * v) + a * z * z * z * x * (x * v) + (a * (y * w) + b * (z * z)) * (x * x * w * w) := by grind
  have e2 : x * x * (c * y * z * w * v) = (c * x * y * z * w) * (x * v) := by grind
  rw [e1, e2, ← h, ← hv]
  grind
/-- all fours of neighbours lie on one surface -/
theorem som_surf {a b : Nat} (ha : 2 ≤ a) (hb : 3 ≤ b) : ∀ n, n ≤ 9 →
    som a b n * som a b n * som a b (n + 3) * som a b (n + 3) + a * (som a b (n + 1) * som a b (n + 1) * som a b (n + 1) * som a b (n + 3) + som a b n * som a b (n + 2) * som a b (n + 2) * som a b (n + 2)) + b * som a b (n + 1) * som a b (n + 1) * som a b (n + 2) * som a b (n + 2)
      = (2 * a + b + 1) * som a b n * som a b (n + 1) * som a b (n + 2) * som a b (n + 3)
  | 0, _ => by simp only [som_0, som_1, som_2, som_3, Nat.zero_add]; omega
  | n + 1, h => surf_step (som_pos ha hb (by omega)) (som_mul ha hb (by omega)) (som_surf ha hb n (by omega))
end
end Mine
namespace Mine
section
set_option maxRecDepth 100000
theorem hi_rest : ∀ (n y : Nat), y ≤ n → y ≠ 0 → ∃ h t, hiF y = h :: t ∧ ∀ (c : Int) r, vRest c r → vRest h (t ++ c :: r) ∧ vFold (h % 64) (t ++ c :: r) = vFold (y * 64 + c % 64) r
  | 0, y, l, e => absurd (Nat.le_zero.mp l) e
  | n + 1, y, l, e => by
    by_cases z : y / 64 = 0
    · refine ⟨((y % 64 : Nat) : Int) + 64, [], by rw [hiF_pos e, z, hiF_zero, List.nil_append], fun c r hv => ⟨⟨by omega, hv⟩, ?_⟩⟩
      rw [List.nil_append, vFold, show ((((y % 64 : Nat) : Int) + 64) % 64) = (y : Int) by omega]
    · obtain ⟨h, t, e1, h1⟩ := hi_rest n (y / 64) (by omega) z
      refine ⟨h, t ++ [((y % 64 : Nat) : Int) + 64], by rw [hiF_pos e, e1, List.cons_append], fun c r hv => ?_⟩
      obtain ⟨a, b⟩ := h1 (((y % 64 : Nat) : Int) + 64) (c :: r) ⟨by omega, hv⟩
      rw [List.append_assoc, List.singleton_append]
      refine ⟨a, b.trans ?_⟩
      rw [vFold, show (((y / 64 : Nat) : Int) * 64 + (((y % 64 : Nat) : Int) + 64) % 64) = (y : Int) by omega]
/-- a number's octets are one varint of it, marked or not -/
theorem seg_ok {x : Nat} (hx : x < 2 ^ 900) : ∃ h t, segF x = h :: t ∧ (vOk (h, t) ∧ vVal (h, t) = (x : Int)) ∧ vOk (h + 128, t) ∧ vVal (h + 128, t) = (x : Int) := by
  have big : (2 : Nat) ^ 900 < 2 ^ 1000 := by decide
  have key : ∃ h t, segF x = h :: t ∧ vRest h t ∧ vFold (h % 64) t = (x : Int) := by
    by_cases z : x / 64 = 0
    · refine ⟨((x % 64 : Nat) : Int), [], by rw [segF, z, hiF_zero, List.nil_append], show _ / 64 % 2 = (0 : Int) by omega, show _ % 64 = (x : Int) by omega⟩
    · obtain ⟨h, t, e1, h1⟩ := hi_rest _ _ (Nat.le_refl _) z
      obtain ⟨a, b⟩ := h1 ((x % 64 : Nat) : Int) [] (show _ / 64 % 2 = (0 : Int) by omega)
      exact ⟨h, t ++ [((x % 64 : Nat) : Int)], by rw [segF, e1, List.cons_append], a, b.trans (show _ * 64 + _ % 64 = (x : Int) by omega)⟩
  obtain ⟨h, t, e, a, b⟩ := key
  have ok : ∀ g, vRest g t → vVal (g, t) = (x : Int) → vOk (g, t) ∧ vVal (g, t) = (x : Int) := fun g r v => ⟨⟨r, by rw [v, Int.natAbs_natCast]; exact Nat.lt_trans hx big, by rw [v]; exact Int.natCast_nonneg _⟩, v⟩
  refine ⟨h, t, e, ok h a b, ok _ ?_ ?_⟩
  · cases t with
    | nil => have a : h / 64 % 2 = 0 := a; show (h + 128) / 64 % 2 = 0; omega
    | cons c r => exact ⟨by have := a.1; omega, a.2⟩
  · show vFold ((h + 128) % 64) t = _; rw [show (h + 128) % 64 = h % 64 by omega]; exact b
theorem segs : ∀ ns : List Nat, (∀ x ∈ ns, x < 2 ^ 900) → ∃ sg, vFlat sg = octF ns ∧ (∀ g ∈ sg, vOk g) ∧ sg.map vVal = ns.map fun (x : Nat) => (x : Int)
  | [], _ => ⟨[], rfl, nofun, rfl⟩
  | x :: r, hb => by
    obtain ⟨sg, e, o, v⟩ := segs r fun z hz => hb z (.tail _ hz)
    obtain ⟨h, t, e1, a, _⟩ := seg_ok (hb x (.head _))
    refine ⟨(h, t) :: sg, ?_, List.forall_mem_cons.mpr ⟨a.1, o⟩, ?_⟩
    · show h :: (t ++ vFlat sg) = segF x ++ octF r
      rw [e1, e]; rfl
    · rw [List.map_cons, List.map_cons, a.2, v]
theorem segs_up {ns : List Nat} (h : ns ≠ []) (hb : ∀ x ∈ ns, x < 2 ^ 900) : ∃ sg, vFlat sg = up (octF ns) ∧ (∀ g ∈ sg, vOk g) ∧ sg.map vVal = ns.map fun (x : Nat) => (x : Int) := by
  match ns, h with
  | x :: r, _ =>
    obtain ⟨sg, e, o, v⟩ := segs r fun z hz => hb z (.tail _ hz)
    obtain ⟨h, t, e1, _, a⟩ := seg_ok (hb x (.head _))
    refine ⟨(h + 128, t) :: sg, ?_, List.forall_mem_cons.mpr ⟨a.1, o⟩, ?_⟩
    · show (h + 128) :: (t ++ vFlat sg) = up (segF x ++ octF r)
      rw [e1, e]; rfl
    · rw [List.map_cons, List.map_cons, a.2, v]
theorem up_len (l : List Int) : (up l).length = l.length := by cases l <;> rfl
theorem octF_len : ∀ ns : List Nat, (∀ x ∈ ns, x < 2 ^ 1000) → (octF ns).length ≤ 200 * ns.length
  | [], _ => Nat.le_refl _
  | a :: r, h => by
    have h1 := segF_len (h a (.head _))
    have h2 := octF_len r (fun z hz => h z (.tail _ hz))
    have e : octF (a :: r) = segF a ++ octF r := rfl
    rw [e, List.length_append, List.length_cons]; omega
theorem one_ent {es : PySem.W.CbLed} {x y z v : Int} (h : EntsAre es (rowsOf [x, y, z, v])) : ∃ pe dx t1 t2 t3 t4, es = [(pe, entObj dx [.int (x * 2) t1, .int (x * 2 + y * 2) t2, .int (z * 2) t3, .int (v / 2) t4, .bool (v % 2 != 0)])] := by
  have e : rowsOf [x, y, z, v] = [rowOf x y z v] := rfl
  rw [e] at h
  cases h with
  | cons a b =>
    cases b
    obtain ⟨dx, t1, t2, t3, t4, ho⟩ := a
    rename_i p
    exact ⟨p.1, dx, t1, t2, t3, t4, by rw [← Prod.eta p]; simp only [rowOf] at ho; rw [ho]⟩
end
end Mine
namespace Mine
section
open PySem PySem.W PyProof.Rows PySem.Spec PySem.Calls
set_option maxRecDepth 100000
theorem vFlat_app : ∀ a b, vFlat (a ++ b) = vFlat a ++ vFlat b
  | [], _ => rfl
  | g :: r, b => by
    have h := vFlat_app r b
    show g.1 :: (g.2 ++ vFlat (r ++ b)) = g.1 :: (g.2 ++ vFlat r) ++ vFlat b
    rw [h, List.cons_append, List.append_assoc]
noncomputable def ci (l : List Nat) : List Int := l.map fun (n : Nat) => (n : Int)
theorem ci_app (a b : List Nat) : ci (a ++ b) = ci a ++ ci b := List.map_append
theorem hiF_word : ∀ (n y : Nat), y ≤ n → ci (wordL y) = hiF y
  | 0, y, l => by have e := Nat.le_zero.mp l; subst e; rw [wordL_zero, hiF_zero]; rfl
  | n + 1, y, l => by
    by_cases e : y = 0
    · subst e; rw [wordL_zero, hiF_zero]; rfl
    · rw [wordL_pos e, hiF_pos e, ci_app, hiF_word n (y / 64) (by omega)]
      show _ ++ [((64 + y % 64 : Nat) : Int)] = _
      rw [show ((64 + y % 64 : Nat) : Int) = ((y % 64 : Nat) : Int) + 64 by omega]
/-- octets that are varints of these values -/
noncomputable def Segs (os : List Nat) (vs : List Int) : Prop := ∃ sg, vFlat sg = ci os ∧ (∀ g ∈ sg, vOk g) ∧ sg.map vVal = vs
theorem Segs.nil : Segs [] [] := ⟨[], rfl, nofun, rfl⟩
theorem Segs.app {a b : List Nat} {u v : List Int} : Segs a u → Segs b v → Segs (a ++ b) (u ++ v)
  | ⟨s, e, o, q⟩, ⟨t, f, p, r⟩ => ⟨s ++ t, by rw [vFlat_app, e, f, ci_app], fun g h => (List.mem_append.mp h).elim (o g) (p g), by rw [List.map_append, q, r]⟩
theorem Segs.one {c : Nat} (h : c < 64) : Segs [c] [(c : Int)] :=
  ⟨[((c : Int), [])], rfl, by
    intro g hg; cases List.mem_singleton.mp hg
    have e : vVal ((c : Int), []) = c := show (c : Int) % 64 = c by omega
    exact ⟨show (c : Int) / 64 % 2 = 0 by omega, by rw [e, Int.natAbs_natCast]; exact Nat.lt_trans h (by decide), by rw [e]; exact Int.natCast_nonneg _⟩, by
    show [vVal ((c : Int), [])] = _
    rw [show vVal ((c : Int), []) = c from show (c : Int) % 64 = c by omega]⟩
theorem Segs.word {x c : Nat} (h0 : 0 < x) (hx : x < 2 ^ 900) (h : c < 64) : Segs (wordL x ++ [c]) [(x : Int) * 64 + c] := by
  obtain ⟨q, t, e, k⟩ := hi_rest x x (Nat.le_refl _) (by omega)
  obtain ⟨r, f⟩ := k (c : Int) [] (show (c : Int) / 64 % 2 = 0 by omega)
  have f : vVal (q, t ++ [(c : Int)]) = (x : Int) * 64 + c := f.trans (show (x : Int) * 64 + (c : Int) % 64 = _ by omega)
  have big : (2 : Nat) ^ 900 * 64 < 2 ^ 1000 := by decide
  have bx : x * 64 + c < 2 ^ 1000 := by
    generalize (2 : Nat) ^ 900 = M at hx big
    generalize (2 : Nat) ^ 1000 = N at big ⊢
    omega
  refine ⟨[(q, t ++ [(c : Int)])], ?_, ?_, ?_⟩
  · rw [ci_app, hiF_word x x (Nat.le_refl _), e]
    show q :: (t ++ [(c : Int)] ++ []) = _
    rw [List.append_nil]; rfl
  · intro g hg; cases List.mem_singleton.mp hg
    rw [vOk, f]
    refine ⟨r, ?_, by omega⟩
    rw [show ((x : Int) * 64 + c).natAbs = x * 64 + c by omega]; exact bx
  · show [vVal (q, t ++ [(c : Int)])] = _
    rw [f]
/-- the signs of a text of numbers, three in a line -/
noncomputable def textL : List Nat → List Nat
  | [] => []
  | [x] => wordL x ++ [10]
  | [x, y] => (wordL x ++ [58]) ++ ([32] ++ (wordL y ++ [10]))
  | x :: y :: z :: r => ((wordL x ++ [58]) ++ ([32] ++ ((wordL y ++ [58]) ++ ([32] ++ (wordL z ++ [10]))))) ++ textL r
noncomputable def valsF : List Nat → List Int
  | [] => []
  | [x] => [(x : Int) * 64 + (10 : Nat)]
  | [x, y] => [(x : Int) * 64 + (58 : Nat)] ++ ([((32 : Nat) : Int)] ++ [(y : Int) * 64 + (10 : Nat)])
  | x :: y :: z :: r => ([(x : Int) * 64 + (58 : Nat)] ++ ([((32 : Nat) : Int)] ++ ([(y : Int) * 64 + (58 : Nat)] ++ ([((32 : Nat) : Int)] ++ [(z : Int) * 64 + (10 : Nat)])))) ++ valsF r
theorem text_segs : ∀ ns : List Nat, (∀ x ∈ ns, 0 < x ∧ x < 2 ^ 900) → Segs (textL ns) (valsF ns)
  | [], _ => .nil
  | [x], h => .word (h x (.head _)).1 (h x (.head _)).2 (by decide)
  | [x, y], h => .app (.word (h x (.head _)).1 (h x (.head _)).2 (by decide)) (.app (.one (by decide)) (.word (h y (.tail _ (.head _))).1 (h y (.tail _ (.head _))).2 (by decide)))
  | x :: y :: z :: r, h => .app (.app (.word (h x (.head _)).1 (h x (.head _)).2 (by decide)) (.app (.one (by decide)) (.app (.word (h y (.tail _ (.head _))).1 (h y (.tail _ (.head _))).2 (by decide)) (.app (.one (by decide)) (.word (h z (.tail _ (.tail _ (.head _)))).1 (h z (.tail _ (.tail _ (.head _)))).2 (by decide))))))
      (text_segs r fun w hw => h w (.tail _ (.tail _ (.tail _ hw))))
theorem valsF_len : ∀ ns : List Nat, (valsF ns).length = 5 * (ns.length / 3) + [0, 1, 3].getD (ns.length % 3) 0
  | [] => by simp [valsF]
  | [x] => by simp [valsF]
  | [x, y] => by simp [valsF]
  | x :: y :: z :: r => by
    have h := valsF_len r
    have e : (valsF (x :: y :: z :: r)).length = 5 + (valsF r).length := by
      show (_ :: _ :: _ :: _ :: _ :: valsF r).length = _
      simp only [List.length_cons]; omega
    have e1 : (x :: y :: z :: r).length = r.length + 3 := rfl
    have e2 : (r.length + 3) % 3 = r.length % 3 := Nat.add_mod_right _ _
    have e3 : (r.length + 3) / 3 = r.length / 3 + 1 := by omega
    simp only [e, h, e1, e2, e3]; omega
theorem tellF_app (a b : List Int) : tellF (a ++ b) = tellF a ++ tellF b := by rw [tellF, tellF, tellF, List.filter_append, List.map_append]
theorem tellF_word {x : Nat} {c : Nat} (h : 0 < x) (hc : c < 64) : tellF [(x : Int) * 64 + c] = [(x : Int)] := by
  have e : decide (63 < (x : Int) * 64 + c) = true := by simp only [decide_eq_true_eq]; omega
  rw [tellF, List.filter_cons, e]
  show [((x : Int) * 64 + c).fdiv 64] = _
  rw [Int.fdiv_eq_ediv_of_nonneg _ (by decide), show ((x : Int) * 64 + c) / 64 = x by omega]
theorem tell_text : ∀ ns : List Nat, (∀ x ∈ ns, 0 < x) → tellF (valsF ns) = ci ns
  | [], _ => rfl
  | [x], h => tellF_word (h x (.head _)) (by decide)
  | [x, y], h => by
    rw [valsF, tellF_app, tellF_app, tellF_word (h x (.head _)) (by decide), tellF_word (h y (.tail _ (.head _))) (by decide)]; rfl
  | x :: y :: z :: r, h => by
    rw [valsF, tellF_app, tellF_app, tellF_app, tellF_app, tellF_app, tellF_word (h x (.head _)) (by decide), tellF_word (h y (.tail _ (.head _))) (by decide), tellF_word (h z (.tail _ (.tail _ (.head _)))) (by decide),
      tell_text r fun w hw => h w (.tail _ (.tail _ (.tail _ hw)))]; rfl
/-- what is read back out of whole rows -/
theorem read_rows : ∀ (l : List Int), (∀ x ∈ l, 0 ≤ x) → readF (rowsOf l) = tellF (l.take (4 * (l.length / 4)))
  | a :: b :: c :: d :: r, h => by
    have ih := read_rows r fun x hx => h x (.tail _ (.tail _ (.tail _ (.tail _ hx))))
    have hd := h d (.tail _ (.tail _ (.tail _ (.head _))))
    have e : readF (rowsOf (a :: b :: c :: d :: r)) = tellF (rowNums (rowOf a b c d)) ++ readF (rowsOf r) := rfl
    have l4 : 4 * ((a :: b :: c :: d :: r).length / 4) = 4 * (r.length / 4) + 1 + 1 + 1 + 1 := by simp only [List.length_cons]; omega
    have n : rowNums (rowOf a b c d) = [a, b, c, 2 * (d / 2)] := by
      simp only [rowNums, rowOf]
      rw [Int.fdiv_eq_ediv_of_nonneg _ (by decide), Int.fdiv_eq_ediv_of_nonneg _ (by decide), Int.fdiv_eq_ediv_of_nonneg _ (by decide), show a * 2 / 2 = a by omega, show (a * 2 + b * 2 - a * 2) / 2 = b by omega, show c * 2 / 2 = c by omega]
    have last : tellF [2 * (d / 2)] = tellF [d] := by
      by_cases g : 63 < d
      · rw [tellF, tellF, List.filter_cons, List.filter_cons, decide_eq_true g, decide_eq_true (show 63 < 2 * (d / 2) by omega)]
        show [(2 * (d / 2)).fdiv 64] = [d.fdiv 64]
        rw [Int.fdiv_eq_ediv_of_nonneg _ (by decide), Int.fdiv_eq_ediv_of_nonneg _ (by decide), show 2 * (d / 2) / 64 = d / 64 by omega]
      · rw [tellF, tellF, List.filter_cons, List.filter_cons, decide_eq_false g, decide_eq_false (show ¬ 63 < 2 * (d / 2) by omega)]; rfl
    rw [e, ih, l4, List.take_succ_cons, List.take_succ_cons, List.take_succ_cons, List.take_succ_cons, n]
    have k1 : ∀ (x y z v : Int) l, x :: y :: z :: v :: l = [x] ++ [y] ++ [z] ++ [v] ++ l := fun _ _ _ _ _ => rfl
    rw [k1 a b c d, show [a, b, c, 2 * (d / 2)] = [a] ++ [b] ++ [c] ++ [2 * (d / 2)] from rfl]
    simp only [tellF_app, last]
  | [], _ => by simp [rowsOf, readF, tellF]
  | [_], _ => by simp [rowsOf, readF, tellF]
  | [_, _], _ => by simp [rowsOf, readF, tellF]
  | [_, _, _], _ => by simp [rowsOf, readF, tellF]
theorem rowsOf_div : ∀ (l : List Int), (rowsOf l).length = l.length / 4
  | a :: b :: c :: d :: r => by
    have e : (rowsOf (a :: b :: c :: d :: r)).length = (rowsOf r).length + 1 := rfl
    rw [e, rowsOf_div r]; simp only [List.length_cons]; omega
  | [] => by simp [rowsOf]
  | [_] => by simp [rowsOf]
  | [_, _] => by simp [rowsOf]
  | [_, _, _] => by simp [rowsOf]
end
end Mine
namespace Mine
section
open PySem PySem.W PySem.Builtin.Str PyProof.Rows PySem.Spec PySem.Calls
set_option maxRecDepth 100000
set_option maxHeartbeats 4000000
theorem cI {w : World} {f : Addr} {vs : List Value} {kw : List (Str × Value)} {news : CbLed} {d : Nat} {x y : Int} (C : Ctr w f vs kw news d (RI x)) (e : x = y) : Ctr w f vs kw news d (RI y) := e ▸ C
theorem mulN {a b : Int} {i j : Nat} (ha : a.natAbs < 2 ^ i) (hb : b.natAbs < 2 ^ j) (h : i + j ≤ 134217728) : IntMulOk a b := IntMulOk.of_le (intBits_le_iff.mpr ha) (intBits_le_iff.mpr hb) h
theorem ltM {a b i j : Nat} (ha : a < 2 ^ i) (hb : b < 2 ^ j) : a * b < 2 ^ (i + j) := by
  rw [Nat.pow_add]; exact Nat.mul_lt_mul'' ha hb
theorem join_int {M : Model} {A : Around} {t : Sem Flow} {Q : Flow → Shared → Prop} {E : Value → Shared → Prop} {s : Shared} {g : Heap} {L : Addr} {x : Str} {v0 : Option Value} {mB : Str → Option Value} {news : CbLed} (r : Int) (_ : Fr g L s.heap (fun y => if y = x then v0 else mB y)) (_ : News g L s.heap news)
    (h1 : wpAny M A t (fun f s' => f = .next ∧ ∃ h tk tt, s' = { s with heap := h, toks := tk } ∧ Fr g L h (fun y => if y = x then some (.int r tt) else mB y) ∧ News g L h news) E s)
    (h2 : ∀ h tk tt, Fr g L h (fun y => if y = x then some (.int r tt) else mB y) → News g L h news → Q .next { s with heap := h, toks := tk }) : wpAny M A t Q E s :=
  wpAny_mono h1 (fun f s' ⟨e, h, tk, tt, e2, F, N⟩ => by subst e; subst e2; exact h2 h tk tt F N) fun _ _ e => e
/-- the bounds of what is multiplied in a turn -/
theorem turn_ok {Al Be x y z v : Nat} (hA : Al ≤ 1001) (hB : Be ≤ 1002) (b0 : x < 2 ^ 900) (b1 : y < 2 ^ 900) (b2 : z < 2 ^ 900) (b3 : v < 2 ^ 900) :
    IntMulOk 2 ((v : Int) / 2) ∧ IntMulOk (-2) v ∧ IntMulOk (-(2 * (y : Int))) (-2 * (v : Int)) ∧ IntMulOk (Al : Int) ((4 * (y * v) : Nat) : Int) ∧ IntMulOk ((z : Int) * 2) ((z : Int) * 2) ∧ IntMulOk (Be : Int) ((4 * (z * z) : Nat) : Int) ∧ IntMulOk 2 ((x : Int) * 2) := by
  have e1 := ltM b1 b3
  have e2 := ltM b2 b2
  have p : ∀ {n : Nat} {k : Nat}, n < 2 ^ k → 4 * n < 2 ^ (2 + k) := fun h => by rw [Nat.pow_add]; omega
  have q := p b0
  have q1 := p b1
  have q2 := p b2
  have q3 := p b3
  have f1 := p e1
  have f2 := p e2
  generalize hM : (2 : Nat) ^ (2 + 900) = M at *
  clear b0 b1 b2 b3
  have two : ∀ {a : Int}, a.natAbs < M → IntMulOk 2 a := fun h => mulN (i := 2) (by decide) (by rw [hM]; exact h) (by decide)
  refine ⟨two (by omega), mulN (i := 2) (by decide) (by rw [hM]; omega) (by decide), mulN (i := 2 + 900) (j := 2 + 900) (by rw [hM]; omega) (by rw [hM]; omega) (by decide),
    mulN (i := 10) (by rw [Int.natAbs_natCast]; exact Nat.lt_of_le_of_lt hA (by decide)) (by rw [Int.natAbs_natCast]; exact f1) (by decide),
    mulN (i := 2 + 900) (j := 2 + 900) (by rw [hM]; omega) (by rw [hM]; omega) (by decide),
    mulN (i := 10) (by rw [Int.natAbs_natCast]; exact Nat.lt_of_le_of_lt hB (by decide)) (by rw [Int.natAbs_natCast]; exact f2) (by decide), two (by omega)⟩
theorem lg4 {x : Nat} (h : 0 < x) (b : x < 2 ^ 900) : ((4 * x : Nat) : Int).natAbs.log2 < 9000 := by
  rw [Int.natAbs_natCast]
  exact Nat.lt_trans ((Nat.log2_lt (by omega)).mpr (show 4 * x < 2 ^ (2 + 900) by rw [Nat.pow_add]; omega)) (by decide)
/-- what a turn computes -/
theorem turn_eqs {Al Be x y z v u : Nat} (hx : 0 < x) (hn : Al * (y * v) + Be * (z * z) = x * u) :
    (x : Int) * 2 - ((x : Int) * 2 + (y : Int) * 2) = -(2 * (y : Int)) ∧ -(2 * (y : Int)) * (-2 * (v : Int)) = ((4 * (y * v) : Nat) : Int) ∧ (z : Int) * 2 * ((z : Int) * 2) = ((4 * (z * z) : Nat) : Int) ∧
    (Al : Int) * ((4 * (y * v) : Nat) : Int) + (Be : Int) * ((4 * (z * z) : Nat) : Int) = ((4 * x * u : Nat) : Int) ∧ (2 : Int) * ((x : Int) * 2) = ((4 * x : Nat) : Int) ∧ ((4 * x * u : Nat) : Int).fmod ((4 * x : Nat) : Int) = 0 ∧ ((4 * x * u : Nat) : Int).fdiv ((4 * x : Nat) : Int) = (u : Int) := by
  refine ⟨by omega, by grind, by grind, ?_, by omega, ?_, ?_⟩
  · rw [← Int.natCast_mul, ← Int.natCast_mul, ← Int.natCast_add, show 4 * x * u = 4 * (x * u) from Nat.mul_assoc _ _ _, ← hn]
    congr 1; grind
  · rw [Int.fmod_eq_emod_of_nonneg _ (Int.natCast_nonneg _)]
    exact Int.ofNat_inj.mpr (Nat.mul_mod_right _ _)
  · rw [Int.fdiv_eq_ediv_of_nonneg _ (Int.natCast_nonneg _)]
    exact Int.ofNat_inj.mpr (Nat.mul_div_cancel_left _ (by omega))
noncomputable def Bd (a : Int) (i : Nat) : Prop := a.natAbs < 2 ^ i
theorem Bd.nat {n i : Nat} (h : n < 2 ^ i) : Bd (n : Int) i := by rw [Bd, Int.natAbs_natCast]; exact h
theorem Bd.mul {a b : Int} {i j : Nat} (h : Bd a i) (g : Bd b j) : Bd (a * b) (i + j) := by rw [Bd, Int.natAbs_mul]; exact ltM h g
theorem Bd.add {a b : Int} {i j : Nat} (h : Bd a i) (g : Bd b j) : Bd (a + b) (i + j + 1) := by
  have e := Int.natAbs_add_le a b
  have e1 : 2 ^ i ≤ 2 ^ (i + j) := Nat.pow_le_pow_right (by decide) (Nat.le_add_right _ _)
  have e2 : 2 ^ j ≤ 2 ^ (i + j) := Nat.pow_le_pow_right (by decide) (Nat.le_add_left _ _)
  rw [Bd] at h g ⊢
  rw [Nat.pow_succ]; omega
theorem mulW {prog : Program} {w : World} {A : Around} {E : Value → Shared → Prop} {s : Shared} {a b : Int} {t u : Tok} {Q : Value → Shared → Prop} (hm : ∃ i j, Bd a i ∧ Bd b j ∧ i + j ≤ 134217728)
    (h : Q (.int (a * b) s.toks) { s with toks := s.toks + 1 }) : wpAny (model prog w) A (binaryOp .Mult (.int a t) (.int b u)) Q E s :=
  let ⟨_, _, ha, hb, hij⟩ := hm
  PySem.AutoIntOps.mul_0 h (mulN ha hb hij)
theorem four_ints {l : List Value} {a b c d : Int} (h : IntsAre l [a, b, c, d]) : ∃ t1 t2 t3 t4, l = [.int a t1, .int b t2, .int c t3, .int d t4] := by
  cases h with
  | cons _ t1 h =>
    cases h with
    | cons _ t2 h =>
      cases h with
      | cons _ t3 h =>
        cases h with
        | cons _ t4 h => cases h; exact ⟨t1, t2, t3, t4, rfl⟩
theorem pick_mid {l : List Value} {i k : Nat} (h : i + k ≤ l.length) : kms_pick l (some (i : Int)) (some ((i : Int) + (k : Nat))) = (l.drop i).take k := by
  have e1 : kms_lo (some (i : Int)) l.length = i := by
    simp only [kms_lo, show ¬ ((i : Int) < 0) by omega, if_false]; omega
  have e2 : kms_hi (some ((i : Int) + (k : Nat))) l.length = i + k := by
    simp only [kms_hi, show ¬ ((i : Int) + (k : Nat) < 0) by omega, if_false]; omega
  unfold kms_pick
  rw [e1, e2, show i + k - i = k by omega]
theorem take_ints {vs : List Value} {ns : List Int} (h : IntsAre vs ns) : ∀ k, IntsAre (vs.take k) (ns.take k) := by
  induction h with
  | nil => intro k; rw [List.take_nil, List.take_nil]; exact .nil
  | cons n t _ ih =>
    intro k
    cases k with
    | zero => exact .nil
    | succ k => exact .cons n t (ih k)
theorem row4 {vs : List Value} {f : Nat → Int} {n i : Nat} (h : IntsAre vs ((List.range n).map f)) (hi : i + 4 ≤ n) : IntsAre ((vs.drop i).take 4) [f i, f (i + 1), f (i + 2), f (i + 3)] := by
  have h2 := take_ints (h.drop i) 4
  have e : (((List.range n).map f).drop i).take 4 = [f i, f (i + 1), f (i + 2), f (i + 3)] := by
    apply List.ext_getElem
    · simp; omega
    · intro k h1 h3
      have hk : k < 4 := h3
      simp
      match k, hk with
      | 0, _ => rfl
      | 1, _ => rfl
      | 2, _ => rfl
      | 3, _ => rfl
  rw [e] at h2; exact h2
theorem pick_any (l : List Value) (i k : Nat) : kms_pick l (some (i : Int)) (some ((i : Int) + (k : Nat))) = (l.drop i).take k := by
  have e1 : kms_lo (some (i : Int)) l.length = min i l.length := by
    simp only [kms_lo, show ¬ ((i : Int) < 0) by omega, if_false]; omega
  have e2 : kms_hi (some ((i : Int) + (k : Nat))) l.length = min (i + k) l.length := by
    simp only [kms_hi, show ¬ ((i : Int) + (k : Nat) < 0) by omega, if_false]; omega
  unfold kms_pick
  rw [e1, e2]
  by_cases h : i ≤ l.length
  · rw [Nat.min_eq_left h, List.take_eq_take_iff, List.length_drop]; omega
  · rw [List.drop_eq_nil_of_le (by omega), List.drop_eq_nil_of_le (by omega), List.take_nil, List.take_nil]
/-- the new numbers of a row -/
noncomputable def newN (a b n : Nat) : List Nat := (List.range n).map fun k => som a b (k + 4)
theorem newN_len (a b n : Nat) : (newN a b n).length = n := by rw [newN, List.length_map, List.length_range]
theorem row_new (a b n : Nat) : ((List.range (n + 4)).map fun k => ((som a b k : Nat) : Int)).drop 4 = (newN a b n).map fun (x : Nat) => (x : Int) := by
  apply List.ext_getElem
  · simp [newN]
  · intro k h1 h2; simp [newN, Nat.add_comm]
theorem row_part {vs : List Value} {a b n : Nat} (h : IntsAre vs ((List.range (n + 4)).map fun k => ((som a b k : Nat) : Int))) (j : Nat) : IntsAre ((vs.drop (4 + j)).take 3) ((((newN a b n).drop j).take 3).map fun (x : Nat) => (x : Int)) := by
  have e : (((List.range (n + 4)).map fun k => ((som a b k : Nat) : Int)).drop (4 + j)).take 3 = (((newN a b n).drop j).take 3).map fun (x : Nat) => (x : Int) := by
    rw [← List.drop_drop, row_new, List.map_take, List.map_drop]
  rw [← e]; exact take_ints (h.drop (4 + j)) 3
theorem small_step {n : Nat} (h : n ≤ 9) : Builtin.Range.small 4 ((n : Int) + 4) 3 = true := by
  have z : ∀ n : Fin 10, Builtin.Range.small 4 ((n.1 : Int) + 4) 3 = true := by decide +kernel
  exact z ⟨n, by omega⟩
theorem step_size (n : Nat) (h : 1 ≤ n) : Builtin.Range.rangeSize 4 ((n : Int) + 4) 3 = (((n + 2) / 3 : Nat) : Int) := by
  unfold Builtin.Range.rangeSize
  rw [if_pos (by decide)]
  split <;> omega
theorem newN_lt {a b n : Nat} (la : 2 ≤ a) (lb : 3 ≤ b) (ha : a ≤ 1001) (hb : b ≤ 1002) (h : n ≤ 9) : ∀ x ∈ newN a b n, 0 < x ∧ x < 2 ^ 900 := by
  intro x hx
  rw [newN, List.mem_map] at hx
  obtain ⟨k, hk, rfl⟩ := hx
  rw [List.mem_range] at hk
  exact ⟨som_pos la lb (by omega), som_lt la lb ha hb (by omega)⟩
theorem Off3.put {I C D : Addr} {p : Addr × Obj} {l : CbLed} (h : PyProof.Rows.LCg.Off3 I C D l) (a : p.1 ≠ I) (b : p.1 ≠ C) (c : p.1 ≠ D) : PyProof.Rows.LCg.Off3 I C D (p :: l) := ⟨⟨a, b, c⟩, h⟩
theorem word_len {x : Nat} (h : x < 2 ^ 900) : (wordF x).length ≤ 200 := by
  show (wordL x).toArray.size ≤ 200
  rw [List.size_toArray]
  exact wordL_len 200 x (Nat.lt_trans h (by decide))
theorem get_nat {ps : List Nat} {j : Nat} {x : Int} (h : (ps.map fun (x : Nat) => (x : Int))[j]? = some x) : ∃ q : Nat, ps[j]? = some q ∧ (q : Int) = x := by
  rw [List.getElem?_map, Option.map_eq_some_iff] at h; exact h
theorem words_snoc {qs : List (Str × Tok)} {ps : List Nat} {j q : Nat} {t : Tok} (h : qs.map (·.1) = (ps.take j).map wordF) (e : ps[j]? = some q) : (qs ++ [(wordF q, t)]).map (·.1) = (ps.take (j + 1)).map wordF := by
  rw [List.take_add_one, e, List.map_append, List.map_append, h]; rfl
theorem sv_snoc (qs : List (Str × Tok)) (x : Str) (t : Tok) : sv qs ++ [Value.str x t] = sv (qs ++ [(x, t)]) := by rw [sv, sv, List.map_append]; rfl
theorem LineIn.grow {x : Line} {a b : CbLed} (h : LineIn x a) (g : ∀ p ∈ a, p ∈ b) : LineIn x b := ⟨g _ h.1, h.2⟩
theorem line_new {D : Addr} {n : Nat} {qs : List (Str × Tok)} {ps : List Nat} {led : CbLed} (h : qs.map (·.1) = ps.map wordF) (h0 : 0 < ps.length) (h3 : ps.length ≤ 3) (hb : ∀ x ∈ ps, 0 < x ∧ x < 2 ^ 900) (hm : (D, listOf (sv qs).toArray n) ∈ led) : LineIn (D, n, qs) led := by
  have l : qs.length = ps.length := by rw [← List.length_map (f := (·.1)) (as := qs), h, List.length_map]
  refine ⟨hm, ?_, ?_, ?_⟩
  · intro e; have e : qs = [] := e; rw [e] at l; simp at l; omega
  · show qs.length ≤ 10; omega
  · intro p hp
    have : p.1 ∈ ps.map wordF := h ▸ List.mem_map_of_mem hp
    obtain ⟨x, hx, e⟩ := List.mem_map.mp this
    rw [← e]; exact word_len (hb x hx).2
theorem sub7 {a b c d e f g : Addr × Obj} {r : CbLed} : ∀ p ∈ b :: c :: d :: e :: f :: g :: r, p ∈ g :: a :: b :: c :: d :: e :: f :: r := by
  intro p h
  rcases List.mem_cons.mp h with h | h
  · rw [h]; exact .tail _ (.tail _ (.head _))
  rcases List.mem_cons.mp h with h | h
  · rw [h]; exact .tail _ (.tail _ (.tail _ (.head _)))
  rcases List.mem_cons.mp h with h | h
  · rw [h]; exact .tail _ (.tail _ (.tail _ (.tail _ (.head _))))
  rcases List.mem_cons.mp h with h | h
  · rw [h]; exact .tail _ (.tail _ (.tail _ (.tail _ (.tail _ (.head _)))))
  rcases List.mem_cons.mp h with h | h
  · rw [h]; exact .tail _ (.tail _ (.tail _ (.tail _ (.tail _ (.tail _ (.head _))))))
  rcases List.mem_cons.mp h with h | h
  · rw [h]; exact .head _
  exact .tail _ (.tail _ (.tail _ (.tail _ (.tail _ (.tail _ (.tail _ h))))))
theorem put3 {a b d : Addr × Obj} {r : CbLed} : ∀ p ∈ a :: b :: r, p ∈ a :: b :: d :: r := by
  intro p h
  rcases List.mem_cons.mp h with h | h
  · rw [h]; exact .head _
  rcases List.mem_cons.mp h with h | h
  · rw [h]; exact .tail _ (.head _)
  exact .tail _ (.tail _ (.tail _ h))
theorem words_end {Ws : List Line} {l : Line} {ps : List Nat} {i : Nat} {f : Nat → List Nat} (h : wordsOf Ws = (List.range i).map fun j => (f j).map wordF) (e : l.2.2.map (·.1) = ps.map wordF) (hp : f i = ps) : wordsOf (Ws ++ [l]) = (List.range (i + 1)).map fun j => (f j).map wordF := by
  rw [List.range_succ, List.map_append, ← h, wordsOf, wordsOf, List.map_append]
  show _ ++ [l.2.2.map (·.1)] = _ ++ [(f i).map wordF]
  rw [e, hp]
theorem strs_sv : ∀ qs : List (Str × Tok), StrsAre (sv qs) (qs.map (·.1))
  | [] => .nil
  | p :: r => .cons p.1 p.2 (strs_sv r)
theorem weight_le {B : Nat} : ∀ {ys : List Str}, (∀ y ∈ ys, y.length ≤ B) → (ys.map (·.length)).sum ≤ B * ys.length
  | [], _ => Nat.zero_le _
  | y :: r, h => by
    have h1 := weight_le fun z hz => h z (.tail _ hz)
    have h2 := h y (.head _)
    rw [List.map_cons, List.sum_cons, List.length_cons, Nat.mul_succ]; omega
theorem weight_ok {B n : Nat} {ys : List Str} (h : ∀ y ∈ ys, y.length ≤ B) (hn : ys.length ≤ n) (hB : B * n + n ≤ 1048576) : (ys.map (·.length)).sum + ys.length ≤ 1048576 := by
  have h1 := weight_le h
  have h2 := Nat.mul_le_mul_left B hn
  omega
theorem get_line {Ws : List Line} {j : Nat} {v : Value} (h : (Ws.map fun x => Value.ref x.1).toArray[j]? = some v) : ∃ x, Ws[j]? = some x ∧ .ref x.1 = v := by
  have h : (Ws.map fun x => Value.ref x.1)[j]? = some v := by simpa using h
  rw [List.getElem?_map, Option.map_eq_some_iff] at h; exact h
/-- a line by plain joining -/
noncomputable def lineP (ws : List Str) : Str := Txt.join (Str.ofString ": ") ws ++ Str.ofString "\n"
theorem glue_len (sep : Str) : ∀ ys : List Str, (Txt.join sep ys).length ≤ (ys.map (·.length)).sum + ys.length * sep.length  := by
  intro ys
  have e : (Txt.join sep ys).length = (ys.map (·.length)).sum + (ys.length - 1) * sep.length := size_glued sep ys
  have e2 := Nat.mul_le_mul_right sep.length (Nat.sub_le ys.length 1)
  omega
theorem lineP_len {ws : List Str} (h : ∀ y ∈ ws, y.length ≤ 200) (hn : ws.length ≤ 10) : (lineP ws).length ≤ 3000 := by
  have e := glue_len (Str.ofString ": ") ws
  have e1 := weight_le h
  have e2 := fmt_l2
  have e3 := fmt_l1
  have e4 : (lineP ws).length = (Txt.join (Str.ofString ": ") ws).length + (Str.ofString "\n").length := Str.length_append _ _
  rw [e2] at e
  omega
theorem line_sum {ws : List Str} (h : (lineP ws).length ≤ 3000) : (Txt.join (Str.ofString ": ") ws).length + (Str.ofString "\n").length ≤ 3000 := by
  have e4 : (lineP ws).length = (Txt.join (Str.ofString ": ") ws).length + (Str.ofString "\n").length := Str.length_append _ _
  omega
theorem plain_snoc {qs : List (Str × Tok)} {Ws : List Line} {j : Nat} {x : Line} {t : Tok} (h : qs.map (·.1) = ((wordsOf Ws).take j).map lineP) (e : Ws[j]? = some x) : (qs ++ [(lineP (x.2.2.map (·.1)), t)]).map (·.1) = ((wordsOf Ws).take (j + 1)).map lineP := by
  rw [List.take_add_one, wordsOf, List.getElem?_map, e, List.map_append, List.map_append, h]; rfl
theorem plain_all {qs : List (Str × Tok)} {y : Str} {t : Tok} (h : ∀ p ∈ qs, p.1.length ≤ 3000) (g : y.length ≤ 3000) : ∀ p ∈ qs ++ [(y, t)], p.1.length ≤ 3000 := by
  intro p hp
  rcases List.mem_append.mp hp with hp | hp
  · exact h p hp
  · rw [List.mem_singleton.mp hp]; exact g
end
end Mine
namespace Mine
section
open PySem PySem.W PySem.Builtin.Str PySem.StrLaws PyProof.Rows PySem.Spec PySem.Calls
set_option maxRecDepth 100000
/-- a text of its signs -/
noncomputable def S (l : List Nat) : Str := ⟨l.toArray⟩
theorem S_app (a b : List Nat) : S a ++ S b = S (a ++ b) := by
  show (⟨a.toArray ++ b.toArray⟩ : Str) = ⟨(a ++ b).toArray⟩
  rw [List.append_toArray]
theorem S_word (x : Nat) : wordF x = S (wordL x) := rfl
theorem S_e : Str.ofString "" = S [] := by decide +kernel
theorem S_c : Str.ofString ": " = S [58, 32] := by decide +kernel
theorem S_n : Str.ofString "\n" = S [10] := by decide +kernel
theorem S_len (l : List Nat) : (S l).length = l.length := List.size_toArray
/-- threes of a list -/
noncomputable def ch3 : List Nat → List (List Nat)
  | [] => []
  | [x] => [[x]]
  | [x, y] => [[x, y]]
  | x :: y :: z :: r => [x, y, z] :: ch3 r
theorem chunks (f : Nat → Str) : ∀ ns : List Nat, ((List.range ((ns.length + 2) / 3)).map fun j => ((ns.drop (j * 3)).take 3).map f) = (ch3 ns).map (List.map f)
  | [] => by simp [ch3]
  | [x] => by simp [List.range_succ, ch3]
  | [x, y] => by simp [List.range_succ, ch3]
  | x :: y :: z :: r => by
    have h := chunks f r
    have e : ((x :: y :: z :: r).length + 2) / 3 = (r.length + 2) / 3 + 1 := by simp only [List.length_cons]; omega
    rw [e, List.range_succ_eq_map, List.map_cons, List.map_map]
    show _ :: _ = _ :: (ch3 r).map (List.map f)
    rw [← h]
    congr 1
    apply List.map_congr_left
    intro j _
    show (((x :: y :: z :: r).drop ((j + 1) * 3)).take 3).map f = _
    rw [show (j + 1) * 3 = j * 3 + 1 + 1 + 1 by omega]; rfl
theorem fmt_0 (a : List Nat) (b : Bool) : fmtR (S a) none b = S (a ++ if b then [10] else []) := by
  cases b
  · show S a ++ Str.ofString "" = _; rw [S_e, S_app]; rfl
  · show S a ++ Str.ofString "\n" = _; rw [S_n, S_app]; rfl
theorem fmt_1 (a : List Nat) (b : Bool) : fmtR (S a) (some (S [])) b = S (a ++ if b then [10] else []) := fmt_0 a b
theorem fmt_2 (a c : List Nat) (h : c ≠ []) (b : Bool) : fmtR (S a) (some (S c)) b = S (a ++ ([58, 32] ++ (c ++ if b then [10] else []))) := by
  have e : ¬ (S c).length = 0 := by rw [S_len]; exact fun z => h (List.length_eq_zero_iff.mp z)
  have e2 : fmtR (S a) (some (S c)) b = (S a ++ Str.ofString ": " ++ S c) ++ (if b = true then Str.ofString "\n" else Str.ofString "") := by
    rw [fmtR]; simp only [if_neg e]
  rw [e2, S_c, S_app, S_app]
  cases b
  · rw [S_e]; simp only [Bool.false_eq_true, if_false]; rw [S_app]; simp
  · rw [S_n]; simp only [if_true]; rw [S_app]; simp
theorem word_ne {x : Nat} (h : 0 < x) : wordL x ≠ [] := by
  rw [wordL_pos (by omega)]; exact fun z => by simp at z
theorem line_law {k : Nat} (l : List Nat) (hl : l ≠ []) (h : ∀ x ∈ l, 0 < x) (h3 : l.length ≤ 3) : lineF k (l.map wordF) = S (textL l) := by
  have r0 : ∀ a : List Nat, fmtR (S a) (if k % 2 = 0 then some (Str.ofString "") else none) false = S a := by
    intro a
    split
    · rw [S_e, fmt_1]; simp
    · rw [fmt_0]; simp
  have r1 : ∀ a : List Nat, fmtR (S a) (if k % 2 = 0 then some (Str.ofString "") else none) true = S (a ++ [10]) := by
    intro a
    split
    · rw [S_e, fmt_1]; simp
    · rw [fmt_0]; simp
  match l, hl, h3 with
  | [x], _, _ => exact r1 _
  | [x, y], _, _ =>
    show fmtR (S (wordL x)) (some (fmtR (S (wordL y)) _ false)) true = _
    rw [r0, fmt_2 _ _ (word_ne (h y (.tail _ (.head _))))]
    simp [textL]
  | [x, y, z], _, _ =>
    show fmtR (S (wordL x)) (some (fmtR (S (wordL y)) (some (fmtR (S (wordL z)) _ false)) false)) true = _
    rw [r0, fmt_2 _ _ (word_ne (h z (.tail _ (.tail _ (.head _))))), fmt_2 _ _ (by simp)]
    simp [textL]
theorem text_law : ∀ (ns : List Nat) (k : Nat) (T : List Nat), (∀ x ∈ ns, 0 < x) → textF (S T) k ((ch3 ns).map (List.map wordF)) = S (T ++ textL ns)
  | [], k, T, _ => by rw [show textL [] = [] from rfl, List.append_nil]; rfl
  | [x], k, T, h => by
    show S T ++ lineF k ([x].map wordF) = _
    rw [line_law [x] (by simp) h (by simp), S_app]
  | [x, y], k, T, h => by
    show S T ++ lineF k ([x, y].map wordF) = _
    rw [line_law [x, y] (by simp) h (by simp), S_app]
  | x :: y :: z :: r, k, T, h => by
    show textF (S T ++ lineF k ([x, y, z].map wordF)) (k + 1) ((ch3 r).map (List.map wordF)) = _
    rw [line_law [x, y, z] (by simp) (fun w hw => h w (by simp only [List.mem_cons, List.not_mem_nil, or_false] at hw ⊢; rcases hw with e | e | e <;> simp [e])) (by simp), S_app, text_law r _ _ fun w hw => h w (.tail _ (.tail _ (.tail _ hw)))]
    simp [textL]
theorem glue_nil (sep : Str) : Txt.join sep [] = Str.empty := rfl
theorem glue_cons (sep x y : Str) (r : List Str) : Txt.join sep (x :: y :: r) = x ++ sep ++ Txt.join sep (y :: r) := by
  show glued sep _ = _ ++ glued sep _
  rw [glued_eq_join, glued_eq_join]; rfl
theorem glue_one (sep x : Str) : Txt.join sep [x] = x := rfl
theorem line_plain (l : List Nat) (hl : l ≠ []) (h3 : l.length ≤ 3) : lineP (l.map wordF) = S (textL l) := by
  match l, hl, h3 with
  | [x], _, _ => show S (wordL x) ++ _ = _; rw [S_n, S_app]; rfl
  | [x, y], _, _ =>
    show Txt.join _ [wordF x, wordF y] ++ _ = _
    rw [glue_cons, glue_one, S_word, S_word, S_n, S_c, S_app, S_app, S_app]; simp [textL]
  | [x, y, z], _, _ =>
    show Txt.join _ [wordF x, wordF y, wordF z] ++ _ = _
    rw [glue_cons, glue_cons, glue_one, S_word, S_word, S_word, S_n, S_c, S_app, S_app, S_app, S_app, S_app]; simp [textL]
theorem glue_flat : ∀ ls : List (List Nat), Txt.join (Str.ofString "") (ls.map S) = S ls.flatten
  | [] => rfl
  | [a] => by simp [glue_one]
  | a :: b :: r => by
    have h := glue_flat (b :: r)
    rw [List.map_cons, List.map_cons, glue_cons, ← List.map_cons, h, S_e, S_app, S_app]; simp
theorem text_flat : ∀ ns, ((ch3 ns).map textL).flatten = textL ns
  | [] => rfl
  | [x] => by simp [ch3]
  | [x, y] => by simp [ch3]
  | x :: y :: z :: r => by
    have h := text_flat r
    rw [ch3, List.map_cons, List.flatten_cons, h]; simp [textL]
theorem ch3_ok : ∀ ns, ∀ l ∈ ch3 ns, l ≠ [] ∧ l.length ≤ 3
  | [], l, h => by cases h
  | [x], l, h => by rw [ch3, List.mem_singleton] at h; rw [h]; simp
  | [x, y], l, h => by rw [ch3, List.mem_singleton] at h; rw [h]; simp
  | x :: y :: z :: r, l, h => by
    rcases List.mem_cons.mp h with h | h
    · rw [h]; simp
    · exact ch3_ok r l h
theorem text_plain (ns : List Nat) : Txt.join (Str.ofString "") (((ch3 ns).map (List.map wordF)).map lineP) = S (textL ns) := by
  have e : ((ch3 ns).map (List.map wordF)).map lineP = ((ch3 ns).map textL).map S := by
    rw [List.map_map, List.map_map]
    apply List.map_congr_left
    intro l hl
    exact line_plain l (ch3_ok ns l hl).1 (ch3_ok ns l hl).2
  rw [e, glue_flat, text_flat]
theorem S_end : Str.ofString "A\nA\nA\n" = S [65, 10, 65, 10, 65, 10] := by decide +kernel
theorem S_mul : Txt.mul (fmtR (Str.ofString "A") none true) 3 = S [65, 10, 65, 10, 65, 10] := by decide +kernel
/-- the octets of the whole text -/
noncomputable def allL (ns : List Nat) : List Nat := textL ns ++ [65, 10, 65, 10, 65, 10]
noncomputable def allV (ns : List Nat) : List Int := valsF ns ++ [74, 74, 74]
theorem hiF_1 : Segs [65, 10] [74] := by
  have w : wordL 1 = [65] := by rw [wordL_pos (by decide), show 1 / 64 = 0 from rfl, wordL_zero]; rfl
  have h := Segs.word (x := 1) (c := 10) (by decide) (by decide) (by decide)
  rw [w] at h; exact h
theorem all_segs {ns : List Nat} (h : ∀ x ∈ ns, 0 < x ∧ x < 2 ^ 900) : Segs (allL ns) (allV ns) :=
  (text_segs ns h).app ((hiF_1.app hiF_1).app hiF_1)
theorem plain_all2 (ns : List Nat) : Txt.join (Str.ofString "") (((ch3 ns).map (List.map wordF)).map lineP) ++ Str.ofString "A\nA\nA\n" = S (allL ns) := by
  rw [text_plain, S_end, S_app]; rfl
theorem law_all2 {ns : List Nat} (h : ∀ x ∈ ns, 0 < x) : textF (Str.ofString "") 0 ((ch3 ns).map (List.map wordF)) ++ Txt.mul (fmtR (Str.ofString "A") none true) 3 = S (allL ns) := by
  rw [S_e, text_law ns 0 [] h, S_mul, S_app]; rfl
theorem allV_len (ns : List Nat) : (allV ns).length = (valsF ns).length + 3 := List.length_append
theorem all_nonneg {ns : List Nat} (h : ∀ x ∈ ns, 0 < x ∧ x < 2 ^ 900) : ∀ v ∈ allV ns, 0 ≤ v ∧ v.natAbs < 2 ^ 1000 := by
  obtain ⟨sg, _, o, e⟩ := all_segs h
  intro v hv
  rw [← e] at hv
  obtain ⟨g, hg, rfl⟩ := List.mem_map.mp hv
  exact ⟨(o g hg).2.2, (o g hg).2.1⟩
theorem rows_all (ns : List Nat) : (rowsOf (allV ns)).length = ((valsF ns).length + 3) / 4 := by rw [rowsOf_div, allV_len]
theorem read_all {ns : List Nat} (h : ∀ x ∈ ns, 0 < x ∧ x < 2 ^ 900) : readF (rowsOf (allV ns)) = ci ns ++ List.replicate (3 - ((valsF ns).length + 3) % 4) 1 := by
  rw [read_rows _ fun v hv => (all_nonneg h v hv).1, allV_len, allV, List.take_append, tellF_app, List.take_of_length_le (by omega), tell_text ns fun x hx => (h x hx).1]
  congr 1
  have e : 4 * (((valsF ns).length + 3) / 4) - (valsF ns).length = 3 - ((valsF ns).length + 3) % 4 := by omega
  rw [e]
  have : ((valsF ns).length + 3) % 4 < 4 := Nat.mod_lt _ (by decide)
  match ((valsF ns).length + 3) % 4, this with
  | 0, _ => rfl
  | 1, _ => rfl
  | 2, _ => rfl
  | 3, _ => rfl
theorem wordL_lt : ∀ (n y : Nat), y ≤ n → ∀ c ∈ wordL y, c < 128
  | 0, y, l => by obtain rfl := Nat.le_zero.mp l; rw [wordL_zero]; exact nofun
  | n + 1, y, l => by
    by_cases e : y = 0
    · rw [e, wordL_zero]; exact nofun
    · rw [wordL_pos e]
      intro c hc
      rcases List.mem_append.mp hc with hc | hc
      · exact wordL_lt n (y / 64) (by omega) c hc
      · rw [List.mem_singleton.mp hc]; omega
theorem low_app {a b : List Nat} (ha : ∀ c ∈ a, c < 128) (hb : ∀ c ∈ b, c < 128) : ∀ c ∈ a ++ b, c < 128 := fun c h => (List.mem_append.mp h).elim (ha c) (hb c)
theorem low_word (x : Nat) {c : Nat} (h : c < 128) : ∀ d ∈ wordL x ++ [c], d < 128 := low_app (wordL_lt x x (Nat.le_refl _)) fun d hd => by rw [List.mem_singleton.mp hd]; exact h
theorem low_32 : ∀ d ∈ [32], d < 128 := fun d hd => by rw [List.mem_singleton.mp hd]; decide
theorem text_low : ∀ ns, ∀ c ∈ textL ns, c < 128
  | [] => nofun
  | [x] => low_word x (by decide)
  | [x, y] => low_app (low_word x (by decide)) (low_app low_32 (low_word y (by decide)))
  | x :: y :: z :: r => low_app (low_app (low_word x (by decide)) (low_app low_32 (low_app (low_word y (by decide)) (low_app low_32 (low_word z (by decide)))))) (text_low r)
theorem all_ascii (ns : List Nat) : (S (allL ns)).cps.all (· < 128) = true := by
  have h : ∀ c ∈ allL ns, c < 128 := low_app (text_low ns) (by decide)
  rw [Array.all_eq_true]
  intro i hi
  exact decide_eq_true (h _ (by simp [S]))
theorem ci_snoc {l : List Nat} {j c : Nat} {ys : List Value} {t : Tok} (h : IntsAre ys (ci (l.take j))) (e : l[j]? = some c) : IntsAre (ys ++ [.int (c : Int) t]) (ci (l.take (j + 1))) := by
  rw [List.take_add_one, e, ci_app]
  exact h.append (.cons _ _ .nil)
theorem ends_at (ns : List Nat) (t0 t1 t2 : Tok) : ∃ (e : Nat) (te : Tok), (#[Value.int 0 t0, Value.int 1 t1, Value.int 3 t2])[((ns.length : Int).fmod 3).toNat]? = some (.int (e : Int) te) ∧ (5 : Int) * (ns.length : Int).fdiv 3 + (e : Int) = ((valsF ns).length : Int) := by
  have h := valsF_len ns
  have hm : ns.length % 3 < 3 := Nat.mod_lt _ (by decide)
  have e1 : ((ns.length : Int).fmod 3).toNat = ns.length % 3 := by rw [Int.fmod_eq_emod_of_nonneg _ (by decide)]; omega
  have e2 : (ns.length : Int).fdiv 3 = ((ns.length / 3 : Nat) : Int) := by rw [Int.fdiv_eq_ediv_of_nonneg _ (by decide)]; rfl
  rw [e1, e2, h]
  match ns.length % 3, hm with
  | 0, _ => exact ⟨0, t0, rfl, by simp⟩
  | 1, _ => exact ⟨1, t1, rfl, by simp⟩
  | 2, _ => exact ⟨3, t2, rfl, by simp⟩
theorem rest_in {a b c d6 d7 d : Addr × Obj} {es rest : CbLed} : ∀ p ∈ a :: b :: c :: es, p ∈ (c :: es) ++ d7 :: d6 :: d :: a :: b :: rest := by
  intro p h
  rcases List.mem_cons.mp h with h | h
  · rw [h]; exact List.mem_append_right _ (.tail _ (.tail _ (.tail _ (.head _))))
  rcases List.mem_cons.mp h with h | h
  · rw [h]; exact List.mem_append_right _ (.tail _ (.tail _ (.tail _ (.tail _ (.head _)))))
  exact List.mem_append_left _ h
theorem rows_neg (n : Nat) : -((-(n : Int)).fdiv 4) = (((n + 3) / 4 : Nat) : Int) := by
  rw [Int.fdiv_eq_ediv_of_nonneg _ (by decide)]; omega
theorem fill_mod (n : Nat) : (-(n : Int)).fmod 4 = ((3 - (n + 3) % 4 : Nat) : Int) := by
  rw [Int.fmod_eq_emod_of_nonneg _ (by decide)]; omega
theorem rows_ok : ∀ l : List Int, (∀ v ∈ l, 0 ≤ v ∧ v.natAbs < 2 ^ 1000) → ∀ q ∈ rowsOf l, QOk q
  | a :: b :: c :: d :: r, h, q, hq => by
    rcases List.mem_cons.mp hq with hq | hq
    · have hd := h d (.tail _ (.tail _ (.tail _ (.head _))))
      rw [hq]
      show (d / 2).natAbs < 2 ^ 1000
      exact Nat.lt_of_le_of_lt (by omega) hd.2
    · exact rows_ok r (fun v hv => h v (.tail _ (.tail _ (.tail _ (.tail _ hv))))) q hq
  | [], _, _, hq => by cases hq
  | [_], _, _, hq => by cases hq
  | [_, _], _, _, hq => by cases hq
  | [_, _, _], _, _, hq => by cases hq
theorem pick_end {l : List Value} (k : Nat) : kms_pick l (some (k : Int)) none = l.drop k := by
  have e1 : kms_lo (some (k : Int)) l.length = min k l.length := by
    simp only [kms_lo, show ¬ ((k : Int) < 0) by omega, if_false]; omega
  unfold kms_pick
  rw [e1]
  show (l.drop (min k l.length)).take (l.length - min k l.length) = _
  rw [List.take_of_length_le (by rw [List.length_drop]; exact Nat.le_refl _)]
  by_cases h : k ≤ l.length
  · rw [Nat.min_eq_left h]
  · rw [Nat.min_eq_right (by omega), List.drop_of_length_le (Nat.le_refl _), List.drop_of_length_le (by omega)]
theorem ones (k : Nat) : (List.replicate k [(1 : Int)]).flatten = List.replicate k 1 := by
  induction k with
  | zero => rfl
  | succ k ih => rw [List.replicate_succ, List.replicate_succ, List.flatten_cons, ih]; rfl
end
end Mine
open PySem PySem.W PyProof.Rows PySem.Spec PySem.Calls
namespace Mine
set_option maxRecDepth 100000 in
set_option maxHeartbeats 80000000 in
theorem law_holds : Challenge.rw_kl0476_01.Holds := by
  w_on
  refine holds_law lawSaid fun said => ?_
  clear said
  refine PySem.W.holds_open (q := Mine.lawV) (loose := lawLO) (Xt := fun s => xlAt Mine.lawV [] s && recOk [] s) (XP := XL Mine.lawV []) (Yf := Hook.obs (kHook Mine.K KA kas)) (Ya := Hook.val (kHook Mine.K KA kas)) (YP := Hook.says (kHook Mine.K KA kas)) (N := 5490) lawLeft (Hook.of (kHook Mine.K KA kas)) (Hook.keeps (kHook Mine.K KA kas)) (fun s e => xl_of s (Bool.and_eq_true_iff.mp e).1) XL.keeps (by rfl) (by rfl) (by rfl) (fun s e => recFacts_of (Bool.and_eq_true_iff.mp e).2) (by rfl) (row_said lawSaid) (by decide +kernel) ⟨rfl, rfl, rfl, rfl, rfl, by decide +kernel⟩ ?hw ?hc
  case hw => w_witness2
  w_strict (k_go0; (all_goals try k_fold))
  rename World => w
  rename IntsAre _ _ => hI
  rename Heap.IsList _ _ _ => hL
  rename Frag.In _ _ => KX
  rename Top _ _ _ _ _ _ => TT
  rename Below _ _ _ _ => K0
  rename Fr _ _ _ _ => F0
  rename News _ _ _ _ => N0
  rename CellsAre _ _ _ => X0
  rename Ground _ _ _ _ _ _ _ _ _ => GG
  clear GG
  rename (¬ _ < _) => hlen
  rename Obj.data _ = _ => hcell
  rename_i z0 s1 mg mb YY fa o pm doc ho hg KX0 V0 GL0 B0 TE0 TW0 wa wo M0 wc wd hcd ns hs hlay0 hLay hrr hl2 wf wg l vs wi ra w1 r0 hr hc hD h1 tk1 co
  clear YY KX0 V0 GL0 B0 TE0 TW0 M0 hcd hs hlay0 hrr hl2 ra w1 r0 hr hc hD
  show wpAny (model Prg w) _ _ _ _ _
  dsimp only
  have vl : vs.length ≤ 63 := by rw [hI.length]; omega
  refine wp_hideP fun Q1 E1 kQ1 _ pE1 => ?_
  generalize s1.heap.objs.size = LL at F0 N0 X0 hcell K0 pE1 ⊢
  have Fa : Fr s1.heap LL h1 (fun y => if y = Str.ofString "script" then some (.ref l) else none) := F0
  have Nc : News s1.heap LL h1 [(LL + 1, co)] := N0
  have hco : co.data = .cell none := hcell
  clear F0 N0
  repeat' ((fail_if_success (with_reducible show wpAny _ _ (subscriptTail _ _ _ _) _ _ _)); (first | (k_unfold; (try dsimp only)) | walk1 | (dsimp only; walk1)))
  rename Fr _ _ _ _ => Fb
  refine' slice3_K Fb (by assumption : News _ _ _ [(LL + 1, co)]) (by obtain ⟨ob, hob, r⟩ := hL; exact ⟨ob, Fb.keep _ _ hob, r⟩) hI (.int 0 _) .none (.int 2 _) (by decide) ?_ ?ss ?st ?sz
  case ss => with_unfolding_all rfl
  case st => kmk_pure
  case sz => rw [sizeLine_eq]; omega
  intro D1 ws1 h2 F2 N2 lt2 I2
  try dsimp only
  repeat' ((fail_if_success (with_reducible show wpAny _ _ (PySem.call _ _ _) _ _ _)); (first | (k_unfold; (try dsimp only)) | walk1 | (dsimp only; walk1)))
  refine sum_K rfl F2 N2 (.head _) I2 fun h3 tk3 t3 F3 N3 => ?_
  generalize (pickNums ns (some 0) none (some 2)).sum = S1
  try dsimp only
  repeat' ((fail_if_success (with_reducible show wpAny _ _ (subscriptTail _ _ _ _) _ _ _)); (first | (k_unfold; (try dsimp only)) | walk1 | (dsimp only; walk1)))
  rename Fr _ _ _ _ => Fb
  rename News _ _ _ _ => Nb
  have Nb' := kst_newsOf (l' := [(LL + 1, co)]) Nb (fun p hp => .tail _ hp)
  clear Nb
  refine' slice3_K Fb Nb' (by obtain ⟨ob, hob, r⟩ := hL; exact ⟨ob, Fb.keep _ _ hob, r⟩) hI (.int 1 _) .none (.int 2 _) (by decide) ?_ ?ss2 ?st2 ?sz2
  case ss2 => with_unfolding_all rfl
  case st2 => kmk_pure
  case sz2 => rw [sizeLine_eq]; omega
  intro D2 ws2 h4 F4 N4 lt4 I4
  try dsimp only
  repeat' ((fail_if_success (with_reducible show wpAny _ _ (PySem.call _ _ _) _ _ _)); (first | (k_unfold; (try dsimp only)) | walk1 | (dsimp only; walk1)))
  refine sum_K rfl F4 N4 (.head _) I4 fun h5 tk5 t5 F5 N5 => ?_
  generalize (pickNums ns (some 1) none (some 2)).sum = S2
  have N5' := kst_newsOf (l' := [(LL + 1, co)]) N5 (fun p hp => .tail _ hp)
  clear N5
  try dsimp only
  repeat' ((fail_if_success (with_reducible show wpAny _ _ (PySem.call _ _ _) _ _ _)); (first | (k_unfold; (try dsimp only)) | walk1 | (dsimp only; walk1)))
  rename Fr _ _ _ _ => Fb
  obtain ⟨Al, hA, hA2, eA⟩ : ∃ A : Nat, 2 ≤ A ∧ A ≤ 1001 ∧ S1.fmod 1000 + 2 = (A : Int) := by
    rw [Int.fmod_eq_emod_of_nonneg _ (by decide)]
    refine ⟨(S1 % 1000 + 2).toNat, ?_, ?_, ?_⟩ <;> omega
  obtain ⟨Be, hB, hB2, eB⟩ : ∃ B : Nat, 3 ≤ B ∧ B ≤ 1002 ∧ S2.fmod 1000 + 3 = (B : Int) := by
    rw [Int.fmod_eq_emod_of_nonneg _ (by decide)]
    refine ⟨(S2 % 1000 + 3).toNat, ?_, ?_, ?_⟩ <;> omega
  rw [eA, eB] at Fb
  obtain ⟨tB, tA, Fc⟩ := frame2 Fb
  clear Fb eA eB
  refine len_list (items := vs.toArray) (by obtain ⟨ob, hob, r⟩ := hL; exact ⟨ob, Fc.keep _ _ hob, r⟩) (by rw [List.size_toArray]; omega) ?_
  rw [List.size_toArray]
  try dsimp only
  repeat' ((fail_if_success (with_reducible show wpAny _ _ (PySem.call _ _ _) _ _ _)); (fail_if_success (with_reducible show wpAny _ _ (storeName _ _ _) _ _ _)); (first | (k_unfold; (try dsimp only)) | walk1 | (dsimp only; walk1)))
  rw [Int.fmod_eq_emod_of_nonneg _ (by decide)]
  obtain ⟨Sz, hS, hS2, eS⟩ : ∃ Sz : Nat, 6 ≤ Sz ∧ Sz ≤ 9 ∧ (6 : Int) + ((vs.length : Nat) : Int) % 4 = (Sz : Int) := by
    refine ⟨(6 + ((vs.length : Nat) : Int) % 4).toNat, ?_, ?_, ?_⟩ <;> omega
  rw [eS]
  try dsimp only
  repeat' ((fail_if_success (with_reducible show wpAny _ _ (exec (Stmt.For _ _ _ _ _) _) _ _ _)); (first | (k_unfold; (try dsimp only)) | walk1 | (dsimp only; walk1)))
  rename Fr _ _ _ _ => Fd
  rename News _ _ _ _ => Nd
  rename Obj.data _ = Data.cell (some _) => dCo
  obtain ⟨tS, tB2, Fe⟩ := frame2 Fd
  clear Fd hco
  rename_i rl _ ltR _ co1
  refine wpAny_For ?_ ?hsA
  case hsA => intro _; with_unfolding_all rfl
  repeat' ((fail_if_success (with_reducible show wpAny _ _ (PySem.call _ _ _) _ _ _)); (first | (k_unfold; (try dsimp only)) | walk1 | (dsimp only; walk1)))
  refine' range1_rows Fe Nd ?_
  intro h6 tk6 t61 u61 v61 hr6 F6 N6 _
  generalize (_ : Heap).objs.size = rg at hr6 ⊢
  try dsimp only
  repeat' ((fail_if_success (with_reducible show wpAny _ _ (pyIter _) _ _ _)); (first | (k_unfold; (try dsimp only)) | walk1 | (dsimp only; walk1)))
  refine' loop_rng (fun i m led => ∃ rl rvs rn co, led = [(rl, listOf (List.toArray rvs) rn), (LL + 1, co)] ∧ co.data = .cell (some (.ref rl)) ∧ LL + 1 < rl ∧ IntsAre rvs ((List.range (i + 4)).map fun k => ((som Al Be k : Nat) : Int)) ∧
    ∀ z, [Str.ofString "turn", Str.ofString "start", Str.ofString "end", Str.ofString "target", Str.ofString "depth", Str.ofString "lasti", Str.ofString "second", Str.ofString "last", Str.ofString "top"].contains z = false →
      m z = if z = Str.ofString "size" then some (.int (Sz : Int) tS) else if z = Str.ofString "beta" then some (.int (Be : Int) tB2) else if z = Str.ofString "alpha" then some (.int (Al : Int) tA) else if z = Str.ofString "script" then some (.ref l) else none)
    rfl pE1 hr6 (by omega) F6 N6 ?J0 ?turn1 ?done1
  case J0 => exact ⟨rl, [.int 1 _, .int 1 _, .int 1 _, .int 1 _], 0, co1, rfl, dCo, ltR, .cons 1 _ (.cons 1 _ (.cons 1 _ (.cons 1 _ .nil))), fun _ _ => rfl⟩
  case turn1 =>
    rintro it oi i ti m1 led1 h7 tk7 hi new off ⟨rl2, rvs, rn, co2, rfl, dC2, lt2, hI2, hm2⟩ F7 N7
    have F7' := frame_st hm2 F7
    clear F7
    dsimp only
    repeat' ((fail_if_success (with_reducible show wpAny _ _ (execs _ _) _ _ _)); (first | (k_unfold; (try dsimp only)) | walk1 | (dsimp only; walk1)))
    refine wp_hide fun Q2 E2 kQ2 _ => ?_
    repeat' ((fail_if_success (with_reducible show wpAny _ _ (subscriptTail _ _ _ _) _ _ _)); (first | (k_unfold; (try dsimp only)) | walk1 | (dsimp only; walk1)))
    have rl7 : rvs.length = i + 4 := by rw [hI2.length, List.length_map, List.length_range]
    have I4 := hI2.drop i
    rw [range_drop4] at I4
    refine' kms_slice_lit (zs := rvs.drop i) ?s1F (by assumption : News _ _ _ [(it, oi), (rl2, _), (LL + 1, co2)]) (kso_isList (by assumption : News _ _ _ [(it, oi), (rl2, _), (LL + 1, co2)]) (.tail _ (.head _)) rfl) (.int (-4) _) .none (pick4 rl7) ?_ ?s1s ?s1t ?s1z
    case s1F => k_asm
    case s1s => with_unfolding_all rfl
    case s1t => kmk_pure
    case s1z => simp only [List.size_toArray, sizeLine_eq]; omega
    intro D3 h8 F8 N8 lt8
    try dsimp only
    repeat' ((fail_if_success (with_reducible show wpAny _ _ (PySem.call _ _ _) _ _ _)); (first | (k_unfold; (try dsimp only)) | walk1 | (dsimp only; walk1)))
    have b0 := som_lt (n := i) hA hB hA2 hB2 (by omega)
    have b1 := som_lt (n := i + 1) hA hB hA2 hB2 (by omega)
    have b2 := som_lt (n := i + 2) hA hB hA2 hB2 (by omega)
    have b3 := som_lt (n := i + 3) hA hB hA2 hB2 (by omega)
    generalize hx0 : som Al Be i = x at b0 I4
    generalize hx1 : som Al Be (i + 1) = y at b1 I4
    generalize hx2 : som Al Be (i + 2) = z at b2 I4
    generalize hx3 : som Al Be (i + 3) = v at b3 I4
    have big : (2 : Nat) ^ 900 < 2 ^ 1000 := by decide
    refine' Ctr.use (c_octets w D3 0 (rvs.drop i) _ [x, y, z, v] (.head _) I4 (by simp) (by simp) ?ob) ?a1 ?a2 ?a3 ?a4 ?a5 ?a6 ?a7 ?a8 ?_
    case ob =>
      intro q hq
      simp only [List.mem_cons, List.not_mem_nil, or_false] at hq
      rcases hq with rfl | rfl | rfl | rfl <;> omega
    case a1 => k_asm
    case a2 => k_asm
    case a3 => k_asm
    case a4 => k_asm
    case a5 => k_asm
    case a6 => exact rfl
    case a7 => ktr_room
    case a8 => ktr_units
    rintro _ _ h9 tk9 ⟨ol, ovs, on, rfl, I9, rfl⟩ lt9 F9 N9
    try dsimp only
    repeat' ((fail_if_success (with_reducible show wpAny _ _ (PySem.call _ _ _) _ _ _)); (first | (k_unfold; (try dsimp only)) | walk1 | (dsimp only; walk1)))
    have bs : ∀ q ∈ [x, y, z, v], q < 2 ^ 900 := by
      intro q hq
      simp only [List.mem_cons, List.not_mem_nil, or_false] at hq
      rcases hq with rfl | rfl | rfl | rfl <;> assumption
    obtain ⟨sg, hsg, hok, hval⟩ := segs_up (ns := [x, y, z, v]) (by simp) bs
    have hlen8 : (up (octF [x, y, z, v])).length ≤ 100000 := by
      rw [up_len]
      have := octF_len [x, y, z, v] (fun q hq => Nat.lt_trans (bs q hq) big)
      simp only [List.length_cons, List.length_nil] at this
      omega
    refine' (c_entries w ol on ovs _ (up (octF [x, y, z, v])) sg (.head _) I9 hsg hok hlen8) _ _ _ _ _ _ _ _ _ _ _ _ _ _ _ _ _ _ _ _ _ K0 ?c2 KX KX ?c4 TT TT rfl ?c7 ?c8 ?_
    case c2 => exact F9
    case c4 => exact N9
    case c7 => ktr_room
    case c8 => ktr_units
    rintro _ _ h10 tk10 ⟨el, en, es, rfl, rfl, hes⟩ lt10 F10 N10
    rw [hval] at hes
    try dsimp only
    repeat' ((fail_if_success (with_reducible show wpAny _ _ (subscriptTail _ _ _ _) _ _ _)); (first | (k_unfold; (try dsimp only)) | walk1 | (dsimp only; walk1)))
    obtain ⟨pe, dxe, te1, te2, te3, te4, rfl⟩ := one_ent hes
    clear hes
    refine' item_listR (x := .ref pe) (kso_isList N10 (.head _) rfl) (by decide) (by decide) ?hx0 ?_ ?hsi
    case hx0 => simp
    case hsi => with_unfolding_all rfl
    try dsimp only
    dsimp only at N10
    refine' ent_assign rfl ?eX F10 N10 (.tail _ (.head _)) rfl rfl ?_
    case eX => exact Frag.In.keeps KX F10.keep
    intro h11 F11 N11
    have N12 := kst_newsOf (l' := [(it, oi), (rl2, W.listOf rvs.toArray rn), (LL + 1, co2)]) N11 (fun p hp => .tail _ (.tail _ (.tail _ (.tail _ hp))))
    clear N11 N10 N9 N8 F10 F9 F8
    have nx := som_mul (n := i) hA hB (by omega)
    have px := som_pos (n := i) hA hB (by omega)
    rw [hx0, hx1, hx2, hx3] at nx
    rw [hx0] at px
    obtain ⟨m1k, m2k, m3k, m4k, m5k, m6k, m7k⟩ := turn_ok hA2 hB2 b0 b1 b2 b3
    obtain ⟨e1k, e2k, e3k, e4k, e5k, e6k, e7k⟩ := turn_eqs px nx
    have lgx : ((4 * x : Nat) : Int).natAbs.log2 < 9000 := lg4 px b0
    generalize hu : som Al Be (i + 4) = u at nx e4k e6k e7k
    dsimp only
    repeat' ((fail_if_success (with_reducible show wpAny _ _ (PySem.call _ _ _) _ _ _)); (first | (k_unfold; (try dsimp only)) | walk1 | (dsimp only; walk1)))
    refine' Ctr.useI (cI (c_sub w _ _ _ _ _) e1k) ?z1x1 ?z1x2 ?z1x3 ?z1x4 ?z1x5 ?z1x6 ?z1x7 ?z1x8 ?_
    case z1x1 => k_asm
    case z1x2 => k_asm
    case z1x3 => k_asm
    case z1x4 => k_asm
    case z1x5 => k_asm
    case z1x6 => exact rfl
    case z1x7 => ktr_room
    case z1x8 => ktr_units
    intro t1k h12 tk12 F12 N13
    try dsimp only
    repeat' ((fail_if_success (with_reducible show wpAny _ _ (PySem.call _ _ _) _ _ _)); (first | (k_unfold; (try dsimp only)) | walk1 | (dsimp only; walk1)))
    refine' Ctr.useI (c_mul w 2 ((v : Int) / 2) _ _ _ m1k) ?z2x1 ?z2x2 ?z2x3 ?z2x4 ?z2x5 ?z2x6 ?z2x7 ?z2x8 ?_
    case z2x1 => k_asm
    case z2x2 => k_asm
    case z2x3 => k_asm
    case z2x4 => k_asm
    case z2x5 => k_asm
    case z2x6 => exact rfl
    case z2x7 => ktr_room
    case z2x8 => ktr_units
    intro t2k h13 tk13 F13 N14
    try dsimp only
    repeat' ((fail_if_success (with_reducible show wpAny _ _ (exec (Stmt.If _ _ _ _) _) _ _ _)); (first | (k_unfold; (try dsimp only)) | walk1 | (dsimp only; walk1)))
    rename Fr _ _ _ _ => Fz1
    rename News _ _ _ _ => Nz1
    obtain ⟨bl, hbit⟩ : ∃ b, ((v : Int) % 2 != 0) = b := ⟨_, rfl⟩
    rw [hbit] at Fz1
    refine' join_int (v : Int) Fz1 Nz1 ?jI1 ?_
    case jI1 =>
      refine wp_hide fun Qj Ej kj _ => ?_
      cases bl
      · have hbit : ¬ ((v : Int) % 2 ≠ 0) := fun q => by rw [bne_iff_ne.mpr q] at hbit; cases hbit
        repeat' ((fail_if_success (with_reducible show wpAny _ _ (PySem.call _ _ _) _ _ _)); (first | (k_unfold; (try dsimp only)) | walk1 | (dsimp only; walk1)))
        rw [show 2 * ((v : Int) / 2) = (v : Int) by omega] at Fz1
        exact kj _ _ ⟨rfl, _, _, t2k, rfl, Fz1, by assumption⟩
      · have hbit : (v : Int) % 2 ≠ 0 := bne_iff_ne.mp hbit
        repeat' ((fail_if_success (with_reducible show wpAny _ _ (PySem.call _ _ _) _ _ _)); (first | (k_unfold; (try dsimp only)) | walk1 | (dsimp only; walk1)))
        refine' Ctr.useI (cI (c_add w (2 * ((v : Int) / 2)) 1 _ _ _) (show _ = (v : Int) by omega)) ?z3x1 ?z3x2 ?z3x3 ?z3x4 ?z3x5 ?z3x6 ?z3x7 ?z3x8 ?_
        case z3x1 => k_asm
        case z3x2 => k_asm
        case z3x3 => k_asm
        case z3x4 => k_asm
        case z3x5 => k_asm
        case z3x6 => exact rfl
        case z3x7 => ktr_room
        case z3x8 => ktr_units
        intro t3k h14 tk14 F14 N15
        try dsimp only
        repeat' ((fail_if_success (with_reducible show wpAny _ _ (PySem.call _ _ _) _ _ _)); (first | (k_unfold; (try dsimp only)) | walk1 | (dsimp only; walk1)))
        rename Fr _ _ _ _ => Fj
        exact kj _ _ ⟨rfl, _, _, _, rfl, Mine.Fr.dup Fj, by assumption⟩
    clear Fz1 Nz1
    intro h15 tk15 t4k F15 N16
    dsimp only
    repeat' ((fail_if_success (with_reducible show wpAny _ _ (PySem.call _ _ _) _ _ _)); (first | (k_unfold; (try dsimp only)) | walk1 | (dsimp only; walk1)))
    refine' Ctr.useI (c_mul w (-2) (v : Int) _ _ _ m2k) ?z4x1 ?z4x2 ?z4x3 ?z4x4 ?z4x5 ?z4x6 ?z4x7 ?z4x8 ?_
    case z4x1 => k_asm
    case z4x2 => k_asm
    case z4x3 => k_asm
    case z4x4 => k_asm
    case z4x5 => k_asm
    case z4x6 => exact rfl
    case z4x7 => ktr_room
    case z4x8 => ktr_units
    intro t5k h16 tk16 F16 N17
    try dsimp only
    repeat' ((fail_if_success (with_reducible show wpAny _ _ (PySem.call _ _ _) _ _ _)); (first | (k_unfold; (try dsimp only)) | walk1 | (dsimp only; walk1)))
    refine' Ctr.useI (cI (c_mul w (-(2 * (y : Int))) (-2 * (v : Int)) _ _ _ m3k) e2k) ?z5x1 ?z5x2 ?z5x3 ?z5x4 ?z5x5 ?z5x6 ?z5x7 ?z5x8 ?_
    case z5x1 => k_asm
    case z5x2 => k_asm
    case z5x3 => k_asm
    case z5x4 => k_asm
    case z5x5 => k_asm
    case z5x6 => exact rfl
    case z5x7 => ktr_room
    case z5x8 => ktr_units
    intro t6k h17 tk17 F17 N18
    try dsimp only
    repeat' ((fail_if_success (with_reducible show wpAny _ _ (PySem.call _ _ _) _ _ _)); (first | (k_unfold; (try dsimp only)) | walk1 | (dsimp only; walk1)))
    refine' Ctr.useI (c_mul w _ _ _ _ _ m4k) ?z6x1 ?z6x2 ?z6x3 ?z6x4 ?z6x5 ?z6x6 ?z6x7 ?z6x8 ?_
    case z6x1 => k_asm
    case z6x2 => k_asm
    case z6x3 => k_asm
    case z6x4 => k_asm
    case z6x5 => k_asm
    case z6x6 => exact rfl
    case z6x7 => ktr_room
    case z6x8 => ktr_units
    intro t7k h18 tk18 F18 N19
    try dsimp only
    repeat' ((fail_if_success (with_reducible show wpAny _ _ (PySem.call _ _ _) _ _ _)); (first | (k_unfold; (try dsimp only)) | walk1 | (dsimp only; walk1)))
    refine' Ctr.useI (cI (c_mul w _ _ _ _ _ m5k) e3k) ?z7x1 ?z7x2 ?z7x3 ?z7x4 ?z7x5 ?z7x6 ?z7x7 ?z7x8 ?_
    case z7x1 => k_asm
    case z7x2 => k_asm
    case z7x3 => k_asm
    case z7x4 => k_asm
    case z7x5 => k_asm
    case z7x6 => exact rfl
    case z7x7 => ktr_room
    case z7x8 => ktr_units
    intro t8k h19 tk19 F19 N20
    try dsimp only
    repeat' ((fail_if_success (with_reducible show wpAny _ _ (PySem.call _ _ _) _ _ _)); (first | (k_unfold; (try dsimp only)) | walk1 | (dsimp only; walk1)))
    refine' Ctr.useI (c_mul w _ _ _ _ _ m6k) ?z8x1 ?z8x2 ?z8x3 ?z8x4 ?z8x5 ?z8x6 ?z8x7 ?z8x8 ?_
    case z8x1 => k_asm
    case z8x2 => k_asm
    case z8x3 => k_asm
    case z8x4 => k_asm
    case z8x5 => k_asm
    case z8x6 => exact rfl
    case z8x7 => ktr_room
    case z8x8 => ktr_units
    intro t9k h20 tk20 F20 N21
    try dsimp only
    repeat' ((fail_if_success (with_reducible show wpAny _ _ (PySem.call _ _ _) _ _ _)); (first | (k_unfold; (try dsimp only)) | walk1 | (dsimp only; walk1)))
    refine' Ctr.useI (cI (c_add w _ _ _ _ _) e4k) ?z9x1 ?z9x2 ?z9x3 ?z9x4 ?z9x5 ?z9x6 ?z9x7 ?z9x8 ?_
    case z9x1 => k_asm
    case z9x2 => k_asm
    case z9x3 => k_asm
    case z9x4 => k_asm
    case z9x5 => k_asm
    case z9x6 => exact rfl
    case z9x7 => ktr_room
    case z9x8 => ktr_units
    intro tAk h21 tk21 F21 N22
    try dsimp only
    repeat' ((fail_if_success (with_reducible show wpAny _ _ (PySem.call _ _ _) _ _ _)); (first | (k_unfold; (try dsimp only)) | walk1 | (dsimp only; walk1)))
    refine' Ctr.useI (cI (c_mul w _ _ _ _ _ m7k) e5k) ?z10x1 ?z10x2 ?z10x3 ?z10x4 ?z10x5 ?z10x6 ?z10x7 ?z10x8 ?_
    case z10x1 => k_asm
    case z10x2 => k_asm
    case z10x3 => k_asm
    case z10x4 => k_asm
    case z10x5 => k_asm
    case z10x6 => exact rfl
    case z10x7 => ktr_room
    case z10x8 => ktr_units
    intro tBk h22 tk22 F22 N23
    try dsimp only
    repeat' ((fail_if_success (with_reducible show wpAny _ _ (PySem.call _ _ _) _ _ _)); (first | (k_unfold; (try dsimp only)) | walk1 | (dsimp only; walk1)))
    refine' Ctr.useI (cI (c_mod w ((4 * x * u : Nat) : Int) ((4 * x : Nat) : Int) _ _ _ (by omega)) e6k) ?z11x1 ?z11x2 ?z11x3 ?z11x4 ?z11x5 ?z11x6 ?z11x7 ?z11x8 ?_
    case z11x1 => k_asm
    case z11x2 => k_asm
    case z11x3 => k_asm
    case z11x4 => k_asm
    case z11x5 => k_asm
    case z11x6 => exact rfl
    case z11x7 => ktr_room
    case z11x8 => ktr_units
    intro tCk h23 tk23 F23 N24
    try dsimp only
    repeat' ((fail_if_success (with_reducible show wpAny _ _ (PySem.call _ _ _) _ _ _)); (first | (k_unfold; (try dsimp only)) | walk1 | (dsimp only; walk1)))
    refine' Ctr.useI (cI (c_mul w _ _ _ _ _ m7k) e5k) ?z12x1 ?z12x2 ?z12x3 ?z12x4 ?z12x5 ?z12x6 ?z12x7 ?z12x8 ?_
    case z12x1 => k_asm
    case z12x2 => k_asm
    case z12x3 => k_asm
    case z12x4 => k_asm
    case z12x5 => k_asm
    case z12x6 => exact rfl
    case z12x7 => ktr_room
    case z12x8 => ktr_units
    intro tDk h24 tk24 F24 N25
    try dsimp only
    repeat' ((fail_if_success (with_reducible show wpAny _ _ (PySem.call _ _ _) _ _ _)); (first | (k_unfold; (try dsimp only)) | walk1 | (dsimp only; walk1)))
    refine' Ctr.useI (cI (c_floordiv w ((4 * x * u : Nat) : Int) ((4 * x : Nat) : Int) _ _ _ (by omega) lgx) e7k) ?z13x1 ?z13x2 ?z13x3 ?z13x4 ?z13x5 ?z13x6 ?z13x7 ?z13x8 ?_
    case z13x1 => k_asm
    case z13x2 => k_asm
    case z13x3 => k_asm
    case z13x4 => k_asm
    case z13x5 => k_asm
    case z13x6 => exact rfl
    case z13x7 => ktr_room
    case z13x8 => ktr_units
    intro tEk h25 tk25 F25 N26
    try dsimp only
    repeat' ((fail_if_success (with_reducible show wpAny _ _ (binaryOp _ _ _) _ _ _)); (first | (k_unfold; (try dsimp only)) | walk1 | (dsimp only; walk1)))
    rename Fr _ _ _ _ => F26
    rename News _ _ _ _ => N27
    rename_i nl ltN
    refine' add_lists_ints (vs := rvs) (ws := [Value.int (u : Int) tEk]) F26 N27 (kso_isList N27 (.tail _ (.tail _ (.head _))) rfl) (kso_isList N27 (.head _) rfl) hI2 (.cons _ _ .nil) ?_ ?szA
    case szA => rw [sizeLine_eq]; simp only [List.length_map, List.length_range, List.length_singleton]; omega
    intro h27 F27 N28 I27
    have lt28 := Heap.lt_size (N27 _ (.tail _ (.tail _ (.tail _ (.head _))))).1
    have lt29 := Heap.lt_size (N27 _ (.tail _ (.head _))).1
    dsimp only at lt28 lt29 ⊢
    generalize (_ : Heap).objs.size = rl3 at N28 lt28 lt29 ⊢
    have N29 : News TT.heap LL h27 [(LL + 1, co2), (rl3, W.listOf (rvs ++ [Value.int (u : Int) tEk]).toArray 0), (it, oi)] := by
      intro q hq
      rcases List.mem_cons.mp hq with e | hq
      · rw [e]; exact N28 _ (.tail _ (.tail _ (.tail _ (.tail _ (.head _)))))
      rcases List.mem_cons.mp hq with e | hq
      · rw [e]; exact N28 _ (.head _)
      rw [List.mem_singleton.mp hq]; exact N28 _ (.tail _ (.tail _ (.head _)))
    have ofC : LL + 1 ≠ it := off (LL + 1, co2) (.tail _ (.head _))
    have hU : ∀ p ∈ [(rl3, W.listOf (rvs ++ [Value.int (u : Int) tEk]).toArray 0), (it, oi)], p.1 ≠ LL + 1 := by
      intro p hp
      rcases List.mem_cons.mp hp with e | hp
      · rw [e]; exact Nat.ne_of_gt lt28
      · rw [List.mem_singleton.mp hp]; exact Ne.symm ofC
    refine' storeX_C ?sF ?sN ?sc ?sU ?sd ?_ ?sa ?sb
    case sa => rfl
    case sb => rfl
    case sF => exact F27
    case sN => exact N29
    case sc => rfl
    case sU => exact UpdF.head hU
    case sd => exact dC2
    intro h28 co3 F28 N30 dC3
    dsimp only at N30 ⊢
    repeat' (first | (k_unfold; (try dsimp only)) | walk1 | (dsimp only; walk1))
    have ho : ∀ p ∈ [(rl3, W.listOf (rvs ++ [Value.int (u : Int) tEk]).toArray 0), (LL + 1, co3)], p ∈ [(LL + 1, co3), (rl3, W.listOf (rvs ++ [Value.int (u : Int) tEk]).toArray 0), (it, oi)] ∧ p.1 ≠ it := by
      intro p hp
      rcases List.mem_cons.mp hp with e | hp
      · rw [e]; exact ⟨.tail _ (.head _), Nat.ne_of_gt lt29⟩
      · rw [List.mem_singleton.mp hp]; exact ⟨.head _, ofC⟩
    refine kQ2 _ _ ⟨_, _, _, _, _, rfl, F28, N30, .tail _ (.tail _ (.head _)), fun p hp => (ho p hp).1, fun p hp => (ho p hp).2, rl3, _, 0, co3, rfl, dC3, lt28, ?_, ?_⟩
    · have eL : List.range (i + 1 + 4) = List.range (i + 4) ++ [i + 4] := by rw [show i + 1 + 4 = i + 4 + 1 by omega, List.range_succ]
      rw [eL, List.map_append, List.map_singleton, hu]
      exact I27
    · intro z hz
      have ne : ∀ a, a ∈ [Str.ofString "turn", Str.ofString "start", Str.ofString "end", Str.ofString "target", Str.ofString "depth", Str.ofString "lasti", Str.ofString "second", Str.ofString "last", Str.ofString "top"] → ¬ z = a := fun a ha e => by
        subst e; rw [List.contains_iff_mem.mpr ha] at hz; cases hz
      refine (if_neg (ne _ (.tail _ (.tail _ (.tail _ (.tail _ (.tail _ (.tail _ (.tail _ (.tail _ (.head _))))))))))).trans ?_
      refine (if_neg (ne _ (.tail _ (.tail _ (.tail _ (.tail _ (.tail _ (.tail _ (.tail _ (.head _)))))))))).trans ?_
      refine (if_neg (ne _ (.tail _ (.tail _ (.tail _ (.tail _ (.tail _ (.tail _ (.head _))))))))).trans ?_
      refine (if_neg (ne _ (.tail _ (.tail _ (.tail _ (.tail _ (.tail _ (.head _)))))))).trans ?_
      refine (if_neg (ne _ (.tail _ (.tail _ (.tail _ (.tail _ (.head _))))))).trans ?_
      refine (if_neg (ne _ (.tail _ (.tail _ (.tail _ (.head _)))))).trans ?_
      refine (if_neg (ne _ (.tail _ (.tail _ (.head _))))).trans ?_
      refine (if_neg (ne _ (.tail _ (.head _)))).trans ?_
      refine (if_neg (ne _ (.head _))).trans ?_
      exact if_neg (by rw [hz]; exact Bool.false_ne_true)
  case done1 =>
    rintro m1 led1 h7 tk7 ⟨rl2, rvs, rn, co2, rfl, dC2, lt2, hI2, hm2⟩ F7 N7
    have F7' := frame_st hm2 F7
    clear F7
    dsimp only
    repeat' ((fail_if_success (with_reducible show wpAny _ _ (exec (Stmt.For _ _ _ _ _) _) _ _ _)); (first | (k_unfold; (try dsimp only)) | walk1 | (dsimp only; walk1)))
    refine wpAny_For ?_ ?hsB
    case hsB => intro _; with_unfolding_all rfl
    repeat' ((fail_if_success (with_reducible show wpAny _ _ (PySem.call _ _ _) _ _ _)); (first | (k_unfold; (try dsimp only)) | walk1 | (dsimp only; walk1)))
    rw [show (Sz : Int) + 1 = ((Sz + 1 : Nat) : Int) from rfl]
    refine' range1_rows F7' N7 ?_
    intro h8 tk8 t81 u81 v81 hr8 F8 N8 _
    generalize (_ : Heap).objs.size = rg2 at hr8 ⊢
    try dsimp only
    repeat' ((fail_if_success (with_reducible show wpAny _ _ (pyIter _) _ _ _)); (first | (k_unfold; (try dsimp only)) | walk1 | (dsimp only; walk1)))
    refine' loop_rng (fun _ m led => led = [(rl2, W.listOf rvs.toArray rn), (LL + 1, co2)] ∧ ∀ z, [Str.ofString "k", Str.ofString "x", Str.ofString "y", Str.ofString "z", Str.ofString "w", Str.ofString "cubes"].contains z = false →
      m z = if [Str.ofString "turn", Str.ofString "start", Str.ofString "end", Str.ofString "target", Str.ofString "depth", Str.ofString "lasti", Str.ofString "second", Str.ofString "last", Str.ofString "top"].contains z = true then m1 z else if z = Str.ofString "size" then some (.int (Sz : Int) tS) else if z = Str.ofString "beta" then some (.int (Be : Int) tB2) else if z = Str.ofString "alpha" then some (.int (Al : Int) tA) else if z = Str.ofString "script" then some (.ref l) else none)
      rfl pE1 hr8 (by omega) F8 N8 ⟨rfl, fun _ _ => rfl⟩ ?turn2 ?done2
    case turn2 =>
      rintro it oi i ti m2 led2 h9 tk9 hi _ off ⟨rfl, hm3⟩ F9 N9
      have F9' := frame_st hm3 F9
      clear F9
      dsimp only
      repeat' ((fail_if_success (with_reducible show wpAny _ _ (execs _ _) _ _ _)); (first | (k_unfold; (try dsimp only)) | walk1 | (dsimp only; walk1)))
      refine wp_hide fun Q2 E2 kQ2 _ => ?_
      repeat' ((fail_if_success (with_reducible show wpAny _ _ (subscriptTail _ _ _ _) _ _ _)); (first | (k_unfold; (try dsimp only)) | walk1 | (dsimp only; walk1)))
      rename Fr _ _ _ _ => F10
      rename News _ _ _ _ => N10
      have I10 := row4 hI2 (i := i) (by omega)
      obtain ⟨t1k, t2k, t3k, t4k, z4⟩ := four_ints I10
      clear I10
      have sf := som_surf hA hB i (by omega)
      have c0 : Bd ((som Al Be i : Nat) : Int) 900 := .nat (som_lt hA hB hA2 hB2 (by omega))
      have c1 : Bd ((som Al Be (i + 1) : Nat) : Int) 900 := .nat (som_lt hA hB hA2 hB2 (by omega))
      have c2 : Bd ((som Al Be (i + 2) : Nat) : Int) 900 := .nat (som_lt hA hB hA2 hB2 (by omega))
      have c3 : Bd ((som Al Be (i + 3) : Nat) : Int) 900 := .nat (som_lt hA hB hA2 hB2 (by omega))
      have cA : Bd (Al : Int) 10 := .nat (Nat.lt_of_le_of_lt hA2 (by decide))
      have cB : Bd (Be : Int) 10 := .nat (Nat.lt_of_le_of_lt hB2 (by decide))
      have k1 : Bd 1 1 := show (1 : Int).natAbs < 2 ^ 1 by decide
      have k2 : Bd 2 2 := show (2 : Int).natAbs < 2 ^ 2 by decide
      try dsimp only at z4
      generalize som Al Be i = x at sf c0 z4
      generalize som Al Be (i + 1) = y at sf c1 z4
      generalize som Al Be (i + 2) = z at sf c2 z4
      generalize som Al Be (i + 3) = v at sf c3 z4
      refine' kms_slice_lit (zs := (rvs.drop i).take 4) F10 N10 (kso_isList N10 (.tail _ (.head _)) rfl) (.int (i : Int) _) (.int ((i : Int) + 4) _) (pick_mid (k := 4) (by rw [hI2.length, List.length_map, List.length_range]; omega)) ?_ ?s2s ?s2t ?s2z
      case s2s => with_unfolding_all rfl
      case s2t => kmk_pure
      case s2z => simp only [List.size_toArray, sizeLine_eq]; rw [hI2.length, List.length_map, List.length_range]; omega
      intro D4 h11 F11 N11 lt11
      rw [z4] at N11
      dsimp only
      repeat' ((fail_if_success (with_reducible show wpAny _ _ (execs _ _) _ _ _)); (first | (k_unfold; (try dsimp only)) | walk1 | (dsimp only; walk1)))
      repeat' ((fail_if_success (with_reducible show wpAny _ _ (compareOp _ _ _) _ _ _)); (first | (k_unfold; (try dsimp only)) | ((with_reducible refine mulW ⟨_, _, (by repeat (first | assumption | apply Bd.mul | apply Bd.add)), (by repeat (first | assumption | apply Bd.mul | apply Bd.add)), (by decide)⟩ ?_); dsimp only) | walk1 | (dsimp only; walk1)))
      have sfI : (x : Int) * x * v * v + Al * (y * y * y * v + x * z * z * z) + Be * y * y * z * z = (2 * Al + Be + 1) * x * y * z * v := by exact_mod_cast sf
      rw [sfI]
      generalize (2 * (Al : Int) + Be + 1) * x * y * z * v = T
      repeat' (first | (k_unfold; (try dsimp only)) | walk1 | (dsimp only; walk1))
      · exact absurd rfl (by assumption)
      rename Fr _ _ _ _ => F12
      rename News _ _ _ _ => N12
      refine kQ2 _ _ ⟨_, _, _, _, _, rfl, F12, N12, .tail _ (.head _), fun p hp => .tail _ (.tail _ hp), off, rfl, ?_⟩
      intro z hz
      have ne : ∀ a, a ∈ [Str.ofString "k", Str.ofString "x", Str.ofString "y", Str.ofString "z", Str.ofString "w", Str.ofString "cubes"] → ¬ z = a := fun a ha e => by
        subst e; rw [List.contains_iff_mem.mpr ha] at hz; cases hz
      refine (if_neg (ne _ (.tail _ (.tail _ (.tail _ (.tail _ (.tail _ (.head _)))))))).trans ?_
      refine (if_neg (ne _ (.tail _ (.tail _ (.tail _ (.tail _ (.head _))))))).trans ?_
      refine (if_neg (ne _ (.tail _ (.tail _ (.tail _ (.head _)))))).trans ?_
      refine (if_neg (ne _ (.tail _ (.tail _ (.head _))))).trans ?_
      refine (if_neg (ne _ (.tail _ (.head _)))).trans ?_
      refine (if_neg (ne _ (.head _))).trans ?_
      exact if_neg (by rw [hz]; exact Bool.false_ne_true)
    case done2 =>
      rintro m2 led2 h8 tk8 ⟨rfl, hm3⟩ F8 N8
      have F8' := frame_st hm3 F8
      clear F8
      dsimp only
      repeat' ((fail_if_success (with_reducible show wpAny _ _ (exec (Stmt.Assign _ _ _) _) _ _ _)); (first | (k_unfold; (try dsimp only)) | walk1 | (dsimp only; walk1)))
      refine wp_hideQ fun Q3 kQ3 => ?_
      refine comp_step F8' rfl (by with_unfolding_all rfl) (by with_unfolding_all rfl) (by decide) (by rfl) (by decide) (by rfl) (by rfl) (by rfl) ?_
      repeat' ((fail_if_success (with_reducible show wpAny _ _ (PySem.call _ _ _) _ _ _)); (first | (k_unfold; (try dsimp only)) | walk1 | (dsimp only; walk1)))
      refine' range3_rows F8' N8 (by decide) ?_
      intro h9 tk9 t91 u91 v91 hr9 F9 N9 _
      refine ⟨_, 4, (Sz : Int) + 4, 3, _, _, _, (Sz + 2) / 3, _, rfl, rfl, hr9, small_step hS2, step_size Sz (by omega), by rw [sizeLine_eq]; omega, F9, N9, fun g => ?_⟩
      refine compU_fold (fun i ys led => ∃ (Ws : List Line) (rest : CbLed), led = (rl2, W.listOf rvs.toArray rn) :: (LL + 1, co2) :: rest ∧ ys = Ws.map (fun x : Line => Value.ref x.1) ∧ (∀ x ∈ Ws, LineIn x led) ∧ wordsOf Ws = (List.range i).map fun j => (((newN Al Be Sz).drop (j * 3)).take 3).map wordF) ?kI0 ?kTurn ?kFin
      case kI0 => exact ⟨[], [], rfl, rfl, nofun, rfl⟩
      case kTurn =>
        rintro i v I oI C oC D m₂ h10 tk10 E' ys led hi ⟨ti, rfl⟩ ⟨Ws, rest, rfl, rfl, hW, hwW⟩ hC hm F10 N10 off10 ne10
        dsimp only
        refine wp_hide fun Q4 E4 kQ4 _ => ?_
        refine LCg.ListComp_U (F₀ := F10) (by with_unfolding_all rfl) (by decide) (by rfl) (by decide) (by rfl) ?_
        repeat' ((fail_if_success (with_reducible show wpAny _ _ (subscriptTail _ _ _ _) _ _ _)); (first | (k_unfold; (try dsimp only)) | walk1 | (dsimp only; walk1)))
        have I10 := row_part hI2 (i * 3)
        have hzl : ((rvs.drop (4 + i * 3)).take 3).length = (((newN Al Be Sz).drop (i * 3)).take 3).length := by rw [I10.length, List.length_map]
        have hz3 : (((newN Al Be Sz).drop (i * 3)).take 3).length ≤ 3 := by rw [List.length_take]; omega
        have hz0 : 0 < (((newN Al Be Sz).drop (i * 3)).take 3).length := by rw [List.length_take, List.length_drop, newN_len]; omega
        have hzb : ∀ x ∈ ((newN Al Be Sz).drop (i * 3)).take 3, 0 < x ∧ x < 2 ^ 900 := fun x hx => newN_lt hA hB hA2 hB2 hS2 x (List.mem_of_mem_drop (List.mem_of_mem_take hx))
        refine' kms_slice_lit (zs := (rvs.drop (4 + i * 3)).take 3) F10 N10 (kso_isList N10 (.tail _ (.tail _ (.tail _ (.head _)))) rfl) (.int ((4 : Int) + (i : Int) * 3) _) (.int ((4 : Int) + (i : Int) * 3 + 3) _) ?s3e ?_ ?s3s ?s3t ?s3z
        case s3e => rw [show (4 : Int) + (i : Int) * 3 = ((4 + i * 3 : Nat) : Int) by omega]; exact pick_any _ _ 3
        case s3s => with_unfolding_all rfl
        case s3t => kmk_pure
        case s3z => simp only [List.size_toArray, sizeLine_eq]; rw [hI2.length, List.length_map, List.length_range]; omega
        intro D5 h11 F11 N11 lt11
        dsimp only
        generalize hzs : (rvs.drop (4 + i * 3)).take 3 = zs at *
        generalize hps : ((newN Al Be Sz).drop (i * 3)).take 3 = ps at *
        refine LCg.CompSrc.ledger rfl F11 N11 (.head _) (by rw [List.size_toArray, sizeLine_eq]; omega) fun g => ?_
        refine compU_fold (fun j ys led => led = _ ∧ ∃ qs : List (Str × Tok), ys = sv qs ∧ qs.map (·.1) = (ps.take j).map wordF) ⟨rfl, [], rfl, rfl⟩ ?uTurn ?uFin
        case uTurn =>
          rintro j v I1 oI1 C1 oC1 D1 m₃ h12 tk12 E5 ys led hj hv ⟨rfl, qs, rfl, hqs⟩ hC1 hm1 F12 N12 off12 ne12
          dsimp only
          refine wp_hide fun Q5 E5' kQ5 _ => ?_
          have hv' : zs[j]? = some v := by simpa using hv
          obtain ⟨x, tx, rfl, hxe⟩ := I10.at j v hv'
          obtain ⟨q, hqe, rfl⟩ := get_nat hxe
          repeat' ((fail_if_success (with_reducible show wpAny _ _ (PySem.call _ _ _) _ _ _)); (first | (k_unfold; (try dsimp only)) | walk1 | (dsimp only; walk1)))
          refine' Ctr.useS (c_word w q _ _ (Nat.lt_trans (hzb q (List.mem_of_getElem? hqe)).2 (by decide))) ?z14x1 ?z14x2 ?z14x3 ?z14x4 ?z14x5 ?z14x6 ?z14x7 ?z14x8 ?_
          case z14x1 => k_asm
          case z14x2 => k_asm
          case z14x3 => k_asm
          case z14x4 => k_asm
          case z14x5 => k_asm
          case z14x6 => exact rfl
          case z14x7 => ktr_room
          case z14x8 => ktr_units
          intro tW h13 tk13 F13 N13
          try dsimp only
          repeat' ((first | (k_unfold; (try dsimp only)) | walk1 | (dsimp only; walk1)))
          exact kQ5 _ _ (LCg.CompEnd.intro F13 N13 _ (fun _ h => h) off12 (.inr ⟨_, .head _, rfl, _, rfl⟩) ⟨rfl, _, sv_snoc _ _ _, words_snoc hqs hqe⟩)
        case uFin =>
          rintro ys led ⟨rfl, qs, rfl, hqs⟩ D6 h12 tk12 F12 N12 off12
          dsimp only
          have hq2 : qs.map (·.1) = ps.map wordF := by rw [hqs, List.size_toArray, hzl, List.take_length]
          refine kQ4 _ _ (LCg.CompEnd.intro F12 N12 ((rl2, W.listOf rvs.toArray rn) :: (LL + 1, co2) :: (D6, LCg.lst (sv qs)) :: rest) sub7 ⟨off10.1, off10.2.1, ⟨Ne.symm off12.2.1, Ne.symm off12.2.2.1, Ne.symm off12.2.2.2.1⟩, off10.2.2⟩ trivial
            ⟨Ws ++ [(D6, (sv qs).length, qs)], _, rfl, by rw [List.map_append]; rfl, ?_, words_end (f := fun j => ((newN Al Be Sz).drop (j * 3)).take 3) hwW hq2 hps⟩)
          intro x hx
          rcases List.mem_append.mp hx with hx | hx
          · exact (hW x hx).grow put3
          · rw [List.mem_singleton.mp hx]
            exact line_new hq2 hz0 hz3 hzb (.tail _ (.tail _ (.head _)))
      case kFin =>
        rintro ys led ⟨Ws, rest, rfl, rfl, hW, hwW⟩ D h10 tk10 F10 N10 off10
        refine kQ3 _ _ ?_
        clear kQ3
        dsimp only
        repeat' ((fail_if_success (with_reducible show wpAny _ _ (eval (PySem.Expr.ListComp _ _ _ _) _) _ _ _)); (first | (k_unfold; (try dsimp only)) | walk1 | (dsimp only; walk1)))
        refine wp_hideQ fun Q6 kQ6 => ?_
        refine LCg.ListComp_U (F₀ := F10) (by with_unfolding_all rfl) (by decide) (by rfl) (by decide) (by rfl) ?_
        repeat' ((fail_if_success (with_reducible show LCg.CompSrc _ _ _ _ _ _ _ _ _ _ _ _ _ _)); (first | (k_unfold; (try dsimp only)) | walk1 | (dsimp only; walk1)))
        have hWl : Ws.length = (Sz + 2) / 3 := by
          have := congrArg List.length hwW
          rwa [wordsOf, List.length_map, List.length_map, List.length_range] at this
        refine LCg.CompSrc.ledger rfl F10 N10 (.head _) (by rw [List.size_toArray, List.length_map, sizeLine_eq]; omega) fun g => ?_
        refine compU_fold (fun j ys led => led = _ ∧ ∃ qs : List (Str × Tok), ys = sv qs ∧ qs.map (·.1) = ((wordsOf Ws).take j).map lineP ∧ ∀ p ∈ qs, p.1.length ≤ 3000) ⟨rfl, [], rfl, rfl, nofun⟩ ?pTurn ?pFin
        case pTurn =>
          rintro j v I1 oI1 C1 oC1 D1 m₃ h12 tk12 E5 ys led hj hv ⟨rfl, qs, rfl, hqs, hql⟩ hC1 hm1 F12 N12 off12 ne12
          dsimp only
          refine wp_hide fun Q5 E5' kQ5 _ => ?_
          obtain ⟨x, hx, rfl⟩ := get_line hv
          obtain ⟨hx1, hx2, hx3, hx4⟩ := hW x (List.mem_of_getElem? hx)
          repeat' ((fail_if_success (with_reducible show wpAny _ _ (PySem.call _ _ _) _ _ _)); (first | (k_unfold; (try dsimp only)) | walk1 | (dsimp only; walk1)))
          have hwl : ∀ y ∈ x.2.2.map (·.1), y.length ≤ 200 := by
            intro y hy; obtain ⟨p, hp, rfl⟩ := List.mem_map.mp hy; exact hx4 p hp
          have hwn : (x.2.2.map (·.1)).length ≤ 10 := by rw [List.length_map]; exact hx3
          refine join_listW (kso_isList N12 (.tail _ (.tail _ (.tail _ (.tail _ hx1)))) rfl) (strs_sv x.2.2) (by decide +kernel) (weight_ok hwl hwn (by decide)) fun tJ kJ => ?_
          have hll := lineP_len hwl hwn
          repeat' ((fail_if_success (with_reducible show wpAny _ _ (binaryOp _ _ _) _ _ _)); (first | (k_unfold; (try dsimp only)) | walk1 | (dsimp only; walk1)))
          refine add_str (fun tK kK => ?_) (by rw [sizeLine_eq]; have := line_sum hll; omega)
          exact kQ5 _ _ (LCg.CompEnd.intro F12 N12 _ (fun _ h => h) off12 (.inr ⟨_, .head _, rfl, _, rfl⟩) ⟨rfl, _, sv_snoc _ _ _, plain_snoc hqs hx, plain_all hql hll⟩)
        case pFin =>
          rintro ys led ⟨rfl, qs, rfl, hqs, hql⟩ D6 h12 tk12 F12 N12 off12
          refine kQ6 _ _ ?_
          clear kQ6
          dsimp only
          have hw3 : wordsOf Ws = (ch3 (newN Al Be Sz)).map (List.map wordF) := by
            rw [hwW, ← chunks, newN_len]
          rw [List.size_toArray, List.length_map, List.take_of_length_le (by rw [wordsOf, List.length_map]; exact Nat.le_refl _), hw3] at hqs
          have hqn : (qs.map (·.1)).length ≤ 10 := by
            rw [hqs, List.length_map, ← hw3, wordsOf, List.length_map]; omega
          have hqb : ∀ y ∈ qs.map (·.1), y.length ≤ 3000 := by
            intro y hy; obtain ⟨p, hp, rfl⟩ := List.mem_map.mp hy; exact hql p hp
          repeat' ((fail_if_success (with_reducible show wpAny _ _ (PySem.call _ _ _) _ _ _)); (first | (k_unfold; (try dsimp only)) | walk1 | (dsimp only; walk1)))
          refine join_listW (kso_isList N12 (.head _) rfl) (strs_sv qs) (by decide +kernel) (weight_ok hqb hqn (by decide)) fun tJ kJ => ?_
          repeat' ((fail_if_success (with_reducible show wpAny _ _ (binaryOp _ _ _) _ _ _)); (first | (k_unfold; (try dsimp only)) | walk1 | (dsimp only; walk1)))
          have hsum : (Txt.join (Str.ofString "") (qs.map (·.1))).length ≤ 30000 := by
            have e1 := glue_len (Str.ofString "") (qs.map (·.1))
            have e2 := weight_ok hqb hqn (by decide)
            have e3 := fmt_l0
            rw [e3] at e1
            have e4 := weight_le hqb
            omega
          refine add_str (fun tK kK => ?_) (by rw [sizeLine_eq, S_end, S_len]; simp only [List.length_cons, List.length_nil]; omega)
          have hlen8 : (allL (newN Al Be Sz)).length ≤ 100000 := by
            have e := congrArg Str.length (plain_all2 (newN Al Be Sz))
            rw [← hqs, S_len, Str.length_append, S_end, S_len] at e
            simp only [List.length_cons, List.length_nil] at e
            omega
          rw [hqs, plain_all2]
          generalize hal : allL (newN Al Be Sz) = al at *
          dsimp only
          repeat' ((fail_if_success (with_reducible show wpAny _ _ (PySem.call _ _ _) _ _ _)); (first | (k_unfold; (try dsimp only)) | walk1 | (dsimp only; walk1)))
          have hlaw : textF (Str.ofString "") 0 (wordsOf Ws) ++ Txt.mul (fmtR (Str.ofString "A") none true) 3 = S al := by
            rw [hw3, law_all2 fun x hx => (newN_lt hA hB hA2 hB2 hS2 x hx).1, hal]
          have hlaw2 : (textF (Str.ofString "") 0 (wordsOf Ws)).length + (Txt.mul (fmtR (Str.ofString "A") none true) 3).length ≤ 100000 := by
            have e := congrArg Str.length hlaw
            rw [Str.length_append, S_len] at e
            omega
          refine' Ctr.useS (c_written w D _ Ws _ (.tail _ (.head _)) (fun x hx => (hW x hx).grow fun p hp => .tail _ (.tail _ hp)) (by rw [hWl]; omega)) ?z15x1 ?z15x2 ?z15x3 ?z15x4 ?z15x5 ?z15x6 ?z15x7 ?z15x8 ?_
          case z15x1 => k_asm
          case z15x2 => k_asm
          case z15x3 => k_asm
          case z15x4 => k_asm
          case z15x5 => k_asm
          case z15x6 => exact rfl
          case z15x7 => ktr_room
          case z15x8 => ktr_units
          intro tL h13 tk13 F13 N13
          try dsimp only
          repeat' ((fail_if_success (with_reducible show wpAny _ _ (PySem.call _ _ _) _ _ _)); (first | (k_unfold; (try dsimp only)) | walk1 | (dsimp only; walk1)))
          refine' Ctr.useS (c_fmtN w (Str.ofString "A") _ _ (by rw [sizeLine_eq]; decide +kernel)) ?z16x1 ?z16x2 ?z16x3 ?z16x4 ?z16x5 ?z16x6 ?z16x7 ?z16x8 ?_
          case z16x1 => k_asm
          case z16x2 => k_asm
          case z16x3 => k_asm
          case z16x4 => k_asm
          case z16x5 => k_asm
          case z16x6 => exact rfl
          case z16x7 => ktr_room
          case z16x8 => ktr_units
          intro tM h14 tk14 F14 N14
          try dsimp only
          repeat' ((fail_if_success (with_reducible show wpAny _ _ (PySem.call _ _ _) _ _ _)); (first | (k_unfold; (try dsimp only)) | walk1 | (dsimp only; walk1)))
          refine' Ctr.useS (c_mulS w (fmtR (Str.ofString "A") none true) 3 _ _ _ (by unfold MulOk; decide +kernel)) ?z17x1 ?z17x2 ?z17x3 ?z17x4 ?z17x5 ?z17x6 ?z17x7 ?z17x8 ?_
          case z17x1 => k_asm
          case z17x2 => k_asm
          case z17x3 => k_asm
          case z17x4 => k_asm
          case z17x5 => k_asm
          case z17x6 => exact rfl
          case z17x7 => ktr_room
          case z17x8 => ktr_units
          intro tN h15 tk15 F15 N15
          try dsimp only
          repeat' ((fail_if_success (with_reducible show wpAny _ _ (PySem.call _ _ _) _ _ _)); (first | (k_unfold; (try dsimp only)) | walk1 | (dsimp only; walk1)))
          refine' Ctr.useS (c_concat w _ _ _ _ _ (by rw [sizeLine_eq]; omega)) ?z18x1 ?z18x2 ?z18x3 ?z18x4 ?z18x5 ?z18x6 ?z18x7 ?z18x8 ?_
          case z18x1 => k_asm
          case z18x2 => k_asm
          case z18x3 => k_asm
          case z18x4 => k_asm
          case z18x5 => k_asm
          case z18x6 => exact rfl
          case z18x7 => ktr_room
          case z18x8 => ktr_units
          intro tO h16 tk16 F16 N16
          try dsimp only
          rw [hlaw]
          repeat' ((fail_if_success (with_reducible show wpAny _ _ (eval (PySem.Expr.ListComp _ _ _ _) _) _ _ _)); (first | (k_unfold; (try dsimp only)) | walk1 | (dsimp only; walk1)))
          rename Fr _ _ _ _ => F17
          rename News _ _ _ _ => N17
          refine wp_hideQ fun Q7 kQ7 => ?_
          refine comp_text F17 (by with_unfolding_all rfl) (by decide) (by rfl) (by decide) (by rfl) ?_
          walk1
          dsimp only
          refine ⟨_, _, _, rfl, rfl, by rw [← hal]; exact all_ascii _, by rw [sizeLine_eq]; exact Nat.le_trans (Nat.le_of_eq (S_len al)) (by omega), F17, N17, fun g => ?_⟩
          refine compU_fold (fun j ys led => led = _ ∧ IntsAre ys (ci (al.take j))) ⟨rfl, .nil⟩ ?oTurn ?oFin
          case oTurn =>
            rintro j v I1 oI1 C1 oC1 D1 m₃ h18 tk18 E5 ys led hj ⟨c, u, hcu, rfl⟩ ⟨rfl, hys⟩ hC1 hm1 F18 N18 off18 ne18
            dsimp only
            refine wp_hide fun Q5 E5' kQ5 _ => ?_
            repeat' ((first | (k_unfold; (try dsimp only)) | walk1 | (dsimp only; walk1)))
            exact kQ5 _ _ (LCg.CompEnd.intro F18 N18 _ (fun _ h => h) off18 trivial ⟨rfl, ci_snoc hys (by simpa [S] using hcu)⟩)
          case oFin =>
            rintro ys led ⟨rfl, hys⟩ D7 h18 tk18 F18 N18 off18
            refine kQ7 _ _ ?_
            clear kQ7
            dsimp only
            have hys : IntsAre ys (ci al) := by
              have e : (S al).cps.size = al.length := S_len al
              rw [e, List.take_length] at hys; exact hys
            obtain ⟨sg, hsg, hok, hval⟩ := all_segs (newN_lt hA hB hA2 hB2 hS2)
            rw [hal] at hsg
            have hlen9 : (ci al).length ≤ 100000 := by rw [ci, List.length_map]; exact hlen8
            repeat' ((fail_if_success (with_reducible show wpAny _ _ (PySem.call _ _ _) _ _ _)); (first | (k_unfold; (try dsimp only)) | walk1 | (dsimp only; walk1)))
            refine' (c_entries w D7 _ ys _ (ci al) sg (.head _) hys hsg hok hlen9) _ _ _ _ _ _ _ _ _ _ _ _ _ _ _ _ _ _ _ _ _ K0 ?e2 KX KX ?e4 TT TT rfl ?e7 ?e8 ?_
            case e2 => exact F18
            case e4 => exact N18
            case e7 => ktr_room
            case e8 => ktr_units
            rintro _ _ h19 tk19 ⟨el, en, es, rfl, rfl, hes⟩ lt19 F19 N19
            rw [hval] at hes
            have N20 := kst_newsOf (l' := (rl2, W.listOf rvs.toArray rn) :: (LL + 1, co2) :: (el, W.listOf (es.map fun p => Value.ref p.1).toArray en) :: es) N19 rest_in
            clear N19 N18 N17 N12
            dsimp only
            repeat' ((fail_if_success (with_reducible show wpAny _ _ (subscriptTail _ _ _ _) _ _ _)); (first | (k_unfold; (try dsimp only)) | walk1 | (dsimp only; walk1)))
            rename News _ _ _ _ => N21
            obtain ⟨ee, te, hex, hee⟩ := ends_at (newN Al Be Sz) _ _ _
            rw [newN_len] at hex hee
            refine' item_listR (x := .int (ee : Int) te) (kso_isList N21 (.head _) rfl) (by rw [Int.fmod_eq_emod_of_nonneg _ (by decide)]; omega) (by rw [Int.fmod_eq_emod_of_nonneg _ (by decide)]; omega) hex ?_ ?hsE
            case hsE => with_unfolding_all rfl
            dsimp only
            repeat' ((fail_if_success (with_reducible show wpAny _ _ (exec (Stmt.If _ _ _ _) _) _ _ _)); (first | (k_unfold; (try dsimp only)) | walk1 | (dsimp only; walk1)))
            rename Fr _ _ _ _ => F22
            rename News _ _ _ _ => N22
            have hel : es.length = ((valsF (newN Al Be Sz)).length + 3) / 4 := by rw [hes.length, rows_all]
            have hread := read_all (newN_lt hA hB hA2 hB2 hS2)
            have hEs : (valsF (newN Al Be Sz)).length ≤ 30 := by
              rw [valsF_len, newN_len]
              have : ∀ k, k < 3 → [0, 1, 3].getD k 0 ≤ 3 := by decide
              have := this (Sz % 3) (Nat.mod_lt _ (by decide))
              omega
            rw [hee] at F22
            generalize (valsF (newN Al Be Sz)).length = En at F22 hel hread hEs
            repeat' ((fail_if_success (with_reducible show wpAny _ _ (PySem.call _ _ _) _ _ _)); (first | (k_unfold; (try dsimp only)) | walk1 | (dsimp only; walk1)))
            all_goals try (have bad : (S al != S al) = true := by assumption
                           rw [bne_self_eq_false] at bad
                           cases bad)
            refine len_list (items := (es.map fun p => Value.ref p.1).toArray) (kso_isList N22 (.tail _ (.tail _ (.tail _ (.head _)))) rfl) (by rw [List.size_toArray, List.length_map]; omega) ?_
            rw [List.size_toArray, List.length_map, hel]
            dsimp only
            repeat' ((fail_if_success (with_reducible show wpAny _ _ (PySem.call _ _ _) _ _ _)); (first | (k_unfold; (try dsimp only)) | walk1 | (dsimp only; walk1)))
            refine' Ctr.useI (c_floordiv w (-(En : Int)) 4 _ _ _ (by decide) (by decide)) ?z19x1 ?z19x2 ?z19x3 ?z19x4 ?z19x5 ?z19x6 ?z19x7 ?z19x8 ?_
            case z19x1 => k_asm
            case z19x2 => k_asm
            case z19x3 => k_asm
            case z19x4 => k_asm
            case z19x5 => k_asm
            case z19x6 => exact rfl
            case z19x7 => ktr_room
            case z19x8 => ktr_units
            intro tP h23 tk23 F23 N23
            try dsimp only
            repeat' ((fail_if_success (with_reducible show wpAny _ _ (compareOp _ _ _) _ _ _)); (first | (k_unfold; (try dsimp only)) | walk1 | (dsimp only; walk1)))
            rw [rows_neg]
            generalize ((((En + 3) / 4 : Nat)) : Int) = R4
            repeat' ((fail_if_success (with_reducible show wpAny _ _ (PySem.call _ _ _) _ _ _)); (first | (k_unfold; (try dsimp only)) | walk1 | (dsimp only; walk1)))
            all_goals try exact absurd rfl (show R4 ≠ R4 by assumption)
            refine' Ctr.use (c_read w el en es (rowsOf (allV (newN Al Be Sz))) _ (.tail _ (.tail _ (.tail _ (.head _)))) (fun p hp => .tail _ (.tail _ (.tail _ (.tail _ hp)))) hes (rows_ok _ (all_nonneg (newN_lt hA hB hA2 hB2 hS2))) (by omega)) ?z20x1 ?z20x2 ?z20x3 ?z20x4 ?z20x5 ?z20x6 ?z20x7 ?z20x8 ?_
            case z20x1 => k_asm
            case z20x2 => k_asm
            case z20x3 => k_asm
            case z20x4 => k_asm
            case z20x5 => k_asm
            case z20x6 => exact rfl
            case z20x7 => ktr_room
            case z20x8 => ktr_units
            rintro _ _ h24 tk24 ⟨l5, vs5, n5, rfl, I5, rfl⟩ lt24 F24 N24
            try dsimp only
            rw [hread] at I5
            repeat' ((fail_if_success (with_reducible show wpAny _ _ (subscriptTail _ _ _ _) _ _ _)); (first | (k_unfold; (try dsimp only)) | walk1 | (dsimp only; walk1)))
            rename News _ _ _ _ => N25
            rename Fr _ _ _ _ => F25
            refine' kms_slice_lit (zs := rvs.drop 4) F25 N25 (kso_isList N25 (.tail _ (.tail _ (.head _))) rfl) (.int 4 _) .none (pick_end 4) ?_ ?s6s ?s6t ?s6z
            case s6s => with_unfolding_all rfl
            case s6t => kmk_pure
            case s6z => simp only [List.size_toArray, sizeLine_eq]; rw [hI2.length, List.length_map, List.length_range]; omega
            intro D8 h25 F26 N26 lt26
            have I26 := hI2.drop 4
            rw [row_new] at I26
            dsimp only
            repeat' ((fail_if_success (with_reducible show wpAny _ _ (PySem.call _ _ _) _ _ _)); (first | (k_unfold; (try dsimp only)) | walk1 | (dsimp only; walk1)))
            refine' Ctr.useI (cI (c_mod w (-(En : Int)) 4 _ _ _ (by decide)) (fill_mod En)) ?z21x1 ?z21x2 ?z21x3 ?z21x4 ?z21x5 ?z21x6 ?z21x7 ?z21x8 ?_
            case z21x1 => k_asm
            case z21x2 => k_asm
            case z21x3 => k_asm
            case z21x4 => k_asm
            case z21x5 => k_asm
            case z21x6 => exact rfl
            case z21x7 => ktr_room
            case z21x8 => ktr_units
            intro tQ h27 tk27 F27 N27
            try dsimp only
            repeat' ((fail_if_success (with_reducible show wpAny _ _ (binaryOp _ _ _) _ _ _)); (first | (k_unfold; (try dsimp only)) | walk1 | (dsimp only; walk1)))
            have hkk : 3 - (En + 3) % 4 ≤ 3 := Nat.sub_le _ _
            generalize 3 - (En + 3) % 4 = kk at hkk I5 ⊢
            refine' KM.mul (vs := [Value.int 1 _]) (ns := [1]) F27 N27 (kso_isList N27 (.head _) rfl) (.cons _ _ .nil) (by omega) (by omega) (by rw [Int.toNat_natCast]; simp only [List.length_singleton]; omega) ?_
            intro D9 h28 F28 N28 lt28 I28 _ _ _ _ _
            rw [Int.toNat_natCast] at N28 I28
            rw [ones] at I28
            dsimp only
            refine' add_lists_ints F28 N28 (kso_isList N28 (.tail _ (.tail _ (.head _))) rfl) (kso_isList N28 (.head _) rfl) I26 I28 ?_ ?s7z
            case s7z => rw [List.length_map, newN_len, List.length_replicate, sizeLine_eq]; omega
            intro h29 F29 N29 I29
            dsimp only
            refine' eq_intsK (kso_isList N29 (.tail _ (.tail _ (.tail _ (.tail _ (.head _))))) rfl) I5 ?q1 I29 ?q2 ?_
            case q1 => exact kso_isList N29 (.head _) rfl
            case q2 => ktr_units
            rw [decide_eq_true (by rfl)]
            refine kQ1 _ _ (goodW_bool F29 hg (raisesW_false (by wrow_none_raised)) (by wrow_post) rfl)
end Mine
theorem PySem.Challenge.cw_kl0476_01_holds : PySem.Challenge.rw_kl0476_01.Holds :=
  Mine.law_holds
