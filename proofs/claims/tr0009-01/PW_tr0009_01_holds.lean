import PyProof.Rows.All
import Wide.All
import OpenK.AllK
import Wide.FinOn
import PyProof.DictIter
import Lean
import PySem.Challenge.RW_tr0009_01
set_option Elab.async false
section
open PySem PySem.W PySem.W.X PyProof.Rows
set_option maxRecDepth 100000
set_option maxHeartbeats 0
set_option Elab.async false
namespace Mine
abbrev pw : Program := PySem.Challenge.pw_tr0009_01
def argsOf : List Stmt → Arguments
  | .FunctionDef _ a _ _ _ _ _ _ _ _ :: _ => a
  | _ => ⟨[], [], none, [], [], none, []⟩
def bodyOf : List Stmt → List Stmt
  | .FunctionDef _ _ b _ _ _ _ _ _ _ :: _ => b
  | _ => []
def scopeOf : List Stmt → Scope
  | .FunctionDef _ _ _ _ _ _ s _ _ _ :: _ => s
  | _ => ⟨.function, [], false, false, []⟩
def clsOf : List Stmt → List Stmt
  | .ClassDef _ _ _ b _ _ _ _ _ _ _ :: _ => b
  | _ => []
def q : Program := view PySem.Challenge.pw_tr0009_01 [0, 2, 3, 5, 6, 7, 9, 11, 12, 13, 14, 15, 16, 17]
abbrev a0S : { x : Arguments // argsOf (List.drop 0 pw.main.body) = x } := ⟨_, by conv => lhs; whnf⟩
abbrev a0 : Arguments := a0S.1
abbrev b0S : { x : List Stmt // bodyOf (List.drop 0 pw.main.body) = x } := ⟨_, by conv => lhs; whnf⟩
abbrev b0 : List Stmt := b0S.1
abbrev s0S : { x : Scope // scopeOf (List.drop 0 pw.main.body) = x } := ⟨_, by conv => lhs; whnf⟩
abbrev s0 : Scope := s0S.1
abbrev a3S : { x : Arguments // argsOf (List.drop 3 pw.main.body) = x } := ⟨_, by conv => lhs; whnf⟩
abbrev a3 : Arguments := a3S.1
abbrev b3S : { x : List Stmt // bodyOf (List.drop 3 pw.main.body) = x } := ⟨_, by conv => lhs; whnf⟩
abbrev b3 : List Stmt := b3S.1
abbrev s3S : { x : Scope // scopeOf (List.drop 3 pw.main.body) = x } := ⟨_, by conv => lhs; whnf⟩
abbrev s3 : Scope := s3S.1
abbrev a7S : { x : Arguments // argsOf (List.drop 7 pw.main.body) = x } := ⟨_, by conv => lhs; whnf⟩
abbrev a7 : Arguments := a7S.1
abbrev b7S : { x : List Stmt // bodyOf (List.drop 7 pw.main.body) = x } := ⟨_, by conv => lhs; whnf⟩
abbrev b7 : List Stmt := b7S.1
abbrev s7S : { x : Scope // scopeOf (List.drop 7 pw.main.body) = x } := ⟨_, by conv => lhs; whnf⟩
abbrev s7 : Scope := s7S.1
abbrev a9_0S : { x : Arguments // argsOf (List.drop 0 (clsOf (List.drop 9 pw.main.body))) = x } := ⟨_, by conv => lhs; whnf⟩
abbrev a9_0 : Arguments := a9_0S.1
abbrev a9_1S : { x : Arguments // argsOf (List.drop 1 (clsOf (List.drop 9 pw.main.body))) = x } := ⟨_, by conv => lhs; whnf⟩
abbrev a9_1 : Arguments := a9_1S.1
abbrev a9_2S : { x : Arguments // argsOf (List.drop 2 (clsOf (List.drop 9 pw.main.body))) = x } := ⟨_, by conv => lhs; whnf⟩
abbrev a9_2 : Arguments := a9_2S.1
abbrev a9_3S : { x : Arguments // argsOf (List.drop 3 (clsOf (List.drop 9 pw.main.body))) = x } := ⟨_, by conv => lhs; whnf⟩
abbrev a9_3 : Arguments := a9_3S.1
abbrev b9_0S : { x : List Stmt // bodyOf (List.drop 0 (clsOf (List.drop 9 pw.main.body))) = x } := ⟨_, by conv => lhs; whnf⟩
abbrev b9_0 : List Stmt := b9_0S.1
abbrev b9_1S : { x : List Stmt // bodyOf (List.drop 1 (clsOf (List.drop 9 pw.main.body))) = x } := ⟨_, by conv => lhs; whnf⟩
abbrev b9_1 : List Stmt := b9_1S.1
abbrev b9_2S : { x : List Stmt // bodyOf (List.drop 2 (clsOf (List.drop 9 pw.main.body))) = x } := ⟨_, by conv => lhs; whnf⟩
abbrev b9_2 : List Stmt := b9_2S.1
abbrev b9_3S : { x : List Stmt // bodyOf (List.drop 3 (clsOf (List.drop 9 pw.main.body))) = x } := ⟨_, by conv => lhs; whnf⟩
abbrev b9_3 : List Stmt := b9_3S.1
abbrev s9_0S : { x : Scope // scopeOf (List.drop 0 (clsOf (List.drop 9 pw.main.body))) = x } := ⟨_, by conv => lhs; whnf⟩
abbrev s9_0 : Scope := s9_0S.1
abbrev s9_1S : { x : Scope // scopeOf (List.drop 1 (clsOf (List.drop 9 pw.main.body))) = x } := ⟨_, by conv => lhs; whnf⟩
abbrev s9_1 : Scope := s9_1S.1
abbrev s9_2S : { x : Scope // scopeOf (List.drop 2 (clsOf (List.drop 9 pw.main.body))) = x } := ⟨_, by conv => lhs; whnf⟩
abbrev s9_2 : Scope := s9_2S.1
abbrev s9_3S : { x : Scope // scopeOf (List.drop 3 (clsOf (List.drop 9 pw.main.body))) = x } := ⟨_, by conv => lhs; whnf⟩
abbrev s9_3 : Scope := s9_3S.1
abbrev a11S : { x : Arguments // argsOf (List.drop 11 pw.main.body) = x } := ⟨_, by conv => lhs; whnf⟩
abbrev a11 : Arguments := a11S.1
abbrev b11S : { x : List Stmt // bodyOf (List.drop 11 pw.main.body) = x } := ⟨_, by conv => lhs; whnf⟩
abbrev b11 : List Stmt := b11S.1
abbrev s11S : { x : Scope // scopeOf (List.drop 11 pw.main.body) = x } := ⟨_, by conv => lhs; whnf⟩
abbrev s11 : Scope := s11S.1
abbrev a12S : { x : Arguments // argsOf (List.drop 12 pw.main.body) = x } := ⟨_, by conv => lhs; whnf⟩
abbrev a12 : Arguments := a12S.1
abbrev b12S : { x : List Stmt // bodyOf (List.drop 12 pw.main.body) = x } := ⟨_, by conv => lhs; whnf⟩
abbrev b12 : List Stmt := b12S.1
abbrev s12S : { x : Scope // scopeOf (List.drop 12 pw.main.body) = x } := ⟨_, by conv => lhs; whnf⟩
abbrev s12 : Scope := s12S.1
abbrev a13S : { x : Arguments // argsOf (List.drop 13 pw.main.body) = x } := ⟨_, by conv => lhs; whnf⟩
abbrev a13 : Arguments := a13S.1
abbrev b13S : { x : List Stmt // bodyOf (List.drop 13 pw.main.body) = x } := ⟨_, by conv => lhs; whnf⟩
abbrev b13 : List Stmt := b13S.1
abbrev s13S : { x : Scope // scopeOf (List.drop 13 pw.main.body) = x } := ⟨_, by conv => lhs; whnf⟩
abbrev s13 : Scope := s13S.1
abbrev a14S : { x : Arguments // argsOf (List.drop 14 pw.main.body) = x } := ⟨_, by conv => lhs; whnf⟩
abbrev a14 : Arguments := a14S.1
abbrev b14S : { x : List Stmt // bodyOf (List.drop 14 pw.main.body) = x } := ⟨_, by conv => lhs; whnf⟩
abbrev b14 : List Stmt := b14S.1
abbrev s14S : { x : Scope // scopeOf (List.drop 14 pw.main.body) = x } := ⟨_, by conv => lhs; whnf⟩
abbrev s14 : Scope := s14S.1
abbrev a15S : { x : Arguments // argsOf (List.drop 15 pw.main.body) = x } := ⟨_, by conv => lhs; whnf⟩
abbrev a15 : Arguments := a15S.1
abbrev b15S : { x : List Stmt // bodyOf (List.drop 15 pw.main.body) = x } := ⟨_, by conv => lhs; whnf⟩
abbrev b15 : List Stmt := b15S.1
abbrev s15S : { x : Scope // scopeOf (List.drop 15 pw.main.body) = x } := ⟨_, by conv => lhs; whnf⟩
abbrev s15 : Scope := s15S.1
abbrev a16S : { x : Arguments // argsOf (List.drop 16 pw.main.body) = x } := ⟨_, by conv => lhs; whnf⟩
abbrev a16 : Arguments := a16S.1
abbrev b16S : { x : List Stmt // bodyOf (List.drop 16 pw.main.body) = x } := ⟨_, by conv => lhs; whnf⟩
abbrev b16 : List Stmt := b16S.1
abbrev s16S : { x : Scope // scopeOf (List.drop 16 pw.main.body) = x } := ⟨_, by conv => lhs; whnf⟩
abbrev s16 : Scope := s16S.1
abbrev a17S : { x : Arguments // argsOf (List.drop 17 pw.main.body) = x } := ⟨_, by conv => lhs; whnf⟩
abbrev a17 : Arguments := a17S.1
abbrev b17S : { x : List Stmt // bodyOf (List.drop 17 pw.main.body) = x } := ⟨_, by conv => lhs; whnf⟩
abbrev b17 : List Stmt := b17S.1
abbrev s17S : { x : Scope // scopeOf (List.drop 17 pw.main.body) = x } := ⟨_, by conv => lhs; whnf⟩
abbrev s17 : Scope := s17S.1
noncomputable def K : PySem.Params → PySem.W.Frag :=
  (fun (x0 : @PySem.Params) => ((@Prod.mk.{0, 0} @Nat @PySem.Obj (nat_lit 2) (@PySem.Obj.mk @PySem.Value.none (@Option.none.{0} @Nat) (@PySem.Data.dict #[(@PySem.DictEntry.mk (@PySem.PyData.keyHash x0 (PySem.Str.ofString "type.__subclasses__.Exception.0")) (@PySem.Value.str (PySem.Str.ofString "type.__subclasses__.Exception.0") 281) (@PySem.Value.int (@OfNat.ofNat.{0} @Int (nat_lit 49) (@instOfNat (nat_lit 49))) 0)), (@PySem.DictEntry.mk (@PySem.PyData.keyHash x0 (PySem.Str.ofString "type.__subclasses__.Exception.n")) (@PySem.Value.str (PySem.Str.ofString "type.__subclasses__.Exception.n") 282) (@PySem.Value.int (@OfNat.ofNat.{0} @Int (nat_lit 1) (@instOfNat (nat_lit 1))) 0))] 2) #[])) :: (@Prod.mk.{0, 0} @Nat @PySem.Obj (nat_lit 3) (@PySem.Obj.mk (@PySem.Value.type "dict") (@Option.none.{0} @Nat) (@PySem.Data.dict #[(@PySem.DictEntry.mk (@PySem.PyData.keyHash x0 (PySem.Str.ofString "__name__")) (@PySem.Value.str (PySem.Str.ofString "__name__") 165) (@PySem.Value.str (PySem.Str.ofString "law_tr0009_01") 372)), (@PySem.DictEntry.mk (@PySem.PyData.keyHash x0 (PySem.Str.ofString "__doc__")) (@PySem.Value.str (PySem.Str.ofString "__doc__") 166) @PySem.Value.none), (@PySem.DictEntry.mk (@PySem.PyData.keyHash x0 (PySem.Str.ofString "__package__")) (@PySem.Value.str (PySem.Str.ofString "__package__") 167) @PySem.Value.none), (@PySem.DictEntry.mk (@PySem.PyData.keyHash x0 (PySem.Str.ofString "__loader__")) (@PySem.Value.str (PySem.Str.ofString "__loader__") 168) (@PySem.Value.builtin "__main__.__loader__#opaque")), (@PySem.DictEntry.mk (@PySem.PyData.keyHash x0 (PySem.Str.ofString "__spec__")) (@PySem.Value.str (PySem.Str.ofString "__spec__") 169) @PySem.Value.none), (@PySem.DictEntry.mk (@PySem.PyData.keyHash x0 (PySem.Str.ofString "__annotations__")) (@PySem.Value.str (PySem.Str.ofString "__annotations__") 170) (@PySem.Value.ref 6)), (@PySem.DictEntry.mk (@PySem.PyData.keyHash x0 (PySem.Str.ofString "__builtins__")) (@PySem.Value.str (PySem.Str.ofString "__builtins__") 171) (@PySem.Value.ref 4)), (@PySem.DictEntry.mk (@PySem.PyData.keyHash x0 (PySem.Str.ofString "__file__")) (@PySem.Value.str (PySem.Str.ofString "__file__") 173) (@PySem.Value.str (PySem.Str.ofString "/claim/cut.py") 172)), (@PySem.DictEntry.mk (@PySem.PyData.keyHash x0 (PySem.Str.ofString "__cached__")) (@PySem.Value.str (PySem.Str.ofString "__cached__") 174) @PySem.Value.none), (@PySem.DictEntry.mk (@PySem.PyData.keyHash x0 (PySem.Str.ofString "_wall")) (@PySem.Value.str (PySem.Str.ofString "_wall") 193) (@PySem.Value.ref 21)), (@PySem.DictEntry.mk (@PySem.PyData.keyHash x0 (PySem.Str.ofString "b1_set")) (@PySem.Value.str (PySem.Str.ofString "b1_set") 255) (@PySem.Value.ref 29)), (@PySem.DictEntry.mk (@PySem.PyData.keyHash x0 (PySem.Str.ofString "in_table_b1")) (@PySem.Value.str (PySem.Str.ofString "in_table_b1") 262) (@PySem.Value.ref 39)), (@PySem.DictEntry.mk (@PySem.PyData.keyHash x0 (PySem.Str.ofString "Error")) (@PySem.Value.str (PySem.Str.ofString "Error") 284) (@PySem.Value.ref 49)), (@PySem.DictEntry.mk (@PySem.PyData.keyHash x0 (PySem.Str.ofString "error_reply")) (@PySem.Value.str (PySem.Str.ofString "error_reply") 300) (@PySem.Value.ref 62)), (@PySem.DictEntry.mk (@PySem.PyData.keyHash x0 (PySem.Str.ofString "parse257")) (@PySem.Value.str (PySem.Str.ofString "parse257") 311) (@PySem.Value.ref 71)), (@PySem.DictEntry.mk (@PySem.PyData.keyHash x0 (PySem.Str.ofString "_netrclex")) (@PySem.Value.str (PySem.Str.ofString "_netrclex") 371) (@PySem.Value.ref 109)), (@PySem.DictEntry.mk (@PySem.PyData.keyHash x0 (PySem.Str.ofString "_law_bare")) (@PySem.Value.str (PySem.Str.ofString "_law_bare") 379) (@PySem.Value.ref 118)), (@PySem.DictEntry.mk (@PySem.PyData.keyHash x0 (PySem.Str.ofString "_law_stream")) (@PySem.Value.str (PySem.Str.ofString "_law_stream") 388) (@PySem.Value.ref 125)), (@PySem.DictEntry.mk (@PySem.PyData.keyHash x0 (PySem.Str.ofString "_law_word")) (@PySem.Value.str (PySem.Str.ofString "_law_word") 395) (@PySem.Value.ref 132)), (@PySem.DictEntry.mk (@PySem.PyData.keyHash x0 (PySem.Str.ofString "_law_name")) (@PySem.Value.str (PySem.Str.ofString "_law_name") 402) (@PySem.Value.ref 139)), (@PySem.DictEntry.mk (@PySem.PyData.keyHash x0 (PySem.Str.ofString "_law_readings")) (@PySem.Value.str (PySem.Str.ofString "_law_readings") 412) (@PySem.Value.ref 146)), (@PySem.DictEntry.mk (@PySem.PyData.keyHash x0 (PySem.Str.ofString "_law_ones")) (@PySem.Value.str (PySem.Str.ofString "_law_ones") 418) (@PySem.Value.ref 151)), (@PySem.DictEntry.mk (@PySem.PyData.keyHash x0 (PySem.Str.ofString "law")) (@PySem.Value.str (PySem.Str.ofString "law") 424) (@PySem.Value.ref 156))] 23) #[])) :: (@Prod.mk.{0, 0} @Nat @PySem.Obj (nat_lit 6) (@PySem.Obj.mk (@PySem.Value.type "dict") (@Option.none.{0} @Nat) (@PySem.Data.dict #[] 0) #[])) :: (@Prod.mk.{0, 0} @Nat @PySem.Obj (nat_lit 15) (@PySem.Obj.mk (@PySem.Value.type "tuple") (@Option.none.{0} @Nat) (@PySem.Data.seq #[] 0) #[])) :: (@Prod.mk.{0, 0} @Nat @PySem.Obj (nat_lit 17) (@PySem.Obj.mk (@PySem.Value.type "tuple") (@Option.none.{0} @Nat) (@PySem.Data.seq #[(@PySem.Value.str (PySem.Str.ofString "k") 190)] 0) #[])) :: (@Prod.mk.{0, 0} @Nat @PySem.Obj (nat_lit 18) (@PySem.Obj.mk (@PySem.Value.type "tuple") (@Option.none.{0} @Nat) (@PySem.Data.seq #[] 0) #[])) :: (@Prod.mk.{0, 0} @Nat @PySem.Obj (nat_lit 20) (@PySem.Obj.mk (@PySem.Value.type "code") (@Option.none.{0} @Nat) (@PySem.Data.fields #[(@PySem.Value.str (PySem.Str.ofString "_wall") 187), (@PySem.Value.str (PySem.Str.ofString "_wall") 188), (@PySem.Value.str (PySem.Str.ofString "/claim/cut.py") 189), (@PySem.Value.int (@OfNat.ofNat.{0} @Int (nat_lit 1) (@instOfNat (nat_lit 1))) 0), (@PySem.Value.int (@OfNat.ofNat.{0} @Int (nat_lit 1) (@instOfNat (nat_lit 1))) 0), (@PySem.Value.int (@OfNat.ofNat.{0} @Int (nat_lit 0) (@instOfNat (nat_lit 0))) 0), (@PySem.Value.int (@OfNat.ofNat.{0} @Int (nat_lit 0) (@instOfNat (nat_lit 0))) 0), (@PySem.Value.int (@OfNat.ofNat.{0} @Int (nat_lit 3) (@instOfNat (nat_lit 3))) 0), (@PySem.Value.ref 15), (@PySem.Value.bool @Bool.true), (@PySem.Value.int (@OfNat.ofNat.{0} @Int (nat_lit 181) (@instOfNat (nat_lit 181))) 0), (@PySem.Value.ref 16), @PySem.Value.none, (@PySem.Value.ref 17), (@PySem.Value.ref 18), (@PySem.Value.ref 19), (@PySem.Value.int (@OfNat.ofNat.{0} @Int (nat_lit 191) (@instOfNat (nat_lit 191))) 0), (@PySem.Value.int (@OfNat.ofNat.{0} @Int (nat_lit 1) (@instOfNat (nat_lit 1))) 0), (@PySem.Value.str (PySem.Str.ofString "/claim/cut.py") 192)]) #[])) :: (@Prod.mk.{0, 0} @Nat @PySem.Obj (nat_lit 21) (@PySem.Obj.mk (@PySem.Value.type "function") (@Option.none.{0} @Nat) (@PySem.Data.func (@PySem.FuncData.mk (PySem.Str.ofString "_wall") (PySem.Str.ofString "_wall") a0 (@PySem.FuncBody.stmts b0) s0 3 [] @PySem.Value.none @PySem.Value.none @PySem.Value.none (@PySem.Value.str (PySem.Str.ofString "__main__") 164) (@Option.none.{0} @Nat) (@PySem.Value.ref 20) @PySem.Value.none 0)) #[])) :: (@Prod.mk.{0, 0} @Nat @PySem.Obj (nat_lit 29) (@PySem.Obj.mk (@PySem.Value.type "set") (@Option.none.{0} @Nat) (@PySem.Data.set #[(@Prod.mk.{0, 0} @Int @PySem.Value (@OfNat.ofNat.{0} @Int (nat_lit 65024) (@instOfNat (nat_lit 65024))) (@PySem.Value.int (@OfNat.ofNat.{0} @Int (nat_lit 65024) (@instOfNat (nat_lit 65024))) 212)), (@Prod.mk.{0, 0} @Int @PySem.Value (@OfNat.ofNat.{0} @Int (nat_lit 65025) (@instOfNat (nat_lit 65025))) (@PySem.Value.int (@OfNat.ofNat.{0} @Int (nat_lit 65025) (@instOfNat (nat_lit 65025))) 213)), (@Prod.mk.{0, 0} @Int @PySem.Value (@OfNat.ofNat.{0} @Int (nat_lit 65026) (@instOfNat (nat_lit 65026))) (@PySem.Value.int (@OfNat.ofNat.{0} @Int (nat_lit 65026) (@instOfNat (nat_lit 65026))) 214)), (@Prod.mk.{0, 0} @Int @PySem.Value (@OfNat.ofNat.{0} @Int (nat_lit 65027) (@instOfNat (nat_lit 65027))) (@PySem.Value.int (@OfNat.ofNat.{0} @Int (nat_lit 65027) (@instOfNat (nat_lit 65027))) 215)), (@Prod.mk.{0, 0} @Int @PySem.Value (@OfNat.ofNat.{0} @Int (nat_lit 65028) (@instOfNat (nat_lit 65028))) (@PySem.Value.int (@OfNat.ofNat.{0} @Int (nat_lit 65028) (@instOfNat (nat_lit 65028))) 216)), (@Prod.mk.{0, 0} @Int @PySem.Value (@OfNat.ofNat.{0} @Int (nat_lit 65029) (@instOfNat (nat_lit 65029))) (@PySem.Value.int (@OfNat.ofNat.{0} @Int (nat_lit 65029) (@instOfNat (nat_lit 65029))) 217)), (@Prod.mk.{0, 0} @Int @PySem.Value (@OfNat.ofNat.{0} @Int (nat_lit 6150) (@instOfNat (nat_lit 6150))) (@PySem.Value.int (@OfNat.ofNat.{0} @Int (nat_lit 6150) (@instOfNat (nat_lit 6150))) 198)), (@Prod.mk.{0, 0} @Int @PySem.Value (@OfNat.ofNat.{0} @Int (nat_lit 65030) (@instOfNat (nat_lit 65030))) (@PySem.Value.int (@OfNat.ofNat.{0} @Int (nat_lit 65030) (@instOfNat (nat_lit 65030))) 218)), (@Prod.mk.{0, 0} @Int @PySem.Value (@OfNat.ofNat.{0} @Int (nat_lit 65031) (@instOfNat (nat_lit 65031))) (@PySem.Value.int (@OfNat.ofNat.{0} @Int (nat_lit 65031) (@instOfNat (nat_lit 65031))) 219)), (@Prod.mk.{0, 0} @Int @PySem.Value (@OfNat.ofNat.{0} @Int (nat_lit 65032) (@instOfNat (nat_lit 65032))) (@PySem.Value.int (@OfNat.ofNat.{0} @Int (nat_lit 65032) (@instOfNat (nat_lit 65032))) 220)), (@Prod.mk.{0, 0} @Int @PySem.Value (@OfNat.ofNat.{0} @Int (nat_lit 65033) (@instOfNat (nat_lit 65033))) (@PySem.Value.int (@OfNat.ofNat.{0} @Int (nat_lit 65033) (@instOfNat (nat_lit 65033))) 221)), (@Prod.mk.{0, 0} @Int @PySem.Value (@OfNat.ofNat.{0} @Int (nat_lit 6155) (@instOfNat (nat_lit 6155))) (@PySem.Value.int (@OfNat.ofNat.{0} @Int (nat_lit 6155) (@instOfNat (nat_lit 6155))) 199)), (@Prod.mk.{0, 0} @Int @PySem.Value (@OfNat.ofNat.{0} @Int (nat_lit 6156) (@instOfNat (nat_lit 6156))) (@PySem.Value.int (@OfNat.ofNat.{0} @Int (nat_lit 6156) (@instOfNat (nat_lit 6156))) 200)), (@Prod.mk.{0, 0} @Int @PySem.Value (@OfNat.ofNat.{0} @Int (nat_lit 6157) (@instOfNat (nat_lit 6157))) (@PySem.Value.int (@OfNat.ofNat.{0} @Int (nat_lit 6157) (@instOfNat (nat_lit 6157))) 201)), (@Prod.mk.{0, 0} @Int @PySem.Value (@OfNat.ofNat.{0} @Int (nat_lit 8203) (@instOfNat (nat_lit 8203))) (@PySem.Value.int (@OfNat.ofNat.{0} @Int (nat_lit 8203) (@instOfNat (nat_lit 8203))) 202)), (@Prod.mk.{0, 0} @Int @PySem.Value (@OfNat.ofNat.{0} @Int (nat_lit 8204) (@instOfNat (nat_lit 8204))) (@PySem.Value.int (@OfNat.ofNat.{0} @Int (nat_lit 8204) (@instOfNat (nat_lit 8204))) 203)), (@Prod.mk.{0, 0} @Int @PySem.Value (@OfNat.ofNat.{0} @Int (nat_lit 8205) (@instOfNat (nat_lit 8205))) (@PySem.Value.int (@OfNat.ofNat.{0} @Int (nat_lit 8205) (@instOfNat (nat_lit 8205))) 204)), (@Prod.mk.{0, 0} @Int @PySem.Value (@OfNat.ofNat.{0} @Int (nat_lit 65034) (@instOfNat (nat_lit 65034))) (@PySem.Value.int (@OfNat.ofNat.{0} @Int (nat_lit 65034) (@instOfNat (nat_lit 65034))) 222)), (@Prod.mk.{0, 0} @Int @PySem.Value (@OfNat.ofNat.{0} @Int (nat_lit 65035) (@instOfNat (nat_lit 65035))) (@PySem.Value.int (@OfNat.ofNat.{0} @Int (nat_lit 65035) (@instOfNat (nat_lit 65035))) 223)), (@Prod.mk.{0, 0} @Int @PySem.Value (@OfNat.ofNat.{0} @Int (nat_lit 65036) (@instOfNat (nat_lit 65036))) (@PySem.Value.int (@OfNat.ofNat.{0} @Int (nat_lit 65036) (@instOfNat (nat_lit 65036))) 224)), (@Prod.mk.{0, 0} @Int @PySem.Value (@OfNat.ofNat.{0} @Int (nat_lit 65037) (@instOfNat (nat_lit 65037))) (@PySem.Value.int (@OfNat.ofNat.{0} @Int (nat_lit 65037) (@instOfNat (nat_lit 65037))) 225)), (@Prod.mk.{0, 0} @Int @PySem.Value (@OfNat.ofNat.{0} @Int (nat_lit 65038) (@instOfNat (nat_lit 65038))) (@PySem.Value.int (@OfNat.ofNat.{0} @Int (nat_lit 65038) (@instOfNat (nat_lit 65038))) 226)), (@Prod.mk.{0, 0} @Int @PySem.Value (@OfNat.ofNat.{0} @Int (nat_lit 65039) (@instOfNat (nat_lit 65039))) (@PySem.Value.int (@OfNat.ofNat.{0} @Int (nat_lit 65039) (@instOfNat (nat_lit 65039))) 227)), (@Prod.mk.{0, 0} @Int @PySem.Value (@OfNat.ofNat.{0} @Int (nat_lit 173) (@instOfNat (nat_lit 173))) (@PySem.Value.int (@OfNat.ofNat.{0} @Int (nat_lit 173) (@instOfNat (nat_lit 173))) 196)), (@Prod.mk.{0, 0} @Int @PySem.Value (@OfNat.ofNat.{0} @Int (nat_lit 847) (@instOfNat (nat_lit 847))) (@PySem.Value.int (@OfNat.ofNat.{0} @Int (nat_lit 847) (@instOfNat (nat_lit 847))) 197)), (@Prod.mk.{0, 0} @Int @PySem.Value (@OfNat.ofNat.{0} @Int (nat_lit 8288) (@instOfNat (nat_lit 8288))) (@PySem.Value.int (@OfNat.ofNat.{0} @Int (nat_lit 8288) (@instOfNat (nat_lit 8288))) 205)), (@Prod.mk.{0, 0} @Int @PySem.Value (@OfNat.ofNat.{0} @Int (nat_lit 65279) (@instOfNat (nat_lit 65279))) (@PySem.Value.int (@OfNat.ofNat.{0} @Int (nat_lit 65279) (@instOfNat (nat_lit 65279))) 206))] 29 (@PySem.SetTable.mk 127 #[0, 1, 2, 3, 4, 5, 6, 7, 8, 9, 10, 11, 12, 13, 14, 15, 16, 17, 18, 19, 20, 21, 22, 45, 79, 96, 127] #[] 0 (@Bool.not (@PySem.Params.followText x0 "set-order")) 2 @Bool.true)) #[])) :: (@Prod.mk.{0, 0} @Nat @PySem.Obj (nat_lit 33) (@PySem.Obj.mk (@PySem.Value.type "tuple") (@Option.none.{0} @Nat) (@PySem.Data.seq #[] 0) #[])) :: (@Prod.mk.{0, 0} @Nat @PySem.Obj (nat_lit 35) (@PySem.Obj.mk (@PySem.Value.type "tuple") (@Option.none.{0} @Nat) (@PySem.Data.seq #[(@PySem.Value.str (PySem.Str.ofString "code") 259)] 0) #[])) :: (@Prod.mk.{0, 0} @Nat @PySem.Obj (nat_lit 36) (@PySem.Obj.mk (@PySem.Value.type "tuple") (@Option.none.{0} @Nat) (@PySem.Data.seq #[] 0) #[])) :: (@Prod.mk.{0, 0} @Nat @PySem.Obj (nat_lit 38) (@PySem.Obj.mk (@PySem.Value.type "code") (@Option.none.{0} @Nat) (@PySem.Data.fields #[(@PySem.Value.str (PySem.Str.ofString "in_table_b1") 256), (@PySem.Value.str (PySem.Str.ofString "in_table_b1") 257), (@PySem.Value.str (PySem.Str.ofString "/claim/cut.py") 258), (@PySem.Value.int (@OfNat.ofNat.{0} @Int (nat_lit 6) (@instOfNat (nat_lit 6))) 0), (@PySem.Value.int (@OfNat.ofNat.{0} @Int (nat_lit 1) (@instOfNat (nat_lit 1))) 0), (@PySem.Value.int (@OfNat.ofNat.{0} @Int (nat_lit 0) (@instOfNat (nat_lit 0))) 0), (@PySem.Value.int (@OfNat.ofNat.{0} @Int (nat_lit 0) (@instOfNat (nat_lit 0))) 0), (@PySem.Value.int (@OfNat.ofNat.{0} @Int (nat_lit 3) (@instOfNat (nat_lit 3))) 0), (@PySem.Value.ref 33), (@PySem.Value.bool @Bool.true), (@PySem.Value.int (@OfNat.ofNat.{0} @Int (nat_lit 181) (@instOfNat (nat_lit 181))) 0), (@PySem.Value.ref 34), @PySem.Value.none, (@PySem.Value.ref 35), (@PySem.Value.ref 36), (@PySem.Value.ref 37), (@PySem.Value.int (@OfNat.ofNat.{0} @Int (nat_lit 260) (@instOfNat (nat_lit 260))) 0), (@PySem.Value.int (@OfNat.ofNat.{0} @Int (nat_lit 6) (@instOfNat (nat_lit 6))) 0), (@PySem.Value.str (PySem.Str.ofString "/claim/cut.py") 261)]) #[])) :: (@Prod.mk.{0, 0} @Nat @PySem.Obj (nat_lit 39) (@PySem.Obj.mk (@PySem.Value.type "function") (@Option.none.{0} @Nat) (@PySem.Data.func (@PySem.FuncData.mk (PySem.Str.ofString "in_table_b1") (PySem.Str.ofString "in_table_b1") a3 (@PySem.FuncBody.stmts b3) s3 3 [] @PySem.Value.none @PySem.Value.none @PySem.Value.none (@PySem.Value.str (PySem.Str.ofString "cpy313.stringprep") 194) (@Option.none.{0} @Nat) (@PySem.Value.ref 38) @PySem.Value.none 0)) #[])) :: (@Prod.mk.{0, 0} @Nat @PySem.Obj (nat_lit 40) (@PySem.Obj.mk (@PySem.Value.type "tuple") (@Option.none.{0} @Nat) (@PySem.Data.seq #[(@PySem.Value.type "Exception")] 0) #[])) :: (@Prod.mk.{0, 0} @Nat @PySem.Obj (nat_lit 47) (@PySem.Obj.mk (@PySem.Value.type "tuple") (@Option.none.{0} @Nat) (@PySem.Data.seq #[] 0) #[])) :: (@Prod.mk.{0, 0} @Nat @PySem.Obj (nat_lit 48) (@PySem.Obj.mk (@PySem.Value.type "dict") (@Option.none.{0} @Nat) (@PySem.Data.dict #[(@PySem.DictEntry.mk (@PySem.PyData.keyHash x0 (PySem.Str.ofString "__module__")) (@PySem.Value.str (PySem.Str.ofString "__module__") 272) (@PySem.Value.str (PySem.Str.ofString "cpy313.ftplib") 263)), (@PySem.DictEntry.mk (@PySem.PyData.keyHash x0 (PySem.Str.ofString "__firstlineno__")) (@PySem.Value.str (PySem.Str.ofString "__firstlineno__") 276) (@PySem.Value.int (@OfNat.ofNat.{0} @Int (nat_lit 9) (@instOfNat (nat_lit 9))) 275)), (@PySem.DictEntry.mk (@PySem.PyData.keyHash x0 (PySem.Str.ofString "__static_attributes__")) (@PySem.Value.str (PySem.Str.ofString "__static_attributes__") 277) (@PySem.Value.ref 47)), (@PySem.DictEntry.mk (@PySem.PyData.keyHash x0 (PySem.Str.ofString "__weakref__")) (@PySem.Value.str (PySem.Str.ofString "__weakref__") 279) (@PySem.Value.ref 50)), (@PySem.DictEntry.mk (@PySem.PyData.keyHash x0 (PySem.Str.ofString "__doc__")) (@PySem.Value.str (PySem.Str.ofString "__doc__") 280) @PySem.Value.none)] 3) #[])) :: (@Prod.mk.{0, 0} @Nat @PySem.Obj (nat_lit 49) (@PySem.Obj.mk (@PySem.Value.type "type") (@Option.none.{0} @Nat) (@PySem.Data.cls (@PySem.ClassData.mk (PySem.Str.ofString "Error") [(@PySem.Value.type "Exception")] [(@PySem.Value.ref 49), (@PySem.Value.type "Exception"), (@PySem.Value.type "BaseException"), (@PySem.Value.type "object")] 48 (PySem.Str.ofString "Error") @Bool.true [] [(@PySem.Value.ref 62)] @Bool.false (@Option.none.{0} @Bool) @Bool.false)) #[(@Option.some.{0} @PySem.Value (@PySem.Value.ref 40)), (@Option.none.{0} @PySem.Value), (@Option.some.{0} @PySem.Value (@PySem.Value.str (PySem.Str.ofString "Error") 265)), (@Option.some.{0} @PySem.Value (@PySem.Value.str (PySem.Str.ofString "Error") 273)), (@Option.some.{0} @PySem.Value (@PySem.Value.builtin "Exception.__new__")), (@Option.some.{0} @PySem.Value (@PySem.Value.bool @Bool.true))])) :: (@Prod.mk.{0, 0} @Nat @PySem.Obj (nat_lit 50) (@PySem.Obj.mk (@PySem.Value.type "getset_descriptor") (@Option.none.{0} @Nat) (@PySem.Data.fields #[(@PySem.Value.str (PySem.Str.ofString "__weakref__") 278), (@PySem.Value.ref 49), (@PySem.Value.builtin "ExceptionGroup.__weakref__"), @PySem.Value.none]) #[])) :: (@Prod.mk.{0, 0} @Nat @PySem.Obj (nat_lit 53) (@PySem.Obj.mk (@PySem.Value.type "tuple") (@Option.none.{0} @Nat) (@PySem.Data.seq #[(@PySem.Value.ref 49)] 0) #[])) :: (@Prod.mk.{0, 0} @Nat @PySem.Obj (nat_lit 60) (@PySem.Obj.mk (@PySem.Value.type "tuple") (@Option.none.{0} @Nat) (@PySem.Data.seq #[] 0) #[])) :: (@Prod.mk.{0, 0} @Nat @PySem.Obj (nat_lit 61) (@PySem.Obj.mk (@PySem.Value.type "dict") (@Option.none.{0} @Nat) (@PySem.Data.dict #[(@PySem.DictEntry.mk (@PySem.PyData.keyHash x0 (PySem.Str.ofString "__module__")) (@PySem.Value.str (PySem.Str.ofString "__module__") 292) (@PySem.Value.str (PySem.Str.ofString "cpy313.ftplib") 263)), (@PySem.DictEntry.mk (@PySem.PyData.keyHash x0 (PySem.Str.ofString "__firstlineno__")) (@PySem.Value.str (PySem.Str.ofString "__firstlineno__") 296) (@PySem.Value.int (@OfNat.ofNat.{0} @Int (nat_lit 11) (@instOfNat (nat_lit 11))) 295)), (@PySem.DictEntry.mk (@PySem.PyData.keyHash x0 (PySem.Str.ofString "__static_attributes__")) (@PySem.Value.str (PySem.Str.ofString "__static_attributes__") 297) (@PySem.Value.ref 60)), (@PySem.DictEntry.mk (@PySem.PyData.keyHash x0 (PySem.Str.ofString "__doc__")) (@PySem.Value.str (PySem.Str.ofString "__doc__") 298) @PySem.Value.none)] 2) #[])) :: (@Prod.mk.{0, 0} @Nat @PySem.Obj (nat_lit 62) (@PySem.Obj.mk (@PySem.Value.type "type") (@Option.none.{0} @Nat) (@PySem.Data.cls (@PySem.ClassData.mk (PySem.Str.ofString "error_reply") [(@PySem.Value.ref 49)] [(@PySem.Value.ref 62), (@PySem.Value.ref 49), (@PySem.Value.type "Exception"), (@PySem.Value.type "BaseException"), (@PySem.Value.type "object")] 61 (PySem.Str.ofString "error_reply") @Bool.true [] [] @Bool.false (@Option.none.{0} @Bool) @Bool.false)) #[(@Option.some.{0} @PySem.Value (@PySem.Value.ref 53)), (@Option.none.{0} @PySem.Value), (@Option.some.{0} @PySem.Value (@PySem.Value.str (PySem.Str.ofString "error_reply") 285)), (@Option.some.{0} @PySem.Value (@PySem.Value.str (PySem.Str.ofString "error_reply") 293)), (@Option.some.{0} @PySem.Value (@PySem.Value.builtin "Exception.__new__")), (@Option.some.{0} @PySem.Value (@PySem.Value.bool @Bool.true))])) :: (@Prod.mk.{0, 0} @Nat @PySem.Obj (nat_lit 65) (@PySem.Obj.mk (@PySem.Value.type "tuple") (@Option.none.{0} @Nat) (@PySem.Data.seq #[] 0) #[])) :: (@Prod.mk.{0, 0} @Nat @PySem.Obj (nat_lit 67) (@PySem.Obj.mk (@PySem.Value.type "tuple") (@Option.none.{0} @Nat) (@PySem.Data.seq #[(@PySem.Value.str (PySem.Str.ofString "resp") 304), (@PySem.Value.str (PySem.Str.ofString "dirname") 305), (@PySem.Value.str (PySem.Str.ofString "i") 306), (@PySem.Value.str (PySem.Str.ofString "n") 307), (@PySem.Value.str (PySem.Str.ofString "c") 308)] 0) #[])) :: (@Prod.mk.{0, 0} @Nat @PySem.Obj (nat_lit 68) (@PySem.Obj.mk (@PySem.Value.type "tuple") (@Option.none.{0} @Nat) (@PySem.Data.seq #[] 0) #[])) :: (@Prod.mk.{0, 0} @Nat @PySem.Obj (nat_lit 70) (@PySem.Obj.mk (@PySem.Value.type "code") (@Option.none.{0} @Nat) (@PySem.Data.fields #[(@PySem.Value.str (PySem.Str.ofString "parse257") 301), (@PySem.Value.str (PySem.Str.ofString "parse257") 302), (@PySem.Value.str (PySem.Str.ofString "/claim/cut.py") 303), (@PySem.Value.int (@OfNat.ofNat.{0} @Int (nat_lit 13) (@instOfNat (nat_lit 13))) 0), (@PySem.Value.int (@OfNat.ofNat.{0} @Int (nat_lit 1) (@instOfNat (nat_lit 1))) 0), (@PySem.Value.int (@OfNat.ofNat.{0} @Int (nat_lit 0) (@instOfNat (nat_lit 0))) 0), (@PySem.Value.int (@OfNat.ofNat.{0} @Int (nat_lit 0) (@instOfNat (nat_lit 0))) 0), (@PySem.Value.int (@OfNat.ofNat.{0} @Int (nat_lit 3) (@instOfNat (nat_lit 3))) 0), (@PySem.Value.ref 65), (@PySem.Value.bool @Bool.true), (@PySem.Value.int (@OfNat.ofNat.{0} @Int (nat_lit 181) (@instOfNat (nat_lit 181))) 0), (@PySem.Value.ref 66), @PySem.Value.none, (@PySem.Value.ref 67), (@PySem.Value.ref 68), (@PySem.Value.ref 69), (@PySem.Value.int (@OfNat.ofNat.{0} @Int (nat_lit 309) (@instOfNat (nat_lit 309))) 0), (@PySem.Value.int (@OfNat.ofNat.{0} @Int (nat_lit 13) (@instOfNat (nat_lit 13))) 0), (@PySem.Value.str (PySem.Str.ofString "/claim/cut.py") 310)]) #[])) :: (@Prod.mk.{0, 0} @Nat @PySem.Obj (nat_lit 71) (@PySem.Obj.mk (@PySem.Value.type "function") (@Option.none.{0} @Nat) (@PySem.Data.func (@PySem.FuncData.mk (PySem.Str.ofString "parse257") (PySem.Str.ofString "parse257") a7 (@PySem.FuncBody.stmts b7) s7 3 [] @PySem.Value.none @PySem.Value.none @PySem.Value.none (@PySem.Value.str (PySem.Str.ofString "cpy313.ftplib") 263) (@Option.none.{0} @Nat) (@PySem.Value.ref 70) @PySem.Value.none 0)) #[])) :: (@Prod.mk.{0, 0} @Nat @PySem.Obj (nat_lit 79) (@PySem.Obj.mk (@PySem.Value.type "tuple") (@Option.none.{0} @Nat) (@PySem.Data.seq #[] 0) #[])) :: (@Prod.mk.{0, 0} @Nat @PySem.Obj (nat_lit 81) (@PySem.Obj.mk (@PySem.Value.type "tuple") (@Option.none.{0} @Nat) (@PySem.Data.seq #[(@PySem.Value.str (PySem.Str.ofString "self") 329), (@PySem.Value.str (PySem.Str.ofString "fp") 330)] 0) #[])) :: (@Prod.mk.{0, 0} @Nat @PySem.Obj (nat_lit 82) (@PySem.Obj.mk (@PySem.Value.type "tuple") (@Option.none.{0} @Nat) (@PySem.Data.seq #[] 0) #[])) :: (@Prod.mk.{0, 0} @Nat @PySem.Obj (nat_lit 84) (@PySem.Obj.mk (@PySem.Value.type "code") (@Option.none.{0} @Nat) (@PySem.Data.fields #[(@PySem.Value.str (PySem.Str.ofString "__init__") 326), (@PySem.Value.str (PySem.Str.ofString "_netrclex.__init__") 327), (@PySem.Value.str (PySem.Str.ofString "/claim/cut.py") 328), (@PySem.Value.int (@OfNat.ofNat.{0} @Int (nat_lit 33) (@instOfNat (nat_lit 33))) 0), (@PySem.Value.int (@OfNat.ofNat.{0} @Int (nat_lit 2) (@instOfNat (nat_lit 2))) 0), (@PySem.Value.int (@OfNat.ofNat.{0} @Int (nat_lit 0) (@instOfNat (nat_lit 0))) 0), (@PySem.Value.int (@OfNat.ofNat.{0} @Int (nat_lit 0) (@instOfNat (nat_lit 0))) 0), (@PySem.Value.int (@OfNat.ofNat.{0} @Int (nat_lit 3) (@instOfNat (nat_lit 3))) 0), (@PySem.Value.ref 79), (@PySem.Value.bool @Bool.true), (@PySem.Value.int (@OfNat.ofNat.{0} @Int (nat_lit 181) (@instOfNat (nat_lit 181))) 0), (@PySem.Value.ref 80), @PySem.Value.none, (@PySem.Value.ref 81), (@PySem.Value.ref 82), (@PySem.Value.ref 83), (@PySem.Value.int (@OfNat.ofNat.{0} @Int (nat_lit 331) (@instOfNat (nat_lit 331))) 0), (@PySem.Value.int (@OfNat.ofNat.{0} @Int (nat_lit 33) (@instOfNat (nat_lit 33))) 0), (@PySem.Value.str (PySem.Str.ofString "/claim/cut.py") 332)]) #[])) :: (@Prod.mk.{0, 0} @Nat @PySem.Obj (nat_lit 85) (@PySem.Obj.mk (@PySem.Value.type "function") (@Option.none.{0} @Nat) (@PySem.Data.func (@PySem.FuncData.mk (PySem.Str.ofString "__init__") (PySem.Str.ofString "_netrclex.__init__") a9_0 (@PySem.FuncBody.stmts b9_0) s9_0 3 [] @PySem.Value.none @PySem.Value.none @PySem.Value.none (@PySem.Value.str (PySem.Str.ofString "cpy313.netrc") 312) (@Option.none.{0} @Nat) (@PySem.Value.ref 84) @PySem.Value.none 0)) #[])) :: (@Prod.mk.{0, 0} @Nat @PySem.Obj (nat_lit 86) (@PySem.Obj.mk (@PySem.Value.type "tuple") (@Option.none.{0} @Nat) (@PySem.Data.seq #[] 0) #[])) :: (@Prod.mk.{0, 0} @Nat @PySem.Obj (nat_lit 88) (@PySem.Obj.mk (@PySem.Value.type "tuple") (@Option.none.{0} @Nat) (@PySem.Data.seq #[(@PySem.Value.str (PySem.Str.ofString "self") 337), (@PySem.Value.str (PySem.Str.ofString "ch") 338)] 0) #[])) :: (@Prod.mk.{0, 0} @Nat @PySem.Obj (nat_lit 89) (@PySem.Obj.mk (@PySem.Value.type "tuple") (@Option.none.{0} @Nat) (@PySem.Data.seq #[] 0) #[])) :: (@Prod.mk.{0, 0} @Nat @PySem.Obj (nat_lit 91) (@PySem.Obj.mk (@PySem.Value.type "code") (@Option.none.{0} @Nat) (@PySem.Data.fields #[(@PySem.Value.str (PySem.Str.ofString "_read_char") 334), (@PySem.Value.str (PySem.Str.ofString "_netrclex._read_char") 335), (@PySem.Value.str (PySem.Str.ofString "/claim/cut.py") 336), (@PySem.Value.int (@OfNat.ofNat.{0} @Int (nat_lit 39) (@instOfNat (nat_lit 39))) 0), (@PySem.Value.int (@OfNat.ofNat.{0} @Int (nat_lit 1) (@instOfNat (nat_lit 1))) 0), (@PySem.Value.int (@OfNat.ofNat.{0} @Int (nat_lit 0) (@instOfNat (nat_lit 0))) 0), (@PySem.Value.int (@OfNat.ofNat.{0} @Int (nat_lit 0) (@instOfNat (nat_lit 0))) 0), (@PySem.Value.int (@OfNat.ofNat.{0} @Int (nat_lit 3) (@instOfNat (nat_lit 3))) 0), (@PySem.Value.ref 86), (@PySem.Value.bool @Bool.true), (@PySem.Value.int (@OfNat.ofNat.{0} @Int (nat_lit 181) (@instOfNat (nat_lit 181))) 0), (@PySem.Value.ref 87), @PySem.Value.none, (@PySem.Value.ref 88), (@PySem.Value.ref 89), (@PySem.Value.ref 90), (@PySem.Value.int (@OfNat.ofNat.{0} @Int (nat_lit 339) (@instOfNat (nat_lit 339))) 0), (@PySem.Value.int (@OfNat.ofNat.{0} @Int (nat_lit 39) (@instOfNat (nat_lit 39))) 0), (@PySem.Value.str (PySem.Str.ofString "/claim/cut.py") 340)]) #[])) :: (@Prod.mk.{0, 0} @Nat @PySem.Obj (nat_lit 92) (@PySem.Obj.mk (@PySem.Value.type "function") (@Option.none.{0} @Nat) (@PySem.Data.func (@PySem.FuncData.mk (PySem.Str.ofString "_read_char") (PySem.Str.ofString "_netrclex._read_char") a9_1 (@PySem.FuncBody.stmts b9_1) s9_1 3 [] @PySem.Value.none @PySem.Value.none @PySem.Value.none (@PySem.Value.str (PySem.Str.ofString "cpy313.netrc") 312) (@Option.none.{0} @Nat) (@PySem.Value.ref 91) @PySem.Value.none 0)) #[])) :: (@Prod.mk.{0, 0} @Nat @PySem.Obj (nat_lit 93) (@PySem.Obj.mk (@PySem.Value.type "tuple") (@Option.none.{0} @Nat) (@PySem.Data.seq #[] 0) #[])) :: (@Prod.mk.{0, 0} @Nat @PySem.Obj (nat_lit 95) (@PySem.Obj.mk (@PySem.Value.type "tuple") (@Option.none.{0} @Nat) (@PySem.Data.seq #[(@PySem.Value.str (PySem.Str.ofString "self") 345), (@PySem.Value.str (PySem.Str.ofString "token") 346), (@PySem.Value.str (PySem.Str.ofString "fiter") 347), (@PySem.Value.str (PySem.Str.ofString "ch") 348)] 0) #[])) :: (@Prod.mk.{0, 0} @Nat @PySem.Obj (nat_lit 96) (@PySem.Obj.mk (@PySem.Value.type "tuple") (@Option.none.{0} @Nat) (@PySem.Data.seq #[] 0) #[])) :: (@Prod.mk.{0, 0} @Nat @PySem.Obj (nat_lit 98) (@PySem.Obj.mk (@PySem.Value.type "code") (@Option.none.{0} @Nat) (@PySem.Data.fields #[(@PySem.Value.str (PySem.Str.ofString "get_token") 342), (@PySem.Value.str (PySem.Str.ofString "_netrclex.get_token") 343), (@PySem.Value.str (PySem.Str.ofString "/claim/cut.py") 344), (@PySem.Value.int (@OfNat.ofNat.{0} @Int (nat_lit 45) (@instOfNat (nat_lit 45))) 0), (@PySem.Value.int (@OfNat.ofNat.{0} @Int (nat_lit 1) (@instOfNat (nat_lit 1))) 0), (@PySem.Value.int (@OfNat.ofNat.{0} @Int (nat_lit 0) (@instOfNat (nat_lit 0))) 0), (@PySem.Value.int (@OfNat.ofNat.{0} @Int (nat_lit 0) (@instOfNat (nat_lit 0))) 0), (@PySem.Value.int (@OfNat.ofNat.{0} @Int (nat_lit 3) (@instOfNat (nat_lit 3))) 0), (@PySem.Value.ref 93), (@PySem.Value.bool @Bool.true), (@PySem.Value.int (@OfNat.ofNat.{0} @Int (nat_lit 181) (@instOfNat (nat_lit 181))) 0), (@PySem.Value.ref 94), @PySem.Value.none, (@PySem.Value.ref 95), (@PySem.Value.ref 96), (@PySem.Value.ref 97), (@PySem.Value.int (@OfNat.ofNat.{0} @Int (nat_lit 349) (@instOfNat (nat_lit 349))) 0), (@PySem.Value.int (@OfNat.ofNat.{0} @Int (nat_lit 45) (@instOfNat (nat_lit 45))) 0), (@PySem.Value.str (PySem.Str.ofString "/claim/cut.py") 350)]) #[])) :: (@Prod.mk.{0, 0} @Nat @PySem.Obj (nat_lit 99) (@PySem.Obj.mk (@PySem.Value.type "function") (@Option.none.{0} @Nat) (@PySem.Data.func (@PySem.FuncData.mk (PySem.Str.ofString "get_token") (PySem.Str.ofString "_netrclex.get_token") a9_2 (@PySem.FuncBody.stmts b9_2) s9_2 3 [] @PySem.Value.none @PySem.Value.none @PySem.Value.none (@PySem.Value.str (PySem.Str.ofString "cpy313.netrc") 312) (@Option.none.{0} @Nat) (@PySem.Value.ref 98) @PySem.Value.none 0)) #[])) :: (@Prod.mk.{0, 0} @Nat @PySem.Obj (nat_lit 100) (@PySem.Obj.mk (@PySem.Value.type "tuple") (@Option.none.{0} @Nat) (@PySem.Data.seq #[] 0) #[])) :: (@Prod.mk.{0, 0} @Nat @PySem.Obj (nat_lit 102) (@PySem.Obj.mk (@PySem.Value.type "tuple") (@Option.none.{0} @Nat) (@PySem.Data.seq #[(@PySem.Value.str (PySem.Str.ofString "self") 355), (@PySem.Value.str (PySem.Str.ofString "token") 356)] 0) #[])) :: (@Prod.mk.{0, 0} @Nat @PySem.Obj (nat_lit 103) (@PySem.Obj.mk (@PySem.Value.type "tuple") (@Option.none.{0} @Nat) (@PySem.Data.seq #[] 0) #[])) :: (@Prod.mk.{0, 0} @Nat @PySem.Obj (nat_lit 105) (@PySem.Obj.mk (@PySem.Value.type "code") (@Option.none.{0} @Nat) (@PySem.Data.fields #[(@PySem.Value.str (PySem.Str.ofString "push_token") 352), (@PySem.Value.str (PySem.Str.ofString "_netrclex.push_token") 353), (@PySem.Value.str (PySem.Str.ofString "/claim/cut.py") 354), (@PySem.Value.int (@OfNat.ofNat.{0} @Int (nat_lit 72) (@instOfNat (nat_lit 72))) 0), (@PySem.Value.int (@OfNat.ofNat.{0} @Int (nat_lit 2) (@instOfNat (nat_lit 2))) 0), (@PySem.Value.int (@OfNat.ofNat.{0} @Int (nat_lit 0) (@instOfNat (nat_lit 0))) 0), (@PySem.Value.int (@OfNat.ofNat.{0} @Int (nat_lit 0) (@instOfNat (nat_lit 0))) 0), (@PySem.Value.int (@OfNat.ofNat.{0} @Int (nat_lit 3) (@instOfNat (nat_lit 3))) 0), (@PySem.Value.ref 100), (@PySem.Value.bool @Bool.true), (@PySem.Value.int (@OfNat.ofNat.{0} @Int (nat_lit 181) (@instOfNat (nat_lit 181))) 0), (@PySem.Value.ref 101), @PySem.Value.none, (@PySem.Value.ref 102), (@PySem.Value.ref 103), (@PySem.Value.ref 104), (@PySem.Value.int (@OfNat.ofNat.{0} @Int (nat_lit 357) (@instOfNat (nat_lit 357))) 0), (@PySem.Value.int (@OfNat.ofNat.{0} @Int (nat_lit 72) (@instOfNat (nat_lit 72))) 0), (@PySem.Value.str (PySem.Str.ofString "/claim/cut.py") 358)]) #[])) :: (@Prod.mk.{0, 0} @Nat @PySem.Obj (nat_lit 106) (@PySem.Obj.mk (@PySem.Value.type "function") (@Option.none.{0} @Nat) (@PySem.Data.func (@PySem.FuncData.mk (PySem.Str.ofString "push_token") (PySem.Str.ofString "_netrclex.push_token") a9_3 (@PySem.FuncBody.stmts b9_3) s9_3 3 [] @PySem.Value.none @PySem.Value.none @PySem.Value.none (@PySem.Value.str (PySem.Str.ofString "cpy313.netrc") 312) (@Option.none.{0} @Nat) (@PySem.Value.ref 105) @PySem.Value.none 0)) #[])) :: (@Prod.mk.{0, 0} @Nat @PySem.Obj (nat_lit 107) (@PySem.Obj.mk (@PySem.Value.type "tuple") (@Option.none.{0} @Nat) (@PySem.Data.seq #[(@PySem.Value.str (PySem.Str.ofString "instream") 360), (@PySem.Value.str (PySem.Str.ofString "lineno") 361), (@PySem.Value.str (PySem.Str.ofString "pushback") 362), (@PySem.Value.str (PySem.Str.ofString "whitespace") 363)] 0) #[])) :: (@Prod.mk.{0, 0} @Nat @PySem.Obj (nat_lit 108) (@PySem.Obj.mk (@PySem.Value.type "dict") (@Option.none.{0} @Nat) (@PySem.Data.dict #[(@PySem.DictEntry.mk (@PySem.PyData.keyHash x0 (PySem.Str.ofString "__module__")) (@PySem.Value.str (PySem.Str.ofString "__module__") 321) (@PySem.Value.str (PySem.Str.ofString "cpy313.netrc") 312)), (@PySem.DictEntry.mk (@PySem.PyData.keyHash x0 (PySem.Str.ofString "__firstlineno__")) (@PySem.Value.str (PySem.Str.ofString "__firstlineno__") 325) (@PySem.Value.int (@OfNat.ofNat.{0} @Int (nat_lit 31) (@instOfNat (nat_lit 31))) 324)), (@PySem.DictEntry.mk (@PySem.PyData.keyHash x0 (PySem.Str.ofString "__init__")) (@PySem.Value.str (PySem.Str.ofString "__init__") 333) (@PySem.Value.ref 85)), (@PySem.DictEntry.mk (@PySem.PyData.keyHash x0 (PySem.Str.ofString "_read_char")) (@PySem.Value.str (PySem.Str.ofString "_read_char") 341) (@PySem.Value.ref 92)), (@PySem.DictEntry.mk (@PySem.PyData.keyHash x0 (PySem.Str.ofString "get_token")) (@PySem.Value.str (PySem.Str.ofString "get_token") 351) (@PySem.Value.ref 99)), (@PySem.DictEntry.mk (@PySem.PyData.keyHash x0 (PySem.Str.ofString "push_token")) (@PySem.Value.str (PySem.Str.ofString "push_token") 359) (@PySem.Value.ref 106)), (@PySem.DictEntry.mk (@PySem.PyData.keyHash x0 (PySem.Str.ofString "__static_attributes__")) (@PySem.Value.str (PySem.Str.ofString "__static_attributes__") 364) (@PySem.Value.ref 107)), (@PySem.DictEntry.mk (@PySem.PyData.keyHash x0 (PySem.Str.ofString "__dict__")) (@PySem.Value.str (PySem.Str.ofString "__dict__") 366) (@PySem.Value.ref 110)), (@PySem.DictEntry.mk (@PySem.PyData.keyHash x0 (PySem.Str.ofString "__weakref__")) (@PySem.Value.str (PySem.Str.ofString "__weakref__") 368) (@PySem.Value.ref 111)), (@PySem.DictEntry.mk (@PySem.PyData.keyHash x0 (PySem.Str.ofString "__doc__")) (@PySem.Value.str (PySem.Str.ofString "__doc__") 369) @PySem.Value.none)] 4) #[])) :: (@Prod.mk.{0, 0} @Nat @PySem.Obj (nat_lit 109) (@PySem.Obj.mk (@PySem.Value.type "type") (@Option.none.{0} @Nat) (@PySem.Data.cls (@PySem.ClassData.mk (PySem.Str.ofString "_netrclex") [(@PySem.Value.type "object")] [(@PySem.Value.ref 109), (@PySem.Value.type "object")] 108 (PySem.Str.ofString "_netrclex") @Bool.true [] [] @Bool.false (@Option.none.{0} @Bool) @Bool.false)) #[(@Option.none.{0} @PySem.Value), (@Option.none.{0} @PySem.Value), (@Option.some.{0} @PySem.Value (@PySem.Value.str (PySem.Str.ofString "_netrclex") 314)), (@Option.some.{0} @PySem.Value (@PySem.Value.str (PySem.Str.ofString "_netrclex") 322)), (@Option.some.{0} @PySem.Value (@PySem.Value.builtin "object.__new__")), (@Option.some.{0} @PySem.Value (@PySem.Value.bool @Bool.true))])) :: (@Prod.mk.{0, 0} @Nat @PySem.Obj (nat_lit 110) (@PySem.Obj.mk (@PySem.Value.type "getset_descriptor") (@Option.none.{0} @Nat) (@PySem.Data.fields #[(@PySem.Value.str (PySem.Str.ofString "__dict__") 365), (@PySem.Value.ref 109), (@PySem.Value.builtin "function.__dict__"), (@PySem.Value.builtin "function.__dict__#set")]) #[])) :: (@Prod.mk.{0, 0} @Nat @PySem.Obj (nat_lit 111) (@PySem.Obj.mk (@PySem.Value.type "getset_descriptor") (@Option.none.{0} @Nat) (@PySem.Data.fields #[(@PySem.Value.str (PySem.Str.ofString "__weakref__") 367), (@PySem.Value.ref 109), (@PySem.Value.builtin "ExceptionGroup.__weakref__"), @PySem.Value.none]) #[])) :: (@Prod.mk.{0, 0} @Nat @PySem.Obj (nat_lit 114) (@PySem.Obj.mk (@PySem.Value.type "tuple") (@Option.none.{0} @Nat) (@PySem.Data.seq #[] 0) #[])) :: (@Prod.mk.{0, 0} @Nat @PySem.Obj (nat_lit 117) (@PySem.Obj.mk (@PySem.Value.type "code") (@Option.none.{0} @Nat) (@PySem.Data.fields #[(@PySem.Value.str (PySem.Str.ofString "_law_bare") 374), (@PySem.Value.str (PySem.Str.ofString "_law_bare") 375), (@PySem.Value.str (PySem.Str.ofString "/claim/cut.py") 376), (@PySem.Value.int (@OfNat.ofNat.{0} @Int (nat_lit 75) (@instOfNat (nat_lit 75))) 0), (@PySem.Value.int (@OfNat.ofNat.{0} @Int (nat_lit 1) (@instOfNat (nat_lit 1))) 0), (@PySem.Value.int (@OfNat.ofNat.{0} @Int (nat_lit 0) (@instOfNat (nat_lit 0))) 0), (@PySem.Value.int (@OfNat.ofNat.{0} @Int (nat_lit 0) (@instOfNat (nat_lit 0))) 0), (@PySem.Value.int (@OfNat.ofNat.{0} @Int (nat_lit 3) (@instOfNat (nat_lit 3))) 0), (@PySem.Value.ref 114), (@PySem.Value.bool @Bool.true), (@PySem.Value.int (@OfNat.ofNat.{0} @Int (nat_lit 181) (@instOfNat (nat_lit 181))) 0), (@PySem.Value.ref 115), @PySem.Value.none, @PySem.Value.none, @PySem.Value.none, (@PySem.Value.ref 116), (@PySem.Value.int (@OfNat.ofNat.{0} @Int (nat_lit 377) (@instOfNat (nat_lit 377))) 0), (@PySem.Value.int (@OfNat.ofNat.{0} @Int (nat_lit 75) (@instOfNat (nat_lit 75))) 0), (@PySem.Value.str (PySem.Str.ofString "/claim/cut.py") 378)]) #[])) :: (@Prod.mk.{0, 0} @Nat @PySem.Obj (nat_lit 118) (@PySem.Obj.mk (@PySem.Value.type "function") (@Option.none.{0} @Nat) (@PySem.Data.func (@PySem.FuncData.mk (PySem.Str.ofString "_law_bare") (PySem.Str.ofString "_law_bare") a11 (@PySem.FuncBody.stmts b11) s11 3 [] @PySem.Value.none @PySem.Value.none @PySem.Value.none (@PySem.Value.str (PySem.Str.ofString "law_tr0009_01") 372) (@Option.none.{0} @Nat) (@PySem.Value.ref 117) @PySem.Value.none 0)) #[])) :: (@Prod.mk.{0, 0} @Nat @PySem.Obj (nat_lit 119) (@PySem.Obj.mk (@PySem.Value.type "tuple") (@Option.none.{0} @Nat) (@PySem.Data.seq #[] 0) #[])) :: (@Prod.mk.{0, 0} @Nat @PySem.Obj (nat_lit 121) (@PySem.Obj.mk (@PySem.Value.type "tuple") (@Option.none.{0} @Nat) (@PySem.Data.seq #[(@PySem.Value.str (PySem.Str.ofString "text") 383), (@PySem.Value.str (PySem.Str.ofString "stream") 384)] 0) #[])) :: (@Prod.mk.{0, 0} @Nat @PySem.Obj (nat_lit 122) (@PySem.Obj.mk (@PySem.Value.type "tuple") (@Option.none.{0} @Nat) (@PySem.Data.seq #[(@PySem.Value.str (PySem.Str.ofString "signs") 385)] 0) #[])) :: (@Prod.mk.{0, 0} @Nat @PySem.Obj (nat_lit 124) (@PySem.Obj.mk (@PySem.Value.type "code") (@Option.none.{0} @Nat) (@PySem.Data.fields #[(@PySem.Value.str (PySem.Str.ofString "_law_stream") 380), (@PySem.Value.str (PySem.Str.ofString "_law_stream") 381), (@PySem.Value.str (PySem.Str.ofString "/claim/cut.py") 382), (@PySem.Value.int (@OfNat.ofNat.{0} @Int (nat_lit 77) (@instOfNat (nat_lit 77))) 0), (@PySem.Value.int (@OfNat.ofNat.{0} @Int (nat_lit 1) (@instOfNat (nat_lit 1))) 0), (@PySem.Value.int (@OfNat.ofNat.{0} @Int (nat_lit 0) (@instOfNat (nat_lit 0))) 0), (@PySem.Value.int (@OfNat.ofNat.{0} @Int (nat_lit 0) (@instOfNat (nat_lit 0))) 0), (@PySem.Value.int (@OfNat.ofNat.{0} @Int (nat_lit 3) (@instOfNat (nat_lit 3))) 0), (@PySem.Value.ref 119), (@PySem.Value.bool @Bool.true), (@PySem.Value.int (@OfNat.ofNat.{0} @Int (nat_lit 181) (@instOfNat (nat_lit 181))) 0), (@PySem.Value.ref 120), @PySem.Value.none, (@PySem.Value.ref 121), (@PySem.Value.ref 122), (@PySem.Value.ref 123), (@PySem.Value.int (@OfNat.ofNat.{0} @Int (nat_lit 386) (@instOfNat (nat_lit 386))) 0), (@PySem.Value.int (@OfNat.ofNat.{0} @Int (nat_lit 77) (@instOfNat (nat_lit 77))) 0), (@PySem.Value.str (PySem.Str.ofString "/claim/cut.py") 387)]) #[])) :: (@Prod.mk.{0, 0} @Nat @PySem.Obj (nat_lit 125) (@PySem.Obj.mk (@PySem.Value.type "function") (@Option.none.{0} @Nat) (@PySem.Data.func (@PySem.FuncData.mk (PySem.Str.ofString "_law_stream") (PySem.Str.ofString "_law_stream") a12 (@PySem.FuncBody.stmts b12) s12 3 [] @PySem.Value.none @PySem.Value.none @PySem.Value.none (@PySem.Value.str (PySem.Str.ofString "law_tr0009_01") 372) (@Option.none.{0} @Nat) (@PySem.Value.ref 124) @PySem.Value.none 0)) #[])) :: (@Prod.mk.{0, 0} @Nat @PySem.Obj (nat_lit 126) (@PySem.Obj.mk (@PySem.Value.type "tuple") (@Option.none.{0} @Nat) (@PySem.Data.seq #[] 0) #[])) :: (@Prod.mk.{0, 0} @Nat @PySem.Obj (nat_lit 128) (@PySem.Obj.mk (@PySem.Value.type "tuple") (@Option.none.{0} @Nat) (@PySem.Data.seq #[(@PySem.Value.str (PySem.Str.ofString "text") 392)] 0) #[])) :: (@Prod.mk.{0, 0} @Nat @PySem.Obj (nat_lit 129) (@PySem.Obj.mk (@PySem.Value.type "tuple") (@Option.none.{0} @Nat) (@PySem.Data.seq #[] 0) #[])) :: (@Prod.mk.{0, 0} @Nat @PySem.Obj (nat_lit 131) (@PySem.Obj.mk (@PySem.Value.type "code") (@Option.none.{0} @Nat) (@PySem.Data.fields #[(@PySem.Value.str (PySem.Str.ofString "_law_word") 389), (@PySem.Value.str (PySem.Str.ofString "_law_word") 390), (@PySem.Value.str (PySem.Str.ofString "/claim/cut.py") 391), (@PySem.Value.int (@OfNat.ofNat.{0} @Int (nat_lit 82) (@instOfNat (nat_lit 82))) 0), (@PySem.Value.int (@OfNat.ofNat.{0} @Int (nat_lit 1) (@instOfNat (nat_lit 1))) 0), (@PySem.Value.int (@OfNat.ofNat.{0} @Int (nat_lit 0) (@instOfNat (nat_lit 0))) 0), (@PySem.Value.int (@OfNat.ofNat.{0} @Int (nat_lit 0) (@instOfNat (nat_lit 0))) 0), (@PySem.Value.int (@OfNat.ofNat.{0} @Int (nat_lit 3) (@instOfNat (nat_lit 3))) 0), (@PySem.Value.ref 126), (@PySem.Value.bool @Bool.true), (@PySem.Value.int (@OfNat.ofNat.{0} @Int (nat_lit 181) (@instOfNat (nat_lit 181))) 0), (@PySem.Value.ref 127), @PySem.Value.none, (@PySem.Value.ref 128), (@PySem.Value.ref 129), (@PySem.Value.ref 130), (@PySem.Value.int (@OfNat.ofNat.{0} @Int (nat_lit 393) (@instOfNat (nat_lit 393))) 0), (@PySem.Value.int (@OfNat.ofNat.{0} @Int (nat_lit 82) (@instOfNat (nat_lit 82))) 0), (@PySem.Value.str (PySem.Str.ofString "/claim/cut.py") 394)]) #[])) :: (@Prod.mk.{0, 0} @Nat @PySem.Obj (nat_lit 132) (@PySem.Obj.mk (@PySem.Value.type "function") (@Option.none.{0} @Nat) (@PySem.Data.func (@PySem.FuncData.mk (PySem.Str.ofString "_law_word") (PySem.Str.ofString "_law_word") a13 (@PySem.FuncBody.stmts b13) s13 3 [] @PySem.Value.none @PySem.Value.none @PySem.Value.none (@PySem.Value.str (PySem.Str.ofString "law_tr0009_01") 372) (@Option.none.{0} @Nat) (@PySem.Value.ref 131) @PySem.Value.none 0)) #[])) :: (@Prod.mk.{0, 0} @Nat @PySem.Obj (nat_lit 133) (@PySem.Obj.mk (@PySem.Value.type "tuple") (@Option.none.{0} @Nat) (@PySem.Data.seq #[] 0) #[])) :: (@Prod.mk.{0, 0} @Nat @PySem.Obj (nat_lit 135) (@PySem.Obj.mk (@PySem.Value.type "tuple") (@Option.none.{0} @Nat) (@PySem.Data.seq #[(@PySem.Value.str (PySem.Str.ofString "text") 399)] 0) #[])) :: (@Prod.mk.{0, 0} @Nat @PySem.Obj (nat_lit 136) (@PySem.Obj.mk (@PySem.Value.type "tuple") (@Option.none.{0} @Nat) (@PySem.Data.seq #[] 0) #[])) :: (@Prod.mk.{0, 0} @Nat @PySem.Obj (nat_lit 138) (@PySem.Obj.mk (@PySem.Value.type "code") (@Option.none.{0} @Nat) (@PySem.Data.fields #[(@PySem.Value.str (PySem.Str.ofString "_law_name") 396), (@PySem.Value.str (PySem.Str.ofString "_law_name") 397), (@PySem.Value.str (PySem.Str.ofString "/claim/cut.py") 398), (@PySem.Value.int (@OfNat.ofNat.{0} @Int (nat_lit 84) (@instOfNat (nat_lit 84))) 0), (@PySem.Value.int (@OfNat.ofNat.{0} @Int (nat_lit 1) (@instOfNat (nat_lit 1))) 0), (@PySem.Value.int (@OfNat.ofNat.{0} @Int (nat_lit 0) (@instOfNat (nat_lit 0))) 0), (@PySem.Value.int (@OfNat.ofNat.{0} @Int (nat_lit 0) (@instOfNat (nat_lit 0))) 0), (@PySem.Value.int (@OfNat.ofNat.{0} @Int (nat_lit 3) (@instOfNat (nat_lit 3))) 0), (@PySem.Value.ref 133), (@PySem.Value.bool @Bool.true), (@PySem.Value.int (@OfNat.ofNat.{0} @Int (nat_lit 181) (@instOfNat (nat_lit 181))) 0), (@PySem.Value.ref 134), @PySem.Value.none, (@PySem.Value.ref 135), (@PySem.Value.ref 136), (@PySem.Value.ref 137), (@PySem.Value.int (@OfNat.ofNat.{0} @Int (nat_lit 400) (@instOfNat (nat_lit 400))) 0), (@PySem.Value.int (@OfNat.ofNat.{0} @Int (nat_lit 84) (@instOfNat (nat_lit 84))) 0), (@PySem.Value.str (PySem.Str.ofString "/claim/cut.py") 401)]) #[])) :: (@Prod.mk.{0, 0} @Nat @PySem.Obj (nat_lit 139) (@PySem.Obj.mk (@PySem.Value.type "function") (@Option.none.{0} @Nat) (@PySem.Data.func (@PySem.FuncData.mk (PySem.Str.ofString "_law_name") (PySem.Str.ofString "_law_name") a14 (@PySem.FuncBody.stmts b14) s14 3 [] @PySem.Value.none @PySem.Value.none @PySem.Value.none (@PySem.Value.str (PySem.Str.ofString "law_tr0009_01") 372) (@Option.none.{0} @Nat) (@PySem.Value.ref 138) @PySem.Value.none 0)) #[])) :: (@Prod.mk.{0, 0} @Nat @PySem.Obj (nat_lit 140) (@PySem.Obj.mk (@PySem.Value.type "tuple") (@Option.none.{0} @Nat) (@PySem.Data.seq #[] 0) #[])) :: (@Prod.mk.{0, 0} @Nat @PySem.Obj (nat_lit 142) (@PySem.Obj.mk (@PySem.Value.type "tuple") (@Option.none.{0} @Nat) (@PySem.Data.seq #[(@PySem.Value.str (PySem.Str.ofString "text") 406), (@PySem.Value.str (PySem.Str.ofString "reader") 407), (@PySem.Value.str (PySem.Str.ofString "row") 408), (@PySem.Value.str (PySem.Str.ofString "turn") 409)] 0) #[])) :: (@Prod.mk.{0, 0} @Nat @PySem.Obj (nat_lit 143) (@PySem.Obj.mk (@PySem.Value.type "tuple") (@Option.none.{0} @Nat) (@PySem.Data.seq #[] 0) #[])) :: (@Prod.mk.{0, 0} @Nat @PySem.Obj (nat_lit 145) (@PySem.Obj.mk (@PySem.Value.type "code") (@Option.none.{0} @Nat) (@PySem.Data.fields #[(@PySem.Value.str (PySem.Str.ofString "_law_readings") 403), (@PySem.Value.str (PySem.Str.ofString "_law_readings") 404), (@PySem.Value.str (PySem.Str.ofString "/claim/cut.py") 405), (@PySem.Value.int (@OfNat.ofNat.{0} @Int (nat_lit 86) (@instOfNat (nat_lit 86))) 0), (@PySem.Value.int (@OfNat.ofNat.{0} @Int (nat_lit 2) (@instOfNat (nat_lit 2))) 0), (@PySem.Value.int (@OfNat.ofNat.{0} @Int (nat_lit 0) (@instOfNat (nat_lit 0))) 0), (@PySem.Value.int (@OfNat.ofNat.{0} @Int (nat_lit 0) (@instOfNat (nat_lit 0))) 0), (@PySem.Value.int (@OfNat.ofNat.{0} @Int (nat_lit 3) (@instOfNat (nat_lit 3))) 0), (@PySem.Value.ref 140), (@PySem.Value.bool @Bool.true), (@PySem.Value.int (@OfNat.ofNat.{0} @Int (nat_lit 181) (@instOfNat (nat_lit 181))) 0), (@PySem.Value.ref 141), @PySem.Value.none, (@PySem.Value.ref 142), (@PySem.Value.ref 143), (@PySem.Value.ref 144), (@PySem.Value.int (@OfNat.ofNat.{0} @Int (nat_lit 410) (@instOfNat (nat_lit 410))) 0), (@PySem.Value.int (@OfNat.ofNat.{0} @Int (nat_lit 86) (@instOfNat (nat_lit 86))) 0), (@PySem.Value.str (PySem.Str.ofString "/claim/cut.py") 411)]) #[])) :: (@Prod.mk.{0, 0} @Nat @PySem.Obj (nat_lit 146) (@PySem.Obj.mk (@PySem.Value.type "function") (@Option.none.{0} @Nat) (@PySem.Data.func (@PySem.FuncData.mk (PySem.Str.ofString "_law_readings") (PySem.Str.ofString "_law_readings") a15 (@PySem.FuncBody.stmts b15) s15 3 [] @PySem.Value.none @PySem.Value.none @PySem.Value.none (@PySem.Value.str (PySem.Str.ofString "law_tr0009_01") 372) (@Option.none.{0} @Nat) (@PySem.Value.ref 145) @PySem.Value.none 0)) #[])) :: (@Prod.mk.{0, 0} @Nat @PySem.Obj (nat_lit 147) (@PySem.Obj.mk (@PySem.Value.type "tuple") (@Option.none.{0} @Nat) (@PySem.Data.seq #[] 0) #[])) :: (@Prod.mk.{0, 0} @Nat @PySem.Obj (nat_lit 150) (@PySem.Obj.mk (@PySem.Value.type "code") (@Option.none.{0} @Nat) (@PySem.Data.fields #[(@PySem.Value.str (PySem.Str.ofString "_law_ones") 413), (@PySem.Value.str (PySem.Str.ofString "_law_ones") 414), (@PySem.Value.str (PySem.Str.ofString "/claim/cut.py") 415), (@PySem.Value.int (@OfNat.ofNat.{0} @Int (nat_lit 92) (@instOfNat (nat_lit 92))) 0), (@PySem.Value.int (@OfNat.ofNat.{0} @Int (nat_lit 1) (@instOfNat (nat_lit 1))) 0), (@PySem.Value.int (@OfNat.ofNat.{0} @Int (nat_lit 0) (@instOfNat (nat_lit 0))) 0), (@PySem.Value.int (@OfNat.ofNat.{0} @Int (nat_lit 0) (@instOfNat (nat_lit 0))) 0), (@PySem.Value.int (@OfNat.ofNat.{0} @Int (nat_lit 3) (@instOfNat (nat_lit 3))) 0), (@PySem.Value.ref 147), (@PySem.Value.bool @Bool.true), (@PySem.Value.int (@OfNat.ofNat.{0} @Int (nat_lit 181) (@instOfNat (nat_lit 181))) 0), (@PySem.Value.ref 148), @PySem.Value.none, @PySem.Value.none, @PySem.Value.none, (@PySem.Value.ref 149), (@PySem.Value.int (@OfNat.ofNat.{0} @Int (nat_lit 416) (@instOfNat (nat_lit 416))) 0), (@PySem.Value.int (@OfNat.ofNat.{0} @Int (nat_lit 92) (@instOfNat (nat_lit 92))) 0), (@PySem.Value.str (PySem.Str.ofString "/claim/cut.py") 417)]) #[])) :: (@Prod.mk.{0, 0} @Nat @PySem.Obj (nat_lit 151) (@PySem.Obj.mk (@PySem.Value.type "function") (@Option.none.{0} @Nat) (@PySem.Data.func (@PySem.FuncData.mk (PySem.Str.ofString "_law_ones") (PySem.Str.ofString "_law_ones") a16 (@PySem.FuncBody.stmts b16) s16 3 [] @PySem.Value.none @PySem.Value.none @PySem.Value.none (@PySem.Value.str (PySem.Str.ofString "law_tr0009_01") 372) (@Option.none.{0} @Nat) (@PySem.Value.ref 150) @PySem.Value.none 0)) #[])) :: (@Prod.mk.{0, 0} @Nat @PySem.Obj (nat_lit 152) (@PySem.Obj.mk (@PySem.Value.type "tuple") (@Option.none.{0} @Nat) (@PySem.Data.seq #[] 0) #[])) :: (@Prod.mk.{0, 0} @Nat @PySem.Obj (nat_lit 155) (@PySem.Obj.mk (@PySem.Value.type "code") (@Option.none.{0} @Nat) (@PySem.Data.fields #[(@PySem.Value.str (PySem.Str.ofString "law") 419), (@PySem.Value.str (PySem.Str.ofString "law") 420), (@PySem.Value.str (PySem.Str.ofString "/claim/cut.py") 421), (@PySem.Value.int (@OfNat.ofNat.{0} @Int (nat_lit 94) (@instOfNat (nat_lit 94))) 0), (@PySem.Value.int (@OfNat.ofNat.{0} @Int (nat_lit 1) (@instOfNat (nat_lit 1))) 0), (@PySem.Value.int (@OfNat.ofNat.{0} @Int (nat_lit 0) (@instOfNat (nat_lit 0))) 0), (@PySem.Value.int (@OfNat.ofNat.{0} @Int (nat_lit 0) (@instOfNat (nat_lit 0))) 0), (@PySem.Value.int (@OfNat.ofNat.{0} @Int (nat_lit 3) (@instOfNat (nat_lit 3))) 0), (@PySem.Value.ref 152), (@PySem.Value.bool @Bool.true), (@PySem.Value.int (@OfNat.ofNat.{0} @Int (nat_lit 181) (@instOfNat (nat_lit 181))) 0), (@PySem.Value.ref 153), @PySem.Value.none, @PySem.Value.none, @PySem.Value.none, (@PySem.Value.ref 154), (@PySem.Value.int (@OfNat.ofNat.{0} @Int (nat_lit 422) (@instOfNat (nat_lit 422))) 0), (@PySem.Value.int (@OfNat.ofNat.{0} @Int (nat_lit 94) (@instOfNat (nat_lit 94))) 0), (@PySem.Value.str (PySem.Str.ofString "/claim/cut.py") 423)]) #[])) :: (@Prod.mk.{0, 0} @Nat @PySem.Obj (nat_lit 156) (@PySem.Obj.mk (@PySem.Value.type "function") (@Option.none.{0} @Nat) (@PySem.Data.func (@PySem.FuncData.mk (PySem.Str.ofString "law") (PySem.Str.ofString "law") a17 (@PySem.FuncBody.stmts b17) s17 3 [] @PySem.Value.none @PySem.Value.none @PySem.Value.none (@PySem.Value.str (PySem.Str.ofString "law_tr0009_01") 372) (@Option.none.{0} @Nat) (@PySem.Value.ref 155) @PySem.Value.none 0)) #[])) :: []))
def as : List Nat := ((nat_lit 2) :: (nat_lit 3) :: (nat_lit 6) :: (nat_lit 15) :: (nat_lit 17) :: (nat_lit 18) :: (nat_lit 20) :: (nat_lit 21) :: (nat_lit 29) :: (nat_lit 33) :: (nat_lit 35) :: (nat_lit 36) :: (nat_lit 38) :: (nat_lit 39) :: (nat_lit 40) :: (nat_lit 47) :: (nat_lit 48) :: (nat_lit 49) :: (nat_lit 50) :: (nat_lit 53) :: (nat_lit 60) :: (nat_lit 61) :: (nat_lit 62) :: (nat_lit 65) :: (nat_lit 67) :: (nat_lit 68) :: (nat_lit 70) :: (nat_lit 71) :: (nat_lit 79) :: (nat_lit 81) :: (nat_lit 82) :: (nat_lit 84) :: (nat_lit 85) :: (nat_lit 86) :: (nat_lit 88) :: (nat_lit 89) :: (nat_lit 91) :: (nat_lit 92) :: (nat_lit 93) :: (nat_lit 95) :: (nat_lit 96) :: (nat_lit 98) :: (nat_lit 99) :: (nat_lit 100) :: (nat_lit 102) :: (nat_lit 103) :: (nat_lit 105) :: (nat_lit 106) :: (nat_lit 107) :: (nat_lit 108) :: (nat_lit 109) :: (nat_lit 110) :: (nat_lit 111) :: (nat_lit 114) :: (nat_lit 117) :: (nat_lit 118) :: (nat_lit 119) :: (nat_lit 121) :: (nat_lit 122) :: (nat_lit 124) :: (nat_lit 125) :: (nat_lit 126) :: (nat_lit 128) :: (nat_lit 129) :: (nat_lit 131) :: (nat_lit 132) :: (nat_lit 133) :: (nat_lit 135) :: (nat_lit 136) :: (nat_lit 138) :: (nat_lit 139) :: (nat_lit 140) :: (nat_lit 142) :: (nat_lit 143) :: (nat_lit 145) :: (nat_lit 146) :: (nat_lit 147) :: (nat_lit 150) :: (nat_lit 151) :: (nat_lit 152) :: (nat_lit 155) :: (nat_lit 156) :: [])
theorem as_eq : ∀ P, as = (K P).map (·.1) := fun _ => by kernel_rfl
noncomputable def left_env_1 : @PySem.Env :=
  (@PySem.Env.mk (@PySem.Module.scope (@PySem.Program.main @PySem.Challenge.pw_tr0009_01)) @PySem.mainNs @PySem.mainNs [] @PySem.Str.empty (@Option.none.{0} @PySem.Addr) (@PySem.Value.ref 13) (@Option.some.{0} @PySem.Addr (@OfNat.ofNat.{0} @PySem.Addr (nat_lit 14) (@instOfNatNat (nat_lit 14)))) (@OfNat.ofNat.{0} @PySem.Addr (nat_lit 0) (@instOfNatNat (nat_lit 0))))
theorem left__proof_1 : (@Eq.{0+1} @PySem.Program (@PySem.W.opening @PySem.Challenge.pw_tr0009_01) (@PySem.W.plainProg (@PySem.Scope.names (@PySem.Module.scope (@PySem.Program.main @PySem.Challenge.pw_tr0009_01))))) := by intros; kernel_rfl
theorem left__proof_2 : ((x0 : @PySem.Shared) → (@Eq.{0+1} (@Option.{0} @PySem.Shared) (@PySem.fenceModules? @PySem.Challenge.pw_tr0009_01 x0) (@Option.some.{0} @PySem.Shared x0))) := by intros; kernel_rfl
noncomputable def left_o_2 : ((x0 : @PySem.Params) → @PySem.Obj) :=
  (fun (x0 : @PySem.Params) => (@PySem.Obj.mk (@PySem.Value.type "tuple") (@Option.none.{0} @Nat) (@PySem.Data.seq #[] 0) #[]))
noncomputable def left_o_3 : ((x0 : @PySem.Params) → @PySem.Obj) :=
  (fun (x0 : @PySem.Params) => (@PySem.Obj.mk @PySem.Value.none (@Option.none.{0} @Nat) (@PySem.Data.fields #[]) #[]))
noncomputable def left_o_4 : ((x0 : @PySem.Params) → @PySem.Obj) :=
  (fun (x0 : @PySem.Params) => (@PySem.Obj.mk (@PySem.Value.type "code") (@Option.none.{0} @Nat) (@PySem.Data.fields #[(@PySem.Value.str (PySem.Str.ofString "<module>") 182), (@PySem.Value.str (PySem.Str.ofString "<module>") 183), (@PySem.Value.str (PySem.Str.ofString "/claim/cut.py") 184), (@PySem.Value.int (@OfNat.ofNat.{0} @Int (nat_lit 1) (@instOfNat (nat_lit 1))) 0), (@PySem.Value.int (@OfNat.ofNat.{0} @Int (nat_lit 0) (@instOfNat (nat_lit 0))) 0), (@PySem.Value.int (@OfNat.ofNat.{0} @Int (nat_lit 0) (@instOfNat (nat_lit 0))) 0), (@PySem.Value.int (@OfNat.ofNat.{0} @Int (nat_lit 0) (@instOfNat (nat_lit 0))) 0), (@PySem.Value.int (@OfNat.ofNat.{0} @Int (nat_lit 0) (@instOfNat (nat_lit 0))) 0), (@PySem.Value.ref 11), (@PySem.Value.bool @Bool.false), (@PySem.Value.int (@OfNat.ofNat.{0} @Int (nat_lit 181) (@instOfNat (nat_lit 181))) 0), (@PySem.Value.ref 12), @PySem.Value.none, @PySem.Value.none, @PySem.Value.none, @PySem.Value.none, (@PySem.Value.int (@OfNat.ofNat.{0} @Int (nat_lit 185) (@instOfNat (nat_lit 185))) 0), (@PySem.Value.int (@OfNat.ofNat.{0} @Int (nat_lit 1) (@instOfNat (nat_lit 1))) 0), (@PySem.Value.str (PySem.Str.ofString "/claim/cut.py") 186)]) #[]))
noncomputable def left_o_5 : ((x0 : @PySem.Params) → @PySem.Obj) :=
  (fun (x0 : @PySem.Params) => (@PySem.Obj.mk (@PySem.Value.type "frame") (@Option.none.{0} @Nat) @PySem.Data.plain #[(@Option.some.{0} @PySem.Value (@PySem.Value.ref 13)), (@Option.some.{0} @PySem.Value (@PySem.Value.ref 3)), (@Option.some.{0} @PySem.Value (@PySem.Value.ref 3)), (@Option.none.{0} @PySem.Value), (@Option.some.{0} @PySem.Value (@PySem.Value.str (PySem.Str.ofString "__main__") 164)), (@Option.none.{0} @PySem.Value), (@Option.some.{0} @PySem.Value (@PySem.Value.ref 0))]))
noncomputable def left_heap_5 : ((x0 : @PySem.Params) → @PySem.Heap) :=
  (fun (x0 : @PySem.Params) => (@PySem.Heap.mk (@Array.mk.{0} @PySem.Obj [(@PySem.W.boot_o_0 x0), (@PySem.W.boot_o_1 x0), (@PySem.W.boot_o_2 x0), (@PySem.W.boot_o_3 x0), (@PySem.W.boot_o_4 x0), (@PySem.W.boot_o_5 x0), (@PySem.W.boot_o_6 x0), (@PySem.W.boot_o_7 x0), (@PySem.W.boot_o_8 x0), (@PySem.W.boot_o_9 x0), (@PySem.W.boot_o_10 x0), (@left_o_2 x0), (@left_o_3 x0), (@left_o_4 x0), (@left_o_5 x0)]) (@PySem.Life.mk [] [] [] 0 [] [] @Bool.false #[] [] 0 @Bool.false @Bool.false @Bool.false (@OfNat.ofNat.{0} @Int (nat_lit 0) (@instOfNat (nat_lit 0))) [(@OfNat.ofNat.{0} @Int (nat_lit 2000) (@instOfNat (nat_lit 2000))), (@OfNat.ofNat.{0} @Int (nat_lit 10) (@instOfNat (nat_lit 10))), (@OfNat.ofNat.{0} @Int (nat_lit 10) (@instOfNat (nat_lit 10)))] @Bool.false 0 @Bool.true [] [] 0 @Bool.false)))
def eleft__proof_7 : PySem.World → Prop := (fun (x0 : @PySem.World) => (@Eq.{0+1} ((x1 : @PySem.OsState) → (@Option.{0} (@Prod.{0, 0} @PySem.Shared @PySem.Thread))) (fun (x1 : @PySem.OsState) => (@PySem.W.topGo @PySem.treeTable @PySem.Challenge.pw_tr0009_01 x0 (nat_lit 11) (@Option.some.{0} @PySem.Value (@PySem.Value.ref 6)) (nat_lit 12) (@PySem.Shared.mk (@PySem.W.boot_heap (@PySem.World.params x0)) (@Array.mk.{0} @PySem.GenState []) @PySem.W.boot_drawn @PySem.W.boot_toks x1) (@PySem.W.topStub @PySem.Challenge.pw_tr0009_01))) (fun (x1 : @PySem.OsState) => (@Option.some.{0} (@Prod.{0, 0} @PySem.Shared @PySem.Thread) (@Prod.mk.{0, 0} @PySem.Shared @PySem.Thread (@PySem.Shared.mk (@left_heap_5 (@PySem.World.params x0)) (@Array.mk.{0} @PySem.GenState []) (@PySem.Drawn.mk 0 0 0 0) (nat_lit 187) x1) (@PySem.Thread.mk (@PySem.denote @PySem.treeTable (@PySem.Code.body (@PySem.W.behindTheImports @PySem.Challenge.pw_tr0009_01) @left_env_1)) (@PySem.Code.body (@PySem.W.behindTheImports @PySem.Challenge.pw_tr0009_01) @left_env_1) (@PySem.Pos.mk 0 0 0 0) [(@PySem.W.topFrame (@PySem.Pos.mk 0 0 0 0))]))))))
theorem eleft__proof_7_p : ∀ w : PySem.World, eleft__proof_7 w := fun w => (by show _ = _; kernel_rfl)
theorem left__proof_7 : ((x0 : @PySem.World) → (@Eq.{0+1} ((x1 : @PySem.OsState) → (@Option.{0} (@Prod.{0, 0} @PySem.Shared @PySem.Thread))) (fun (x1 : @PySem.OsState) => (@PySem.W.topGo @PySem.treeTable @PySem.Challenge.pw_tr0009_01 x0 (nat_lit 11) (@Option.some.{0} @PySem.Value (@PySem.Value.ref 6)) (nat_lit 12) (@PySem.Shared.mk (@PySem.W.boot_heap (@PySem.World.params x0)) (@Array.mk.{0} @PySem.GenState []) @PySem.W.boot_drawn @PySem.W.boot_toks x1) (@PySem.W.topStub @PySem.Challenge.pw_tr0009_01))) (fun (x1 : @PySem.OsState) => (@Option.some.{0} (@Prod.{0, 0} @PySem.Shared @PySem.Thread) (@Prod.mk.{0, 0} @PySem.Shared @PySem.Thread (@PySem.Shared.mk (@left_heap_5 (@PySem.World.params x0)) (@Array.mk.{0} @PySem.GenState []) (@PySem.Drawn.mk 0 0 0 0) (nat_lit 187) x1) (@PySem.Thread.mk (@PySem.denote @PySem.treeTable (@PySem.Code.body (@PySem.W.behindTheImports @PySem.Challenge.pw_tr0009_01) @left_env_1)) (@PySem.Code.body (@PySem.W.behindTheImports @PySem.Challenge.pw_tr0009_01) @left_env_1) (@PySem.Pos.mk 0 0 0 0) [(@PySem.W.topFrame (@PySem.Pos.mk 0 0 0 0))])))))) := eleft__proof_7_p
noncomputable def left_tree_7 : ((x0 : @PySem.Params) → @PySem.W.BT) :=
  (fun (x0 : @PySem.Params) => (@PySem.W.BT.node (@PySem.W.boot_o_0 x0) (@PySem.W.BT.node (@PySem.W.boot_o_1 x0) (@PySem.W.BT.node (@PySem.W.boot_o_3 x0) (@PySem.W.BT.node (@PySem.W.boot_o_7 x0) @PySem.W.BT.nil @PySem.W.BT.nil) (@PySem.W.BT.node (@left_o_2 x0) @PySem.W.BT.nil @PySem.W.BT.nil)) (@PySem.W.BT.node (@PySem.W.boot_o_5 x0) (@PySem.W.BT.node (@PySem.W.boot_o_9 x0) @PySem.W.BT.nil @PySem.W.BT.nil) (@PySem.W.BT.node (@left_o_4 x0) @PySem.W.BT.nil @PySem.W.BT.nil))) (@PySem.W.BT.node (@PySem.W.boot_o_2 x0) (@PySem.W.BT.node (@PySem.W.boot_o_4 x0) (@PySem.W.BT.node (@PySem.W.boot_o_8 x0) @PySem.W.BT.nil @PySem.W.BT.nil) (@PySem.W.BT.node (@left_o_3 x0) @PySem.W.BT.nil @PySem.W.BT.nil)) (@PySem.W.BT.node (@PySem.W.boot_o_6 x0) (@PySem.W.BT.node (@PySem.W.boot_o_10 x0) @PySem.W.BT.nil @PySem.W.BT.nil) (@PySem.W.BT.node (@left_o_5 x0) @PySem.W.BT.nil @PySem.W.BT.nil)))))
def eleft__proof_10 : PySem.World → Prop := (fun (x0 : @PySem.World) => (@Eq.{0+1} ((x1 : @PySem.OsState) → (@Option.{0} (@Prod.{0, 0} @PySem.Flow (@Prod.{0, 0} @PySem.Shared (@Prod.{0, 0} @PySem.Code @PySem.Pos))))) (fun (x1 : @PySem.OsState) => (@PySem.W.segRun @PySem.treeTable @PySem.Challenge.pw_tr0009_01 x0 (nat_lit 11) (@Option.some.{0} @PySem.Value (@PySem.Value.ref 6)) (nat_lit 1) (nat_lit 1) (@PySem.Shared.mk (@left_heap_5 (@PySem.World.params x0)) (@Array.mk.{0} @PySem.GenState []) (@PySem.Drawn.mk 0 0 0 0) (nat_lit 187) x1) (@PySem.W.blockOf (@PySem.W.behindTheImports @PySem.Challenge.pw_tr0009_01) @left_env_1 (@PySem.Code.body (@PySem.W.behindTheImports @PySem.Challenge.pw_tr0009_01) @left_env_1) (@PySem.Pos.mk 0 0 0 0) [(@PySem.W.topFrame (@PySem.Pos.mk 0 0 0 0))]))) (fun (x1 : @PySem.OsState) => (@Option.some.{0} (@Prod.{0, 0} @PySem.Flow (@Prod.{0, 0} @PySem.Shared (@Prod.{0, 0} @PySem.Code @PySem.Pos))) (@Prod.mk.{0, 0} @PySem.Flow (@Prod.{0, 0} @PySem.Shared (@Prod.{0, 0} @PySem.Code @PySem.Pos)) @PySem.Flow.next (@Prod.mk.{0, 0} @PySem.Shared (@Prod.{0, 0} @PySem.Code @PySem.Pos) (@PySem.W.SharedT.abs (@PySem.W.SharedT.mk (@left_tree_7 (@PySem.World.params x0)) (nat_lit 15) (@PySem.Life.mk [] [] [] 0 [] [] @Bool.false #[] [] 0 @Bool.false @Bool.false @Bool.false (@OfNat.ofNat.{0} @Int (nat_lit 0) (@instOfNat (nat_lit 0))) [(@OfNat.ofNat.{0} @Int (nat_lit 2000) (@instOfNat (nat_lit 2000))), (@OfNat.ofNat.{0} @Int (nat_lit 10) (@instOfNat (nat_lit 10))), (@OfNat.ofNat.{0} @Int (nat_lit 10) (@instOfNat (nat_lit 10)))] @Bool.false 0 @Bool.true [] [] 0 @Bool.false) (@Array.mk.{0} @PySem.GenState []) (@PySem.Drawn.mk 0 0 0 0) (nat_lit 187) x1)) (@Prod.mk.{0, 0} @PySem.Code @PySem.Pos (@PySem.Code.body (@PySem.W.behindTheImports @PySem.Challenge.pw_tr0009_01) @left_env_1) (@PySem.Pos.mk 0 0 0 0))))))))
theorem eleft__proof_10_p : ∀ w : PySem.World, eleft__proof_10 w := fun w => (by show _ = _; kernel_rfl)
theorem left__proof_10 : ((x0 : @PySem.World) → (@Eq.{0+1} ((x1 : @PySem.OsState) → (@Option.{0} (@Prod.{0, 0} @PySem.Flow (@Prod.{0, 0} @PySem.Shared (@Prod.{0, 0} @PySem.Code @PySem.Pos))))) (fun (x1 : @PySem.OsState) => (@PySem.W.segRun @PySem.treeTable @PySem.Challenge.pw_tr0009_01 x0 (nat_lit 11) (@Option.some.{0} @PySem.Value (@PySem.Value.ref 6)) (nat_lit 1) (nat_lit 1) (@PySem.Shared.mk (@left_heap_5 (@PySem.World.params x0)) (@Array.mk.{0} @PySem.GenState []) (@PySem.Drawn.mk 0 0 0 0) (nat_lit 187) x1) (@PySem.W.blockOf (@PySem.W.behindTheImports @PySem.Challenge.pw_tr0009_01) @left_env_1 (@PySem.Code.body (@PySem.W.behindTheImports @PySem.Challenge.pw_tr0009_01) @left_env_1) (@PySem.Pos.mk 0 0 0 0) [(@PySem.W.topFrame (@PySem.Pos.mk 0 0 0 0))]))) (fun (x1 : @PySem.OsState) => (@Option.some.{0} (@Prod.{0, 0} @PySem.Flow (@Prod.{0, 0} @PySem.Shared (@Prod.{0, 0} @PySem.Code @PySem.Pos))) (@Prod.mk.{0, 0} @PySem.Flow (@Prod.{0, 0} @PySem.Shared (@Prod.{0, 0} @PySem.Code @PySem.Pos)) @PySem.Flow.next (@Prod.mk.{0, 0} @PySem.Shared (@Prod.{0, 0} @PySem.Code @PySem.Pos) (@PySem.W.SharedT.abs (@PySem.W.SharedT.mk (@left_tree_7 (@PySem.World.params x0)) (nat_lit 15) (@PySem.Life.mk [] [] [] 0 [] [] @Bool.false #[] [] 0 @Bool.false @Bool.false @Bool.false (@OfNat.ofNat.{0} @Int (nat_lit 0) (@instOfNat (nat_lit 0))) [(@OfNat.ofNat.{0} @Int (nat_lit 2000) (@instOfNat (nat_lit 2000))), (@OfNat.ofNat.{0} @Int (nat_lit 10) (@instOfNat (nat_lit 10))), (@OfNat.ofNat.{0} @Int (nat_lit 10) (@instOfNat (nat_lit 10)))] @Bool.false 0 @Bool.true [] [] 0 @Bool.false) (@Array.mk.{0} @PySem.GenState []) (@PySem.Drawn.mk 0 0 0 0) (nat_lit 187) x1)) (@Prod.mk.{0, 0} @PySem.Code @PySem.Pos (@PySem.Code.body (@PySem.W.behindTheImports @PySem.Challenge.pw_tr0009_01) @left_env_1) (@PySem.Pos.mk 0 0 0 0)))))))) := eleft__proof_10_p
def left_sts_10 : List PySem.Stmt := List.take 2 (List.drop 0 (PySem.W.behindTheImports PySem.Challenge.pw_tr0009_01))
noncomputable def left_o_10 : ((x0 : @PySem.Params) → @PySem.Obj) :=
  (fun (x0 : @PySem.Params) => (@PySem.Obj.mk (@PySem.Value.type "dict") (@Option.none.{0} @Nat) (@PySem.Data.dict #[(@PySem.DictEntry.mk (@PySem.PyData.keyHash x0 (PySem.Str.ofString "__name__")) (@PySem.Value.str (PySem.Str.ofString "__name__") 165) (@PySem.Value.str (PySem.Str.ofString "cpy313.stringprep") 194)), (@PySem.DictEntry.mk (@PySem.PyData.keyHash x0 (PySem.Str.ofString "__doc__")) (@PySem.Value.str (PySem.Str.ofString "__doc__") 166) @PySem.Value.none), (@PySem.DictEntry.mk (@PySem.PyData.keyHash x0 (PySem.Str.ofString "__package__")) (@PySem.Value.str (PySem.Str.ofString "__package__") 167) @PySem.Value.none), (@PySem.DictEntry.mk (@PySem.PyData.keyHash x0 (PySem.Str.ofString "__loader__")) (@PySem.Value.str (PySem.Str.ofString "__loader__") 168) (@PySem.Value.builtin "__main__.__loader__#opaque")), (@PySem.DictEntry.mk (@PySem.PyData.keyHash x0 (PySem.Str.ofString "__spec__")) (@PySem.Value.str (PySem.Str.ofString "__spec__") 169) @PySem.Value.none), (@PySem.DictEntry.mk (@PySem.PyData.keyHash x0 (PySem.Str.ofString "__annotations__")) (@PySem.Value.str (PySem.Str.ofString "__annotations__") 170) (@PySem.Value.ref 6)), (@PySem.DictEntry.mk (@PySem.PyData.keyHash x0 (PySem.Str.ofString "__builtins__")) (@PySem.Value.str (PySem.Str.ofString "__builtins__") 171) (@PySem.Value.ref 4)), (@PySem.DictEntry.mk (@PySem.PyData.keyHash x0 (PySem.Str.ofString "__file__")) (@PySem.Value.str (PySem.Str.ofString "__file__") 173) (@PySem.Value.str (PySem.Str.ofString "/claim/cut.py") 172)), (@PySem.DictEntry.mk (@PySem.PyData.keyHash x0 (PySem.Str.ofString "__cached__")) (@PySem.Value.str (PySem.Str.ofString "__cached__") 174) @PySem.Value.none), (@PySem.DictEntry.mk (@PySem.PyData.keyHash x0 (PySem.Str.ofString "_wall")) (@PySem.Value.str (PySem.Str.ofString "_wall") 193) (@PySem.Value.ref 21))] 10) #[]))
noncomputable def left_o_11 : ((x0 : @PySem.Params) → @PySem.Obj) :=
  (fun (x0 : @PySem.Params) => (@PySem.Obj.mk @PySem.Value.none (@Option.none.{0} @Nat) (@PySem.Data.fields #[(@PySem.Value.int (@OfNat.ofNat.{0} @Int (nat_lit 1) (@instOfNat (nat_lit 1))) 0), (@PySem.Value.int (@OfNat.ofNat.{0} @Int (nat_lit 0) (@instOfNat (nat_lit 0))) 0), (@PySem.Value.ref 20)]) #[]))
noncomputable def left_o_12 : ((x0 : @PySem.Params) → @PySem.Obj) :=
  (fun (x0 : @PySem.Params) => (@PySem.Obj.mk (@PySem.Value.type "tuple") (@Option.none.{0} @Nat) (@PySem.Data.seq #[] 0) #[]))
noncomputable def left_o_13 : ((x0 : @PySem.Params) → @PySem.Obj) :=
  (fun (x0 : @PySem.Params) => (@PySem.Obj.mk @PySem.Value.none (@Option.none.{0} @Nat) (@PySem.Data.fields #[]) #[]))
noncomputable def left_o_14 : ((x0 : @PySem.Params) → @PySem.Obj) :=
  (fun (x0 : @PySem.Params) => (@PySem.Obj.mk (@PySem.Value.type "tuple") (@Option.none.{0} @Nat) (@PySem.Data.seq #[(@PySem.Value.str (PySem.Str.ofString "k") 190)] 0) #[]))
noncomputable def left_o_15 : ((x0 : @PySem.Params) → @PySem.Obj) :=
  (fun (x0 : @PySem.Params) => (@PySem.Obj.mk (@PySem.Value.type "tuple") (@Option.none.{0} @Nat) (@PySem.Data.seq #[] 0) #[]))
noncomputable def left_o_16 : ((x0 : @PySem.Params) → @PySem.Obj) :=
  (fun (x0 : @PySem.Params) => (@PySem.Obj.mk @PySem.Value.none (@Option.none.{0} @Nat) (@PySem.Data.func (@PySem.FuncData.mk (PySem.Str.ofString "_wall") (PySem.Str.ofString "_wall") a0 (@PySem.FuncBody.stmts b0) s0 0 [] @PySem.Value.none @PySem.Value.none @PySem.Value.none @PySem.Value.none (@Option.none.{0} @Nat) @PySem.Value.none @PySem.Value.none 0)) #[]))
noncomputable def left_o_17 : ((x0 : @PySem.Params) → @PySem.Obj) :=
  (fun (x0 : @PySem.Params) => (@PySem.Obj.mk (@PySem.Value.type "code") (@Option.none.{0} @Nat) (@PySem.Data.fields #[(@PySem.Value.str (PySem.Str.ofString "_wall") 187), (@PySem.Value.str (PySem.Str.ofString "_wall") 188), (@PySem.Value.str (PySem.Str.ofString "/claim/cut.py") 189), (@PySem.Value.int (@OfNat.ofNat.{0} @Int (nat_lit 1) (@instOfNat (nat_lit 1))) 0), (@PySem.Value.int (@OfNat.ofNat.{0} @Int (nat_lit 1) (@instOfNat (nat_lit 1))) 0), (@PySem.Value.int (@OfNat.ofNat.{0} @Int (nat_lit 0) (@instOfNat (nat_lit 0))) 0), (@PySem.Value.int (@OfNat.ofNat.{0} @Int (nat_lit 0) (@instOfNat (nat_lit 0))) 0), (@PySem.Value.int (@OfNat.ofNat.{0} @Int (nat_lit 3) (@instOfNat (nat_lit 3))) 0), (@PySem.Value.ref 15), (@PySem.Value.bool @Bool.true), (@PySem.Value.int (@OfNat.ofNat.{0} @Int (nat_lit 181) (@instOfNat (nat_lit 181))) 0), (@PySem.Value.ref 16), @PySem.Value.none, (@PySem.Value.ref 17), (@PySem.Value.ref 18), (@PySem.Value.ref 19), (@PySem.Value.int (@OfNat.ofNat.{0} @Int (nat_lit 191) (@instOfNat (nat_lit 191))) 0), (@PySem.Value.int (@OfNat.ofNat.{0} @Int (nat_lit 1) (@instOfNat (nat_lit 1))) 0), (@PySem.Value.str (PySem.Str.ofString "/claim/cut.py") 192)]) #[]))
noncomputable def left_o_18 : ((x0 : @PySem.Params) → @PySem.Obj) :=
  (fun (x0 : @PySem.Params) => (@PySem.Obj.mk (@PySem.Value.type "function") (@Option.none.{0} @Nat) (@PySem.Data.func (@PySem.FuncData.mk (PySem.Str.ofString "_wall") (PySem.Str.ofString "_wall") a0 (@PySem.FuncBody.stmts b0) s0 3 [] @PySem.Value.none @PySem.Value.none @PySem.Value.none (@PySem.Value.str (PySem.Str.ofString "__main__") 164) (@Option.none.{0} @Nat) (@PySem.Value.ref 20) @PySem.Value.none 0)) #[]))
noncomputable def left_tree_18 : ((x0 : @PySem.Params) → @PySem.W.BT) :=
  (fun (x0 : @PySem.Params) => (@PySem.W.BT.node (@PySem.W.boot_o_0 x0) (@PySem.W.BT.node (@PySem.W.boot_o_1 x0) (@PySem.W.BT.node (@left_o_10 x0) (@PySem.W.BT.node (@PySem.W.boot_o_7 x0) (@PySem.W.BT.node (@left_o_12 x0) @PySem.W.BT.nil @PySem.W.BT.nil) @PySem.W.BT.nil) (@PySem.W.BT.node (@left_o_2 x0) (@PySem.W.BT.node (@left_o_16 x0) @PySem.W.BT.nil @PySem.W.BT.nil) @PySem.W.BT.nil)) (@PySem.W.BT.node (@PySem.W.boot_o_5 x0) (@PySem.W.BT.node (@PySem.W.boot_o_9 x0) (@PySem.W.BT.node (@left_o_14 x0) @PySem.W.BT.nil @PySem.W.BT.nil) @PySem.W.BT.nil) (@PySem.W.BT.node (@left_o_4 x0) (@PySem.W.BT.node (@left_o_18 x0) @PySem.W.BT.nil @PySem.W.BT.nil) @PySem.W.BT.nil))) (@PySem.W.BT.node (@PySem.W.boot_o_2 x0) (@PySem.W.BT.node (@PySem.W.boot_o_4 x0) (@PySem.W.BT.node (@PySem.W.boot_o_8 x0) (@PySem.W.BT.node (@left_o_13 x0) @PySem.W.BT.nil @PySem.W.BT.nil) @PySem.W.BT.nil) (@PySem.W.BT.node (@left_o_11 x0) (@PySem.W.BT.node (@left_o_17 x0) @PySem.W.BT.nil @PySem.W.BT.nil) @PySem.W.BT.nil)) (@PySem.W.BT.node (@PySem.W.boot_o_6 x0) (@PySem.W.BT.node (@PySem.W.boot_o_10 x0) (@PySem.W.BT.node (@left_o_15 x0) @PySem.W.BT.nil @PySem.W.BT.nil) @PySem.W.BT.nil) (@PySem.W.BT.node (@left_o_5 x0) @PySem.W.BT.nil @PySem.W.BT.nil)))))
def eleft__proof_20 : PySem.World → Prop := (fun (x0 : @PySem.World) => (@Eq.{0+1} ((x1 : @PySem.OsState) → (@Option.{0} (@Prod.{0, 0} @PySem.Flow (@Prod.{0, 0} @PySem.W.SharedT (@Prod.{0, 0} @PySem.Code @PySem.Pos))))) (fun (x1 : @PySem.OsState) => (@PySem.W.segRunT @PySem.treeTable @PySem.Challenge.pw_tr0009_01 x0 (nat_lit 11) (@Option.some.{0} @PySem.Value (@PySem.Value.ref 6)) (nat_lit 1) (nat_lit 39) (@PySem.W.SharedT.mk (@left_tree_7 (@PySem.World.params x0)) (nat_lit 15) (@PySem.Life.mk [] [] [] 0 [] [] @Bool.false #[] [] 0 @Bool.false @Bool.false @Bool.false (@OfNat.ofNat.{0} @Int (nat_lit 0) (@instOfNat (nat_lit 0))) [(@OfNat.ofNat.{0} @Int (nat_lit 2000) (@instOfNat (nat_lit 2000))), (@OfNat.ofNat.{0} @Int (nat_lit 10) (@instOfNat (nat_lit 10))), (@OfNat.ofNat.{0} @Int (nat_lit 10) (@instOfNat (nat_lit 10)))] @Bool.false 0 @Bool.true [] [] 0 @Bool.false) (@Array.mk.{0} @PySem.GenState []) (@PySem.Drawn.mk 0 0 0 0) (nat_lit 187) x1) (@PySem.W.piecesOf @left_sts_10 @left_env_1 (@PySem.Code.body (@PySem.W.behindTheImports @PySem.Challenge.pw_tr0009_01) @left_env_1) (@PySem.Pos.mk 0 0 0 0) [(@PySem.W.topFrame (@PySem.Pos.mk 0 0 0 0))]))) (fun (x1 : @PySem.OsState) => (@Option.some.{0} (@Prod.{0, 0} @PySem.Flow (@Prod.{0, 0} @PySem.W.SharedT (@Prod.{0, 0} @PySem.Code @PySem.Pos))) (@Prod.mk.{0, 0} @PySem.Flow (@Prod.{0, 0} @PySem.W.SharedT (@Prod.{0, 0} @PySem.Code @PySem.Pos)) @PySem.Flow.next (@Prod.mk.{0, 0} @PySem.W.SharedT (@Prod.{0, 0} @PySem.Code @PySem.Pos) (@PySem.W.SharedT.mk (@left_tree_18 (@PySem.World.params x0)) (nat_lit 22) (@PySem.Life.mk [] [] [] 0 [] [] @Bool.false #[] [] 0 @Bool.false @Bool.false @Bool.false (@OfNat.ofNat.{0} @Int (nat_lit 0) (@instOfNat (nat_lit 0))) [(@OfNat.ofNat.{0} @Int (nat_lit 2000) (@instOfNat (nat_lit 2000))), (@OfNat.ofNat.{0} @Int (nat_lit 10) (@instOfNat (nat_lit 10))), (@OfNat.ofNat.{0} @Int (nat_lit 10) (@instOfNat (nat_lit 10)))] @Bool.false 0 @Bool.true [] [] 0 @Bool.false) (@Array.mk.{0} @PySem.GenState []) (@PySem.Drawn.mk 0 0 0 0) (nat_lit 196) x1) (@Prod.mk.{0, 0} @PySem.Code @PySem.Pos (@PySem.Code.body (@PySem.W.behindTheImports @PySem.Challenge.pw_tr0009_01) @left_env_1) (@PySem.Pos.mk 4 0 4 8))))))))
theorem eleft__proof_20_p : ∀ w : PySem.World, eleft__proof_20 w := fun w => (by show _ = _; rewrite [PySem.W.Fast.te10110043849684766642, PySem.W.Fast.te14364793385576792824]; kernel_rfl)
theorem left__proof_20 : ((x0 : @PySem.World) → (@Eq.{0+1} ((x1 : @PySem.OsState) → (@Option.{0} (@Prod.{0, 0} @PySem.Flow (@Prod.{0, 0} @PySem.W.SharedT (@Prod.{0, 0} @PySem.Code @PySem.Pos))))) (fun (x1 : @PySem.OsState) => (@PySem.W.segRunT @PySem.treeTable @PySem.Challenge.pw_tr0009_01 x0 (nat_lit 11) (@Option.some.{0} @PySem.Value (@PySem.Value.ref 6)) (nat_lit 1) (nat_lit 39) (@PySem.W.SharedT.mk (@left_tree_7 (@PySem.World.params x0)) (nat_lit 15) (@PySem.Life.mk [] [] [] 0 [] [] @Bool.false #[] [] 0 @Bool.false @Bool.false @Bool.false (@OfNat.ofNat.{0} @Int (nat_lit 0) (@instOfNat (nat_lit 0))) [(@OfNat.ofNat.{0} @Int (nat_lit 2000) (@instOfNat (nat_lit 2000))), (@OfNat.ofNat.{0} @Int (nat_lit 10) (@instOfNat (nat_lit 10))), (@OfNat.ofNat.{0} @Int (nat_lit 10) (@instOfNat (nat_lit 10)))] @Bool.false 0 @Bool.true [] [] 0 @Bool.false) (@Array.mk.{0} @PySem.GenState []) (@PySem.Drawn.mk 0 0 0 0) (nat_lit 187) x1) (@PySem.W.piecesOf @left_sts_10 @left_env_1 (@PySem.Code.body (@PySem.W.behindTheImports @PySem.Challenge.pw_tr0009_01) @left_env_1) (@PySem.Pos.mk 0 0 0 0) [(@PySem.W.topFrame (@PySem.Pos.mk 0 0 0 0))]))) (fun (x1 : @PySem.OsState) => (@Option.some.{0} (@Prod.{0, 0} @PySem.Flow (@Prod.{0, 0} @PySem.W.SharedT (@Prod.{0, 0} @PySem.Code @PySem.Pos))) (@Prod.mk.{0, 0} @PySem.Flow (@Prod.{0, 0} @PySem.W.SharedT (@Prod.{0, 0} @PySem.Code @PySem.Pos)) @PySem.Flow.next (@Prod.mk.{0, 0} @PySem.W.SharedT (@Prod.{0, 0} @PySem.Code @PySem.Pos) (@PySem.W.SharedT.mk (@left_tree_18 (@PySem.World.params x0)) (nat_lit 22) (@PySem.Life.mk [] [] [] 0 [] [] @Bool.false #[] [] 0 @Bool.false @Bool.false @Bool.false (@OfNat.ofNat.{0} @Int (nat_lit 0) (@instOfNat (nat_lit 0))) [(@OfNat.ofNat.{0} @Int (nat_lit 2000) (@instOfNat (nat_lit 2000))), (@OfNat.ofNat.{0} @Int (nat_lit 10) (@instOfNat (nat_lit 10))), (@OfNat.ofNat.{0} @Int (nat_lit 10) (@instOfNat (nat_lit 10)))] @Bool.false 0 @Bool.true [] [] 0 @Bool.false) (@Array.mk.{0} @PySem.GenState []) (@PySem.Drawn.mk 0 0 0 0) (nat_lit 196) x1) (@Prod.mk.{0, 0} @PySem.Code @PySem.Pos (@PySem.Code.body (@PySem.W.behindTheImports @PySem.Challenge.pw_tr0009_01) @left_env_1) (@PySem.Pos.mk 4 0 4 8)))))))) := eleft__proof_20_p
def left_sts_20 : List PySem.Stmt := List.take 1 (List.drop 2 (PySem.W.behindTheImports PySem.Challenge.pw_tr0009_01))
noncomputable def left_o_20 : ((x0 : @PySem.Params) → @PySem.Obj) :=
  (fun (x0 : @PySem.Params) => (@PySem.Obj.mk (@PySem.Value.type "dict") (@Option.none.{0} @Nat) (@PySem.Data.dict #[(@PySem.DictEntry.mk (@PySem.PyData.keyHash x0 (PySem.Str.ofString "__name__")) (@PySem.Value.str (PySem.Str.ofString "__name__") 165) (@PySem.Value.str (PySem.Str.ofString "cpy313.stringprep") 194)), (@PySem.DictEntry.mk (@PySem.PyData.keyHash x0 (PySem.Str.ofString "__doc__")) (@PySem.Value.str (PySem.Str.ofString "__doc__") 166) @PySem.Value.none), (@PySem.DictEntry.mk (@PySem.PyData.keyHash x0 (PySem.Str.ofString "__package__")) (@PySem.Value.str (PySem.Str.ofString "__package__") 167) @PySem.Value.none), (@PySem.DictEntry.mk (@PySem.PyData.keyHash x0 (PySem.Str.ofString "__loader__")) (@PySem.Value.str (PySem.Str.ofString "__loader__") 168) (@PySem.Value.builtin "__main__.__loader__#opaque")), (@PySem.DictEntry.mk (@PySem.PyData.keyHash x0 (PySem.Str.ofString "__spec__")) (@PySem.Value.str (PySem.Str.ofString "__spec__") 169) @PySem.Value.none), (@PySem.DictEntry.mk (@PySem.PyData.keyHash x0 (PySem.Str.ofString "__annotations__")) (@PySem.Value.str (PySem.Str.ofString "__annotations__") 170) (@PySem.Value.ref 6)), (@PySem.DictEntry.mk (@PySem.PyData.keyHash x0 (PySem.Str.ofString "__builtins__")) (@PySem.Value.str (PySem.Str.ofString "__builtins__") 171) (@PySem.Value.ref 4)), (@PySem.DictEntry.mk (@PySem.PyData.keyHash x0 (PySem.Str.ofString "__file__")) (@PySem.Value.str (PySem.Str.ofString "__file__") 173) (@PySem.Value.str (PySem.Str.ofString "/claim/cut.py") 172)), (@PySem.DictEntry.mk (@PySem.PyData.keyHash x0 (PySem.Str.ofString "__cached__")) (@PySem.Value.str (PySem.Str.ofString "__cached__") 174) @PySem.Value.none), (@PySem.DictEntry.mk (@PySem.PyData.keyHash x0 (PySem.Str.ofString "_wall")) (@PySem.Value.str (PySem.Str.ofString "_wall") 193) (@PySem.Value.ref 21)), (@PySem.DictEntry.mk (@PySem.PyData.keyHash x0 (PySem.Str.ofString "b1_set")) (@PySem.Value.str (PySem.Str.ofString "b1_set") 255) (@PySem.Value.ref 29))] 11) #[]))
noncomputable def left_o_21 : ((x0 : @PySem.Params) → @PySem.Obj) :=
  (fun (x0 : @PySem.Params) => (@PySem.Obj.mk (@PySem.Value.type "list") (@Option.none.{0} @Nat) (@PySem.Data.seq #[(@PySem.Value.int (@OfNat.ofNat.{0} @Int (nat_lit 173) (@instOfNat (nat_lit 173))) 196), (@PySem.Value.int (@OfNat.ofNat.{0} @Int (nat_lit 847) (@instOfNat (nat_lit 847))) 197), (@PySem.Value.int (@OfNat.ofNat.{0} @Int (nat_lit 6150) (@instOfNat (nat_lit 6150))) 198), (@PySem.Value.int (@OfNat.ofNat.{0} @Int (nat_lit 6155) (@instOfNat (nat_lit 6155))) 199), (@PySem.Value.int (@OfNat.ofNat.{0} @Int (nat_lit 6156) (@instOfNat (nat_lit 6156))) 200), (@PySem.Value.int (@OfNat.ofNat.{0} @Int (nat_lit 6157) (@instOfNat (nat_lit 6157))) 201), (@PySem.Value.int (@OfNat.ofNat.{0} @Int (nat_lit 8203) (@instOfNat (nat_lit 8203))) 202), (@PySem.Value.int (@OfNat.ofNat.{0} @Int (nat_lit 8204) (@instOfNat (nat_lit 8204))) 203), (@PySem.Value.int (@OfNat.ofNat.{0} @Int (nat_lit 8205) (@instOfNat (nat_lit 8205))) 204), (@PySem.Value.int (@OfNat.ofNat.{0} @Int (nat_lit 8288) (@instOfNat (nat_lit 8288))) 205), (@PySem.Value.int (@OfNat.ofNat.{0} @Int (nat_lit 65279) (@instOfNat (nat_lit 65279))) 206)] 0) #[]))
noncomputable def left_o_22 : ((x0 : @PySem.Params) → @PySem.Obj) :=
  (fun (x0 : @PySem.Params) => (@PySem.Obj.mk (@PySem.Value.type "range") (@Option.none.{0} @Nat) (@PySem.Data.fields #[(@PySem.Value.int (@OfNat.ofNat.{0} @Int (nat_lit 65024) (@instOfNat (nat_lit 65024))) 207), (@PySem.Value.int (@OfNat.ofNat.{0} @Int (nat_lit 65040) (@instOfNat (nat_lit 65040))) 208), (@PySem.Value.int (@OfNat.ofNat.{0} @Int (nat_lit 1) (@instOfNat (nat_lit 1))) 209)]) #[]))
noncomputable def left_o_23 : ((x0 : @PySem.Params) → @PySem.Obj) :=
  (fun (x0 : @PySem.Params) => (@PySem.Obj.mk (@PySem.Value.type "list") (@Option.none.{0} @Nat) (@PySem.Data.seq #[(@PySem.Value.int (@OfNat.ofNat.{0} @Int (nat_lit 65024) (@instOfNat (nat_lit 65024))) 212), (@PySem.Value.int (@OfNat.ofNat.{0} @Int (nat_lit 65025) (@instOfNat (nat_lit 65025))) 213), (@PySem.Value.int (@OfNat.ofNat.{0} @Int (nat_lit 65026) (@instOfNat (nat_lit 65026))) 214), (@PySem.Value.int (@OfNat.ofNat.{0} @Int (nat_lit 65027) (@instOfNat (nat_lit 65027))) 215), (@PySem.Value.int (@OfNat.ofNat.{0} @Int (nat_lit 65028) (@instOfNat (nat_lit 65028))) 216), (@PySem.Value.int (@OfNat.ofNat.{0} @Int (nat_lit 65029) (@instOfNat (nat_lit 65029))) 217), (@PySem.Value.int (@OfNat.ofNat.{0} @Int (nat_lit 65030) (@instOfNat (nat_lit 65030))) 218), (@PySem.Value.int (@OfNat.ofNat.{0} @Int (nat_lit 65031) (@instOfNat (nat_lit 65031))) 219), (@PySem.Value.int (@OfNat.ofNat.{0} @Int (nat_lit 65032) (@instOfNat (nat_lit 65032))) 220), (@PySem.Value.int (@OfNat.ofNat.{0} @Int (nat_lit 65033) (@instOfNat (nat_lit 65033))) 221), (@PySem.Value.int (@OfNat.ofNat.{0} @Int (nat_lit 65034) (@instOfNat (nat_lit 65034))) 222), (@PySem.Value.int (@OfNat.ofNat.{0} @Int (nat_lit 65035) (@instOfNat (nat_lit 65035))) 223), (@PySem.Value.int (@OfNat.ofNat.{0} @Int (nat_lit 65036) (@instOfNat (nat_lit 65036))) 224), (@PySem.Value.int (@OfNat.ofNat.{0} @Int (nat_lit 65037) (@instOfNat (nat_lit 65037))) 225), (@PySem.Value.int (@OfNat.ofNat.{0} @Int (nat_lit 65038) (@instOfNat (nat_lit 65038))) 226), (@PySem.Value.int (@OfNat.ofNat.{0} @Int (nat_lit 65039) (@instOfNat (nat_lit 65039))) 227)] 18) #[]))
noncomputable def left_o_24 : ((x0 : @PySem.Params) → @PySem.Obj) :=
  (fun (x0 : @PySem.Params) => (@PySem.Obj.mk (@PySem.Value.type "range_iterator") (@Option.none.{0} @Nat) (@PySem.Data.fields #[(@PySem.Value.int (@OfNat.ofNat.{0} @Int (nat_lit 65040) (@instOfNat (nat_lit 65040))) 0), (@PySem.Value.int (@OfNat.ofNat.{0} @Int (nat_lit 0) (@instOfNat (nat_lit 0))) 0), (@PySem.Value.int (@OfNat.ofNat.{0} @Int (nat_lit 1) (@instOfNat (nat_lit 1))) 0)]) #[]))
noncomputable def left_o_25 : ((x0 : @PySem.Params) → @PySem.Obj) :=
  (fun (x0 : @PySem.Params) => (@PySem.Obj.mk (@PySem.Value.type "tuple") (@Option.none.{0} @Nat) (@PySem.Data.seq #[] 0) #[]))
noncomputable def left_o_26 : ((x0 : @PySem.Params) → @PySem.Obj) :=
  (fun (x0 : @PySem.Params) => (@PySem.Obj.mk (@PySem.Value.type "StopIteration") (@Option.none.{0} @Nat) (@PySem.Data.fields #[(@PySem.Value.ref 26), @PySem.Value.none, @PySem.Value.none, @PySem.Value.none, (@PySem.Value.bool @Bool.false), @PySem.Value.none]) #[]))
noncomputable def left_o_27 : ((x0 : @PySem.Params) → @PySem.Obj) :=
  (fun (x0 : @PySem.Params) => (@PySem.Obj.mk (@PySem.Value.type "list") (@Option.none.{0} @Nat) (@PySem.Data.seq #[(@PySem.Value.int (@OfNat.ofNat.{0} @Int (nat_lit 173) (@instOfNat (nat_lit 173))) 196), (@PySem.Value.int (@OfNat.ofNat.{0} @Int (nat_lit 847) (@instOfNat (nat_lit 847))) 197), (@PySem.Value.int (@OfNat.ofNat.{0} @Int (nat_lit 6150) (@instOfNat (nat_lit 6150))) 198), (@PySem.Value.int (@OfNat.ofNat.{0} @Int (nat_lit 6155) (@instOfNat (nat_lit 6155))) 199), (@PySem.Value.int (@OfNat.ofNat.{0} @Int (nat_lit 6156) (@instOfNat (nat_lit 6156))) 200), (@PySem.Value.int (@OfNat.ofNat.{0} @Int (nat_lit 6157) (@instOfNat (nat_lit 6157))) 201), (@PySem.Value.int (@OfNat.ofNat.{0} @Int (nat_lit 8203) (@instOfNat (nat_lit 8203))) 202), (@PySem.Value.int (@OfNat.ofNat.{0} @Int (nat_lit 8204) (@instOfNat (nat_lit 8204))) 203), (@PySem.Value.int (@OfNat.ofNat.{0} @Int (nat_lit 8205) (@instOfNat (nat_lit 8205))) 204), (@PySem.Value.int (@OfNat.ofNat.{0} @Int (nat_lit 8288) (@instOfNat (nat_lit 8288))) 205), (@PySem.Value.int (@OfNat.ofNat.{0} @Int (nat_lit 65279) (@instOfNat (nat_lit 65279))) 206), (@PySem.Value.int (@OfNat.ofNat.{0} @Int (nat_lit 65024) (@instOfNat (nat_lit 65024))) 212), (@PySem.Value.int (@OfNat.ofNat.{0} @Int (nat_lit 65025) (@instOfNat (nat_lit 65025))) 213), (@PySem.Value.int (@OfNat.ofNat.{0} @Int (nat_lit 65026) (@instOfNat (nat_lit 65026))) 214), (@PySem.Value.int (@OfNat.ofNat.{0} @Int (nat_lit 65027) (@instOfNat (nat_lit 65027))) 215), (@PySem.Value.int (@OfNat.ofNat.{0} @Int (nat_lit 65028) (@instOfNat (nat_lit 65028))) 216), (@PySem.Value.int (@OfNat.ofNat.{0} @Int (nat_lit 65029) (@instOfNat (nat_lit 65029))) 217), (@PySem.Value.int (@OfNat.ofNat.{0} @Int (nat_lit 65030) (@instOfNat (nat_lit 65030))) 218), (@PySem.Value.int (@OfNat.ofNat.{0} @Int (nat_lit 65031) (@instOfNat (nat_lit 65031))) 219), (@PySem.Value.int (@OfNat.ofNat.{0} @Int (nat_lit 65032) (@instOfNat (nat_lit 65032))) 220), (@PySem.Value.int (@OfNat.ofNat.{0} @Int (nat_lit 65033) (@instOfNat (nat_lit 65033))) 221), (@PySem.Value.int (@OfNat.ofNat.{0} @Int (nat_lit 65034) (@instOfNat (nat_lit 65034))) 222), (@PySem.Value.int (@OfNat.ofNat.{0} @Int (nat_lit 65035) (@instOfNat (nat_lit 65035))) 223), (@PySem.Value.int (@OfNat.ofNat.{0} @Int (nat_lit 65036) (@instOfNat (nat_lit 65036))) 224), (@PySem.Value.int (@OfNat.ofNat.{0} @Int (nat_lit 65037) (@instOfNat (nat_lit 65037))) 225), (@PySem.Value.int (@OfNat.ofNat.{0} @Int (nat_lit 65038) (@instOfNat (nat_lit 65038))) 226), (@PySem.Value.int (@OfNat.ofNat.{0} @Int (nat_lit 65039) (@instOfNat (nat_lit 65039))) 227)] 0) #[]))
noncomputable def left_o_28 : ((x0 : @PySem.Params) → @PySem.Obj) :=
  (fun (x0 : @PySem.Params) => (@PySem.Obj.mk (@PySem.Value.type "set") (@Option.none.{0} @Nat) (@PySem.Data.set #[(@Prod.mk.{0, 0} @Int @PySem.Value (@OfNat.ofNat.{0} @Int (nat_lit 65024) (@instOfNat (nat_lit 65024))) (@PySem.Value.int (@OfNat.ofNat.{0} @Int (nat_lit 65024) (@instOfNat (nat_lit 65024))) 212)), (@Prod.mk.{0, 0} @Int @PySem.Value (@OfNat.ofNat.{0} @Int (nat_lit 65025) (@instOfNat (nat_lit 65025))) (@PySem.Value.int (@OfNat.ofNat.{0} @Int (nat_lit 65025) (@instOfNat (nat_lit 65025))) 213)), (@Prod.mk.{0, 0} @Int @PySem.Value (@OfNat.ofNat.{0} @Int (nat_lit 65026) (@instOfNat (nat_lit 65026))) (@PySem.Value.int (@OfNat.ofNat.{0} @Int (nat_lit 65026) (@instOfNat (nat_lit 65026))) 214)), (@Prod.mk.{0, 0} @Int @PySem.Value (@OfNat.ofNat.{0} @Int (nat_lit 65027) (@instOfNat (nat_lit 65027))) (@PySem.Value.int (@OfNat.ofNat.{0} @Int (nat_lit 65027) (@instOfNat (nat_lit 65027))) 215)), (@Prod.mk.{0, 0} @Int @PySem.Value (@OfNat.ofNat.{0} @Int (nat_lit 65028) (@instOfNat (nat_lit 65028))) (@PySem.Value.int (@OfNat.ofNat.{0} @Int (nat_lit 65028) (@instOfNat (nat_lit 65028))) 216)), (@Prod.mk.{0, 0} @Int @PySem.Value (@OfNat.ofNat.{0} @Int (nat_lit 65029) (@instOfNat (nat_lit 65029))) (@PySem.Value.int (@OfNat.ofNat.{0} @Int (nat_lit 65029) (@instOfNat (nat_lit 65029))) 217)), (@Prod.mk.{0, 0} @Int @PySem.Value (@OfNat.ofNat.{0} @Int (nat_lit 6150) (@instOfNat (nat_lit 6150))) (@PySem.Value.int (@OfNat.ofNat.{0} @Int (nat_lit 6150) (@instOfNat (nat_lit 6150))) 198)), (@Prod.mk.{0, 0} @Int @PySem.Value (@OfNat.ofNat.{0} @Int (nat_lit 65030) (@instOfNat (nat_lit 65030))) (@PySem.Value.int (@OfNat.ofNat.{0} @Int (nat_lit 65030) (@instOfNat (nat_lit 65030))) 218)), (@Prod.mk.{0, 0} @Int @PySem.Value (@OfNat.ofNat.{0} @Int (nat_lit 65031) (@instOfNat (nat_lit 65031))) (@PySem.Value.int (@OfNat.ofNat.{0} @Int (nat_lit 65031) (@instOfNat (nat_lit 65031))) 219)), (@Prod.mk.{0, 0} @Int @PySem.Value (@OfNat.ofNat.{0} @Int (nat_lit 65032) (@instOfNat (nat_lit 65032))) (@PySem.Value.int (@OfNat.ofNat.{0} @Int (nat_lit 65032) (@instOfNat (nat_lit 65032))) 220)), (@Prod.mk.{0, 0} @Int @PySem.Value (@OfNat.ofNat.{0} @Int (nat_lit 65033) (@instOfNat (nat_lit 65033))) (@PySem.Value.int (@OfNat.ofNat.{0} @Int (nat_lit 65033) (@instOfNat (nat_lit 65033))) 221)), (@Prod.mk.{0, 0} @Int @PySem.Value (@OfNat.ofNat.{0} @Int (nat_lit 6155) (@instOfNat (nat_lit 6155))) (@PySem.Value.int (@OfNat.ofNat.{0} @Int (nat_lit 6155) (@instOfNat (nat_lit 6155))) 199)), (@Prod.mk.{0, 0} @Int @PySem.Value (@OfNat.ofNat.{0} @Int (nat_lit 6156) (@instOfNat (nat_lit 6156))) (@PySem.Value.int (@OfNat.ofNat.{0} @Int (nat_lit 6156) (@instOfNat (nat_lit 6156))) 200)), (@Prod.mk.{0, 0} @Int @PySem.Value (@OfNat.ofNat.{0} @Int (nat_lit 6157) (@instOfNat (nat_lit 6157))) (@PySem.Value.int (@OfNat.ofNat.{0} @Int (nat_lit 6157) (@instOfNat (nat_lit 6157))) 201)), (@Prod.mk.{0, 0} @Int @PySem.Value (@OfNat.ofNat.{0} @Int (nat_lit 8203) (@instOfNat (nat_lit 8203))) (@PySem.Value.int (@OfNat.ofNat.{0} @Int (nat_lit 8203) (@instOfNat (nat_lit 8203))) 202)), (@Prod.mk.{0, 0} @Int @PySem.Value (@OfNat.ofNat.{0} @Int (nat_lit 8204) (@instOfNat (nat_lit 8204))) (@PySem.Value.int (@OfNat.ofNat.{0} @Int (nat_lit 8204) (@instOfNat (nat_lit 8204))) 203)), (@Prod.mk.{0, 0} @Int @PySem.Value (@OfNat.ofNat.{0} @Int (nat_lit 8205) (@instOfNat (nat_lit 8205))) (@PySem.Value.int (@OfNat.ofNat.{0} @Int (nat_lit 8205) (@instOfNat (nat_lit 8205))) 204)), (@Prod.mk.{0, 0} @Int @PySem.Value (@OfNat.ofNat.{0} @Int (nat_lit 65034) (@instOfNat (nat_lit 65034))) (@PySem.Value.int (@OfNat.ofNat.{0} @Int (nat_lit 65034) (@instOfNat (nat_lit 65034))) 222)), (@Prod.mk.{0, 0} @Int @PySem.Value (@OfNat.ofNat.{0} @Int (nat_lit 65035) (@instOfNat (nat_lit 65035))) (@PySem.Value.int (@OfNat.ofNat.{0} @Int (nat_lit 65035) (@instOfNat (nat_lit 65035))) 223)), (@Prod.mk.{0, 0} @Int @PySem.Value (@OfNat.ofNat.{0} @Int (nat_lit 65036) (@instOfNat (nat_lit 65036))) (@PySem.Value.int (@OfNat.ofNat.{0} @Int (nat_lit 65036) (@instOfNat (nat_lit 65036))) 224)), (@Prod.mk.{0, 0} @Int @PySem.Value (@OfNat.ofNat.{0} @Int (nat_lit 65037) (@instOfNat (nat_lit 65037))) (@PySem.Value.int (@OfNat.ofNat.{0} @Int (nat_lit 65037) (@instOfNat (nat_lit 65037))) 225)), (@Prod.mk.{0, 0} @Int @PySem.Value (@OfNat.ofNat.{0} @Int (nat_lit 65038) (@instOfNat (nat_lit 65038))) (@PySem.Value.int (@OfNat.ofNat.{0} @Int (nat_lit 65038) (@instOfNat (nat_lit 65038))) 226)), (@Prod.mk.{0, 0} @Int @PySem.Value (@OfNat.ofNat.{0} @Int (nat_lit 65039) (@instOfNat (nat_lit 65039))) (@PySem.Value.int (@OfNat.ofNat.{0} @Int (nat_lit 65039) (@instOfNat (nat_lit 65039))) 227)), (@Prod.mk.{0, 0} @Int @PySem.Value (@OfNat.ofNat.{0} @Int (nat_lit 173) (@instOfNat (nat_lit 173))) (@PySem.Value.int (@OfNat.ofNat.{0} @Int (nat_lit 173) (@instOfNat (nat_lit 173))) 196)), (@Prod.mk.{0, 0} @Int @PySem.Value (@OfNat.ofNat.{0} @Int (nat_lit 847) (@instOfNat (nat_lit 847))) (@PySem.Value.int (@OfNat.ofNat.{0} @Int (nat_lit 847) (@instOfNat (nat_lit 847))) 197)), (@Prod.mk.{0, 0} @Int @PySem.Value (@OfNat.ofNat.{0} @Int (nat_lit 8288) (@instOfNat (nat_lit 8288))) (@PySem.Value.int (@OfNat.ofNat.{0} @Int (nat_lit 8288) (@instOfNat (nat_lit 8288))) 205)), (@Prod.mk.{0, 0} @Int @PySem.Value (@OfNat.ofNat.{0} @Int (nat_lit 65279) (@instOfNat (nat_lit 65279))) (@PySem.Value.int (@OfNat.ofNat.{0} @Int (nat_lit 65279) (@instOfNat (nat_lit 65279))) 206))] 29 (@PySem.SetTable.mk 127 #[0, 1, 2, 3, 4, 5, 6, 7, 8, 9, 10, 11, 12, 13, 14, 15, 16, 17, 18, 19, 20, 21, 22, 45, 79, 96, 127] #[] 0 (@Bool.not (@PySem.Params.followText x0 "set-order")) 2 @Bool.true)) #[]))
noncomputable def left_o_29 : ((x0 : @PySem.Params) → @PySem.Obj) :=
  (fun (x0 : @PySem.Params) => (@PySem.Obj.mk (@PySem.Value.type "list_iterator") (@Option.none.{0} @Nat) (@PySem.Data.fields #[@PySem.Value.none, (@PySem.Value.int (@OfNat.ofNat.{0} @Int (nat_lit 27) (@instOfNat (nat_lit 27))) 0)]) #[]))
noncomputable def left_o_30 : ((x0 : @PySem.Params) → @PySem.Obj) :=
  (fun (x0 : @PySem.Params) => (@PySem.Obj.mk (@PySem.Value.type "tuple") (@Option.none.{0} @Nat) (@PySem.Data.seq #[] 0) #[]))
noncomputable def left_o_31 : ((x0 : @PySem.Params) → @PySem.Obj) :=
  (fun (x0 : @PySem.Params) => (@PySem.Obj.mk (@PySem.Value.type "StopIteration") (@Option.none.{0} @Nat) (@PySem.Data.fields #[(@PySem.Value.ref 31), @PySem.Value.none, @PySem.Value.none, @PySem.Value.none, (@PySem.Value.bool @Bool.false), @PySem.Value.none]) #[]))
noncomputable def left_tree_31 : ((x0 : @PySem.Params) → @PySem.W.BT) :=
  (fun (x0 : @PySem.Params) => (@PySem.W.BT.node (@PySem.W.boot_o_0 x0) (@PySem.W.BT.node (@PySem.W.boot_o_1 x0) (@PySem.W.BT.node (@left_o_20 x0) (@PySem.W.BT.node (@PySem.W.boot_o_7 x0) (@PySem.W.BT.node (@left_o_12 x0) (@PySem.W.BT.node (@left_o_30 x0) @PySem.W.BT.nil @PySem.W.BT.nil) @PySem.W.BT.nil) (@PySem.W.BT.node (@left_o_22 x0) @PySem.W.BT.nil @PySem.W.BT.nil)) (@PySem.W.BT.node (@left_o_2 x0) (@PySem.W.BT.node (@left_o_16 x0) @PySem.W.BT.nil @PySem.W.BT.nil) (@PySem.W.BT.node (@left_o_26 x0) @PySem.W.BT.nil @PySem.W.BT.nil))) (@PySem.W.BT.node (@PySem.W.boot_o_5 x0) (@PySem.W.BT.node (@PySem.W.boot_o_9 x0) (@PySem.W.BT.node (@left_o_14 x0) @PySem.W.BT.nil @PySem.W.BT.nil) (@PySem.W.BT.node (@left_o_24 x0) @PySem.W.BT.nil @PySem.W.BT.nil)) (@PySem.W.BT.node (@left_o_4 x0) (@PySem.W.BT.node (@left_o_18 x0) @PySem.W.BT.nil @PySem.W.BT.nil) (@PySem.W.BT.node (@left_o_28 x0) @PySem.W.BT.nil @PySem.W.BT.nil)))) (@PySem.W.BT.node (@PySem.W.boot_o_2 x0) (@PySem.W.BT.node (@PySem.W.boot_o_4 x0) (@PySem.W.BT.node (@PySem.W.boot_o_8 x0) (@PySem.W.BT.node (@left_o_13 x0) (@PySem.W.BT.node (@left_o_31 x0) @PySem.W.BT.nil @PySem.W.BT.nil) @PySem.W.BT.nil) (@PySem.W.BT.node (@left_o_23 x0) @PySem.W.BT.nil @PySem.W.BT.nil)) (@PySem.W.BT.node (@left_o_11 x0) (@PySem.W.BT.node (@left_o_17 x0) @PySem.W.BT.nil @PySem.W.BT.nil) (@PySem.W.BT.node (@left_o_27 x0) @PySem.W.BT.nil @PySem.W.BT.nil))) (@PySem.W.BT.node (@PySem.W.boot_o_6 x0) (@PySem.W.BT.node (@PySem.W.boot_o_10 x0) (@PySem.W.BT.node (@left_o_15 x0) @PySem.W.BT.nil @PySem.W.BT.nil) (@PySem.W.BT.node (@left_o_25 x0) @PySem.W.BT.nil @PySem.W.BT.nil)) (@PySem.W.BT.node (@left_o_5 x0) (@PySem.W.BT.node (@left_o_21 x0) @PySem.W.BT.nil @PySem.W.BT.nil) (@PySem.W.BT.node (@left_o_29 x0) @PySem.W.BT.nil @PySem.W.BT.nil))))))
def eleft__proof_39 : PySem.World → Prop := (fun (x0 : @PySem.World) => (@Eq.{0+1} ((x1 : @PySem.OsState) → (@Option.{0} (@Prod.{0, 0} @PySem.Flow (@Prod.{0, 0} @PySem.W.SharedT (@Prod.{0, 0} @PySem.Code @PySem.Pos))))) (fun (x1 : @PySem.OsState) => (@PySem.W.segRunT @PySem.treeTable @PySem.Challenge.pw_tr0009_01 x0 (nat_lit 11) (@Option.some.{0} @PySem.Value (@PySem.Value.ref 6)) (nat_lit 1) (nat_lit 999) (@PySem.W.SharedT.mk (@left_tree_18 (@PySem.World.params x0)) (nat_lit 22) (@PySem.Life.mk [] [] [] 0 [] [] @Bool.false #[] [] 0 @Bool.false @Bool.false @Bool.false (@OfNat.ofNat.{0} @Int (nat_lit 0) (@instOfNat (nat_lit 0))) [(@OfNat.ofNat.{0} @Int (nat_lit 2000) (@instOfNat (nat_lit 2000))), (@OfNat.ofNat.{0} @Int (nat_lit 10) (@instOfNat (nat_lit 10))), (@OfNat.ofNat.{0} @Int (nat_lit 10) (@instOfNat (nat_lit 10)))] @Bool.false 0 @Bool.true [] [] 0 @Bool.false) (@Array.mk.{0} @PySem.GenState []) (@PySem.Drawn.mk 0 0 0 0) (nat_lit 196) x1) (@PySem.W.piecesOf @left_sts_20 @left_env_1 (@PySem.Code.body (@PySem.W.behindTheImports @PySem.Challenge.pw_tr0009_01) @left_env_1) (@PySem.Pos.mk 4 0 4 8) [(@PySem.W.topFrame (@PySem.Pos.mk 0 0 0 0))]))) (fun (x1 : @PySem.OsState) => (@Option.some.{0} (@Prod.{0, 0} @PySem.Flow (@Prod.{0, 0} @PySem.W.SharedT (@Prod.{0, 0} @PySem.Code @PySem.Pos))) (@Prod.mk.{0, 0} @PySem.Flow (@Prod.{0, 0} @PySem.W.SharedT (@Prod.{0, 0} @PySem.Code @PySem.Pos)) @PySem.Flow.next (@Prod.mk.{0, 0} @PySem.W.SharedT (@Prod.{0, 0} @PySem.Code @PySem.Pos) (@PySem.W.SharedT.mk (@left_tree_31 (@PySem.World.params x0)) (nat_lit 33) (@PySem.Life.mk [] [] [] 0 [] [] @Bool.false #[] [] 0 @Bool.false @Bool.false @Bool.false (@OfNat.ofNat.{0} @Int (nat_lit 0) (@instOfNat (nat_lit 0))) [(@OfNat.ofNat.{0} @Int (nat_lit 2000) (@instOfNat (nat_lit 2000))), (@OfNat.ofNat.{0} @Int (nat_lit 10) (@instOfNat (nat_lit 10))), (@OfNat.ofNat.{0} @Int (nat_lit 10) (@instOfNat (nat_lit 10)))] @Bool.false 0 @Bool.true [] [] 0 @Bool.false) (@Array.mk.{0} @PySem.GenState []) (@PySem.Drawn.mk 0 0 0 0) (nat_lit 256) x1) (@Prod.mk.{0, 0} @PySem.Code @PySem.Pos (@PySem.Code.body (@PySem.W.behindTheImports @PySem.Challenge.pw_tr0009_01) @left_env_1) (@PySem.Pos.mk 5 0 5 6))))))))
def eleft__proof_39f (w : PySem.World) : Prop := eleft__proof_39 (PySem.World.withFollow w "set-order" false)
def eleft__proof_39ff (w : PySem.World) : Prop := eleft__proof_39f (PySem.World.withFollow w "special-get-raises" false)
theorem eleft__proof_39ff_p : ∀ w : PySem.World, eleft__proof_39ff w := fun w => (by show _ = _; rewrite [PySem.W.Fast.te10110043849684766642, PySem.W.Fast.te14364793385576792824]; kernel_rfl)
def eleft__proof_39ft (w : PySem.World) : Prop := eleft__proof_39f (PySem.World.withFollow w "special-get-raises" true)
theorem eleft__proof_39ft_p : ∀ w : PySem.World, eleft__proof_39ft w := fun w => (by show _ = _; rewrite [PySem.W.Fast.te10110043849684766642, PySem.W.Fast.te14364793385576792824]; kernel_rfl)
theorem eleft__proof_39f_p : ∀ w : PySem.World, eleft__proof_39f w := byRow2 "special-get-raises" (P := eleft__proof_39f) eleft__proof_39ff_p eleft__proof_39ft_p
def eleft__proof_39t (w : PySem.World) : Prop := eleft__proof_39 (PySem.World.withFollow w "set-order" true)
def eleft__proof_39tf (w : PySem.World) : Prop := eleft__proof_39t (PySem.World.withFollow w "special-get-raises" false)
theorem eleft__proof_39tf_p : ∀ w : PySem.World, eleft__proof_39tf w := fun w => (by show _ = _; rewrite [PySem.W.Fast.te10110043849684766642, PySem.W.Fast.te14364793385576792824]; kernel_rfl)
def eleft__proof_39tt (w : PySem.World) : Prop := eleft__proof_39t (PySem.World.withFollow w "special-get-raises" true)
theorem eleft__proof_39tt_p : ∀ w : PySem.World, eleft__proof_39tt w := fun w => (by show _ = _; rewrite [PySem.W.Fast.te10110043849684766642, PySem.W.Fast.te14364793385576792824]; kernel_rfl)
theorem eleft__proof_39t_p : ∀ w : PySem.World, eleft__proof_39t w := byRow2 "special-get-raises" (P := eleft__proof_39t) eleft__proof_39tf_p eleft__proof_39tt_p
theorem eleft__proof_39_p : ∀ w : PySem.World, eleft__proof_39 w := byRow2 "set-order" (P := eleft__proof_39) eleft__proof_39f_p eleft__proof_39t_p
theorem left__proof_39 : ((x0 : @PySem.World) → (@Eq.{0+1} ((x1 : @PySem.OsState) → (@Option.{0} (@Prod.{0, 0} @PySem.Flow (@Prod.{0, 0} @PySem.W.SharedT (@Prod.{0, 0} @PySem.Code @PySem.Pos))))) (fun (x1 : @PySem.OsState) => (@PySem.W.segRunT @PySem.treeTable @PySem.Challenge.pw_tr0009_01 x0 (nat_lit 11) (@Option.some.{0} @PySem.Value (@PySem.Value.ref 6)) (nat_lit 1) (nat_lit 999) (@PySem.W.SharedT.mk (@left_tree_18 (@PySem.World.params x0)) (nat_lit 22) (@PySem.Life.mk [] [] [] 0 [] [] @Bool.false #[] [] 0 @Bool.false @Bool.false @Bool.false (@OfNat.ofNat.{0} @Int (nat_lit 0) (@instOfNat (nat_lit 0))) [(@OfNat.ofNat.{0} @Int (nat_lit 2000) (@instOfNat (nat_lit 2000))), (@OfNat.ofNat.{0} @Int (nat_lit 10) (@instOfNat (nat_lit 10))), (@OfNat.ofNat.{0} @Int (nat_lit 10) (@instOfNat (nat_lit 10)))] @Bool.false 0 @Bool.true [] [] 0 @Bool.false) (@Array.mk.{0} @PySem.GenState []) (@PySem.Drawn.mk 0 0 0 0) (nat_lit 196) x1) (@PySem.W.piecesOf @left_sts_20 @left_env_1 (@PySem.Code.body (@PySem.W.behindTheImports @PySem.Challenge.pw_tr0009_01) @left_env_1) (@PySem.Pos.mk 4 0 4 8) [(@PySem.W.topFrame (@PySem.Pos.mk 0 0 0 0))]))) (fun (x1 : @PySem.OsState) => (@Option.some.{0} (@Prod.{0, 0} @PySem.Flow (@Prod.{0, 0} @PySem.W.SharedT (@Prod.{0, 0} @PySem.Code @PySem.Pos))) (@Prod.mk.{0, 0} @PySem.Flow (@Prod.{0, 0} @PySem.W.SharedT (@Prod.{0, 0} @PySem.Code @PySem.Pos)) @PySem.Flow.next (@Prod.mk.{0, 0} @PySem.W.SharedT (@Prod.{0, 0} @PySem.Code @PySem.Pos) (@PySem.W.SharedT.mk (@left_tree_31 (@PySem.World.params x0)) (nat_lit 33) (@PySem.Life.mk [] [] [] 0 [] [] @Bool.false #[] [] 0 @Bool.false @Bool.false @Bool.false (@OfNat.ofNat.{0} @Int (nat_lit 0) (@instOfNat (nat_lit 0))) [(@OfNat.ofNat.{0} @Int (nat_lit 2000) (@instOfNat (nat_lit 2000))), (@OfNat.ofNat.{0} @Int (nat_lit 10) (@instOfNat (nat_lit 10))), (@OfNat.ofNat.{0} @Int (nat_lit 10) (@instOfNat (nat_lit 10)))] @Bool.false 0 @Bool.true [] [] 0 @Bool.false) (@Array.mk.{0} @PySem.GenState []) (@PySem.Drawn.mk 0 0 0 0) (nat_lit 256) x1) (@Prod.mk.{0, 0} @PySem.Code @PySem.Pos (@PySem.Code.body (@PySem.W.behindTheImports @PySem.Challenge.pw_tr0009_01) @left_env_1) (@PySem.Pos.mk 5 0 5 6)))))))) := eleft__proof_39_p
def left_sts_39 : List PySem.Stmt := List.take 3 (List.drop 3 (PySem.W.behindTheImports PySem.Challenge.pw_tr0009_01))
noncomputable def left_o_39 : ((x0 : @PySem.Params) → @PySem.Obj) :=
  (fun (x0 : @PySem.Params) => (@PySem.Obj.mk @PySem.Value.none (@Option.none.{0} @Nat) (@PySem.Data.dict #[(@PySem.DictEntry.mk (@PySem.PyData.keyHash x0 (PySem.Str.ofString "type.__subclasses__.Exception.0")) (@PySem.Value.str (PySem.Str.ofString "type.__subclasses__.Exception.0") 281) (@PySem.Value.int (@OfNat.ofNat.{0} @Int (nat_lit 49) (@instOfNat (nat_lit 49))) 0)), (@PySem.DictEntry.mk (@PySem.PyData.keyHash x0 (PySem.Str.ofString "type.__subclasses__.Exception.n")) (@PySem.Value.str (PySem.Str.ofString "type.__subclasses__.Exception.n") 282) (@PySem.Value.int (@OfNat.ofNat.{0} @Int (nat_lit 1) (@instOfNat (nat_lit 1))) 0))] 2) #[]))
noncomputable def left_o_40 : ((x0 : @PySem.Params) → @PySem.Obj) :=
  (fun (x0 : @PySem.Params) => (@PySem.Obj.mk (@PySem.Value.type "dict") (@Option.none.{0} @Nat) (@PySem.Data.dict #[(@PySem.DictEntry.mk (@PySem.PyData.keyHash x0 (PySem.Str.ofString "__name__")) (@PySem.Value.str (PySem.Str.ofString "__name__") 165) (@PySem.Value.str (PySem.Str.ofString "cpy313.ftplib") 263)), (@PySem.DictEntry.mk (@PySem.PyData.keyHash x0 (PySem.Str.ofString "__doc__")) (@PySem.Value.str (PySem.Str.ofString "__doc__") 166) @PySem.Value.none), (@PySem.DictEntry.mk (@PySem.PyData.keyHash x0 (PySem.Str.ofString "__package__")) (@PySem.Value.str (PySem.Str.ofString "__package__") 167) @PySem.Value.none), (@PySem.DictEntry.mk (@PySem.PyData.keyHash x0 (PySem.Str.ofString "__loader__")) (@PySem.Value.str (PySem.Str.ofString "__loader__") 168) (@PySem.Value.builtin "__main__.__loader__#opaque")), (@PySem.DictEntry.mk (@PySem.PyData.keyHash x0 (PySem.Str.ofString "__spec__")) (@PySem.Value.str (PySem.Str.ofString "__spec__") 169) @PySem.Value.none), (@PySem.DictEntry.mk (@PySem.PyData.keyHash x0 (PySem.Str.ofString "__annotations__")) (@PySem.Value.str (PySem.Str.ofString "__annotations__") 170) (@PySem.Value.ref 6)), (@PySem.DictEntry.mk (@PySem.PyData.keyHash x0 (PySem.Str.ofString "__builtins__")) (@PySem.Value.str (PySem.Str.ofString "__builtins__") 171) (@PySem.Value.ref 4)), (@PySem.DictEntry.mk (@PySem.PyData.keyHash x0 (PySem.Str.ofString "__file__")) (@PySem.Value.str (PySem.Str.ofString "__file__") 173) (@PySem.Value.str (PySem.Str.ofString "/claim/cut.py") 172)), (@PySem.DictEntry.mk (@PySem.PyData.keyHash x0 (PySem.Str.ofString "__cached__")) (@PySem.Value.str (PySem.Str.ofString "__cached__") 174) @PySem.Value.none), (@PySem.DictEntry.mk (@PySem.PyData.keyHash x0 (PySem.Str.ofString "_wall")) (@PySem.Value.str (PySem.Str.ofString "_wall") 193) (@PySem.Value.ref 21)), (@PySem.DictEntry.mk (@PySem.PyData.keyHash x0 (PySem.Str.ofString "b1_set")) (@PySem.Value.str (PySem.Str.ofString "b1_set") 255) (@PySem.Value.ref 29)), (@PySem.DictEntry.mk (@PySem.PyData.keyHash x0 (PySem.Str.ofString "in_table_b1")) (@PySem.Value.str (PySem.Str.ofString "in_table_b1") 262) (@PySem.Value.ref 39)), (@PySem.DictEntry.mk (@PySem.PyData.keyHash x0 (PySem.Str.ofString "Error")) (@PySem.Value.str (PySem.Str.ofString "Error") 284) (@PySem.Value.ref 49))] 13) #[]))
noncomputable def left_o_41 : ((x0 : @PySem.Params) → @PySem.Obj) :=
  (fun (x0 : @PySem.Params) => (@PySem.Obj.mk @PySem.Value.none (@Option.none.{0} @Nat) (@PySem.Data.fields #[(@PySem.Value.int (@OfNat.ofNat.{0} @Int (nat_lit 1) (@instOfNat (nat_lit 1))) 0), (@PySem.Value.int (@OfNat.ofNat.{0} @Int (nat_lit 0) (@instOfNat (nat_lit 0))) 0), (@PySem.Value.ref 20), (@PySem.Value.int (@OfNat.ofNat.{0} @Int (nat_lit 6) (@instOfNat (nat_lit 6))) 0), (@PySem.Value.int (@OfNat.ofNat.{0} @Int (nat_lit 0) (@instOfNat (nat_lit 0))) 0), (@PySem.Value.ref 38), (@PySem.Value.int (@OfNat.ofNat.{0} @Int (nat_lit 9) (@instOfNat (nat_lit 9))) 0), (@PySem.Value.int (@OfNat.ofNat.{0} @Int (nat_lit 0) (@instOfNat (nat_lit 0))) 0), (@PySem.Value.ref 45)]) #[]))
noncomputable def left_o_42 : ((x0 : @PySem.Params) → @PySem.Obj) :=
  (fun (x0 : @PySem.Params) => (@PySem.Obj.mk (@PySem.Value.type "tuple") (@Option.none.{0} @Nat) (@PySem.Data.seq #[] 0) #[]))
noncomputable def left_o_43 : ((x0 : @PySem.Params) → @PySem.Obj) :=
  (fun (x0 : @PySem.Params) => (@PySem.Obj.mk @PySem.Value.none (@Option.none.{0} @Nat) (@PySem.Data.fields #[]) #[]))
noncomputable def left_o_44 : ((x0 : @PySem.Params) → @PySem.Obj) :=
  (fun (x0 : @PySem.Params) => (@PySem.Obj.mk (@PySem.Value.type "tuple") (@Option.none.{0} @Nat) (@PySem.Data.seq #[(@PySem.Value.str (PySem.Str.ofString "code") 259)] 0) #[]))
noncomputable def left_o_45 : ((x0 : @PySem.Params) → @PySem.Obj) :=
  (fun (x0 : @PySem.Params) => (@PySem.Obj.mk (@PySem.Value.type "tuple") (@Option.none.{0} @Nat) (@PySem.Data.seq #[] 0) #[]))
noncomputable def left_o_46 : ((x0 : @PySem.Params) → @PySem.Obj) :=
  (fun (x0 : @PySem.Params) => (@PySem.Obj.mk @PySem.Value.none (@Option.none.{0} @Nat) (@PySem.Data.func (@PySem.FuncData.mk (PySem.Str.ofString "in_table_b1") (PySem.Str.ofString "in_table_b1") a3 (@PySem.FuncBody.stmts b3) s3 0 [] @PySem.Value.none @PySem.Value.none @PySem.Value.none @PySem.Value.none (@Option.none.{0} @Nat) @PySem.Value.none @PySem.Value.none 0)) #[]))
noncomputable def left_o_47 : ((x0 : @PySem.Params) → @PySem.Obj) :=
  (fun (x0 : @PySem.Params) => (@PySem.Obj.mk (@PySem.Value.type "code") (@Option.none.{0} @Nat) (@PySem.Data.fields #[(@PySem.Value.str (PySem.Str.ofString "in_table_b1") 256), (@PySem.Value.str (PySem.Str.ofString "in_table_b1") 257), (@PySem.Value.str (PySem.Str.ofString "/claim/cut.py") 258), (@PySem.Value.int (@OfNat.ofNat.{0} @Int (nat_lit 6) (@instOfNat (nat_lit 6))) 0), (@PySem.Value.int (@OfNat.ofNat.{0} @Int (nat_lit 1) (@instOfNat (nat_lit 1))) 0), (@PySem.Value.int (@OfNat.ofNat.{0} @Int (nat_lit 0) (@instOfNat (nat_lit 0))) 0), (@PySem.Value.int (@OfNat.ofNat.{0} @Int (nat_lit 0) (@instOfNat (nat_lit 0))) 0), (@PySem.Value.int (@OfNat.ofNat.{0} @Int (nat_lit 3) (@instOfNat (nat_lit 3))) 0), (@PySem.Value.ref 33), (@PySem.Value.bool @Bool.true), (@PySem.Value.int (@OfNat.ofNat.{0} @Int (nat_lit 181) (@instOfNat (nat_lit 181))) 0), (@PySem.Value.ref 34), @PySem.Value.none, (@PySem.Value.ref 35), (@PySem.Value.ref 36), (@PySem.Value.ref 37), (@PySem.Value.int (@OfNat.ofNat.{0} @Int (nat_lit 260) (@instOfNat (nat_lit 260))) 0), (@PySem.Value.int (@OfNat.ofNat.{0} @Int (nat_lit 6) (@instOfNat (nat_lit 6))) 0), (@PySem.Value.str (PySem.Str.ofString "/claim/cut.py") 261)]) #[]))
noncomputable def left_o_48 : ((x0 : @PySem.Params) → @PySem.Obj) :=
  (fun (x0 : @PySem.Params) => (@PySem.Obj.mk (@PySem.Value.type "function") (@Option.none.{0} @Nat) (@PySem.Data.func (@PySem.FuncData.mk (PySem.Str.ofString "in_table_b1") (PySem.Str.ofString "in_table_b1") a3 (@PySem.FuncBody.stmts b3) s3 3 [] @PySem.Value.none @PySem.Value.none @PySem.Value.none (@PySem.Value.str (PySem.Str.ofString "cpy313.stringprep") 194) (@Option.none.{0} @Nat) (@PySem.Value.ref 38) @PySem.Value.none 0)) #[]))
noncomputable def left_o_49 : ((x0 : @PySem.Params) → @PySem.Obj) :=
  (fun (x0 : @PySem.Params) => (@PySem.Obj.mk (@PySem.Value.type "tuple") (@Option.none.{0} @Nat) (@PySem.Data.seq #[(@PySem.Value.type "Exception")] 0) #[]))
noncomputable def left_o_50 : ((x0 : @PySem.Params) → @PySem.Obj) :=
  (fun (x0 : @PySem.Params) => (@PySem.Obj.mk (@PySem.Value.type "builtin_function_or_method") (@Option.none.{0} @Nat) (@PySem.Data.fields #[(@PySem.Value.builtin "type.__prepare__"), (@PySem.Value.type "type")]) #[]))
noncomputable def left_o_51 : ((x0 : @PySem.Params) → @PySem.Obj) :=
  (fun (x0 : @PySem.Params) => (@PySem.Obj.mk (@PySem.Value.type "dict") (@Option.none.{0} @Nat) (@PySem.Data.dict #[(@PySem.DictEntry.mk (@PySem.PyData.keyHash x0 (PySem.Str.ofString "__module__")) (@PySem.Value.str (PySem.Str.ofString "__module__") 272) (@PySem.Value.str (PySem.Str.ofString "cpy313.ftplib") 263)), (@PySem.DictEntry.mk (@PySem.PyData.keyHash x0 (PySem.Str.ofString "__qualname__")) (@PySem.Value.str (PySem.Str.ofString "__qualname__") 274) (@PySem.Value.str (PySem.Str.ofString "Error") 273)), (@PySem.DictEntry.mk (@PySem.PyData.keyHash x0 (PySem.Str.ofString "__firstlineno__")) (@PySem.Value.str (PySem.Str.ofString "__firstlineno__") 276) (@PySem.Value.int (@OfNat.ofNat.{0} @Int (nat_lit 9) (@instOfNat (nat_lit 9))) 275)), (@PySem.DictEntry.mk (@PySem.PyData.keyHash x0 (PySem.Str.ofString "__static_attributes__")) (@PySem.Value.str (PySem.Str.ofString "__static_attributes__") 277) (@PySem.Value.ref 47))] 4) #[]))
noncomputable def left_o_52 : ((x0 : @PySem.Params) → @PySem.Obj) :=
  (fun (x0 : @PySem.Params) => (@PySem.Obj.mk (@PySem.Value.type "tuple") (@Option.none.{0} @Nat) (@PySem.Data.seq #[] 0) #[]))
noncomputable def left_o_53 : ((x0 : @PySem.Params) → @PySem.Obj) :=
  (fun (x0 : @PySem.Params) => (@PySem.Obj.mk @PySem.Value.none (@Option.none.{0} @Nat) (@PySem.Data.fields #[]) #[]))
noncomputable def left_o_54 : ((x0 : @PySem.Params) → @PySem.Obj) :=
  (fun (x0 : @PySem.Params) => (@PySem.Obj.mk (@PySem.Value.type "code") (@Option.none.{0} @Nat) (@PySem.Data.fields #[(@PySem.Value.str (PySem.Str.ofString "Error") 267), (@PySem.Value.str (PySem.Str.ofString "Error") 268), (@PySem.Value.str (PySem.Str.ofString "/claim/cut.py") 269), (@PySem.Value.int (@OfNat.ofNat.{0} @Int (nat_lit 9) (@instOfNat (nat_lit 9))) 0), (@PySem.Value.int (@OfNat.ofNat.{0} @Int (nat_lit 0) (@instOfNat (nat_lit 0))) 0), (@PySem.Value.int (@OfNat.ofNat.{0} @Int (nat_lit 0) (@instOfNat (nat_lit 0))) 0), (@PySem.Value.int (@OfNat.ofNat.{0} @Int (nat_lit 0) (@instOfNat (nat_lit 0))) 0), (@PySem.Value.int (@OfNat.ofNat.{0} @Int (nat_lit 0) (@instOfNat (nat_lit 0))) 0), (@PySem.Value.ref 43), (@PySem.Value.bool @Bool.false), (@PySem.Value.int (@OfNat.ofNat.{0} @Int (nat_lit 181) (@instOfNat (nat_lit 181))) 0), (@PySem.Value.ref 44), @PySem.Value.none, @PySem.Value.none, @PySem.Value.none, @PySem.Value.none, (@PySem.Value.int (@OfNat.ofNat.{0} @Int (nat_lit 270) (@instOfNat (nat_lit 270))) 0), (@PySem.Value.int (@OfNat.ofNat.{0} @Int (nat_lit 9) (@instOfNat (nat_lit 9))) 0), (@PySem.Value.str (PySem.Str.ofString "/claim/cut.py") 271)]) #[]))
noncomputable def left_o_55 : ((x0 : @PySem.Params) → @PySem.Obj) :=
  (fun (x0 : @PySem.Params) => (@PySem.Obj.mk (@PySem.Value.type "frame") (@Option.none.{0} @Nat) @PySem.Data.plain #[(@Option.some.{0} @PySem.Value (@PySem.Value.ref 45)), (@Option.some.{0} @PySem.Value (@PySem.Value.ref 3)), (@Option.some.{0} @PySem.Value (@PySem.Value.ref 42)), (@Option.none.{0} @PySem.Value), (@Option.some.{0} @PySem.Value (@PySem.Value.str (PySem.Str.ofString "cpy313.ftplib") 263)), (@Option.none.{0} @PySem.Value), (@Option.some.{0} @PySem.Value (@PySem.Value.ref 0))]))
noncomputable def left_o_56 : ((x0 : @PySem.Params) → @PySem.Obj) :=
  (fun (x0 : @PySem.Params) => (@PySem.Obj.mk (@PySem.Value.type "tuple") (@Option.none.{0} @Nat) (@PySem.Data.seq #[] 0) #[]))
noncomputable def left_o_57 : ((x0 : @PySem.Params) → @PySem.Obj) :=
  (fun (x0 : @PySem.Params) => (@PySem.Obj.mk (@PySem.Value.type "dict") (@Option.none.{0} @Nat) (@PySem.Data.dict #[(@PySem.DictEntry.mk (@PySem.PyData.keyHash x0 (PySem.Str.ofString "__module__")) (@PySem.Value.str (PySem.Str.ofString "__module__") 272) (@PySem.Value.str (PySem.Str.ofString "cpy313.ftplib") 263)), (@PySem.DictEntry.mk (@PySem.PyData.keyHash x0 (PySem.Str.ofString "__firstlineno__")) (@PySem.Value.str (PySem.Str.ofString "__firstlineno__") 276) (@PySem.Value.int (@OfNat.ofNat.{0} @Int (nat_lit 9) (@instOfNat (nat_lit 9))) 275)), (@PySem.DictEntry.mk (@PySem.PyData.keyHash x0 (PySem.Str.ofString "__static_attributes__")) (@PySem.Value.str (PySem.Str.ofString "__static_attributes__") 277) (@PySem.Value.ref 47)), (@PySem.DictEntry.mk (@PySem.PyData.keyHash x0 (PySem.Str.ofString "__weakref__")) (@PySem.Value.str (PySem.Str.ofString "__weakref__") 279) (@PySem.Value.ref 50)), (@PySem.DictEntry.mk (@PySem.PyData.keyHash x0 (PySem.Str.ofString "__doc__")) (@PySem.Value.str (PySem.Str.ofString "__doc__") 280) @PySem.Value.none)] 3) #[]))
noncomputable def left_o_58 : ((x0 : @PySem.Params) → @PySem.Obj) :=
  (fun (x0 : @PySem.Params) => (@PySem.Obj.mk (@PySem.Value.type "type") (@Option.none.{0} @Nat) (@PySem.Data.cls (@PySem.ClassData.mk (PySem.Str.ofString "Error") [(@PySem.Value.type "Exception")] [(@PySem.Value.ref 49), (@PySem.Value.type "Exception"), (@PySem.Value.type "BaseException"), (@PySem.Value.type "object")] 48 (PySem.Str.ofString "Error") @Bool.true [] [] @Bool.false (@Option.none.{0} @Bool) @Bool.false)) #[(@Option.some.{0} @PySem.Value (@PySem.Value.ref 40)), (@Option.none.{0} @PySem.Value), (@Option.some.{0} @PySem.Value (@PySem.Value.str (PySem.Str.ofString "Error") 265)), (@Option.some.{0} @PySem.Value (@PySem.Value.str (PySem.Str.ofString "Error") 273)), (@Option.some.{0} @PySem.Value (@PySem.Value.builtin "Exception.__new__")), (@Option.some.{0} @PySem.Value (@PySem.Value.bool @Bool.true))]))
noncomputable def left_o_59 : ((x0 : @PySem.Params) → @PySem.Obj) :=
  (fun (x0 : @PySem.Params) => (@PySem.Obj.mk (@PySem.Value.type "getset_descriptor") (@Option.none.{0} @Nat) (@PySem.Data.fields #[(@PySem.Value.str (PySem.Str.ofString "__weakref__") 278), (@PySem.Value.ref 49), (@PySem.Value.builtin "ExceptionGroup.__weakref__"), @PySem.Value.none]) #[]))
noncomputable def left_o_60 : ((x0 : @PySem.Params) → @PySem.Obj) :=
  (fun (x0 : @PySem.Params) => (@PySem.Obj.mk (@PySem.Value.type "super") (@Option.none.{0} @Nat) (@PySem.Data.fields #[(@PySem.Value.ref 49), (@PySem.Value.ref 49), (@PySem.Value.ref 49)]) #[]))
noncomputable def left_o_61 : ((x0 : @PySem.Params) → @PySem.Obj) :=
  (fun (x0 : @PySem.Params) => (@PySem.Obj.mk (@PySem.Value.type "builtin_function_or_method") (@Option.none.{0} @Nat) (@PySem.Data.fields #[(@PySem.Value.builtin "object.__init_subclass__"), (@PySem.Value.ref 49)]) #[]))
noncomputable def left_tree_61 : ((x0 : @PySem.Params) → @PySem.W.BT) :=
  (fun (x0 : @PySem.Params) => (@PySem.W.BT.node (@PySem.W.boot_o_0 x0) (@PySem.W.BT.node (@PySem.W.boot_o_1 x0) (@PySem.W.BT.node (@left_o_40 x0) (@PySem.W.BT.node (@PySem.W.boot_o_7 x0) (@PySem.W.BT.node (@left_o_12 x0) (@PySem.W.BT.node (@left_o_30 x0) @PySem.W.BT.nil @PySem.W.BT.nil) (@PySem.W.BT.node (@left_o_56 x0) @PySem.W.BT.nil @PySem.W.BT.nil)) (@PySem.W.BT.node (@left_o_22 x0) (@PySem.W.BT.node (@left_o_48 x0) @PySem.W.BT.nil @PySem.W.BT.nil) @PySem.W.BT.nil)) (@PySem.W.BT.node (@left_o_2 x0) (@PySem.W.BT.node (@left_o_16 x0) (@PySem.W.BT.node (@left_o_44 x0) @PySem.W.BT.nil @PySem.W.BT.nil) (@PySem.W.BT.node (@left_o_60 x0) @PySem.W.BT.nil @PySem.W.BT.nil)) (@PySem.W.BT.node (@left_o_26 x0) (@PySem.W.BT.node (@left_o_52 x0) @PySem.W.BT.nil @PySem.W.BT.nil) @PySem.W.BT.nil))) (@PySem.W.BT.node (@PySem.W.boot_o_5 x0) (@PySem.W.BT.node (@PySem.W.boot_o_9 x0) (@PySem.W.BT.node (@left_o_14 x0) (@PySem.W.BT.node (@left_o_42 x0) @PySem.W.BT.nil @PySem.W.BT.nil) (@PySem.W.BT.node (@left_o_58 x0) @PySem.W.BT.nil @PySem.W.BT.nil)) (@PySem.W.BT.node (@left_o_24 x0) (@PySem.W.BT.node (@left_o_50 x0) @PySem.W.BT.nil @PySem.W.BT.nil) @PySem.W.BT.nil)) (@PySem.W.BT.node (@left_o_4 x0) (@PySem.W.BT.node (@left_o_18 x0) (@PySem.W.BT.node (@left_o_46 x0) @PySem.W.BT.nil @PySem.W.BT.nil) @PySem.W.BT.nil) (@PySem.W.BT.node (@left_o_28 x0) (@PySem.W.BT.node (@left_o_54 x0) @PySem.W.BT.nil @PySem.W.BT.nil) @PySem.W.BT.nil)))) (@PySem.W.BT.node (@left_o_39 x0) (@PySem.W.BT.node (@PySem.W.boot_o_4 x0) (@PySem.W.BT.node (@PySem.W.boot_o_8 x0) (@PySem.W.BT.node (@left_o_13 x0) (@PySem.W.BT.node (@left_o_31 x0) @PySem.W.BT.nil @PySem.W.BT.nil) (@PySem.W.BT.node (@left_o_57 x0) @PySem.W.BT.nil @PySem.W.BT.nil)) (@PySem.W.BT.node (@left_o_23 x0) (@PySem.W.BT.node (@left_o_49 x0) @PySem.W.BT.nil @PySem.W.BT.nil) @PySem.W.BT.nil)) (@PySem.W.BT.node (@left_o_41 x0) (@PySem.W.BT.node (@left_o_17 x0) (@PySem.W.BT.node (@left_o_45 x0) @PySem.W.BT.nil @PySem.W.BT.nil) (@PySem.W.BT.node (@left_o_61 x0) @PySem.W.BT.nil @PySem.W.BT.nil)) (@PySem.W.BT.node (@left_o_27 x0) (@PySem.W.BT.node (@left_o_53 x0) @PySem.W.BT.nil @PySem.W.BT.nil) @PySem.W.BT.nil))) (@PySem.W.BT.node (@PySem.W.boot_o_6 x0) (@PySem.W.BT.node (@PySem.W.boot_o_10 x0) (@PySem.W.BT.node (@left_o_15 x0) (@PySem.W.BT.node (@left_o_43 x0) @PySem.W.BT.nil @PySem.W.BT.nil) (@PySem.W.BT.node (@left_o_59 x0) @PySem.W.BT.nil @PySem.W.BT.nil)) (@PySem.W.BT.node (@left_o_25 x0) (@PySem.W.BT.node (@left_o_51 x0) @PySem.W.BT.nil @PySem.W.BT.nil) @PySem.W.BT.nil)) (@PySem.W.BT.node (@left_o_5 x0) (@PySem.W.BT.node (@left_o_21 x0) (@PySem.W.BT.node (@left_o_47 x0) @PySem.W.BT.nil @PySem.W.BT.nil) @PySem.W.BT.nil) (@PySem.W.BT.node (@left_o_29 x0) (@PySem.W.BT.node (@left_o_55 x0) @PySem.W.BT.nil @PySem.W.BT.nil) @PySem.W.BT.nil))))))
def eleft__proof_63 : PySem.World → Prop := (fun (x0 : @PySem.World) => (@Eq.{0+1} ((x1 : @PySem.OsState) → (@Option.{0} (@Prod.{0, 0} @PySem.Flow (@Prod.{0, 0} @PySem.W.SharedT (@Prod.{0, 0} @PySem.Code @PySem.Pos))))) (fun (x1 : @PySem.OsState) => (@PySem.W.segRunT @PySem.treeTable @PySem.Challenge.pw_tr0009_01 x0 (nat_lit 11) (@Option.some.{0} @PySem.Value (@PySem.Value.ref 6)) (nat_lit 1) (nat_lit 235) (@PySem.W.SharedT.mk (@left_tree_31 (@PySem.World.params x0)) (nat_lit 33) (@PySem.Life.mk [] [] [] 0 [] [] @Bool.false #[] [] 0 @Bool.false @Bool.false @Bool.false (@OfNat.ofNat.{0} @Int (nat_lit 0) (@instOfNat (nat_lit 0))) [(@OfNat.ofNat.{0} @Int (nat_lit 2000) (@instOfNat (nat_lit 2000))), (@OfNat.ofNat.{0} @Int (nat_lit 10) (@instOfNat (nat_lit 10))), (@OfNat.ofNat.{0} @Int (nat_lit 10) (@instOfNat (nat_lit 10)))] @Bool.false 0 @Bool.true [] [] 0 @Bool.false) (@Array.mk.{0} @PySem.GenState []) (@PySem.Drawn.mk 0 0 0 0) (nat_lit 256) x1) (@PySem.W.piecesOf @left_sts_39 @left_env_1 (@PySem.Code.body (@PySem.W.behindTheImports @PySem.Challenge.pw_tr0009_01) @left_env_1) (@PySem.Pos.mk 5 0 5 6) [(@PySem.W.topFrame (@PySem.Pos.mk 0 0 0 0))]))) (fun (x1 : @PySem.OsState) => (@Option.some.{0} (@Prod.{0, 0} @PySem.Flow (@Prod.{0, 0} @PySem.W.SharedT (@Prod.{0, 0} @PySem.Code @PySem.Pos))) (@Prod.mk.{0, 0} @PySem.Flow (@Prod.{0, 0} @PySem.W.SharedT (@Prod.{0, 0} @PySem.Code @PySem.Pos)) @PySem.Flow.next (@Prod.mk.{0, 0} @PySem.W.SharedT (@Prod.{0, 0} @PySem.Code @PySem.Pos) (@PySem.W.SharedT.mk (@left_tree_61 (@PySem.World.params x0)) (nat_lit 53) (@PySem.Life.mk [] [] [] 0 [] [] @Bool.false #[] [] 0 @Bool.false @Bool.false @Bool.false (@OfNat.ofNat.{0} @Int (nat_lit 0) (@instOfNat (nat_lit 0))) [(@OfNat.ofNat.{0} @Int (nat_lit 2000) (@instOfNat (nat_lit 2000))), (@OfNat.ofNat.{0} @Int (nat_lit 10) (@instOfNat (nat_lit 10))), (@OfNat.ofNat.{0} @Int (nat_lit 10) (@instOfNat (nat_lit 10)))] @Bool.false 0 @Bool.true [] [] 0 @Bool.false) (@Array.mk.{0} @PySem.GenState []) (@PySem.Drawn.mk 0 0 0 0) (nat_lit 285) x1) (@Prod.mk.{0, 0} @PySem.Code @PySem.Pos (@PySem.Code.body (@PySem.W.behindTheImports @PySem.Challenge.pw_tr0009_01) @left_env_1) (@PySem.Pos.mk 9 0 10 8))))))))
theorem eleft__proof_63_p : ∀ w : PySem.World, eleft__proof_63 w := fun w => (by show _ = _; rewrite [PySem.W.Fast.te10110043849684766642, PySem.W.Fast.te14364793385576792824]; kernel_rfl)
theorem left__proof_63 : ((x0 : @PySem.World) → (@Eq.{0+1} ((x1 : @PySem.OsState) → (@Option.{0} (@Prod.{0, 0} @PySem.Flow (@Prod.{0, 0} @PySem.W.SharedT (@Prod.{0, 0} @PySem.Code @PySem.Pos))))) (fun (x1 : @PySem.OsState) => (@PySem.W.segRunT @PySem.treeTable @PySem.Challenge.pw_tr0009_01 x0 (nat_lit 11) (@Option.some.{0} @PySem.Value (@PySem.Value.ref 6)) (nat_lit 1) (nat_lit 235) (@PySem.W.SharedT.mk (@left_tree_31 (@PySem.World.params x0)) (nat_lit 33) (@PySem.Life.mk [] [] [] 0 [] [] @Bool.false #[] [] 0 @Bool.false @Bool.false @Bool.false (@OfNat.ofNat.{0} @Int (nat_lit 0) (@instOfNat (nat_lit 0))) [(@OfNat.ofNat.{0} @Int (nat_lit 2000) (@instOfNat (nat_lit 2000))), (@OfNat.ofNat.{0} @Int (nat_lit 10) (@instOfNat (nat_lit 10))), (@OfNat.ofNat.{0} @Int (nat_lit 10) (@instOfNat (nat_lit 10)))] @Bool.false 0 @Bool.true [] [] 0 @Bool.false) (@Array.mk.{0} @PySem.GenState []) (@PySem.Drawn.mk 0 0 0 0) (nat_lit 256) x1) (@PySem.W.piecesOf @left_sts_39 @left_env_1 (@PySem.Code.body (@PySem.W.behindTheImports @PySem.Challenge.pw_tr0009_01) @left_env_1) (@PySem.Pos.mk 5 0 5 6) [(@PySem.W.topFrame (@PySem.Pos.mk 0 0 0 0))]))) (fun (x1 : @PySem.OsState) => (@Option.some.{0} (@Prod.{0, 0} @PySem.Flow (@Prod.{0, 0} @PySem.W.SharedT (@Prod.{0, 0} @PySem.Code @PySem.Pos))) (@Prod.mk.{0, 0} @PySem.Flow (@Prod.{0, 0} @PySem.W.SharedT (@Prod.{0, 0} @PySem.Code @PySem.Pos)) @PySem.Flow.next (@Prod.mk.{0, 0} @PySem.W.SharedT (@Prod.{0, 0} @PySem.Code @PySem.Pos) (@PySem.W.SharedT.mk (@left_tree_61 (@PySem.World.params x0)) (nat_lit 53) (@PySem.Life.mk [] [] [] 0 [] [] @Bool.false #[] [] 0 @Bool.false @Bool.false @Bool.false (@OfNat.ofNat.{0} @Int (nat_lit 0) (@instOfNat (nat_lit 0))) [(@OfNat.ofNat.{0} @Int (nat_lit 2000) (@instOfNat (nat_lit 2000))), (@OfNat.ofNat.{0} @Int (nat_lit 10) (@instOfNat (nat_lit 10))), (@OfNat.ofNat.{0} @Int (nat_lit 10) (@instOfNat (nat_lit 10)))] @Bool.false 0 @Bool.true [] [] 0 @Bool.false) (@Array.mk.{0} @PySem.GenState []) (@PySem.Drawn.mk 0 0 0 0) (nat_lit 285) x1) (@Prod.mk.{0, 0} @PySem.Code @PySem.Pos (@PySem.Code.body (@PySem.W.behindTheImports @PySem.Challenge.pw_tr0009_01) @left_env_1) (@PySem.Pos.mk 9 0 10 8)))))))) := eleft__proof_63_p
def left_sts_63 : List PySem.Stmt := List.take 3 (List.drop 6 (PySem.W.behindTheImports PySem.Challenge.pw_tr0009_01))
noncomputable def left_o_63 : ((x0 : @PySem.Params) → @PySem.Obj) :=
  (fun (x0 : @PySem.Params) => (@PySem.Obj.mk (@PySem.Value.type "dict") (@Option.none.{0} @Nat) (@PySem.Data.dict #[(@PySem.DictEntry.mk (@PySem.PyData.keyHash x0 (PySem.Str.ofString "__name__")) (@PySem.Value.str (PySem.Str.ofString "__name__") 165) (@PySem.Value.str (PySem.Str.ofString "cpy313.netrc") 312)), (@PySem.DictEntry.mk (@PySem.PyData.keyHash x0 (PySem.Str.ofString "__doc__")) (@PySem.Value.str (PySem.Str.ofString "__doc__") 166) @PySem.Value.none), (@PySem.DictEntry.mk (@PySem.PyData.keyHash x0 (PySem.Str.ofString "__package__")) (@PySem.Value.str (PySem.Str.ofString "__package__") 167) @PySem.Value.none), (@PySem.DictEntry.mk (@PySem.PyData.keyHash x0 (PySem.Str.ofString "__loader__")) (@PySem.Value.str (PySem.Str.ofString "__loader__") 168) (@PySem.Value.builtin "__main__.__loader__#opaque")), (@PySem.DictEntry.mk (@PySem.PyData.keyHash x0 (PySem.Str.ofString "__spec__")) (@PySem.Value.str (PySem.Str.ofString "__spec__") 169) @PySem.Value.none), (@PySem.DictEntry.mk (@PySem.PyData.keyHash x0 (PySem.Str.ofString "__annotations__")) (@PySem.Value.str (PySem.Str.ofString "__annotations__") 170) (@PySem.Value.ref 6)), (@PySem.DictEntry.mk (@PySem.PyData.keyHash x0 (PySem.Str.ofString "__builtins__")) (@PySem.Value.str (PySem.Str.ofString "__builtins__") 171) (@PySem.Value.ref 4)), (@PySem.DictEntry.mk (@PySem.PyData.keyHash x0 (PySem.Str.ofString "__file__")) (@PySem.Value.str (PySem.Str.ofString "__file__") 173) (@PySem.Value.str (PySem.Str.ofString "/claim/cut.py") 172)), (@PySem.DictEntry.mk (@PySem.PyData.keyHash x0 (PySem.Str.ofString "__cached__")) (@PySem.Value.str (PySem.Str.ofString "__cached__") 174) @PySem.Value.none), (@PySem.DictEntry.mk (@PySem.PyData.keyHash x0 (PySem.Str.ofString "_wall")) (@PySem.Value.str (PySem.Str.ofString "_wall") 193) (@PySem.Value.ref 21)), (@PySem.DictEntry.mk (@PySem.PyData.keyHash x0 (PySem.Str.ofString "b1_set")) (@PySem.Value.str (PySem.Str.ofString "b1_set") 255) (@PySem.Value.ref 29)), (@PySem.DictEntry.mk (@PySem.PyData.keyHash x0 (PySem.Str.ofString "in_table_b1")) (@PySem.Value.str (PySem.Str.ofString "in_table_b1") 262) (@PySem.Value.ref 39)), (@PySem.DictEntry.mk (@PySem.PyData.keyHash x0 (PySem.Str.ofString "Error")) (@PySem.Value.str (PySem.Str.ofString "Error") 284) (@PySem.Value.ref 49)), (@PySem.DictEntry.mk (@PySem.PyData.keyHash x0 (PySem.Str.ofString "error_reply")) (@PySem.Value.str (PySem.Str.ofString "error_reply") 300) (@PySem.Value.ref 62)), (@PySem.DictEntry.mk (@PySem.PyData.keyHash x0 (PySem.Str.ofString "parse257")) (@PySem.Value.str (PySem.Str.ofString "parse257") 311) (@PySem.Value.ref 71))] 15) #[]))
noncomputable def left_o_64 : ((x0 : @PySem.Params) → @PySem.Obj) :=
  (fun (x0 : @PySem.Params) => (@PySem.Obj.mk @PySem.Value.none (@Option.none.{0} @Nat) (@PySem.Data.fields #[(@PySem.Value.int (@OfNat.ofNat.{0} @Int (nat_lit 1) (@instOfNat (nat_lit 1))) 0), (@PySem.Value.int (@OfNat.ofNat.{0} @Int (nat_lit 0) (@instOfNat (nat_lit 0))) 0), (@PySem.Value.ref 20), (@PySem.Value.int (@OfNat.ofNat.{0} @Int (nat_lit 6) (@instOfNat (nat_lit 6))) 0), (@PySem.Value.int (@OfNat.ofNat.{0} @Int (nat_lit 0) (@instOfNat (nat_lit 0))) 0), (@PySem.Value.ref 38), (@PySem.Value.int (@OfNat.ofNat.{0} @Int (nat_lit 9) (@instOfNat (nat_lit 9))) 0), (@PySem.Value.int (@OfNat.ofNat.{0} @Int (nat_lit 0) (@instOfNat (nat_lit 0))) 0), (@PySem.Value.ref 45), (@PySem.Value.int (@OfNat.ofNat.{0} @Int (nat_lit 11) (@instOfNat (nat_lit 11))) 0), (@PySem.Value.int (@OfNat.ofNat.{0} @Int (nat_lit 0) (@instOfNat (nat_lit 0))) 0), (@PySem.Value.ref 58), (@PySem.Value.int (@OfNat.ofNat.{0} @Int (nat_lit 13) (@instOfNat (nat_lit 13))) 0), (@PySem.Value.int (@OfNat.ofNat.{0} @Int (nat_lit 0) (@instOfNat (nat_lit 0))) 0), (@PySem.Value.ref 70)]) #[]))
noncomputable def left_o_65 : ((x0 : @PySem.Params) → @PySem.Obj) :=
  (fun (x0 : @PySem.Params) => (@PySem.Obj.mk (@PySem.Value.type "type") (@Option.none.{0} @Nat) (@PySem.Data.cls (@PySem.ClassData.mk (PySem.Str.ofString "Error") [(@PySem.Value.type "Exception")] [(@PySem.Value.ref 49), (@PySem.Value.type "Exception"), (@PySem.Value.type "BaseException"), (@PySem.Value.type "object")] 48 (PySem.Str.ofString "Error") @Bool.true [] [(@PySem.Value.ref 62)] @Bool.false (@Option.none.{0} @Bool) @Bool.false)) #[(@Option.some.{0} @PySem.Value (@PySem.Value.ref 40)), (@Option.none.{0} @PySem.Value), (@Option.some.{0} @PySem.Value (@PySem.Value.str (PySem.Str.ofString "Error") 265)), (@Option.some.{0} @PySem.Value (@PySem.Value.str (PySem.Str.ofString "Error") 273)), (@Option.some.{0} @PySem.Value (@PySem.Value.builtin "Exception.__new__")), (@Option.some.{0} @PySem.Value (@PySem.Value.bool @Bool.true))]))
noncomputable def left_o_66 : ((x0 : @PySem.Params) → @PySem.Obj) :=
  (fun (x0 : @PySem.Params) => (@PySem.Obj.mk (@PySem.Value.type "tuple") (@Option.none.{0} @Nat) (@PySem.Data.seq #[(@PySem.Value.ref 49)] 0) #[]))
noncomputable def left_o_67 : ((x0 : @PySem.Params) → @PySem.Obj) :=
  (fun (x0 : @PySem.Params) => (@PySem.Obj.mk (@PySem.Value.type "builtin_function_or_method") (@Option.none.{0} @Nat) (@PySem.Data.fields #[(@PySem.Value.builtin "type.__prepare__"), (@PySem.Value.type "type")]) #[]))
noncomputable def left_o_68 : ((x0 : @PySem.Params) → @PySem.Obj) :=
  (fun (x0 : @PySem.Params) => (@PySem.Obj.mk (@PySem.Value.type "dict") (@Option.none.{0} @Nat) (@PySem.Data.dict #[(@PySem.DictEntry.mk (@PySem.PyData.keyHash x0 (PySem.Str.ofString "__module__")) (@PySem.Value.str (PySem.Str.ofString "__module__") 292) (@PySem.Value.str (PySem.Str.ofString "cpy313.ftplib") 263)), (@PySem.DictEntry.mk (@PySem.PyData.keyHash x0 (PySem.Str.ofString "__qualname__")) (@PySem.Value.str (PySem.Str.ofString "__qualname__") 294) (@PySem.Value.str (PySem.Str.ofString "error_reply") 293)), (@PySem.DictEntry.mk (@PySem.PyData.keyHash x0 (PySem.Str.ofString "__firstlineno__")) (@PySem.Value.str (PySem.Str.ofString "__firstlineno__") 296) (@PySem.Value.int (@OfNat.ofNat.{0} @Int (nat_lit 11) (@instOfNat (nat_lit 11))) 295)), (@PySem.DictEntry.mk (@PySem.PyData.keyHash x0 (PySem.Str.ofString "__static_attributes__")) (@PySem.Value.str (PySem.Str.ofString "__static_attributes__") 297) (@PySem.Value.ref 60))] 4) #[]))
noncomputable def left_o_69 : ((x0 : @PySem.Params) → @PySem.Obj) :=
  (fun (x0 : @PySem.Params) => (@PySem.Obj.mk (@PySem.Value.type "tuple") (@Option.none.{0} @Nat) (@PySem.Data.seq #[] 0) #[]))
noncomputable def left_o_70 : ((x0 : @PySem.Params) → @PySem.Obj) :=
  (fun (x0 : @PySem.Params) => (@PySem.Obj.mk @PySem.Value.none (@Option.none.{0} @Nat) (@PySem.Data.fields #[]) #[]))
noncomputable def left_o_71 : ((x0 : @PySem.Params) → @PySem.Obj) :=
  (fun (x0 : @PySem.Params) => (@PySem.Obj.mk (@PySem.Value.type "code") (@Option.none.{0} @Nat) (@PySem.Data.fields #[(@PySem.Value.str (PySem.Str.ofString "error_reply") 287), (@PySem.Value.str (PySem.Str.ofString "error_reply") 288), (@PySem.Value.str (PySem.Str.ofString "/claim/cut.py") 289), (@PySem.Value.int (@OfNat.ofNat.{0} @Int (nat_lit 11) (@instOfNat (nat_lit 11))) 0), (@PySem.Value.int (@OfNat.ofNat.{0} @Int (nat_lit 0) (@instOfNat (nat_lit 0))) 0), (@PySem.Value.int (@OfNat.ofNat.{0} @Int (nat_lit 0) (@instOfNat (nat_lit 0))) 0), (@PySem.Value.int (@OfNat.ofNat.{0} @Int (nat_lit 0) (@instOfNat (nat_lit 0))) 0), (@PySem.Value.int (@OfNat.ofNat.{0} @Int (nat_lit 0) (@instOfNat (nat_lit 0))) 0), (@PySem.Value.ref 56), (@PySem.Value.bool @Bool.false), (@PySem.Value.int (@OfNat.ofNat.{0} @Int (nat_lit 181) (@instOfNat (nat_lit 181))) 0), (@PySem.Value.ref 57), @PySem.Value.none, @PySem.Value.none, @PySem.Value.none, @PySem.Value.none, (@PySem.Value.int (@OfNat.ofNat.{0} @Int (nat_lit 290) (@instOfNat (nat_lit 290))) 0), (@PySem.Value.int (@OfNat.ofNat.{0} @Int (nat_lit 11) (@instOfNat (nat_lit 11))) 0), (@PySem.Value.str (PySem.Str.ofString "/claim/cut.py") 291)]) #[]))
noncomputable def left_o_72 : ((x0 : @PySem.Params) → @PySem.Obj) :=
  (fun (x0 : @PySem.Params) => (@PySem.Obj.mk (@PySem.Value.type "frame") (@Option.none.{0} @Nat) @PySem.Data.plain #[(@Option.some.{0} @PySem.Value (@PySem.Value.ref 58)), (@Option.some.{0} @PySem.Value (@PySem.Value.ref 3)), (@Option.some.{0} @PySem.Value (@PySem.Value.ref 55)), (@Option.none.{0} @PySem.Value), (@Option.some.{0} @PySem.Value (@PySem.Value.str (PySem.Str.ofString "cpy313.ftplib") 263)), (@Option.none.{0} @PySem.Value), (@Option.some.{0} @PySem.Value (@PySem.Value.ref 0))]))
noncomputable def left_o_73 : ((x0 : @PySem.Params) → @PySem.Obj) :=
  (fun (x0 : @PySem.Params) => (@PySem.Obj.mk (@PySem.Value.type "tuple") (@Option.none.{0} @Nat) (@PySem.Data.seq #[] 0) #[]))
noncomputable def left_o_74 : ((x0 : @PySem.Params) → @PySem.Obj) :=
  (fun (x0 : @PySem.Params) => (@PySem.Obj.mk (@PySem.Value.type "dict") (@Option.none.{0} @Nat) (@PySem.Data.dict #[(@PySem.DictEntry.mk (@PySem.PyData.keyHash x0 (PySem.Str.ofString "__module__")) (@PySem.Value.str (PySem.Str.ofString "__module__") 292) (@PySem.Value.str (PySem.Str.ofString "cpy313.ftplib") 263)), (@PySem.DictEntry.mk (@PySem.PyData.keyHash x0 (PySem.Str.ofString "__firstlineno__")) (@PySem.Value.str (PySem.Str.ofString "__firstlineno__") 296) (@PySem.Value.int (@OfNat.ofNat.{0} @Int (nat_lit 11) (@instOfNat (nat_lit 11))) 295)), (@PySem.DictEntry.mk (@PySem.PyData.keyHash x0 (PySem.Str.ofString "__static_attributes__")) (@PySem.Value.str (PySem.Str.ofString "__static_attributes__") 297) (@PySem.Value.ref 60)), (@PySem.DictEntry.mk (@PySem.PyData.keyHash x0 (PySem.Str.ofString "__doc__")) (@PySem.Value.str (PySem.Str.ofString "__doc__") 298) @PySem.Value.none)] 2) #[]))
noncomputable def left_o_75 : ((x0 : @PySem.Params) → @PySem.Obj) :=
  (fun (x0 : @PySem.Params) => (@PySem.Obj.mk (@PySem.Value.type "type") (@Option.none.{0} @Nat) (@PySem.Data.cls (@PySem.ClassData.mk (PySem.Str.ofString "error_reply") [(@PySem.Value.ref 49)] [(@PySem.Value.ref 62), (@PySem.Value.ref 49), (@PySem.Value.type "Exception"), (@PySem.Value.type "BaseException"), (@PySem.Value.type "object")] 61 (PySem.Str.ofString "error_reply") @Bool.true [] [] @Bool.false (@Option.none.{0} @Bool) @Bool.false)) #[(@Option.some.{0} @PySem.Value (@PySem.Value.ref 53)), (@Option.none.{0} @PySem.Value), (@Option.some.{0} @PySem.Value (@PySem.Value.str (PySem.Str.ofString "error_reply") 285)), (@Option.some.{0} @PySem.Value (@PySem.Value.str (PySem.Str.ofString "error_reply") 293)), (@Option.some.{0} @PySem.Value (@PySem.Value.builtin "Exception.__new__")), (@Option.some.{0} @PySem.Value (@PySem.Value.bool @Bool.true))]))
noncomputable def left_o_76 : ((x0 : @PySem.Params) → @PySem.Obj) :=
  (fun (x0 : @PySem.Params) => (@PySem.Obj.mk (@PySem.Value.type "super") (@Option.none.{0} @Nat) (@PySem.Data.fields #[(@PySem.Value.ref 62), (@PySem.Value.ref 62), (@PySem.Value.ref 62)]) #[]))
noncomputable def left_o_77 : ((x0 : @PySem.Params) → @PySem.Obj) :=
  (fun (x0 : @PySem.Params) => (@PySem.Obj.mk (@PySem.Value.type "builtin_function_or_method") (@Option.none.{0} @Nat) (@PySem.Data.fields #[(@PySem.Value.builtin "object.__init_subclass__"), (@PySem.Value.ref 62)]) #[]))
noncomputable def left_o_78 : ((x0 : @PySem.Params) → @PySem.Obj) :=
  (fun (x0 : @PySem.Params) => (@PySem.Obj.mk (@PySem.Value.type "tuple") (@Option.none.{0} @Nat) (@PySem.Data.seq #[] 0) #[]))
noncomputable def left_o_79 : ((x0 : @PySem.Params) → @PySem.Obj) :=
  (fun (x0 : @PySem.Params) => (@PySem.Obj.mk @PySem.Value.none (@Option.none.{0} @Nat) (@PySem.Data.fields #[]) #[]))
noncomputable def left_o_80 : ((x0 : @PySem.Params) → @PySem.Obj) :=
  (fun (x0 : @PySem.Params) => (@PySem.Obj.mk (@PySem.Value.type "tuple") (@Option.none.{0} @Nat) (@PySem.Data.seq #[(@PySem.Value.str (PySem.Str.ofString "resp") 304), (@PySem.Value.str (PySem.Str.ofString "dirname") 305), (@PySem.Value.str (PySem.Str.ofString "i") 306), (@PySem.Value.str (PySem.Str.ofString "n") 307), (@PySem.Value.str (PySem.Str.ofString "c") 308)] 0) #[]))
noncomputable def left_o_81 : ((x0 : @PySem.Params) → @PySem.Obj) :=
  (fun (x0 : @PySem.Params) => (@PySem.Obj.mk (@PySem.Value.type "tuple") (@Option.none.{0} @Nat) (@PySem.Data.seq #[] 0) #[]))
noncomputable def left_o_82 : ((x0 : @PySem.Params) → @PySem.Obj) :=
  (fun (x0 : @PySem.Params) => (@PySem.Obj.mk @PySem.Value.none (@Option.none.{0} @Nat) (@PySem.Data.func (@PySem.FuncData.mk (PySem.Str.ofString "parse257") (PySem.Str.ofString "parse257") a7 (@PySem.FuncBody.stmts b7) s7 0 [] @PySem.Value.none @PySem.Value.none @PySem.Value.none @PySem.Value.none (@Option.none.{0} @Nat) @PySem.Value.none @PySem.Value.none 0)) #[]))
noncomputable def left_o_83 : ((x0 : @PySem.Params) → @PySem.Obj) :=
  (fun (x0 : @PySem.Params) => (@PySem.Obj.mk (@PySem.Value.type "code") (@Option.none.{0} @Nat) (@PySem.Data.fields #[(@PySem.Value.str (PySem.Str.ofString "parse257") 301), (@PySem.Value.str (PySem.Str.ofString "parse257") 302), (@PySem.Value.str (PySem.Str.ofString "/claim/cut.py") 303), (@PySem.Value.int (@OfNat.ofNat.{0} @Int (nat_lit 13) (@instOfNat (nat_lit 13))) 0), (@PySem.Value.int (@OfNat.ofNat.{0} @Int (nat_lit 1) (@instOfNat (nat_lit 1))) 0), (@PySem.Value.int (@OfNat.ofNat.{0} @Int (nat_lit 0) (@instOfNat (nat_lit 0))) 0), (@PySem.Value.int (@OfNat.ofNat.{0} @Int (nat_lit 0) (@instOfNat (nat_lit 0))) 0), (@PySem.Value.int (@OfNat.ofNat.{0} @Int (nat_lit 3) (@instOfNat (nat_lit 3))) 0), (@PySem.Value.ref 65), (@PySem.Value.bool @Bool.true), (@PySem.Value.int (@OfNat.ofNat.{0} @Int (nat_lit 181) (@instOfNat (nat_lit 181))) 0), (@PySem.Value.ref 66), @PySem.Value.none, (@PySem.Value.ref 67), (@PySem.Value.ref 68), (@PySem.Value.ref 69), (@PySem.Value.int (@OfNat.ofNat.{0} @Int (nat_lit 309) (@instOfNat (nat_lit 309))) 0), (@PySem.Value.int (@OfNat.ofNat.{0} @Int (nat_lit 13) (@instOfNat (nat_lit 13))) 0), (@PySem.Value.str (PySem.Str.ofString "/claim/cut.py") 310)]) #[]))
noncomputable def left_o_84 : ((x0 : @PySem.Params) → @PySem.Obj) :=
  (fun (x0 : @PySem.Params) => (@PySem.Obj.mk (@PySem.Value.type "function") (@Option.none.{0} @Nat) (@PySem.Data.func (@PySem.FuncData.mk (PySem.Str.ofString "parse257") (PySem.Str.ofString "parse257") a7 (@PySem.FuncBody.stmts b7) s7 3 [] @PySem.Value.none @PySem.Value.none @PySem.Value.none (@PySem.Value.str (PySem.Str.ofString "cpy313.ftplib") 263) (@Option.none.{0} @Nat) (@PySem.Value.ref 70) @PySem.Value.none 0)) #[]))
noncomputable def left_tree_84 : ((x0 : @PySem.Params) → @PySem.W.BT) :=
  (fun (x0 : @PySem.Params) => (@PySem.W.BT.node (@PySem.W.boot_o_0 x0) (@PySem.W.BT.node (@PySem.W.boot_o_1 x0) (@PySem.W.BT.node (@left_o_63 x0) (@PySem.W.BT.node (@PySem.W.boot_o_7 x0) (@PySem.W.BT.node (@left_o_12 x0) (@PySem.W.BT.node (@left_o_30 x0) (@PySem.W.BT.node (@left_o_76 x0) @PySem.W.BT.nil @PySem.W.BT.nil) @PySem.W.BT.nil) (@PySem.W.BT.node (@left_o_56 x0) @PySem.W.BT.nil @PySem.W.BT.nil)) (@PySem.W.BT.node (@left_o_22 x0) (@PySem.W.BT.node (@left_o_48 x0) (@PySem.W.BT.node (@left_o_84 x0) @PySem.W.BT.nil @PySem.W.BT.nil) @PySem.W.BT.nil) (@PySem.W.BT.node (@left_o_68 x0) @PySem.W.BT.nil @PySem.W.BT.nil))) (@PySem.W.BT.node (@left_o_2 x0) (@PySem.W.BT.node (@left_o_16 x0) (@PySem.W.BT.node (@left_o_44 x0) (@PySem.W.BT.node (@left_o_80 x0) @PySem.W.BT.nil @PySem.W.BT.nil) @PySem.W.BT.nil) (@PySem.W.BT.node (@left_o_60 x0) @PySem.W.BT.nil @PySem.W.BT.nil)) (@PySem.W.BT.node (@left_o_26 x0) (@PySem.W.BT.node (@left_o_52 x0) @PySem.W.BT.nil @PySem.W.BT.nil) (@PySem.W.BT.node (@left_o_72 x0) @PySem.W.BT.nil @PySem.W.BT.nil)))) (@PySem.W.BT.node (@PySem.W.boot_o_5 x0) (@PySem.W.BT.node (@PySem.W.boot_o_9 x0) (@PySem.W.BT.node (@left_o_14 x0) (@PySem.W.BT.node (@left_o_42 x0) (@PySem.W.BT.node (@left_o_78 x0) @PySem.W.BT.nil @PySem.W.BT.nil) @PySem.W.BT.nil) (@PySem.W.BT.node (@left_o_65 x0) @PySem.W.BT.nil @PySem.W.BT.nil)) (@PySem.W.BT.node (@left_o_24 x0) (@PySem.W.BT.node (@left_o_50 x0) @PySem.W.BT.nil @PySem.W.BT.nil) (@PySem.W.BT.node (@left_o_70 x0) @PySem.W.BT.nil @PySem.W.BT.nil))) (@PySem.W.BT.node (@left_o_4 x0) (@PySem.W.BT.node (@left_o_18 x0) (@PySem.W.BT.node (@left_o_46 x0) (@PySem.W.BT.node (@left_o_82 x0) @PySem.W.BT.nil @PySem.W.BT.nil) @PySem.W.BT.nil) (@PySem.W.BT.node (@left_o_66 x0) @PySem.W.BT.nil @PySem.W.BT.nil)) (@PySem.W.BT.node (@left_o_28 x0) (@PySem.W.BT.node (@left_o_54 x0) @PySem.W.BT.nil @PySem.W.BT.nil) (@PySem.W.BT.node (@left_o_74 x0) @PySem.W.BT.nil @PySem.W.BT.nil))))) (@PySem.W.BT.node (@left_o_39 x0) (@PySem.W.BT.node (@PySem.W.boot_o_4 x0) (@PySem.W.BT.node (@PySem.W.boot_o_8 x0) (@PySem.W.BT.node (@left_o_13 x0) (@PySem.W.BT.node (@left_o_31 x0) (@PySem.W.BT.node (@left_o_77 x0) @PySem.W.BT.nil @PySem.W.BT.nil) @PySem.W.BT.nil) (@PySem.W.BT.node (@left_o_57 x0) @PySem.W.BT.nil @PySem.W.BT.nil)) (@PySem.W.BT.node (@left_o_23 x0) (@PySem.W.BT.node (@left_o_49 x0) @PySem.W.BT.nil @PySem.W.BT.nil) (@PySem.W.BT.node (@left_o_69 x0) @PySem.W.BT.nil @PySem.W.BT.nil))) (@PySem.W.BT.node (@left_o_64 x0) (@PySem.W.BT.node (@left_o_17 x0) (@PySem.W.BT.node (@left_o_45 x0) (@PySem.W.BT.node (@left_o_81 x0) @PySem.W.BT.nil @PySem.W.BT.nil) @PySem.W.BT.nil) (@PySem.W.BT.node (@left_o_61 x0) @PySem.W.BT.nil @PySem.W.BT.nil)) (@PySem.W.BT.node (@left_o_27 x0) (@PySem.W.BT.node (@left_o_53 x0) @PySem.W.BT.nil @PySem.W.BT.nil) (@PySem.W.BT.node (@left_o_73 x0) @PySem.W.BT.nil @PySem.W.BT.nil)))) (@PySem.W.BT.node (@PySem.W.boot_o_6 x0) (@PySem.W.BT.node (@PySem.W.boot_o_10 x0) (@PySem.W.BT.node (@left_o_15 x0) (@PySem.W.BT.node (@left_o_43 x0) (@PySem.W.BT.node (@left_o_79 x0) @PySem.W.BT.nil @PySem.W.BT.nil) @PySem.W.BT.nil) (@PySem.W.BT.node (@left_o_59 x0) @PySem.W.BT.nil @PySem.W.BT.nil)) (@PySem.W.BT.node (@left_o_25 x0) (@PySem.W.BT.node (@left_o_51 x0) @PySem.W.BT.nil @PySem.W.BT.nil) (@PySem.W.BT.node (@left_o_71 x0) @PySem.W.BT.nil @PySem.W.BT.nil))) (@PySem.W.BT.node (@left_o_5 x0) (@PySem.W.BT.node (@left_o_21 x0) (@PySem.W.BT.node (@left_o_47 x0) (@PySem.W.BT.node (@left_o_83 x0) @PySem.W.BT.nil @PySem.W.BT.nil) @PySem.W.BT.nil) (@PySem.W.BT.node (@left_o_67 x0) @PySem.W.BT.nil @PySem.W.BT.nil)) (@PySem.W.BT.node (@left_o_29 x0) (@PySem.W.BT.node (@left_o_55 x0) @PySem.W.BT.nil @PySem.W.BT.nil) (@PySem.W.BT.node (@left_o_75 x0) @PySem.W.BT.nil @PySem.W.BT.nil)))))))
def eleft__proof_86 : PySem.World → Prop := (fun (x0 : @PySem.World) => (@Eq.{0+1} ((x1 : @PySem.OsState) → (@Option.{0} (@Prod.{0, 0} @PySem.Flow (@Prod.{0, 0} @PySem.W.SharedT (@Prod.{0, 0} @PySem.Code @PySem.Pos))))) (fun (x1 : @PySem.OsState) => (@PySem.W.segRunT @PySem.treeTable @PySem.Challenge.pw_tr0009_01 x0 (nat_lit 11) (@Option.some.{0} @PySem.Value (@PySem.Value.ref 6)) (nat_lit 1) (nat_lit 256) (@PySem.W.SharedT.mk (@left_tree_61 (@PySem.World.params x0)) (nat_lit 53) (@PySem.Life.mk [] [] [] 0 [] [] @Bool.false #[] [] 0 @Bool.false @Bool.false @Bool.false (@OfNat.ofNat.{0} @Int (nat_lit 0) (@instOfNat (nat_lit 0))) [(@OfNat.ofNat.{0} @Int (nat_lit 2000) (@instOfNat (nat_lit 2000))), (@OfNat.ofNat.{0} @Int (nat_lit 10) (@instOfNat (nat_lit 10))), (@OfNat.ofNat.{0} @Int (nat_lit 10) (@instOfNat (nat_lit 10)))] @Bool.false 0 @Bool.true [] [] 0 @Bool.false) (@Array.mk.{0} @PySem.GenState []) (@PySem.Drawn.mk 0 0 0 0) (nat_lit 285) x1) (@PySem.W.piecesOf @left_sts_63 @left_env_1 (@PySem.Code.body (@PySem.W.behindTheImports @PySem.Challenge.pw_tr0009_01) @left_env_1) (@PySem.Pos.mk 9 0 10 8) [(@PySem.W.topFrame (@PySem.Pos.mk 0 0 0 0))]))) (fun (x1 : @PySem.OsState) => (@Option.some.{0} (@Prod.{0, 0} @PySem.Flow (@Prod.{0, 0} @PySem.W.SharedT (@Prod.{0, 0} @PySem.Code @PySem.Pos))) (@Prod.mk.{0, 0} @PySem.Flow (@Prod.{0, 0} @PySem.W.SharedT (@Prod.{0, 0} @PySem.Code @PySem.Pos)) @PySem.Flow.next (@Prod.mk.{0, 0} @PySem.W.SharedT (@Prod.{0, 0} @PySem.Code @PySem.Pos) (@PySem.W.SharedT.mk (@left_tree_84 (@PySem.World.params x0)) (nat_lit 72) (@PySem.Life.mk [] [] [] 0 [] [] @Bool.false #[] [] 0 @Bool.false @Bool.false @Bool.false (@OfNat.ofNat.{0} @Int (nat_lit 0) (@instOfNat (nat_lit 0))) [(@OfNat.ofNat.{0} @Int (nat_lit 2000) (@instOfNat (nat_lit 2000))), (@OfNat.ofNat.{0} @Int (nat_lit 10) (@instOfNat (nat_lit 10))), (@OfNat.ofNat.{0} @Int (nat_lit 10) (@instOfNat (nat_lit 10)))] @Bool.false 0 @Bool.true [] [] 0 @Bool.false) (@Array.mk.{0} @PySem.GenState []) (@PySem.Drawn.mk 0 0 0 0) (nat_lit 314) x1) (@Prod.mk.{0, 0} @PySem.Code @PySem.Pos (@PySem.Code.body (@PySem.W.behindTheImports @PySem.Challenge.pw_tr0009_01) @left_env_1) (@PySem.Pos.mk 30 0 30 8))))))))
theorem eleft__proof_86_p : ∀ w : PySem.World, eleft__proof_86 w := fun w => (by show _ = _; rewrite [PySem.W.Fast.te10110043849684766642, PySem.W.Fast.te14364793385576792824]; kernel_rfl)
theorem left__proof_86 : ((x0 : @PySem.World) → (@Eq.{0+1} ((x1 : @PySem.OsState) → (@Option.{0} (@Prod.{0, 0} @PySem.Flow (@Prod.{0, 0} @PySem.W.SharedT (@Prod.{0, 0} @PySem.Code @PySem.Pos))))) (fun (x1 : @PySem.OsState) => (@PySem.W.segRunT @PySem.treeTable @PySem.Challenge.pw_tr0009_01 x0 (nat_lit 11) (@Option.some.{0} @PySem.Value (@PySem.Value.ref 6)) (nat_lit 1) (nat_lit 256) (@PySem.W.SharedT.mk (@left_tree_61 (@PySem.World.params x0)) (nat_lit 53) (@PySem.Life.mk [] [] [] 0 [] [] @Bool.false #[] [] 0 @Bool.false @Bool.false @Bool.false (@OfNat.ofNat.{0} @Int (nat_lit 0) (@instOfNat (nat_lit 0))) [(@OfNat.ofNat.{0} @Int (nat_lit 2000) (@instOfNat (nat_lit 2000))), (@OfNat.ofNat.{0} @Int (nat_lit 10) (@instOfNat (nat_lit 10))), (@OfNat.ofNat.{0} @Int (nat_lit 10) (@instOfNat (nat_lit 10)))] @Bool.false 0 @Bool.true [] [] 0 @Bool.false) (@Array.mk.{0} @PySem.GenState []) (@PySem.Drawn.mk 0 0 0 0) (nat_lit 285) x1) (@PySem.W.piecesOf @left_sts_63 @left_env_1 (@PySem.Code.body (@PySem.W.behindTheImports @PySem.Challenge.pw_tr0009_01) @left_env_1) (@PySem.Pos.mk 9 0 10 8) [(@PySem.W.topFrame (@PySem.Pos.mk 0 0 0 0))]))) (fun (x1 : @PySem.OsState) => (@Option.some.{0} (@Prod.{0, 0} @PySem.Flow (@Prod.{0, 0} @PySem.W.SharedT (@Prod.{0, 0} @PySem.Code @PySem.Pos))) (@Prod.mk.{0, 0} @PySem.Flow (@Prod.{0, 0} @PySem.W.SharedT (@Prod.{0, 0} @PySem.Code @PySem.Pos)) @PySem.Flow.next (@Prod.mk.{0, 0} @PySem.W.SharedT (@Prod.{0, 0} @PySem.Code @PySem.Pos) (@PySem.W.SharedT.mk (@left_tree_84 (@PySem.World.params x0)) (nat_lit 72) (@PySem.Life.mk [] [] [] 0 [] [] @Bool.false #[] [] 0 @Bool.false @Bool.false @Bool.false (@OfNat.ofNat.{0} @Int (nat_lit 0) (@instOfNat (nat_lit 0))) [(@OfNat.ofNat.{0} @Int (nat_lit 2000) (@instOfNat (nat_lit 2000))), (@OfNat.ofNat.{0} @Int (nat_lit 10) (@instOfNat (nat_lit 10))), (@OfNat.ofNat.{0} @Int (nat_lit 10) (@instOfNat (nat_lit 10)))] @Bool.false 0 @Bool.true [] [] 0 @Bool.false) (@Array.mk.{0} @PySem.GenState []) (@PySem.Drawn.mk 0 0 0 0) (nat_lit 314) x1) (@Prod.mk.{0, 0} @PySem.Code @PySem.Pos (@PySem.Code.body (@PySem.W.behindTheImports @PySem.Challenge.pw_tr0009_01) @left_env_1) (@PySem.Pos.mk 30 0 30 8)))))))) := eleft__proof_86_p
def left_sts_86 : List PySem.Stmt := List.take 4 (List.drop 9 (PySem.W.behindTheImports PySem.Challenge.pw_tr0009_01))
noncomputable def left_o_86 : ((x0 : @PySem.Params) → @PySem.Obj) :=
  (fun (x0 : @PySem.Params) => (@PySem.Obj.mk (@PySem.Value.type "dict") (@Option.none.{0} @Nat) (@PySem.Data.dict #[(@PySem.DictEntry.mk (@PySem.PyData.keyHash x0 (PySem.Str.ofString "__name__")) (@PySem.Value.str (PySem.Str.ofString "__name__") 165) (@PySem.Value.str (PySem.Str.ofString "law_tr0009_01") 372)), (@PySem.DictEntry.mk (@PySem.PyData.keyHash x0 (PySem.Str.ofString "__doc__")) (@PySem.Value.str (PySem.Str.ofString "__doc__") 166) @PySem.Value.none), (@PySem.DictEntry.mk (@PySem.PyData.keyHash x0 (PySem.Str.ofString "__package__")) (@PySem.Value.str (PySem.Str.ofString "__package__") 167) @PySem.Value.none), (@PySem.DictEntry.mk (@PySem.PyData.keyHash x0 (PySem.Str.ofString "__loader__")) (@PySem.Value.str (PySem.Str.ofString "__loader__") 168) (@PySem.Value.builtin "__main__.__loader__#opaque")), (@PySem.DictEntry.mk (@PySem.PyData.keyHash x0 (PySem.Str.ofString "__spec__")) (@PySem.Value.str (PySem.Str.ofString "__spec__") 169) @PySem.Value.none), (@PySem.DictEntry.mk (@PySem.PyData.keyHash x0 (PySem.Str.ofString "__annotations__")) (@PySem.Value.str (PySem.Str.ofString "__annotations__") 170) (@PySem.Value.ref 6)), (@PySem.DictEntry.mk (@PySem.PyData.keyHash x0 (PySem.Str.ofString "__builtins__")) (@PySem.Value.str (PySem.Str.ofString "__builtins__") 171) (@PySem.Value.ref 4)), (@PySem.DictEntry.mk (@PySem.PyData.keyHash x0 (PySem.Str.ofString "__file__")) (@PySem.Value.str (PySem.Str.ofString "__file__") 173) (@PySem.Value.str (PySem.Str.ofString "/claim/cut.py") 172)), (@PySem.DictEntry.mk (@PySem.PyData.keyHash x0 (PySem.Str.ofString "__cached__")) (@PySem.Value.str (PySem.Str.ofString "__cached__") 174) @PySem.Value.none), (@PySem.DictEntry.mk (@PySem.PyData.keyHash x0 (PySem.Str.ofString "_wall")) (@PySem.Value.str (PySem.Str.ofString "_wall") 193) (@PySem.Value.ref 21)), (@PySem.DictEntry.mk (@PySem.PyData.keyHash x0 (PySem.Str.ofString "b1_set")) (@PySem.Value.str (PySem.Str.ofString "b1_set") 255) (@PySem.Value.ref 29)), (@PySem.DictEntry.mk (@PySem.PyData.keyHash x0 (PySem.Str.ofString "in_table_b1")) (@PySem.Value.str (PySem.Str.ofString "in_table_b1") 262) (@PySem.Value.ref 39)), (@PySem.DictEntry.mk (@PySem.PyData.keyHash x0 (PySem.Str.ofString "Error")) (@PySem.Value.str (PySem.Str.ofString "Error") 284) (@PySem.Value.ref 49)), (@PySem.DictEntry.mk (@PySem.PyData.keyHash x0 (PySem.Str.ofString "error_reply")) (@PySem.Value.str (PySem.Str.ofString "error_reply") 300) (@PySem.Value.ref 62)), (@PySem.DictEntry.mk (@PySem.PyData.keyHash x0 (PySem.Str.ofString "parse257")) (@PySem.Value.str (PySem.Str.ofString "parse257") 311) (@PySem.Value.ref 71)), (@PySem.DictEntry.mk (@PySem.PyData.keyHash x0 (PySem.Str.ofString "_netrclex")) (@PySem.Value.str (PySem.Str.ofString "_netrclex") 371) (@PySem.Value.ref 109)), (@PySem.DictEntry.mk (@PySem.PyData.keyHash x0 (PySem.Str.ofString "_law_bare")) (@PySem.Value.str (PySem.Str.ofString "_law_bare") 379) (@PySem.Value.ref 118)), (@PySem.DictEntry.mk (@PySem.PyData.keyHash x0 (PySem.Str.ofString "_law_stream")) (@PySem.Value.str (PySem.Str.ofString "_law_stream") 388) (@PySem.Value.ref 125))] 18) #[]))
noncomputable def left_o_87 : ((x0 : @PySem.Params) → @PySem.Obj) :=
  (fun (x0 : @PySem.Params) => (@PySem.Obj.mk @PySem.Value.none (@Option.none.{0} @Nat) (@PySem.Data.fields #[(@PySem.Value.int (@OfNat.ofNat.{0} @Int (nat_lit 1) (@instOfNat (nat_lit 1))) 0), (@PySem.Value.int (@OfNat.ofNat.{0} @Int (nat_lit 0) (@instOfNat (nat_lit 0))) 0), (@PySem.Value.ref 20), (@PySem.Value.int (@OfNat.ofNat.{0} @Int (nat_lit 6) (@instOfNat (nat_lit 6))) 0), (@PySem.Value.int (@OfNat.ofNat.{0} @Int (nat_lit 0) (@instOfNat (nat_lit 0))) 0), (@PySem.Value.ref 38), (@PySem.Value.int (@OfNat.ofNat.{0} @Int (nat_lit 9) (@instOfNat (nat_lit 9))) 0), (@PySem.Value.int (@OfNat.ofNat.{0} @Int (nat_lit 0) (@instOfNat (nat_lit 0))) 0), (@PySem.Value.ref 45), (@PySem.Value.int (@OfNat.ofNat.{0} @Int (nat_lit 11) (@instOfNat (nat_lit 11))) 0), (@PySem.Value.int (@OfNat.ofNat.{0} @Int (nat_lit 0) (@instOfNat (nat_lit 0))) 0), (@PySem.Value.ref 58), (@PySem.Value.int (@OfNat.ofNat.{0} @Int (nat_lit 13) (@instOfNat (nat_lit 13))) 0), (@PySem.Value.int (@OfNat.ofNat.{0} @Int (nat_lit 0) (@instOfNat (nat_lit 0))) 0), (@PySem.Value.ref 70), (@PySem.Value.int (@OfNat.ofNat.{0} @Int (nat_lit 31) (@instOfNat (nat_lit 31))) 0), (@PySem.Value.int (@OfNat.ofNat.{0} @Int (nat_lit 0) (@instOfNat (nat_lit 0))) 0), (@PySem.Value.ref 77), (@PySem.Value.int (@OfNat.ofNat.{0} @Int (nat_lit 75) (@instOfNat (nat_lit 75))) 0), (@PySem.Value.int (@OfNat.ofNat.{0} @Int (nat_lit 0) (@instOfNat (nat_lit 0))) 0), (@PySem.Value.ref 117), (@PySem.Value.int (@OfNat.ofNat.{0} @Int (nat_lit 77) (@instOfNat (nat_lit 77))) 0), (@PySem.Value.int (@OfNat.ofNat.{0} @Int (nat_lit 0) (@instOfNat (nat_lit 0))) 0), (@PySem.Value.ref 124)]) #[]))
noncomputable def left_o_88 : ((x0 : @PySem.Params) → @PySem.Obj) :=
  (fun (x0 : @PySem.Params) => (@PySem.Obj.mk (@PySem.Value.type "tuple") (@Option.none.{0} @Nat) (@PySem.Data.seq #[] 0) #[]))
noncomputable def left_o_89 : ((x0 : @PySem.Params) → @PySem.Obj) :=
  (fun (x0 : @PySem.Params) => (@PySem.Obj.mk (@PySem.Value.type "builtin_function_or_method") (@Option.none.{0} @Nat) (@PySem.Data.fields #[(@PySem.Value.builtin "type.__prepare__"), (@PySem.Value.type "type")]) #[]))
noncomputable def left_o_90 : ((x0 : @PySem.Params) → @PySem.Obj) :=
  (fun (x0 : @PySem.Params) => (@PySem.Obj.mk (@PySem.Value.type "dict") (@Option.none.{0} @Nat) (@PySem.Data.dict #[(@PySem.DictEntry.mk (@PySem.PyData.keyHash x0 (PySem.Str.ofString "__module__")) (@PySem.Value.str (PySem.Str.ofString "__module__") 321) (@PySem.Value.str (PySem.Str.ofString "cpy313.netrc") 312)), (@PySem.DictEntry.mk (@PySem.PyData.keyHash x0 (PySem.Str.ofString "__qualname__")) (@PySem.Value.str (PySem.Str.ofString "__qualname__") 323) (@PySem.Value.str (PySem.Str.ofString "_netrclex") 322)), (@PySem.DictEntry.mk (@PySem.PyData.keyHash x0 (PySem.Str.ofString "__firstlineno__")) (@PySem.Value.str (PySem.Str.ofString "__firstlineno__") 325) (@PySem.Value.int (@OfNat.ofNat.{0} @Int (nat_lit 31) (@instOfNat (nat_lit 31))) 324)), (@PySem.DictEntry.mk (@PySem.PyData.keyHash x0 (PySem.Str.ofString "__init__")) (@PySem.Value.str (PySem.Str.ofString "__init__") 333) (@PySem.Value.ref 85)), (@PySem.DictEntry.mk (@PySem.PyData.keyHash x0 (PySem.Str.ofString "_read_char")) (@PySem.Value.str (PySem.Str.ofString "_read_char") 341) (@PySem.Value.ref 92)), (@PySem.DictEntry.mk (@PySem.PyData.keyHash x0 (PySem.Str.ofString "get_token")) (@PySem.Value.str (PySem.Str.ofString "get_token") 351) (@PySem.Value.ref 99)), (@PySem.DictEntry.mk (@PySem.PyData.keyHash x0 (PySem.Str.ofString "push_token")) (@PySem.Value.str (PySem.Str.ofString "push_token") 359) (@PySem.Value.ref 106)), (@PySem.DictEntry.mk (@PySem.PyData.keyHash x0 (PySem.Str.ofString "__static_attributes__")) (@PySem.Value.str (PySem.Str.ofString "__static_attributes__") 364) (@PySem.Value.ref 107))] 8) #[]))
noncomputable def left_o_91 : ((x0 : @PySem.Params) → @PySem.Obj) :=
  (fun (x0 : @PySem.Params) => (@PySem.Obj.mk (@PySem.Value.type "tuple") (@Option.none.{0} @Nat) (@PySem.Data.seq #[] 0) #[]))
noncomputable def left_o_92 : ((x0 : @PySem.Params) → @PySem.Obj) :=
  (fun (x0 : @PySem.Params) => (@PySem.Obj.mk @PySem.Value.none (@Option.none.{0} @Nat) (@PySem.Data.fields #[(@PySem.Value.int (@OfNat.ofNat.{0} @Int (nat_lit 33) (@instOfNat (nat_lit 33))) 0), (@PySem.Value.int (@OfNat.ofNat.{0} @Int (nat_lit 4) (@instOfNat (nat_lit 4))) 0), (@PySem.Value.ref 84), (@PySem.Value.int (@OfNat.ofNat.{0} @Int (nat_lit 39) (@instOfNat (nat_lit 39))) 0), (@PySem.Value.int (@OfNat.ofNat.{0} @Int (nat_lit 4) (@instOfNat (nat_lit 4))) 0), (@PySem.Value.ref 91), (@PySem.Value.int (@OfNat.ofNat.{0} @Int (nat_lit 45) (@instOfNat (nat_lit 45))) 0), (@PySem.Value.int (@OfNat.ofNat.{0} @Int (nat_lit 4) (@instOfNat (nat_lit 4))) 0), (@PySem.Value.ref 98), (@PySem.Value.int (@OfNat.ofNat.{0} @Int (nat_lit 72) (@instOfNat (nat_lit 72))) 0), (@PySem.Value.int (@OfNat.ofNat.{0} @Int (nat_lit 4) (@instOfNat (nat_lit 4))) 0), (@PySem.Value.ref 105)]) #[]))
noncomputable def left_o_93 : ((x0 : @PySem.Params) → @PySem.Obj) :=
  (fun (x0 : @PySem.Params) => (@PySem.Obj.mk (@PySem.Value.type "code") (@Option.none.{0} @Nat) (@PySem.Data.fields #[(@PySem.Value.str (PySem.Str.ofString "_netrclex") 316), (@PySem.Value.str (PySem.Str.ofString "_netrclex") 317), (@PySem.Value.str (PySem.Str.ofString "/claim/cut.py") 318), (@PySem.Value.int (@OfNat.ofNat.{0} @Int (nat_lit 31) (@instOfNat (nat_lit 31))) 0), (@PySem.Value.int (@OfNat.ofNat.{0} @Int (nat_lit 0) (@instOfNat (nat_lit 0))) 0), (@PySem.Value.int (@OfNat.ofNat.{0} @Int (nat_lit 0) (@instOfNat (nat_lit 0))) 0), (@PySem.Value.int (@OfNat.ofNat.{0} @Int (nat_lit 0) (@instOfNat (nat_lit 0))) 0), (@PySem.Value.int (@OfNat.ofNat.{0} @Int (nat_lit 0) (@instOfNat (nat_lit 0))) 0), (@PySem.Value.ref 75), (@PySem.Value.bool @Bool.false), (@PySem.Value.int (@OfNat.ofNat.{0} @Int (nat_lit 181) (@instOfNat (nat_lit 181))) 0), (@PySem.Value.ref 76), @PySem.Value.none, @PySem.Value.none, @PySem.Value.none, @PySem.Value.none, (@PySem.Value.int (@OfNat.ofNat.{0} @Int (nat_lit 319) (@instOfNat (nat_lit 319))) 0), (@PySem.Value.int (@OfNat.ofNat.{0} @Int (nat_lit 31) (@instOfNat (nat_lit 31))) 0), (@PySem.Value.str (PySem.Str.ofString "/claim/cut.py") 320)]) #[]))
noncomputable def left_o_94 : ((x0 : @PySem.Params) → @PySem.Obj) :=
  (fun (x0 : @PySem.Params) => (@PySem.Obj.mk (@PySem.Value.type "frame") (@Option.none.{0} @Nat) @PySem.Data.plain #[(@Option.some.{0} @PySem.Value (@PySem.Value.ref 77)), (@Option.some.{0} @PySem.Value (@PySem.Value.ref 3)), (@Option.some.{0} @PySem.Value (@PySem.Value.ref 74)), (@Option.none.{0} @PySem.Value), (@Option.some.{0} @PySem.Value (@PySem.Value.str (PySem.Str.ofString "cpy313.netrc") 312)), (@Option.none.{0} @PySem.Value), (@Option.some.{0} @PySem.Value (@PySem.Value.ref 0))]))
noncomputable def left_o_95 : ((x0 : @PySem.Params) → @PySem.Obj) :=
  (fun (x0 : @PySem.Params) => (@PySem.Obj.mk (@PySem.Value.type "tuple") (@Option.none.{0} @Nat) (@PySem.Data.seq #[] 0) #[]))
noncomputable def left_o_96 : ((x0 : @PySem.Params) → @PySem.Obj) :=
  (fun (x0 : @PySem.Params) => (@PySem.Obj.mk @PySem.Value.none (@Option.none.{0} @Nat) (@PySem.Data.fields #[]) #[]))
noncomputable def left_o_97 : ((x0 : @PySem.Params) → @PySem.Obj) :=
  (fun (x0 : @PySem.Params) => (@PySem.Obj.mk (@PySem.Value.type "tuple") (@Option.none.{0} @Nat) (@PySem.Data.seq #[(@PySem.Value.str (PySem.Str.ofString "self") 329), (@PySem.Value.str (PySem.Str.ofString "fp") 330)] 0) #[]))
noncomputable def left_o_98 : ((x0 : @PySem.Params) → @PySem.Obj) :=
  (fun (x0 : @PySem.Params) => (@PySem.Obj.mk (@PySem.Value.type "tuple") (@Option.none.{0} @Nat) (@PySem.Data.seq #[] 0) #[]))
noncomputable def left_o_99 : ((x0 : @PySem.Params) → @PySem.Obj) :=
  (fun (x0 : @PySem.Params) => (@PySem.Obj.mk @PySem.Value.none (@Option.none.{0} @Nat) (@PySem.Data.func (@PySem.FuncData.mk (PySem.Str.ofString "__init__") (PySem.Str.ofString "_netrclex.__init__") a9_0 (@PySem.FuncBody.stmts b9_0) s9_0 0 [] @PySem.Value.none @PySem.Value.none @PySem.Value.none @PySem.Value.none (@Option.none.{0} @Nat) @PySem.Value.none @PySem.Value.none 0)) #[]))
noncomputable def left_o_100 : ((x0 : @PySem.Params) → @PySem.Obj) :=
  (fun (x0 : @PySem.Params) => (@PySem.Obj.mk (@PySem.Value.type "code") (@Option.none.{0} @Nat) (@PySem.Data.fields #[(@PySem.Value.str (PySem.Str.ofString "__init__") 326), (@PySem.Value.str (PySem.Str.ofString "_netrclex.__init__") 327), (@PySem.Value.str (PySem.Str.ofString "/claim/cut.py") 328), (@PySem.Value.int (@OfNat.ofNat.{0} @Int (nat_lit 33) (@instOfNat (nat_lit 33))) 0), (@PySem.Value.int (@OfNat.ofNat.{0} @Int (nat_lit 2) (@instOfNat (nat_lit 2))) 0), (@PySem.Value.int (@OfNat.ofNat.{0} @Int (nat_lit 0) (@instOfNat (nat_lit 0))) 0), (@PySem.Value.int (@OfNat.ofNat.{0} @Int (nat_lit 0) (@instOfNat (nat_lit 0))) 0), (@PySem.Value.int (@OfNat.ofNat.{0} @Int (nat_lit 3) (@instOfNat (nat_lit 3))) 0), (@PySem.Value.ref 79), (@PySem.Value.bool @Bool.true), (@PySem.Value.int (@OfNat.ofNat.{0} @Int (nat_lit 181) (@instOfNat (nat_lit 181))) 0), (@PySem.Value.ref 80), @PySem.Value.none, (@PySem.Value.ref 81), (@PySem.Value.ref 82), (@PySem.Value.ref 83), (@PySem.Value.int (@OfNat.ofNat.{0} @Int (nat_lit 331) (@instOfNat (nat_lit 331))) 0), (@PySem.Value.int (@OfNat.ofNat.{0} @Int (nat_lit 33) (@instOfNat (nat_lit 33))) 0), (@PySem.Value.str (PySem.Str.ofString "/claim/cut.py") 332)]) #[]))
noncomputable def left_o_101 : ((x0 : @PySem.Params) → @PySem.Obj) :=
  (fun (x0 : @PySem.Params) => (@PySem.Obj.mk (@PySem.Value.type "function") (@Option.none.{0} @Nat) (@PySem.Data.func (@PySem.FuncData.mk (PySem.Str.ofString "__init__") (PySem.Str.ofString "_netrclex.__init__") a9_0 (@PySem.FuncBody.stmts b9_0) s9_0 3 [] @PySem.Value.none @PySem.Value.none @PySem.Value.none (@PySem.Value.str (PySem.Str.ofString "cpy313.netrc") 312) (@Option.none.{0} @Nat) (@PySem.Value.ref 84) @PySem.Value.none 0)) #[]))
noncomputable def left_o_102 : ((x0 : @PySem.Params) → @PySem.Obj) :=
  (fun (x0 : @PySem.Params) => (@PySem.Obj.mk (@PySem.Value.type "tuple") (@Option.none.{0} @Nat) (@PySem.Data.seq #[] 0) #[]))
noncomputable def left_o_103 : ((x0 : @PySem.Params) → @PySem.Obj) :=
  (fun (x0 : @PySem.Params) => (@PySem.Obj.mk @PySem.Value.none (@Option.none.{0} @Nat) (@PySem.Data.fields #[]) #[]))
noncomputable def left_o_104 : ((x0 : @PySem.Params) → @PySem.Obj) :=
  (fun (x0 : @PySem.Params) => (@PySem.Obj.mk (@PySem.Value.type "tuple") (@Option.none.{0} @Nat) (@PySem.Data.seq #[(@PySem.Value.str (PySem.Str.ofString "self") 337), (@PySem.Value.str (PySem.Str.ofString "ch") 338)] 0) #[]))
noncomputable def left_o_105 : ((x0 : @PySem.Params) → @PySem.Obj) :=
  (fun (x0 : @PySem.Params) => (@PySem.Obj.mk (@PySem.Value.type "tuple") (@Option.none.{0} @Nat) (@PySem.Data.seq #[] 0) #[]))
noncomputable def left_o_106 : ((x0 : @PySem.Params) → @PySem.Obj) :=
  (fun (x0 : @PySem.Params) => (@PySem.Obj.mk @PySem.Value.none (@Option.none.{0} @Nat) (@PySem.Data.func (@PySem.FuncData.mk (PySem.Str.ofString "_read_char") (PySem.Str.ofString "_netrclex._read_char") a9_1 (@PySem.FuncBody.stmts b9_1) s9_1 0 [] @PySem.Value.none @PySem.Value.none @PySem.Value.none @PySem.Value.none (@Option.none.{0} @Nat) @PySem.Value.none @PySem.Value.none 0)) #[]))
noncomputable def left_o_107 : ((x0 : @PySem.Params) → @PySem.Obj) :=
  (fun (x0 : @PySem.Params) => (@PySem.Obj.mk (@PySem.Value.type "code") (@Option.none.{0} @Nat) (@PySem.Data.fields #[(@PySem.Value.str (PySem.Str.ofString "_read_char") 334), (@PySem.Value.str (PySem.Str.ofString "_netrclex._read_char") 335), (@PySem.Value.str (PySem.Str.ofString "/claim/cut.py") 336), (@PySem.Value.int (@OfNat.ofNat.{0} @Int (nat_lit 39) (@instOfNat (nat_lit 39))) 0), (@PySem.Value.int (@OfNat.ofNat.{0} @Int (nat_lit 1) (@instOfNat (nat_lit 1))) 0), (@PySem.Value.int (@OfNat.ofNat.{0} @Int (nat_lit 0) (@instOfNat (nat_lit 0))) 0), (@PySem.Value.int (@OfNat.ofNat.{0} @Int (nat_lit 0) (@instOfNat (nat_lit 0))) 0), (@PySem.Value.int (@OfNat.ofNat.{0} @Int (nat_lit 3) (@instOfNat (nat_lit 3))) 0), (@PySem.Value.ref 86), (@PySem.Value.bool @Bool.true), (@PySem.Value.int (@OfNat.ofNat.{0} @Int (nat_lit 181) (@instOfNat (nat_lit 181))) 0), (@PySem.Value.ref 87), @PySem.Value.none, (@PySem.Value.ref 88), (@PySem.Value.ref 89), (@PySem.Value.ref 90), (@PySem.Value.int (@OfNat.ofNat.{0} @Int (nat_lit 339) (@instOfNat (nat_lit 339))) 0), (@PySem.Value.int (@OfNat.ofNat.{0} @Int (nat_lit 39) (@instOfNat (nat_lit 39))) 0), (@PySem.Value.str (PySem.Str.ofString "/claim/cut.py") 340)]) #[]))
noncomputable def left_o_108 : ((x0 : @PySem.Params) → @PySem.Obj) :=
  (fun (x0 : @PySem.Params) => (@PySem.Obj.mk (@PySem.Value.type "function") (@Option.none.{0} @Nat) (@PySem.Data.func (@PySem.FuncData.mk (PySem.Str.ofString "_read_char") (PySem.Str.ofString "_netrclex._read_char") a9_1 (@PySem.FuncBody.stmts b9_1) s9_1 3 [] @PySem.Value.none @PySem.Value.none @PySem.Value.none (@PySem.Value.str (PySem.Str.ofString "cpy313.netrc") 312) (@Option.none.{0} @Nat) (@PySem.Value.ref 91) @PySem.Value.none 0)) #[]))
noncomputable def left_o_109 : ((x0 : @PySem.Params) → @PySem.Obj) :=
  (fun (x0 : @PySem.Params) => (@PySem.Obj.mk (@PySem.Value.type "tuple") (@Option.none.{0} @Nat) (@PySem.Data.seq #[] 0) #[]))
noncomputable def left_o_110 : ((x0 : @PySem.Params) → @PySem.Obj) :=
  (fun (x0 : @PySem.Params) => (@PySem.Obj.mk @PySem.Value.none (@Option.none.{0} @Nat) (@PySem.Data.fields #[]) #[]))
noncomputable def left_o_111 : ((x0 : @PySem.Params) → @PySem.Obj) :=
  (fun (x0 : @PySem.Params) => (@PySem.Obj.mk (@PySem.Value.type "tuple") (@Option.none.{0} @Nat) (@PySem.Data.seq #[(@PySem.Value.str (PySem.Str.ofString "self") 345), (@PySem.Value.str (PySem.Str.ofString "token") 346), (@PySem.Value.str (PySem.Str.ofString "fiter") 347), (@PySem.Value.str (PySem.Str.ofString "ch") 348)] 0) #[]))
noncomputable def left_o_112 : ((x0 : @PySem.Params) → @PySem.Obj) :=
  (fun (x0 : @PySem.Params) => (@PySem.Obj.mk (@PySem.Value.type "tuple") (@Option.none.{0} @Nat) (@PySem.Data.seq #[] 0) #[]))
noncomputable def left_o_113 : ((x0 : @PySem.Params) → @PySem.Obj) :=
  (fun (x0 : @PySem.Params) => (@PySem.Obj.mk @PySem.Value.none (@Option.none.{0} @Nat) (@PySem.Data.func (@PySem.FuncData.mk (PySem.Str.ofString "get_token") (PySem.Str.ofString "_netrclex.get_token") a9_2 (@PySem.FuncBody.stmts b9_2) s9_2 0 [] @PySem.Value.none @PySem.Value.none @PySem.Value.none @PySem.Value.none (@Option.none.{0} @Nat) @PySem.Value.none @PySem.Value.none 0)) #[]))
noncomputable def left_o_114 : ((x0 : @PySem.Params) → @PySem.Obj) :=
  (fun (x0 : @PySem.Params) => (@PySem.Obj.mk (@PySem.Value.type "code") (@Option.none.{0} @Nat) (@PySem.Data.fields #[(@PySem.Value.str (PySem.Str.ofString "get_token") 342), (@PySem.Value.str (PySem.Str.ofString "_netrclex.get_token") 343), (@PySem.Value.str (PySem.Str.ofString "/claim/cut.py") 344), (@PySem.Value.int (@OfNat.ofNat.{0} @Int (nat_lit 45) (@instOfNat (nat_lit 45))) 0), (@PySem.Value.int (@OfNat.ofNat.{0} @Int (nat_lit 1) (@instOfNat (nat_lit 1))) 0), (@PySem.Value.int (@OfNat.ofNat.{0} @Int (nat_lit 0) (@instOfNat (nat_lit 0))) 0), (@PySem.Value.int (@OfNat.ofNat.{0} @Int (nat_lit 0) (@instOfNat (nat_lit 0))) 0), (@PySem.Value.int (@OfNat.ofNat.{0} @Int (nat_lit 3) (@instOfNat (nat_lit 3))) 0), (@PySem.Value.ref 93), (@PySem.Value.bool @Bool.true), (@PySem.Value.int (@OfNat.ofNat.{0} @Int (nat_lit 181) (@instOfNat (nat_lit 181))) 0), (@PySem.Value.ref 94), @PySem.Value.none, (@PySem.Value.ref 95), (@PySem.Value.ref 96), (@PySem.Value.ref 97), (@PySem.Value.int (@OfNat.ofNat.{0} @Int (nat_lit 349) (@instOfNat (nat_lit 349))) 0), (@PySem.Value.int (@OfNat.ofNat.{0} @Int (nat_lit 45) (@instOfNat (nat_lit 45))) 0), (@PySem.Value.str (PySem.Str.ofString "/claim/cut.py") 350)]) #[]))
noncomputable def left_o_115 : ((x0 : @PySem.Params) → @PySem.Obj) :=
  (fun (x0 : @PySem.Params) => (@PySem.Obj.mk (@PySem.Value.type "function") (@Option.none.{0} @Nat) (@PySem.Data.func (@PySem.FuncData.mk (PySem.Str.ofString "get_token") (PySem.Str.ofString "_netrclex.get_token") a9_2 (@PySem.FuncBody.stmts b9_2) s9_2 3 [] @PySem.Value.none @PySem.Value.none @PySem.Value.none (@PySem.Value.str (PySem.Str.ofString "cpy313.netrc") 312) (@Option.none.{0} @Nat) (@PySem.Value.ref 98) @PySem.Value.none 0)) #[]))
noncomputable def left_o_116 : ((x0 : @PySem.Params) → @PySem.Obj) :=
  (fun (x0 : @PySem.Params) => (@PySem.Obj.mk (@PySem.Value.type "tuple") (@Option.none.{0} @Nat) (@PySem.Data.seq #[] 0) #[]))
noncomputable def left_o_117 : ((x0 : @PySem.Params) → @PySem.Obj) :=
  (fun (x0 : @PySem.Params) => (@PySem.Obj.mk @PySem.Value.none (@Option.none.{0} @Nat) (@PySem.Data.fields #[]) #[]))
noncomputable def left_o_118 : ((x0 : @PySem.Params) → @PySem.Obj) :=
  (fun (x0 : @PySem.Params) => (@PySem.Obj.mk (@PySem.Value.type "tuple") (@Option.none.{0} @Nat) (@PySem.Data.seq #[(@PySem.Value.str (PySem.Str.ofString "self") 355), (@PySem.Value.str (PySem.Str.ofString "token") 356)] 0) #[]))
noncomputable def left_o_119 : ((x0 : @PySem.Params) → @PySem.Obj) :=
  (fun (x0 : @PySem.Params) => (@PySem.Obj.mk (@PySem.Value.type "tuple") (@Option.none.{0} @Nat) (@PySem.Data.seq #[] 0) #[]))
noncomputable def left_o_120 : ((x0 : @PySem.Params) → @PySem.Obj) :=
  (fun (x0 : @PySem.Params) => (@PySem.Obj.mk @PySem.Value.none (@Option.none.{0} @Nat) (@PySem.Data.func (@PySem.FuncData.mk (PySem.Str.ofString "push_token") (PySem.Str.ofString "_netrclex.push_token") a9_3 (@PySem.FuncBody.stmts b9_3) s9_3 0 [] @PySem.Value.none @PySem.Value.none @PySem.Value.none @PySem.Value.none (@Option.none.{0} @Nat) @PySem.Value.none @PySem.Value.none 0)) #[]))
noncomputable def left_o_121 : ((x0 : @PySem.Params) → @PySem.Obj) :=
  (fun (x0 : @PySem.Params) => (@PySem.Obj.mk (@PySem.Value.type "code") (@Option.none.{0} @Nat) (@PySem.Data.fields #[(@PySem.Value.str (PySem.Str.ofString "push_token") 352), (@PySem.Value.str (PySem.Str.ofString "_netrclex.push_token") 353), (@PySem.Value.str (PySem.Str.ofString "/claim/cut.py") 354), (@PySem.Value.int (@OfNat.ofNat.{0} @Int (nat_lit 72) (@instOfNat (nat_lit 72))) 0), (@PySem.Value.int (@OfNat.ofNat.{0} @Int (nat_lit 2) (@instOfNat (nat_lit 2))) 0), (@PySem.Value.int (@OfNat.ofNat.{0} @Int (nat_lit 0) (@instOfNat (nat_lit 0))) 0), (@PySem.Value.int (@OfNat.ofNat.{0} @Int (nat_lit 0) (@instOfNat (nat_lit 0))) 0), (@PySem.Value.int (@OfNat.ofNat.{0} @Int (nat_lit 3) (@instOfNat (nat_lit 3))) 0), (@PySem.Value.ref 100), (@PySem.Value.bool @Bool.true), (@PySem.Value.int (@OfNat.ofNat.{0} @Int (nat_lit 181) (@instOfNat (nat_lit 181))) 0), (@PySem.Value.ref 101), @PySem.Value.none, (@PySem.Value.ref 102), (@PySem.Value.ref 103), (@PySem.Value.ref 104), (@PySem.Value.int (@OfNat.ofNat.{0} @Int (nat_lit 357) (@instOfNat (nat_lit 357))) 0), (@PySem.Value.int (@OfNat.ofNat.{0} @Int (nat_lit 72) (@instOfNat (nat_lit 72))) 0), (@PySem.Value.str (PySem.Str.ofString "/claim/cut.py") 358)]) #[]))
noncomputable def left_o_122 : ((x0 : @PySem.Params) → @PySem.Obj) :=
  (fun (x0 : @PySem.Params) => (@PySem.Obj.mk (@PySem.Value.type "function") (@Option.none.{0} @Nat) (@PySem.Data.func (@PySem.FuncData.mk (PySem.Str.ofString "push_token") (PySem.Str.ofString "_netrclex.push_token") a9_3 (@PySem.FuncBody.stmts b9_3) s9_3 3 [] @PySem.Value.none @PySem.Value.none @PySem.Value.none (@PySem.Value.str (PySem.Str.ofString "cpy313.netrc") 312) (@Option.none.{0} @Nat) (@PySem.Value.ref 105) @PySem.Value.none 0)) #[]))
noncomputable def left_o_123 : ((x0 : @PySem.Params) → @PySem.Obj) :=
  (fun (x0 : @PySem.Params) => (@PySem.Obj.mk (@PySem.Value.type "tuple") (@Option.none.{0} @Nat) (@PySem.Data.seq #[(@PySem.Value.str (PySem.Str.ofString "instream") 360), (@PySem.Value.str (PySem.Str.ofString "lineno") 361), (@PySem.Value.str (PySem.Str.ofString "pushback") 362), (@PySem.Value.str (PySem.Str.ofString "whitespace") 363)] 0) #[]))
noncomputable def left_o_124 : ((x0 : @PySem.Params) → @PySem.Obj) :=
  (fun (x0 : @PySem.Params) => (@PySem.Obj.mk (@PySem.Value.type "dict") (@Option.none.{0} @Nat) (@PySem.Data.dict #[(@PySem.DictEntry.mk (@PySem.PyData.keyHash x0 (PySem.Str.ofString "__module__")) (@PySem.Value.str (PySem.Str.ofString "__module__") 321) (@PySem.Value.str (PySem.Str.ofString "cpy313.netrc") 312)), (@PySem.DictEntry.mk (@PySem.PyData.keyHash x0 (PySem.Str.ofString "__firstlineno__")) (@PySem.Value.str (PySem.Str.ofString "__firstlineno__") 325) (@PySem.Value.int (@OfNat.ofNat.{0} @Int (nat_lit 31) (@instOfNat (nat_lit 31))) 324)), (@PySem.DictEntry.mk (@PySem.PyData.keyHash x0 (PySem.Str.ofString "__init__")) (@PySem.Value.str (PySem.Str.ofString "__init__") 333) (@PySem.Value.ref 85)), (@PySem.DictEntry.mk (@PySem.PyData.keyHash x0 (PySem.Str.ofString "_read_char")) (@PySem.Value.str (PySem.Str.ofString "_read_char") 341) (@PySem.Value.ref 92)), (@PySem.DictEntry.mk (@PySem.PyData.keyHash x0 (PySem.Str.ofString "get_token")) (@PySem.Value.str (PySem.Str.ofString "get_token") 351) (@PySem.Value.ref 99)), (@PySem.DictEntry.mk (@PySem.PyData.keyHash x0 (PySem.Str.ofString "push_token")) (@PySem.Value.str (PySem.Str.ofString "push_token") 359) (@PySem.Value.ref 106)), (@PySem.DictEntry.mk (@PySem.PyData.keyHash x0 (PySem.Str.ofString "__static_attributes__")) (@PySem.Value.str (PySem.Str.ofString "__static_attributes__") 364) (@PySem.Value.ref 107)), (@PySem.DictEntry.mk (@PySem.PyData.keyHash x0 (PySem.Str.ofString "__dict__")) (@PySem.Value.str (PySem.Str.ofString "__dict__") 366) (@PySem.Value.ref 110)), (@PySem.DictEntry.mk (@PySem.PyData.keyHash x0 (PySem.Str.ofString "__weakref__")) (@PySem.Value.str (PySem.Str.ofString "__weakref__") 368) (@PySem.Value.ref 111)), (@PySem.DictEntry.mk (@PySem.PyData.keyHash x0 (PySem.Str.ofString "__doc__")) (@PySem.Value.str (PySem.Str.ofString "__doc__") 369) @PySem.Value.none)] 4) #[]))
noncomputable def left_o_125 : ((x0 : @PySem.Params) → @PySem.Obj) :=
  (fun (x0 : @PySem.Params) => (@PySem.Obj.mk (@PySem.Value.type "type") (@Option.none.{0} @Nat) (@PySem.Data.cls (@PySem.ClassData.mk (PySem.Str.ofString "_netrclex") [(@PySem.Value.type "object")] [(@PySem.Value.ref 109), (@PySem.Value.type "object")] 108 (PySem.Str.ofString "_netrclex") @Bool.true [] [] @Bool.false (@Option.none.{0} @Bool) @Bool.false)) #[(@Option.none.{0} @PySem.Value), (@Option.none.{0} @PySem.Value), (@Option.some.{0} @PySem.Value (@PySem.Value.str (PySem.Str.ofString "_netrclex") 314)), (@Option.some.{0} @PySem.Value (@PySem.Value.str (PySem.Str.ofString "_netrclex") 322)), (@Option.some.{0} @PySem.Value (@PySem.Value.builtin "object.__new__")), (@Option.some.{0} @PySem.Value (@PySem.Value.bool @Bool.true))]))
noncomputable def left_o_126 : ((x0 : @PySem.Params) → @PySem.Obj) :=
  (fun (x0 : @PySem.Params) => (@PySem.Obj.mk (@PySem.Value.type "getset_descriptor") (@Option.none.{0} @Nat) (@PySem.Data.fields #[(@PySem.Value.str (PySem.Str.ofString "__dict__") 365), (@PySem.Value.ref 109), (@PySem.Value.builtin "function.__dict__"), (@PySem.Value.builtin "function.__dict__#set")]) #[]))
noncomputable def left_o_127 : ((x0 : @PySem.Params) → @PySem.Obj) :=
  (fun (x0 : @PySem.Params) => (@PySem.Obj.mk (@PySem.Value.type "getset_descriptor") (@Option.none.{0} @Nat) (@PySem.Data.fields #[(@PySem.Value.str (PySem.Str.ofString "__weakref__") 367), (@PySem.Value.ref 109), (@PySem.Value.builtin "ExceptionGroup.__weakref__"), @PySem.Value.none]) #[]))
noncomputable def left_o_128 : ((x0 : @PySem.Params) → @PySem.Obj) :=
  (fun (x0 : @PySem.Params) => (@PySem.Obj.mk (@PySem.Value.type "super") (@Option.none.{0} @Nat) (@PySem.Data.fields #[(@PySem.Value.ref 109), (@PySem.Value.ref 109), (@PySem.Value.ref 109)]) #[]))
noncomputable def left_o_129 : ((x0 : @PySem.Params) → @PySem.Obj) :=
  (fun (x0 : @PySem.Params) => (@PySem.Obj.mk (@PySem.Value.type "builtin_function_or_method") (@Option.none.{0} @Nat) (@PySem.Data.fields #[(@PySem.Value.builtin "object.__init_subclass__"), (@PySem.Value.ref 109)]) #[]))
noncomputable def left_o_130 : ((x0 : @PySem.Params) → @PySem.Obj) :=
  (fun (x0 : @PySem.Params) => (@PySem.Obj.mk (@PySem.Value.type "tuple") (@Option.none.{0} @Nat) (@PySem.Data.seq #[] 0) #[]))
noncomputable def left_o_131 : ((x0 : @PySem.Params) → @PySem.Obj) :=
  (fun (x0 : @PySem.Params) => (@PySem.Obj.mk @PySem.Value.none (@Option.none.{0} @Nat) (@PySem.Data.fields #[]) #[]))
noncomputable def left_o_132 : ((x0 : @PySem.Params) → @PySem.Obj) :=
  (fun (x0 : @PySem.Params) => (@PySem.Obj.mk @PySem.Value.none (@Option.none.{0} @Nat) (@PySem.Data.func (@PySem.FuncData.mk (PySem.Str.ofString "_law_bare") (PySem.Str.ofString "_law_bare") a11 (@PySem.FuncBody.stmts b11) s11 0 [] @PySem.Value.none @PySem.Value.none @PySem.Value.none @PySem.Value.none (@Option.none.{0} @Nat) @PySem.Value.none @PySem.Value.none 0)) #[]))
noncomputable def left_o_133 : ((x0 : @PySem.Params) → @PySem.Obj) :=
  (fun (x0 : @PySem.Params) => (@PySem.Obj.mk (@PySem.Value.type "code") (@Option.none.{0} @Nat) (@PySem.Data.fields #[(@PySem.Value.str (PySem.Str.ofString "_law_bare") 374), (@PySem.Value.str (PySem.Str.ofString "_law_bare") 375), (@PySem.Value.str (PySem.Str.ofString "/claim/cut.py") 376), (@PySem.Value.int (@OfNat.ofNat.{0} @Int (nat_lit 75) (@instOfNat (nat_lit 75))) 0), (@PySem.Value.int (@OfNat.ofNat.{0} @Int (nat_lit 1) (@instOfNat (nat_lit 1))) 0), (@PySem.Value.int (@OfNat.ofNat.{0} @Int (nat_lit 0) (@instOfNat (nat_lit 0))) 0), (@PySem.Value.int (@OfNat.ofNat.{0} @Int (nat_lit 0) (@instOfNat (nat_lit 0))) 0), (@PySem.Value.int (@OfNat.ofNat.{0} @Int (nat_lit 3) (@instOfNat (nat_lit 3))) 0), (@PySem.Value.ref 114), (@PySem.Value.bool @Bool.true), (@PySem.Value.int (@OfNat.ofNat.{0} @Int (nat_lit 181) (@instOfNat (nat_lit 181))) 0), (@PySem.Value.ref 115), @PySem.Value.none, @PySem.Value.none, @PySem.Value.none, (@PySem.Value.ref 116), (@PySem.Value.int (@OfNat.ofNat.{0} @Int (nat_lit 377) (@instOfNat (nat_lit 377))) 0), (@PySem.Value.int (@OfNat.ofNat.{0} @Int (nat_lit 75) (@instOfNat (nat_lit 75))) 0), (@PySem.Value.str (PySem.Str.ofString "/claim/cut.py") 378)]) #[]))
noncomputable def left_o_134 : ((x0 : @PySem.Params) → @PySem.Obj) :=
  (fun (x0 : @PySem.Params) => (@PySem.Obj.mk (@PySem.Value.type "function") (@Option.none.{0} @Nat) (@PySem.Data.func (@PySem.FuncData.mk (PySem.Str.ofString "_law_bare") (PySem.Str.ofString "_law_bare") a11 (@PySem.FuncBody.stmts b11) s11 3 [] @PySem.Value.none @PySem.Value.none @PySem.Value.none (@PySem.Value.str (PySem.Str.ofString "law_tr0009_01") 372) (@Option.none.{0} @Nat) (@PySem.Value.ref 117) @PySem.Value.none 0)) #[]))
noncomputable def left_o_135 : ((x0 : @PySem.Params) → @PySem.Obj) :=
  (fun (x0 : @PySem.Params) => (@PySem.Obj.mk (@PySem.Value.type "tuple") (@Option.none.{0} @Nat) (@PySem.Data.seq #[] 0) #[]))
noncomputable def left_o_136 : ((x0 : @PySem.Params) → @PySem.Obj) :=
  (fun (x0 : @PySem.Params) => (@PySem.Obj.mk @PySem.Value.none (@Option.none.{0} @Nat) (@PySem.Data.fields #[]) #[]))
noncomputable def left_o_137 : ((x0 : @PySem.Params) → @PySem.Obj) :=
  (fun (x0 : @PySem.Params) => (@PySem.Obj.mk (@PySem.Value.type "tuple") (@Option.none.{0} @Nat) (@PySem.Data.seq #[(@PySem.Value.str (PySem.Str.ofString "text") 383), (@PySem.Value.str (PySem.Str.ofString "stream") 384)] 0) #[]))
noncomputable def left_o_138 : ((x0 : @PySem.Params) → @PySem.Obj) :=
  (fun (x0 : @PySem.Params) => (@PySem.Obj.mk (@PySem.Value.type "tuple") (@Option.none.{0} @Nat) (@PySem.Data.seq #[(@PySem.Value.str (PySem.Str.ofString "signs") 385)] 0) #[]))
noncomputable def left_o_139 : ((x0 : @PySem.Params) → @PySem.Obj) :=
  (fun (x0 : @PySem.Params) => (@PySem.Obj.mk @PySem.Value.none (@Option.none.{0} @Nat) (@PySem.Data.func (@PySem.FuncData.mk (PySem.Str.ofString "_law_stream") (PySem.Str.ofString "_law_stream") a12 (@PySem.FuncBody.stmts b12) s12 0 [] @PySem.Value.none @PySem.Value.none @PySem.Value.none @PySem.Value.none (@Option.none.{0} @Nat) @PySem.Value.none @PySem.Value.none 0)) #[]))
noncomputable def left_o_140 : ((x0 : @PySem.Params) → @PySem.Obj) :=
  (fun (x0 : @PySem.Params) => (@PySem.Obj.mk (@PySem.Value.type "code") (@Option.none.{0} @Nat) (@PySem.Data.fields #[(@PySem.Value.str (PySem.Str.ofString "_law_stream") 380), (@PySem.Value.str (PySem.Str.ofString "_law_stream") 381), (@PySem.Value.str (PySem.Str.ofString "/claim/cut.py") 382), (@PySem.Value.int (@OfNat.ofNat.{0} @Int (nat_lit 77) (@instOfNat (nat_lit 77))) 0), (@PySem.Value.int (@OfNat.ofNat.{0} @Int (nat_lit 1) (@instOfNat (nat_lit 1))) 0), (@PySem.Value.int (@OfNat.ofNat.{0} @Int (nat_lit 0) (@instOfNat (nat_lit 0))) 0), (@PySem.Value.int (@OfNat.ofNat.{0} @Int (nat_lit 0) (@instOfNat (nat_lit 0))) 0), (@PySem.Value.int (@OfNat.ofNat.{0} @Int (nat_lit 3) (@instOfNat (nat_lit 3))) 0), (@PySem.Value.ref 119), (@PySem.Value.bool @Bool.true), (@PySem.Value.int (@OfNat.ofNat.{0} @Int (nat_lit 181) (@instOfNat (nat_lit 181))) 0), (@PySem.Value.ref 120), @PySem.Value.none, (@PySem.Value.ref 121), (@PySem.Value.ref 122), (@PySem.Value.ref 123), (@PySem.Value.int (@OfNat.ofNat.{0} @Int (nat_lit 386) (@instOfNat (nat_lit 386))) 0), (@PySem.Value.int (@OfNat.ofNat.{0} @Int (nat_lit 77) (@instOfNat (nat_lit 77))) 0), (@PySem.Value.str (PySem.Str.ofString "/claim/cut.py") 387)]) #[]))
noncomputable def left_o_141 : ((x0 : @PySem.Params) → @PySem.Obj) :=
  (fun (x0 : @PySem.Params) => (@PySem.Obj.mk (@PySem.Value.type "function") (@Option.none.{0} @Nat) (@PySem.Data.func (@PySem.FuncData.mk (PySem.Str.ofString "_law_stream") (PySem.Str.ofString "_law_stream") a12 (@PySem.FuncBody.stmts b12) s12 3 [] @PySem.Value.none @PySem.Value.none @PySem.Value.none (@PySem.Value.str (PySem.Str.ofString "law_tr0009_01") 372) (@Option.none.{0} @Nat) (@PySem.Value.ref 124) @PySem.Value.none 0)) #[]))
noncomputable def left_tree_141 : ((x0 : @PySem.Params) → @PySem.W.BT) :=
  (fun (x0 : @PySem.Params) => (@PySem.W.BT.node (@PySem.W.boot_o_0 x0) (@PySem.W.BT.node (@PySem.W.boot_o_1 x0) (@PySem.W.BT.node (@left_o_86 x0) (@PySem.W.BT.node (@PySem.W.boot_o_7 x0) (@PySem.W.BT.node (@left_o_12 x0) (@PySem.W.BT.node (@left_o_30 x0) (@PySem.W.BT.node (@left_o_76 x0) @PySem.W.BT.nil @PySem.W.BT.nil) (@PySem.W.BT.node (@left_o_111 x0) @PySem.W.BT.nil @PySem.W.BT.nil)) (@PySem.W.BT.node (@left_o_56 x0) (@PySem.W.BT.node (@left_o_95 x0) @PySem.W.BT.nil @PySem.W.BT.nil) (@PySem.W.BT.node (@left_o_127 x0) @PySem.W.BT.nil @PySem.W.BT.nil))) (@PySem.W.BT.node (@left_o_22 x0) (@PySem.W.BT.node (@left_o_48 x0) (@PySem.W.BT.node (@left_o_84 x0) @PySem.W.BT.nil @PySem.W.BT.nil) (@PySem.W.BT.node (@left_o_119 x0) @PySem.W.BT.nil @PySem.W.BT.nil)) (@PySem.W.BT.node (@left_o_68 x0) (@PySem.W.BT.node (@left_o_103 x0) @PySem.W.BT.nil @PySem.W.BT.nil) (@PySem.W.BT.node (@left_o_135 x0) @PySem.W.BT.nil @PySem.W.BT.nil)))) (@PySem.W.BT.node (@left_o_2 x0) (@PySem.W.BT.node (@left_o_16 x0) (@PySem.W.BT.node (@left_o_44 x0) (@PySem.W.BT.node (@left_o_80 x0) @PySem.W.BT.nil @PySem.W.BT.nil) (@PySem.W.BT.node (@left_o_115 x0) @PySem.W.BT.nil @PySem.W.BT.nil)) (@PySem.W.BT.node (@left_o_60 x0) (@PySem.W.BT.node (@left_o_99 x0) @PySem.W.BT.nil @PySem.W.BT.nil) (@PySem.W.BT.node (@left_o_131 x0) @PySem.W.BT.nil @PySem.W.BT.nil))) (@PySem.W.BT.node (@left_o_26 x0) (@PySem.W.BT.node (@left_o_52 x0) (@PySem.W.BT.node (@left_o_91 x0) @PySem.W.BT.nil @PySem.W.BT.nil) (@PySem.W.BT.node (@left_o_123 x0) @PySem.W.BT.nil @PySem.W.BT.nil)) (@PySem.W.BT.node (@left_o_72 x0) (@PySem.W.BT.node (@left_o_107 x0) @PySem.W.BT.nil @PySem.W.BT.nil) (@PySem.W.BT.node (@left_o_139 x0) @PySem.W.BT.nil @PySem.W.BT.nil))))) (@PySem.W.BT.node (@PySem.W.boot_o_5 x0) (@PySem.W.BT.node (@PySem.W.boot_o_9 x0) (@PySem.W.BT.node (@left_o_14 x0) (@PySem.W.BT.node (@left_o_42 x0) (@PySem.W.BT.node (@left_o_78 x0) @PySem.W.BT.nil @PySem.W.BT.nil) (@PySem.W.BT.node (@left_o_113 x0) @PySem.W.BT.nil @PySem.W.BT.nil)) (@PySem.W.BT.node (@left_o_65 x0) (@PySem.W.BT.node (@left_o_97 x0) @PySem.W.BT.nil @PySem.W.BT.nil) (@PySem.W.BT.node (@left_o_129 x0) @PySem.W.BT.nil @PySem.W.BT.nil))) (@PySem.W.BT.node (@left_o_24 x0) (@PySem.W.BT.node (@left_o_50 x0) (@PySem.W.BT.node (@left_o_89 x0) @PySem.W.BT.nil @PySem.W.BT.nil) (@PySem.W.BT.node (@left_o_121 x0) @PySem.W.BT.nil @PySem.W.BT.nil)) (@PySem.W.BT.node (@left_o_70 x0) (@PySem.W.BT.node (@left_o_105 x0) @PySem.W.BT.nil @PySem.W.BT.nil) (@PySem.W.BT.node (@left_o_137 x0) @PySem.W.BT.nil @PySem.W.BT.nil)))) (@PySem.W.BT.node (@left_o_4 x0) (@PySem.W.BT.node (@left_o_18 x0) (@PySem.W.BT.node (@left_o_46 x0) (@PySem.W.BT.node (@left_o_82 x0) @PySem.W.BT.nil @PySem.W.BT.nil) (@PySem.W.BT.node (@left_o_117 x0) @PySem.W.BT.nil @PySem.W.BT.nil)) (@PySem.W.BT.node (@left_o_66 x0) (@PySem.W.BT.node (@left_o_101 x0) @PySem.W.BT.nil @PySem.W.BT.nil) (@PySem.W.BT.node (@left_o_133 x0) @PySem.W.BT.nil @PySem.W.BT.nil))) (@PySem.W.BT.node (@left_o_28 x0) (@PySem.W.BT.node (@left_o_54 x0) (@PySem.W.BT.node (@left_o_93 x0) @PySem.W.BT.nil @PySem.W.BT.nil) (@PySem.W.BT.node (@left_o_125 x0) @PySem.W.BT.nil @PySem.W.BT.nil)) (@PySem.W.BT.node (@left_o_74 x0) (@PySem.W.BT.node (@left_o_109 x0) @PySem.W.BT.nil @PySem.W.BT.nil) (@PySem.W.BT.node (@left_o_141 x0) @PySem.W.BT.nil @PySem.W.BT.nil)))))) (@PySem.W.BT.node (@left_o_39 x0) (@PySem.W.BT.node (@PySem.W.boot_o_4 x0) (@PySem.W.BT.node (@PySem.W.boot_o_8 x0) (@PySem.W.BT.node (@left_o_13 x0) (@PySem.W.BT.node (@left_o_31 x0) (@PySem.W.BT.node (@left_o_77 x0) @PySem.W.BT.nil @PySem.W.BT.nil) (@PySem.W.BT.node (@left_o_112 x0) @PySem.W.BT.nil @PySem.W.BT.nil)) (@PySem.W.BT.node (@left_o_57 x0) (@PySem.W.BT.node (@left_o_96 x0) @PySem.W.BT.nil @PySem.W.BT.nil) (@PySem.W.BT.node (@left_o_128 x0) @PySem.W.BT.nil @PySem.W.BT.nil))) (@PySem.W.BT.node (@left_o_23 x0) (@PySem.W.BT.node (@left_o_49 x0) (@PySem.W.BT.node (@left_o_88 x0) @PySem.W.BT.nil @PySem.W.BT.nil) (@PySem.W.BT.node (@left_o_120 x0) @PySem.W.BT.nil @PySem.W.BT.nil)) (@PySem.W.BT.node (@left_o_69 x0) (@PySem.W.BT.node (@left_o_104 x0) @PySem.W.BT.nil @PySem.W.BT.nil) (@PySem.W.BT.node (@left_o_136 x0) @PySem.W.BT.nil @PySem.W.BT.nil)))) (@PySem.W.BT.node (@left_o_87 x0) (@PySem.W.BT.node (@left_o_17 x0) (@PySem.W.BT.node (@left_o_45 x0) (@PySem.W.BT.node (@left_o_81 x0) @PySem.W.BT.nil @PySem.W.BT.nil) (@PySem.W.BT.node (@left_o_116 x0) @PySem.W.BT.nil @PySem.W.BT.nil)) (@PySem.W.BT.node (@left_o_61 x0) (@PySem.W.BT.node (@left_o_100 x0) @PySem.W.BT.nil @PySem.W.BT.nil) (@PySem.W.BT.node (@left_o_132 x0) @PySem.W.BT.nil @PySem.W.BT.nil))) (@PySem.W.BT.node (@left_o_27 x0) (@PySem.W.BT.node (@left_o_53 x0) (@PySem.W.BT.node (@left_o_92 x0) @PySem.W.BT.nil @PySem.W.BT.nil) (@PySem.W.BT.node (@left_o_124 x0) @PySem.W.BT.nil @PySem.W.BT.nil)) (@PySem.W.BT.node (@left_o_73 x0) (@PySem.W.BT.node (@left_o_108 x0) @PySem.W.BT.nil @PySem.W.BT.nil) (@PySem.W.BT.node (@left_o_140 x0) @PySem.W.BT.nil @PySem.W.BT.nil))))) (@PySem.W.BT.node (@PySem.W.boot_o_6 x0) (@PySem.W.BT.node (@PySem.W.boot_o_10 x0) (@PySem.W.BT.node (@left_o_15 x0) (@PySem.W.BT.node (@left_o_43 x0) (@PySem.W.BT.node (@left_o_79 x0) @PySem.W.BT.nil @PySem.W.BT.nil) (@PySem.W.BT.node (@left_o_114 x0) @PySem.W.BT.nil @PySem.W.BT.nil)) (@PySem.W.BT.node (@left_o_59 x0) (@PySem.W.BT.node (@left_o_98 x0) @PySem.W.BT.nil @PySem.W.BT.nil) (@PySem.W.BT.node (@left_o_130 x0) @PySem.W.BT.nil @PySem.W.BT.nil))) (@PySem.W.BT.node (@left_o_25 x0) (@PySem.W.BT.node (@left_o_51 x0) (@PySem.W.BT.node (@left_o_90 x0) @PySem.W.BT.nil @PySem.W.BT.nil) (@PySem.W.BT.node (@left_o_122 x0) @PySem.W.BT.nil @PySem.W.BT.nil)) (@PySem.W.BT.node (@left_o_71 x0) (@PySem.W.BT.node (@left_o_106 x0) @PySem.W.BT.nil @PySem.W.BT.nil) (@PySem.W.BT.node (@left_o_138 x0) @PySem.W.BT.nil @PySem.W.BT.nil)))) (@PySem.W.BT.node (@left_o_5 x0) (@PySem.W.BT.node (@left_o_21 x0) (@PySem.W.BT.node (@left_o_47 x0) (@PySem.W.BT.node (@left_o_83 x0) @PySem.W.BT.nil @PySem.W.BT.nil) (@PySem.W.BT.node (@left_o_118 x0) @PySem.W.BT.nil @PySem.W.BT.nil)) (@PySem.W.BT.node (@left_o_67 x0) (@PySem.W.BT.node (@left_o_102 x0) @PySem.W.BT.nil @PySem.W.BT.nil) (@PySem.W.BT.node (@left_o_134 x0) @PySem.W.BT.nil @PySem.W.BT.nil))) (@PySem.W.BT.node (@left_o_29 x0) (@PySem.W.BT.node (@left_o_55 x0) (@PySem.W.BT.node (@left_o_94 x0) @PySem.W.BT.nil @PySem.W.BT.nil) (@PySem.W.BT.node (@left_o_126 x0) @PySem.W.BT.nil @PySem.W.BT.nil)) (@PySem.W.BT.node (@left_o_75 x0) (@PySem.W.BT.node (@left_o_110 x0) @PySem.W.BT.nil @PySem.W.BT.nil) @PySem.W.BT.nil)))))))
def eleft__proof_143 : PySem.World → Prop := (fun (x0 : @PySem.World) => (@Eq.{0+1} ((x1 : @PySem.OsState) → (@Option.{0} (@Prod.{0, 0} @PySem.Flow (@Prod.{0, 0} @PySem.W.SharedT (@Prod.{0, 0} @PySem.Code @PySem.Pos))))) (fun (x1 : @PySem.OsState) => (@PySem.W.segRunT @PySem.treeTable @PySem.Challenge.pw_tr0009_01 x0 (nat_lit 11) (@Option.some.{0} @PySem.Value (@PySem.Value.ref 6)) (nat_lit 1) (nat_lit 390) (@PySem.W.SharedT.mk (@left_tree_84 (@PySem.World.params x0)) (nat_lit 72) (@PySem.Life.mk [] [] [] 0 [] [] @Bool.false #[] [] 0 @Bool.false @Bool.false @Bool.false (@OfNat.ofNat.{0} @Int (nat_lit 0) (@instOfNat (nat_lit 0))) [(@OfNat.ofNat.{0} @Int (nat_lit 2000) (@instOfNat (nat_lit 2000))), (@OfNat.ofNat.{0} @Int (nat_lit 10) (@instOfNat (nat_lit 10))), (@OfNat.ofNat.{0} @Int (nat_lit 10) (@instOfNat (nat_lit 10)))] @Bool.false 0 @Bool.true [] [] 0 @Bool.false) (@Array.mk.{0} @PySem.GenState []) (@PySem.Drawn.mk 0 0 0 0) (nat_lit 314) x1) (@PySem.W.piecesOf @left_sts_86 @left_env_1 (@PySem.Code.body (@PySem.W.behindTheImports @PySem.Challenge.pw_tr0009_01) @left_env_1) (@PySem.Pos.mk 30 0 30 8) [(@PySem.W.topFrame (@PySem.Pos.mk 0 0 0 0))]))) (fun (x1 : @PySem.OsState) => (@Option.some.{0} (@Prod.{0, 0} @PySem.Flow (@Prod.{0, 0} @PySem.W.SharedT (@Prod.{0, 0} @PySem.Code @PySem.Pos))) (@Prod.mk.{0, 0} @PySem.Flow (@Prod.{0, 0} @PySem.W.SharedT (@Prod.{0, 0} @PySem.Code @PySem.Pos)) @PySem.Flow.next (@Prod.mk.{0, 0} @PySem.W.SharedT (@Prod.{0, 0} @PySem.Code @PySem.Pos) (@PySem.W.SharedT.mk (@left_tree_141 (@PySem.World.params x0)) (nat_lit 126) (@PySem.Life.mk [] [] [] 0 [] [] @Bool.false #[] [] 0 @Bool.false @Bool.false @Bool.false (@OfNat.ofNat.{0} @Int (nat_lit 0) (@instOfNat (nat_lit 0))) [(@OfNat.ofNat.{0} @Int (nat_lit 2000) (@instOfNat (nat_lit 2000))), (@OfNat.ofNat.{0} @Int (nat_lit 10) (@instOfNat (nat_lit 10))), (@OfNat.ofNat.{0} @Int (nat_lit 10) (@instOfNat (nat_lit 10)))] @Bool.false 0 @Bool.true [] [] 0 @Bool.false) (@Array.mk.{0} @PySem.GenState []) (@PySem.Drawn.mk 0 0 0 0) (nat_lit 389) x1) (@Prod.mk.{0, 0} @PySem.Code @PySem.Pos (@PySem.Code.body (@PySem.W.behindTheImports @PySem.Challenge.pw_tr0009_01) @left_env_1) (@PySem.Pos.mk 77 0 81 17))))))))
theorem eleft__proof_143_p : ∀ w : PySem.World, eleft__proof_143 w := fun w => (by show _ = _; rewrite [PySem.W.Fast.te10110043849684766642, PySem.W.Fast.te14364793385576792824]; kernel_rfl)
theorem left__proof_143 : ((x0 : @PySem.World) → (@Eq.{0+1} ((x1 : @PySem.OsState) → (@Option.{0} (@Prod.{0, 0} @PySem.Flow (@Prod.{0, 0} @PySem.W.SharedT (@Prod.{0, 0} @PySem.Code @PySem.Pos))))) (fun (x1 : @PySem.OsState) => (@PySem.W.segRunT @PySem.treeTable @PySem.Challenge.pw_tr0009_01 x0 (nat_lit 11) (@Option.some.{0} @PySem.Value (@PySem.Value.ref 6)) (nat_lit 1) (nat_lit 390) (@PySem.W.SharedT.mk (@left_tree_84 (@PySem.World.params x0)) (nat_lit 72) (@PySem.Life.mk [] [] [] 0 [] [] @Bool.false #[] [] 0 @Bool.false @Bool.false @Bool.false (@OfNat.ofNat.{0} @Int (nat_lit 0) (@instOfNat (nat_lit 0))) [(@OfNat.ofNat.{0} @Int (nat_lit 2000) (@instOfNat (nat_lit 2000))), (@OfNat.ofNat.{0} @Int (nat_lit 10) (@instOfNat (nat_lit 10))), (@OfNat.ofNat.{0} @Int (nat_lit 10) (@instOfNat (nat_lit 10)))] @Bool.false 0 @Bool.true [] [] 0 @Bool.false) (@Array.mk.{0} @PySem.GenState []) (@PySem.Drawn.mk 0 0 0 0) (nat_lit 314) x1) (@PySem.W.piecesOf @left_sts_86 @left_env_1 (@PySem.Code.body (@PySem.W.behindTheImports @PySem.Challenge.pw_tr0009_01) @left_env_1) (@PySem.Pos.mk 30 0 30 8) [(@PySem.W.topFrame (@PySem.Pos.mk 0 0 0 0))]))) (fun (x1 : @PySem.OsState) => (@Option.some.{0} (@Prod.{0, 0} @PySem.Flow (@Prod.{0, 0} @PySem.W.SharedT (@Prod.{0, 0} @PySem.Code @PySem.Pos))) (@Prod.mk.{0, 0} @PySem.Flow (@Prod.{0, 0} @PySem.W.SharedT (@Prod.{0, 0} @PySem.Code @PySem.Pos)) @PySem.Flow.next (@Prod.mk.{0, 0} @PySem.W.SharedT (@Prod.{0, 0} @PySem.Code @PySem.Pos) (@PySem.W.SharedT.mk (@left_tree_141 (@PySem.World.params x0)) (nat_lit 126) (@PySem.Life.mk [] [] [] 0 [] [] @Bool.false #[] [] 0 @Bool.false @Bool.false @Bool.false (@OfNat.ofNat.{0} @Int (nat_lit 0) (@instOfNat (nat_lit 0))) [(@OfNat.ofNat.{0} @Int (nat_lit 2000) (@instOfNat (nat_lit 2000))), (@OfNat.ofNat.{0} @Int (nat_lit 10) (@instOfNat (nat_lit 10))), (@OfNat.ofNat.{0} @Int (nat_lit 10) (@instOfNat (nat_lit 10)))] @Bool.false 0 @Bool.true [] [] 0 @Bool.false) (@Array.mk.{0} @PySem.GenState []) (@PySem.Drawn.mk 0 0 0 0) (nat_lit 389) x1) (@Prod.mk.{0, 0} @PySem.Code @PySem.Pos (@PySem.Code.body (@PySem.W.behindTheImports @PySem.Challenge.pw_tr0009_01) @left_env_1) (@PySem.Pos.mk 77 0 81 17)))))))) := eleft__proof_143_p
def left_sts_143 : List PySem.Stmt := List.take 5 (List.drop 13 (PySem.W.behindTheImports PySem.Challenge.pw_tr0009_01))
noncomputable def left_o_143 : ((x0 : @PySem.Params) → @PySem.Obj) :=
  (fun (x0 : @PySem.Params) => (@PySem.Obj.mk (@PySem.Value.type "dict") (@Option.none.{0} @Nat) (@PySem.Data.dict #[(@PySem.DictEntry.mk (@PySem.PyData.keyHash x0 (PySem.Str.ofString "__name__")) (@PySem.Value.str (PySem.Str.ofString "__name__") 165) (@PySem.Value.str (PySem.Str.ofString "law_tr0009_01") 372)), (@PySem.DictEntry.mk (@PySem.PyData.keyHash x0 (PySem.Str.ofString "__doc__")) (@PySem.Value.str (PySem.Str.ofString "__doc__") 166) @PySem.Value.none), (@PySem.DictEntry.mk (@PySem.PyData.keyHash x0 (PySem.Str.ofString "__package__")) (@PySem.Value.str (PySem.Str.ofString "__package__") 167) @PySem.Value.none), (@PySem.DictEntry.mk (@PySem.PyData.keyHash x0 (PySem.Str.ofString "__loader__")) (@PySem.Value.str (PySem.Str.ofString "__loader__") 168) (@PySem.Value.builtin "__main__.__loader__#opaque")), (@PySem.DictEntry.mk (@PySem.PyData.keyHash x0 (PySem.Str.ofString "__spec__")) (@PySem.Value.str (PySem.Str.ofString "__spec__") 169) @PySem.Value.none), (@PySem.DictEntry.mk (@PySem.PyData.keyHash x0 (PySem.Str.ofString "__annotations__")) (@PySem.Value.str (PySem.Str.ofString "__annotations__") 170) (@PySem.Value.ref 6)), (@PySem.DictEntry.mk (@PySem.PyData.keyHash x0 (PySem.Str.ofString "__builtins__")) (@PySem.Value.str (PySem.Str.ofString "__builtins__") 171) (@PySem.Value.ref 4)), (@PySem.DictEntry.mk (@PySem.PyData.keyHash x0 (PySem.Str.ofString "__file__")) (@PySem.Value.str (PySem.Str.ofString "__file__") 173) (@PySem.Value.str (PySem.Str.ofString "/claim/cut.py") 172)), (@PySem.DictEntry.mk (@PySem.PyData.keyHash x0 (PySem.Str.ofString "__cached__")) (@PySem.Value.str (PySem.Str.ofString "__cached__") 174) @PySem.Value.none), (@PySem.DictEntry.mk (@PySem.PyData.keyHash x0 (PySem.Str.ofString "_wall")) (@PySem.Value.str (PySem.Str.ofString "_wall") 193) (@PySem.Value.ref 21)), (@PySem.DictEntry.mk (@PySem.PyData.keyHash x0 (PySem.Str.ofString "b1_set")) (@PySem.Value.str (PySem.Str.ofString "b1_set") 255) (@PySem.Value.ref 29)), (@PySem.DictEntry.mk (@PySem.PyData.keyHash x0 (PySem.Str.ofString "in_table_b1")) (@PySem.Value.str (PySem.Str.ofString "in_table_b1") 262) (@PySem.Value.ref 39)), (@PySem.DictEntry.mk (@PySem.PyData.keyHash x0 (PySem.Str.ofString "Error")) (@PySem.Value.str (PySem.Str.ofString "Error") 284) (@PySem.Value.ref 49)), (@PySem.DictEntry.mk (@PySem.PyData.keyHash x0 (PySem.Str.ofString "error_reply")) (@PySem.Value.str (PySem.Str.ofString "error_reply") 300) (@PySem.Value.ref 62)), (@PySem.DictEntry.mk (@PySem.PyData.keyHash x0 (PySem.Str.ofString "parse257")) (@PySem.Value.str (PySem.Str.ofString "parse257") 311) (@PySem.Value.ref 71)), (@PySem.DictEntry.mk (@PySem.PyData.keyHash x0 (PySem.Str.ofString "_netrclex")) (@PySem.Value.str (PySem.Str.ofString "_netrclex") 371) (@PySem.Value.ref 109)), (@PySem.DictEntry.mk (@PySem.PyData.keyHash x0 (PySem.Str.ofString "_law_bare")) (@PySem.Value.str (PySem.Str.ofString "_law_bare") 379) (@PySem.Value.ref 118)), (@PySem.DictEntry.mk (@PySem.PyData.keyHash x0 (PySem.Str.ofString "_law_stream")) (@PySem.Value.str (PySem.Str.ofString "_law_stream") 388) (@PySem.Value.ref 125)), (@PySem.DictEntry.mk (@PySem.PyData.keyHash x0 (PySem.Str.ofString "_law_word")) (@PySem.Value.str (PySem.Str.ofString "_law_word") 395) (@PySem.Value.ref 132)), (@PySem.DictEntry.mk (@PySem.PyData.keyHash x0 (PySem.Str.ofString "_law_name")) (@PySem.Value.str (PySem.Str.ofString "_law_name") 402) (@PySem.Value.ref 139)), (@PySem.DictEntry.mk (@PySem.PyData.keyHash x0 (PySem.Str.ofString "_law_readings")) (@PySem.Value.str (PySem.Str.ofString "_law_readings") 412) (@PySem.Value.ref 146)), (@PySem.DictEntry.mk (@PySem.PyData.keyHash x0 (PySem.Str.ofString "_law_ones")) (@PySem.Value.str (PySem.Str.ofString "_law_ones") 418) (@PySem.Value.ref 151)), (@PySem.DictEntry.mk (@PySem.PyData.keyHash x0 (PySem.Str.ofString "law")) (@PySem.Value.str (PySem.Str.ofString "law") 424) (@PySem.Value.ref 156))] 23) #[]))
noncomputable def left_o_144 : ((x0 : @PySem.Params) → @PySem.Obj) :=
  (fun (x0 : @PySem.Params) => (@PySem.Obj.mk @PySem.Value.none (@Option.none.{0} @Nat) (@PySem.Data.fields #[(@PySem.Value.int (@OfNat.ofNat.{0} @Int (nat_lit 1) (@instOfNat (nat_lit 1))) 0), (@PySem.Value.int (@OfNat.ofNat.{0} @Int (nat_lit 0) (@instOfNat (nat_lit 0))) 0), (@PySem.Value.ref 20), (@PySem.Value.int (@OfNat.ofNat.{0} @Int (nat_lit 6) (@instOfNat (nat_lit 6))) 0), (@PySem.Value.int (@OfNat.ofNat.{0} @Int (nat_lit 0) (@instOfNat (nat_lit 0))) 0), (@PySem.Value.ref 38), (@PySem.Value.int (@OfNat.ofNat.{0} @Int (nat_lit 9) (@instOfNat (nat_lit 9))) 0), (@PySem.Value.int (@OfNat.ofNat.{0} @Int (nat_lit 0) (@instOfNat (nat_lit 0))) 0), (@PySem.Value.ref 45), (@PySem.Value.int (@OfNat.ofNat.{0} @Int (nat_lit 11) (@instOfNat (nat_lit 11))) 0), (@PySem.Value.int (@OfNat.ofNat.{0} @Int (nat_lit 0) (@instOfNat (nat_lit 0))) 0), (@PySem.Value.ref 58), (@PySem.Value.int (@OfNat.ofNat.{0} @Int (nat_lit 13) (@instOfNat (nat_lit 13))) 0), (@PySem.Value.int (@OfNat.ofNat.{0} @Int (nat_lit 0) (@instOfNat (nat_lit 0))) 0), (@PySem.Value.ref 70), (@PySem.Value.int (@OfNat.ofNat.{0} @Int (nat_lit 31) (@instOfNat (nat_lit 31))) 0), (@PySem.Value.int (@OfNat.ofNat.{0} @Int (nat_lit 0) (@instOfNat (nat_lit 0))) 0), (@PySem.Value.ref 77), (@PySem.Value.int (@OfNat.ofNat.{0} @Int (nat_lit 75) (@instOfNat (nat_lit 75))) 0), (@PySem.Value.int (@OfNat.ofNat.{0} @Int (nat_lit 0) (@instOfNat (nat_lit 0))) 0), (@PySem.Value.ref 117), (@PySem.Value.int (@OfNat.ofNat.{0} @Int (nat_lit 77) (@instOfNat (nat_lit 77))) 0), (@PySem.Value.int (@OfNat.ofNat.{0} @Int (nat_lit 0) (@instOfNat (nat_lit 0))) 0), (@PySem.Value.ref 124), (@PySem.Value.int (@OfNat.ofNat.{0} @Int (nat_lit 82) (@instOfNat (nat_lit 82))) 0), (@PySem.Value.int (@OfNat.ofNat.{0} @Int (nat_lit 0) (@instOfNat (nat_lit 0))) 0), (@PySem.Value.ref 131), (@PySem.Value.int (@OfNat.ofNat.{0} @Int (nat_lit 84) (@instOfNat (nat_lit 84))) 0), (@PySem.Value.int (@OfNat.ofNat.{0} @Int (nat_lit 0) (@instOfNat (nat_lit 0))) 0), (@PySem.Value.ref 138), (@PySem.Value.int (@OfNat.ofNat.{0} @Int (nat_lit 86) (@instOfNat (nat_lit 86))) 0), (@PySem.Value.int (@OfNat.ofNat.{0} @Int (nat_lit 0) (@instOfNat (nat_lit 0))) 0), (@PySem.Value.ref 145), (@PySem.Value.int (@OfNat.ofNat.{0} @Int (nat_lit 92) (@instOfNat (nat_lit 92))) 0), (@PySem.Value.int (@OfNat.ofNat.{0} @Int (nat_lit 0) (@instOfNat (nat_lit 0))) 0), (@PySem.Value.ref 150), (@PySem.Value.int (@OfNat.ofNat.{0} @Int (nat_lit 94) (@instOfNat (nat_lit 94))) 0), (@PySem.Value.int (@OfNat.ofNat.{0} @Int (nat_lit 0) (@instOfNat (nat_lit 0))) 0), (@PySem.Value.ref 155)]) #[]))
noncomputable def left_o_145 : ((x0 : @PySem.Params) → @PySem.Obj) :=
  (fun (x0 : @PySem.Params) => (@PySem.Obj.mk (@PySem.Value.type "tuple") (@Option.none.{0} @Nat) (@PySem.Data.seq #[] 0) #[]))
noncomputable def left_o_146 : ((x0 : @PySem.Params) → @PySem.Obj) :=
  (fun (x0 : @PySem.Params) => (@PySem.Obj.mk @PySem.Value.none (@Option.none.{0} @Nat) (@PySem.Data.fields #[]) #[]))
noncomputable def left_o_147 : ((x0 : @PySem.Params) → @PySem.Obj) :=
  (fun (x0 : @PySem.Params) => (@PySem.Obj.mk (@PySem.Value.type "tuple") (@Option.none.{0} @Nat) (@PySem.Data.seq #[(@PySem.Value.str (PySem.Str.ofString "text") 392)] 0) #[]))
noncomputable def left_o_148 : ((x0 : @PySem.Params) → @PySem.Obj) :=
  (fun (x0 : @PySem.Params) => (@PySem.Obj.mk (@PySem.Value.type "tuple") (@Option.none.{0} @Nat) (@PySem.Data.seq #[] 0) #[]))
noncomputable def left_o_149 : ((x0 : @PySem.Params) → @PySem.Obj) :=
  (fun (x0 : @PySem.Params) => (@PySem.Obj.mk @PySem.Value.none (@Option.none.{0} @Nat) (@PySem.Data.func (@PySem.FuncData.mk (PySem.Str.ofString "_law_word") (PySem.Str.ofString "_law_word") a13 (@PySem.FuncBody.stmts b13) s13 0 [] @PySem.Value.none @PySem.Value.none @PySem.Value.none @PySem.Value.none (@Option.none.{0} @Nat) @PySem.Value.none @PySem.Value.none 0)) #[]))
noncomputable def left_o_150 : ((x0 : @PySem.Params) → @PySem.Obj) :=
  (fun (x0 : @PySem.Params) => (@PySem.Obj.mk (@PySem.Value.type "code") (@Option.none.{0} @Nat) (@PySem.Data.fields #[(@PySem.Value.str (PySem.Str.ofString "_law_word") 389), (@PySem.Value.str (PySem.Str.ofString "_law_word") 390), (@PySem.Value.str (PySem.Str.ofString "/claim/cut.py") 391), (@PySem.Value.int (@OfNat.ofNat.{0} @Int (nat_lit 82) (@instOfNat (nat_lit 82))) 0), (@PySem.Value.int (@OfNat.ofNat.{0} @Int (nat_lit 1) (@instOfNat (nat_lit 1))) 0), (@PySem.Value.int (@OfNat.ofNat.{0} @Int (nat_lit 0) (@instOfNat (nat_lit 0))) 0), (@PySem.Value.int (@OfNat.ofNat.{0} @Int (nat_lit 0) (@instOfNat (nat_lit 0))) 0), (@PySem.Value.int (@OfNat.ofNat.{0} @Int (nat_lit 3) (@instOfNat (nat_lit 3))) 0), (@PySem.Value.ref 126), (@PySem.Value.bool @Bool.true), (@PySem.Value.int (@OfNat.ofNat.{0} @Int (nat_lit 181) (@instOfNat (nat_lit 181))) 0), (@PySem.Value.ref 127), @PySem.Value.none, (@PySem.Value.ref 128), (@PySem.Value.ref 129), (@PySem.Value.ref 130), (@PySem.Value.int (@OfNat.ofNat.{0} @Int (nat_lit 393) (@instOfNat (nat_lit 393))) 0), (@PySem.Value.int (@OfNat.ofNat.{0} @Int (nat_lit 82) (@instOfNat (nat_lit 82))) 0), (@PySem.Value.str (PySem.Str.ofString "/claim/cut.py") 394)]) #[]))
noncomputable def left_o_151 : ((x0 : @PySem.Params) → @PySem.Obj) :=
  (fun (x0 : @PySem.Params) => (@PySem.Obj.mk (@PySem.Value.type "function") (@Option.none.{0} @Nat) (@PySem.Data.func (@PySem.FuncData.mk (PySem.Str.ofString "_law_word") (PySem.Str.ofString "_law_word") a13 (@PySem.FuncBody.stmts b13) s13 3 [] @PySem.Value.none @PySem.Value.none @PySem.Value.none (@PySem.Value.str (PySem.Str.ofString "law_tr0009_01") 372) (@Option.none.{0} @Nat) (@PySem.Value.ref 131) @PySem.Value.none 0)) #[]))
noncomputable def left_o_152 : ((x0 : @PySem.Params) → @PySem.Obj) :=
  (fun (x0 : @PySem.Params) => (@PySem.Obj.mk (@PySem.Value.type "tuple") (@Option.none.{0} @Nat) (@PySem.Data.seq #[] 0) #[]))
noncomputable def left_o_153 : ((x0 : @PySem.Params) → @PySem.Obj) :=
  (fun (x0 : @PySem.Params) => (@PySem.Obj.mk @PySem.Value.none (@Option.none.{0} @Nat) (@PySem.Data.fields #[]) #[]))
noncomputable def left_o_154 : ((x0 : @PySem.Params) → @PySem.Obj) :=
  (fun (x0 : @PySem.Params) => (@PySem.Obj.mk (@PySem.Value.type "tuple") (@Option.none.{0} @Nat) (@PySem.Data.seq #[(@PySem.Value.str (PySem.Str.ofString "text") 399)] 0) #[]))
noncomputable def left_o_155 : ((x0 : @PySem.Params) → @PySem.Obj) :=
  (fun (x0 : @PySem.Params) => (@PySem.Obj.mk (@PySem.Value.type "tuple") (@Option.none.{0} @Nat) (@PySem.Data.seq #[] 0) #[]))
noncomputable def left_o_156 : ((x0 : @PySem.Params) → @PySem.Obj) :=
  (fun (x0 : @PySem.Params) => (@PySem.Obj.mk @PySem.Value.none (@Option.none.{0} @Nat) (@PySem.Data.func (@PySem.FuncData.mk (PySem.Str.ofString "_law_name") (PySem.Str.ofString "_law_name") a14 (@PySem.FuncBody.stmts b14) s14 0 [] @PySem.Value.none @PySem.Value.none @PySem.Value.none @PySem.Value.none (@Option.none.{0} @Nat) @PySem.Value.none @PySem.Value.none 0)) #[]))
noncomputable def left_o_157 : ((x0 : @PySem.Params) → @PySem.Obj) :=
  (fun (x0 : @PySem.Params) => (@PySem.Obj.mk (@PySem.Value.type "code") (@Option.none.{0} @Nat) (@PySem.Data.fields #[(@PySem.Value.str (PySem.Str.ofString "_law_name") 396), (@PySem.Value.str (PySem.Str.ofString "_law_name") 397), (@PySem.Value.str (PySem.Str.ofString "/claim/cut.py") 398), (@PySem.Value.int (@OfNat.ofNat.{0} @Int (nat_lit 84) (@instOfNat (nat_lit 84))) 0), (@PySem.Value.int (@OfNat.ofNat.{0} @Int (nat_lit 1) (@instOfNat (nat_lit 1))) 0), (@PySem.Value.int (@OfNat.ofNat.{0} @Int (nat_lit 0) (@instOfNat (nat_lit 0))) 0), (@PySem.Value.int (@OfNat.ofNat.{0} @Int (nat_lit 0) (@instOfNat (nat_lit 0))) 0), (@PySem.Value.int (@OfNat.ofNat.{0} @Int (nat_lit 3) (@instOfNat (nat_lit 3))) 0), (@PySem.Value.ref 133), (@PySem.Value.bool @Bool.true), (@PySem.Value.int (@OfNat.ofNat.{0} @Int (nat_lit 181) (@instOfNat (nat_lit 181))) 0), (@PySem.Value.ref 134), @PySem.Value.none, (@PySem.Value.ref 135), (@PySem.Value.ref 136), (@PySem.Value.ref 137), (@PySem.Value.int (@OfNat.ofNat.{0} @Int (nat_lit 400) (@instOfNat (nat_lit 400))) 0), (@PySem.Value.int (@OfNat.ofNat.{0} @Int (nat_lit 84) (@instOfNat (nat_lit 84))) 0), (@PySem.Value.str (PySem.Str.ofString "/claim/cut.py") 401)]) #[]))
noncomputable def left_o_158 : ((x0 : @PySem.Params) → @PySem.Obj) :=
  (fun (x0 : @PySem.Params) => (@PySem.Obj.mk (@PySem.Value.type "function") (@Option.none.{0} @Nat) (@PySem.Data.func (@PySem.FuncData.mk (PySem.Str.ofString "_law_name") (PySem.Str.ofString "_law_name") a14 (@PySem.FuncBody.stmts b14) s14 3 [] @PySem.Value.none @PySem.Value.none @PySem.Value.none (@PySem.Value.str (PySem.Str.ofString "law_tr0009_01") 372) (@Option.none.{0} @Nat) (@PySem.Value.ref 138) @PySem.Value.none 0)) #[]))
noncomputable def left_o_159 : ((x0 : @PySem.Params) → @PySem.Obj) :=
  (fun (x0 : @PySem.Params) => (@PySem.Obj.mk (@PySem.Value.type "tuple") (@Option.none.{0} @Nat) (@PySem.Data.seq #[] 0) #[]))
noncomputable def left_o_160 : ((x0 : @PySem.Params) → @PySem.Obj) :=
  (fun (x0 : @PySem.Params) => (@PySem.Obj.mk @PySem.Value.none (@Option.none.{0} @Nat) (@PySem.Data.fields #[]) #[]))
noncomputable def left_o_161 : ((x0 : @PySem.Params) → @PySem.Obj) :=
  (fun (x0 : @PySem.Params) => (@PySem.Obj.mk (@PySem.Value.type "tuple") (@Option.none.{0} @Nat) (@PySem.Data.seq #[(@PySem.Value.str (PySem.Str.ofString "text") 406), (@PySem.Value.str (PySem.Str.ofString "reader") 407), (@PySem.Value.str (PySem.Str.ofString "row") 408), (@PySem.Value.str (PySem.Str.ofString "turn") 409)] 0) #[]))
noncomputable def left_o_162 : ((x0 : @PySem.Params) → @PySem.Obj) :=
  (fun (x0 : @PySem.Params) => (@PySem.Obj.mk (@PySem.Value.type "tuple") (@Option.none.{0} @Nat) (@PySem.Data.seq #[] 0) #[]))
noncomputable def left_o_163 : ((x0 : @PySem.Params) → @PySem.Obj) :=
  (fun (x0 : @PySem.Params) => (@PySem.Obj.mk @PySem.Value.none (@Option.none.{0} @Nat) (@PySem.Data.func (@PySem.FuncData.mk (PySem.Str.ofString "_law_readings") (PySem.Str.ofString "_law_readings") a15 (@PySem.FuncBody.stmts b15) s15 0 [] @PySem.Value.none @PySem.Value.none @PySem.Value.none @PySem.Value.none (@Option.none.{0} @Nat) @PySem.Value.none @PySem.Value.none 0)) #[]))
noncomputable def left_o_164 : ((x0 : @PySem.Params) → @PySem.Obj) :=
  (fun (x0 : @PySem.Params) => (@PySem.Obj.mk (@PySem.Value.type "code") (@Option.none.{0} @Nat) (@PySem.Data.fields #[(@PySem.Value.str (PySem.Str.ofString "_law_readings") 403), (@PySem.Value.str (PySem.Str.ofString "_law_readings") 404), (@PySem.Value.str (PySem.Str.ofString "/claim/cut.py") 405), (@PySem.Value.int (@OfNat.ofNat.{0} @Int (nat_lit 86) (@instOfNat (nat_lit 86))) 0), (@PySem.Value.int (@OfNat.ofNat.{0} @Int (nat_lit 2) (@instOfNat (nat_lit 2))) 0), (@PySem.Value.int (@OfNat.ofNat.{0} @Int (nat_lit 0) (@instOfNat (nat_lit 0))) 0), (@PySem.Value.int (@OfNat.ofNat.{0} @Int (nat_lit 0) (@instOfNat (nat_lit 0))) 0), (@PySem.Value.int (@OfNat.ofNat.{0} @Int (nat_lit 3) (@instOfNat (nat_lit 3))) 0), (@PySem.Value.ref 140), (@PySem.Value.bool @Bool.true), (@PySem.Value.int (@OfNat.ofNat.{0} @Int (nat_lit 181) (@instOfNat (nat_lit 181))) 0), (@PySem.Value.ref 141), @PySem.Value.none, (@PySem.Value.ref 142), (@PySem.Value.ref 143), (@PySem.Value.ref 144), (@PySem.Value.int (@OfNat.ofNat.{0} @Int (nat_lit 410) (@instOfNat (nat_lit 410))) 0), (@PySem.Value.int (@OfNat.ofNat.{0} @Int (nat_lit 86) (@instOfNat (nat_lit 86))) 0), (@PySem.Value.str (PySem.Str.ofString "/claim/cut.py") 411)]) #[]))
noncomputable def left_o_165 : ((x0 : @PySem.Params) → @PySem.Obj) :=
  (fun (x0 : @PySem.Params) => (@PySem.Obj.mk (@PySem.Value.type "function") (@Option.none.{0} @Nat) (@PySem.Data.func (@PySem.FuncData.mk (PySem.Str.ofString "_law_readings") (PySem.Str.ofString "_law_readings") a15 (@PySem.FuncBody.stmts b15) s15 3 [] @PySem.Value.none @PySem.Value.none @PySem.Value.none (@PySem.Value.str (PySem.Str.ofString "law_tr0009_01") 372) (@Option.none.{0} @Nat) (@PySem.Value.ref 145) @PySem.Value.none 0)) #[]))
noncomputable def left_o_166 : ((x0 : @PySem.Params) → @PySem.Obj) :=
  (fun (x0 : @PySem.Params) => (@PySem.Obj.mk (@PySem.Value.type "tuple") (@Option.none.{0} @Nat) (@PySem.Data.seq #[] 0) #[]))
noncomputable def left_o_167 : ((x0 : @PySem.Params) → @PySem.Obj) :=
  (fun (x0 : @PySem.Params) => (@PySem.Obj.mk @PySem.Value.none (@Option.none.{0} @Nat) (@PySem.Data.fields #[]) #[]))
noncomputable def left_o_168 : ((x0 : @PySem.Params) → @PySem.Obj) :=
  (fun (x0 : @PySem.Params) => (@PySem.Obj.mk @PySem.Value.none (@Option.none.{0} @Nat) (@PySem.Data.func (@PySem.FuncData.mk (PySem.Str.ofString "_law_ones") (PySem.Str.ofString "_law_ones") a16 (@PySem.FuncBody.stmts b16) s16 0 [] @PySem.Value.none @PySem.Value.none @PySem.Value.none @PySem.Value.none (@Option.none.{0} @Nat) @PySem.Value.none @PySem.Value.none 0)) #[]))
noncomputable def left_o_169 : ((x0 : @PySem.Params) → @PySem.Obj) :=
  (fun (x0 : @PySem.Params) => (@PySem.Obj.mk (@PySem.Value.type "code") (@Option.none.{0} @Nat) (@PySem.Data.fields #[(@PySem.Value.str (PySem.Str.ofString "_law_ones") 413), (@PySem.Value.str (PySem.Str.ofString "_law_ones") 414), (@PySem.Value.str (PySem.Str.ofString "/claim/cut.py") 415), (@PySem.Value.int (@OfNat.ofNat.{0} @Int (nat_lit 92) (@instOfNat (nat_lit 92))) 0), (@PySem.Value.int (@OfNat.ofNat.{0} @Int (nat_lit 1) (@instOfNat (nat_lit 1))) 0), (@PySem.Value.int (@OfNat.ofNat.{0} @Int (nat_lit 0) (@instOfNat (nat_lit 0))) 0), (@PySem.Value.int (@OfNat.ofNat.{0} @Int (nat_lit 0) (@instOfNat (nat_lit 0))) 0), (@PySem.Value.int (@OfNat.ofNat.{0} @Int (nat_lit 3) (@instOfNat (nat_lit 3))) 0), (@PySem.Value.ref 147), (@PySem.Value.bool @Bool.true), (@PySem.Value.int (@OfNat.ofNat.{0} @Int (nat_lit 181) (@instOfNat (nat_lit 181))) 0), (@PySem.Value.ref 148), @PySem.Value.none, @PySem.Value.none, @PySem.Value.none, (@PySem.Value.ref 149), (@PySem.Value.int (@OfNat.ofNat.{0} @Int (nat_lit 416) (@instOfNat (nat_lit 416))) 0), (@PySem.Value.int (@OfNat.ofNat.{0} @Int (nat_lit 92) (@instOfNat (nat_lit 92))) 0), (@PySem.Value.str (PySem.Str.ofString "/claim/cut.py") 417)]) #[]))
noncomputable def left_o_170 : ((x0 : @PySem.Params) → @PySem.Obj) :=
  (fun (x0 : @PySem.Params) => (@PySem.Obj.mk (@PySem.Value.type "function") (@Option.none.{0} @Nat) (@PySem.Data.func (@PySem.FuncData.mk (PySem.Str.ofString "_law_ones") (PySem.Str.ofString "_law_ones") a16 (@PySem.FuncBody.stmts b16) s16 3 [] @PySem.Value.none @PySem.Value.none @PySem.Value.none (@PySem.Value.str (PySem.Str.ofString "law_tr0009_01") 372) (@Option.none.{0} @Nat) (@PySem.Value.ref 150) @PySem.Value.none 0)) #[]))
noncomputable def left_o_171 : ((x0 : @PySem.Params) → @PySem.Obj) :=
  (fun (x0 : @PySem.Params) => (@PySem.Obj.mk (@PySem.Value.type "tuple") (@Option.none.{0} @Nat) (@PySem.Data.seq #[] 0) #[]))
noncomputable def left_o_172 : ((x0 : @PySem.Params) → @PySem.Obj) :=
  (fun (x0 : @PySem.Params) => (@PySem.Obj.mk @PySem.Value.none (@Option.none.{0} @Nat) (@PySem.Data.fields #[]) #[]))
noncomputable def left_o_173 : ((x0 : @PySem.Params) → @PySem.Obj) :=
  (fun (x0 : @PySem.Params) => (@PySem.Obj.mk @PySem.Value.none (@Option.none.{0} @Nat) (@PySem.Data.func (@PySem.FuncData.mk (PySem.Str.ofString "law") (PySem.Str.ofString "law") a17 (@PySem.FuncBody.stmts b17) s17 0 [] @PySem.Value.none @PySem.Value.none @PySem.Value.none @PySem.Value.none (@Option.none.{0} @Nat) @PySem.Value.none @PySem.Value.none 0)) #[]))
noncomputable def left_o_174 : ((x0 : @PySem.Params) → @PySem.Obj) :=
  (fun (x0 : @PySem.Params) => (@PySem.Obj.mk (@PySem.Value.type "code") (@Option.none.{0} @Nat) (@PySem.Data.fields #[(@PySem.Value.str (PySem.Str.ofString "law") 419), (@PySem.Value.str (PySem.Str.ofString "law") 420), (@PySem.Value.str (PySem.Str.ofString "/claim/cut.py") 421), (@PySem.Value.int (@OfNat.ofNat.{0} @Int (nat_lit 94) (@instOfNat (nat_lit 94))) 0), (@PySem.Value.int (@OfNat.ofNat.{0} @Int (nat_lit 1) (@instOfNat (nat_lit 1))) 0), (@PySem.Value.int (@OfNat.ofNat.{0} @Int (nat_lit 0) (@instOfNat (nat_lit 0))) 0), (@PySem.Value.int (@OfNat.ofNat.{0} @Int (nat_lit 0) (@instOfNat (nat_lit 0))) 0), (@PySem.Value.int (@OfNat.ofNat.{0} @Int (nat_lit 3) (@instOfNat (nat_lit 3))) 0), (@PySem.Value.ref 152), (@PySem.Value.bool @Bool.true), (@PySem.Value.int (@OfNat.ofNat.{0} @Int (nat_lit 181) (@instOfNat (nat_lit 181))) 0), (@PySem.Value.ref 153), @PySem.Value.none, @PySem.Value.none, @PySem.Value.none, (@PySem.Value.ref 154), (@PySem.Value.int (@OfNat.ofNat.{0} @Int (nat_lit 422) (@instOfNat (nat_lit 422))) 0), (@PySem.Value.int (@OfNat.ofNat.{0} @Int (nat_lit 94) (@instOfNat (nat_lit 94))) 0), (@PySem.Value.str (PySem.Str.ofString "/claim/cut.py") 423)]) #[]))
noncomputable def left_o_175 : ((x0 : @PySem.Params) → @PySem.Obj) :=
  (fun (x0 : @PySem.Params) => (@PySem.Obj.mk (@PySem.Value.type "function") (@Option.none.{0} @Nat) (@PySem.Data.func (@PySem.FuncData.mk (PySem.Str.ofString "law") (PySem.Str.ofString "law") a17 (@PySem.FuncBody.stmts b17) s17 3 [] @PySem.Value.none @PySem.Value.none @PySem.Value.none (@PySem.Value.str (PySem.Str.ofString "law_tr0009_01") 372) (@Option.none.{0} @Nat) (@PySem.Value.ref 155) @PySem.Value.none 0)) #[]))
noncomputable def left_tree_175 : ((x0 : @PySem.Params) → @PySem.W.BT) :=
  (fun (x0 : @PySem.Params) => (@PySem.W.BT.node (@PySem.W.boot_o_0 x0) (@PySem.W.BT.node (@PySem.W.boot_o_1 x0) (@PySem.W.BT.node (@left_o_143 x0) (@PySem.W.BT.node (@PySem.W.boot_o_7 x0) (@PySem.W.BT.node (@left_o_12 x0) (@PySem.W.BT.node (@left_o_30 x0) (@PySem.W.BT.node (@left_o_76 x0) (@PySem.W.BT.node (@left_o_146 x0) @PySem.W.BT.nil @PySem.W.BT.nil) @PySem.W.BT.nil) (@PySem.W.BT.node (@left_o_111 x0) @PySem.W.BT.nil @PySem.W.BT.nil)) (@PySem.W.BT.node (@left_o_56 x0) (@PySem.W.BT.node (@left_o_95 x0) (@PySem.W.BT.node (@left_o_162 x0) @PySem.W.BT.nil @PySem.W.BT.nil) @PySem.W.BT.nil) (@PySem.W.BT.node (@left_o_127 x0) @PySem.W.BT.nil @PySem.W.BT.nil))) (@PySem.W.BT.node (@left_o_22 x0) (@PySem.W.BT.node (@left_o_48 x0) (@PySem.W.BT.node (@left_o_84 x0) (@PySem.W.BT.node (@left_o_154 x0) @PySem.W.BT.nil @PySem.W.BT.nil) @PySem.W.BT.nil) (@PySem.W.BT.node (@left_o_119 x0) @PySem.W.BT.nil @PySem.W.BT.nil)) (@PySem.W.BT.node (@left_o_68 x0) (@PySem.W.BT.node (@left_o_103 x0) (@PySem.W.BT.node (@left_o_170 x0) @PySem.W.BT.nil @PySem.W.BT.nil) @PySem.W.BT.nil) (@PySem.W.BT.node (@left_o_135 x0) @PySem.W.BT.nil @PySem.W.BT.nil)))) (@PySem.W.BT.node (@left_o_2 x0) (@PySem.W.BT.node (@left_o_16 x0) (@PySem.W.BT.node (@left_o_44 x0) (@PySem.W.BT.node (@left_o_80 x0) (@PySem.W.BT.node (@left_o_150 x0) @PySem.W.BT.nil @PySem.W.BT.nil) @PySem.W.BT.nil) (@PySem.W.BT.node (@left_o_115 x0) @PySem.W.BT.nil @PySem.W.BT.nil)) (@PySem.W.BT.node (@left_o_60 x0) (@PySem.W.BT.node (@left_o_99 x0) (@PySem.W.BT.node (@left_o_166 x0) @PySem.W.BT.nil @PySem.W.BT.nil) @PySem.W.BT.nil) (@PySem.W.BT.node (@left_o_131 x0) @PySem.W.BT.nil @PySem.W.BT.nil))) (@PySem.W.BT.node (@left_o_26 x0) (@PySem.W.BT.node (@left_o_52 x0) (@PySem.W.BT.node (@left_o_91 x0) (@PySem.W.BT.node (@left_o_158 x0) @PySem.W.BT.nil @PySem.W.BT.nil) @PySem.W.BT.nil) (@PySem.W.BT.node (@left_o_123 x0) @PySem.W.BT.nil @PySem.W.BT.nil)) (@PySem.W.BT.node (@left_o_72 x0) (@PySem.W.BT.node (@left_o_107 x0) (@PySem.W.BT.node (@left_o_174 x0) @PySem.W.BT.nil @PySem.W.BT.nil) @PySem.W.BT.nil) (@PySem.W.BT.node (@left_o_139 x0) @PySem.W.BT.nil @PySem.W.BT.nil))))) (@PySem.W.BT.node (@PySem.W.boot_o_5 x0) (@PySem.W.BT.node (@PySem.W.boot_o_9 x0) (@PySem.W.BT.node (@left_o_14 x0) (@PySem.W.BT.node (@left_o_42 x0) (@PySem.W.BT.node (@left_o_78 x0) (@PySem.W.BT.node (@left_o_148 x0) @PySem.W.BT.nil @PySem.W.BT.nil) @PySem.W.BT.nil) (@PySem.W.BT.node (@left_o_113 x0) @PySem.W.BT.nil @PySem.W.BT.nil)) (@PySem.W.BT.node (@left_o_65 x0) (@PySem.W.BT.node (@left_o_97 x0) (@PySem.W.BT.node (@left_o_164 x0) @PySem.W.BT.nil @PySem.W.BT.nil) @PySem.W.BT.nil) (@PySem.W.BT.node (@left_o_129 x0) @PySem.W.BT.nil @PySem.W.BT.nil))) (@PySem.W.BT.node (@left_o_24 x0) (@PySem.W.BT.node (@left_o_50 x0) (@PySem.W.BT.node (@left_o_89 x0) (@PySem.W.BT.node (@left_o_156 x0) @PySem.W.BT.nil @PySem.W.BT.nil) @PySem.W.BT.nil) (@PySem.W.BT.node (@left_o_121 x0) @PySem.W.BT.nil @PySem.W.BT.nil)) (@PySem.W.BT.node (@left_o_70 x0) (@PySem.W.BT.node (@left_o_105 x0) (@PySem.W.BT.node (@left_o_172 x0) @PySem.W.BT.nil @PySem.W.BT.nil) @PySem.W.BT.nil) (@PySem.W.BT.node (@left_o_137 x0) @PySem.W.BT.nil @PySem.W.BT.nil)))) (@PySem.W.BT.node (@left_o_4 x0) (@PySem.W.BT.node (@left_o_18 x0) (@PySem.W.BT.node (@left_o_46 x0) (@PySem.W.BT.node (@left_o_82 x0) (@PySem.W.BT.node (@left_o_152 x0) @PySem.W.BT.nil @PySem.W.BT.nil) @PySem.W.BT.nil) (@PySem.W.BT.node (@left_o_117 x0) @PySem.W.BT.nil @PySem.W.BT.nil)) (@PySem.W.BT.node (@left_o_66 x0) (@PySem.W.BT.node (@left_o_101 x0) (@PySem.W.BT.node (@left_o_168 x0) @PySem.W.BT.nil @PySem.W.BT.nil) @PySem.W.BT.nil) (@PySem.W.BT.node (@left_o_133 x0) @PySem.W.BT.nil @PySem.W.BT.nil))) (@PySem.W.BT.node (@left_o_28 x0) (@PySem.W.BT.node (@left_o_54 x0) (@PySem.W.BT.node (@left_o_93 x0) (@PySem.W.BT.node (@left_o_160 x0) @PySem.W.BT.nil @PySem.W.BT.nil) @PySem.W.BT.nil) (@PySem.W.BT.node (@left_o_125 x0) @PySem.W.BT.nil @PySem.W.BT.nil)) (@PySem.W.BT.node (@left_o_74 x0) (@PySem.W.BT.node (@left_o_109 x0) @PySem.W.BT.nil @PySem.W.BT.nil) (@PySem.W.BT.node (@left_o_141 x0) @PySem.W.BT.nil @PySem.W.BT.nil)))))) (@PySem.W.BT.node (@left_o_39 x0) (@PySem.W.BT.node (@PySem.W.boot_o_4 x0) (@PySem.W.BT.node (@PySem.W.boot_o_8 x0) (@PySem.W.BT.node (@left_o_13 x0) (@PySem.W.BT.node (@left_o_31 x0) (@PySem.W.BT.node (@left_o_77 x0) (@PySem.W.BT.node (@left_o_147 x0) @PySem.W.BT.nil @PySem.W.BT.nil) @PySem.W.BT.nil) (@PySem.W.BT.node (@left_o_112 x0) @PySem.W.BT.nil @PySem.W.BT.nil)) (@PySem.W.BT.node (@left_o_57 x0) (@PySem.W.BT.node (@left_o_96 x0) (@PySem.W.BT.node (@left_o_163 x0) @PySem.W.BT.nil @PySem.W.BT.nil) @PySem.W.BT.nil) (@PySem.W.BT.node (@left_o_128 x0) @PySem.W.BT.nil @PySem.W.BT.nil))) (@PySem.W.BT.node (@left_o_23 x0) (@PySem.W.BT.node (@left_o_49 x0) (@PySem.W.BT.node (@left_o_88 x0) (@PySem.W.BT.node (@left_o_155 x0) @PySem.W.BT.nil @PySem.W.BT.nil) @PySem.W.BT.nil) (@PySem.W.BT.node (@left_o_120 x0) @PySem.W.BT.nil @PySem.W.BT.nil)) (@PySem.W.BT.node (@left_o_69 x0) (@PySem.W.BT.node (@left_o_104 x0) (@PySem.W.BT.node (@left_o_171 x0) @PySem.W.BT.nil @PySem.W.BT.nil) @PySem.W.BT.nil) (@PySem.W.BT.node (@left_o_136 x0) @PySem.W.BT.nil @PySem.W.BT.nil)))) (@PySem.W.BT.node (@left_o_144 x0) (@PySem.W.BT.node (@left_o_17 x0) (@PySem.W.BT.node (@left_o_45 x0) (@PySem.W.BT.node (@left_o_81 x0) (@PySem.W.BT.node (@left_o_151 x0) @PySem.W.BT.nil @PySem.W.BT.nil) @PySem.W.BT.nil) (@PySem.W.BT.node (@left_o_116 x0) @PySem.W.BT.nil @PySem.W.BT.nil)) (@PySem.W.BT.node (@left_o_61 x0) (@PySem.W.BT.node (@left_o_100 x0) (@PySem.W.BT.node (@left_o_167 x0) @PySem.W.BT.nil @PySem.W.BT.nil) @PySem.W.BT.nil) (@PySem.W.BT.node (@left_o_132 x0) @PySem.W.BT.nil @PySem.W.BT.nil))) (@PySem.W.BT.node (@left_o_27 x0) (@PySem.W.BT.node (@left_o_53 x0) (@PySem.W.BT.node (@left_o_92 x0) (@PySem.W.BT.node (@left_o_159 x0) @PySem.W.BT.nil @PySem.W.BT.nil) @PySem.W.BT.nil) (@PySem.W.BT.node (@left_o_124 x0) @PySem.W.BT.nil @PySem.W.BT.nil)) (@PySem.W.BT.node (@left_o_73 x0) (@PySem.W.BT.node (@left_o_108 x0) (@PySem.W.BT.node (@left_o_175 x0) @PySem.W.BT.nil @PySem.W.BT.nil) @PySem.W.BT.nil) (@PySem.W.BT.node (@left_o_140 x0) @PySem.W.BT.nil @PySem.W.BT.nil))))) (@PySem.W.BT.node (@PySem.W.boot_o_6 x0) (@PySem.W.BT.node (@PySem.W.boot_o_10 x0) (@PySem.W.BT.node (@left_o_15 x0) (@PySem.W.BT.node (@left_o_43 x0) (@PySem.W.BT.node (@left_o_79 x0) (@PySem.W.BT.node (@left_o_149 x0) @PySem.W.BT.nil @PySem.W.BT.nil) @PySem.W.BT.nil) (@PySem.W.BT.node (@left_o_114 x0) @PySem.W.BT.nil @PySem.W.BT.nil)) (@PySem.W.BT.node (@left_o_59 x0) (@PySem.W.BT.node (@left_o_98 x0) (@PySem.W.BT.node (@left_o_165 x0) @PySem.W.BT.nil @PySem.W.BT.nil) @PySem.W.BT.nil) (@PySem.W.BT.node (@left_o_130 x0) @PySem.W.BT.nil @PySem.W.BT.nil))) (@PySem.W.BT.node (@left_o_25 x0) (@PySem.W.BT.node (@left_o_51 x0) (@PySem.W.BT.node (@left_o_90 x0) (@PySem.W.BT.node (@left_o_157 x0) @PySem.W.BT.nil @PySem.W.BT.nil) @PySem.W.BT.nil) (@PySem.W.BT.node (@left_o_122 x0) @PySem.W.BT.nil @PySem.W.BT.nil)) (@PySem.W.BT.node (@left_o_71 x0) (@PySem.W.BT.node (@left_o_106 x0) (@PySem.W.BT.node (@left_o_173 x0) @PySem.W.BT.nil @PySem.W.BT.nil) @PySem.W.BT.nil) (@PySem.W.BT.node (@left_o_138 x0) @PySem.W.BT.nil @PySem.W.BT.nil)))) (@PySem.W.BT.node (@left_o_5 x0) (@PySem.W.BT.node (@left_o_21 x0) (@PySem.W.BT.node (@left_o_47 x0) (@PySem.W.BT.node (@left_o_83 x0) (@PySem.W.BT.node (@left_o_153 x0) @PySem.W.BT.nil @PySem.W.BT.nil) @PySem.W.BT.nil) (@PySem.W.BT.node (@left_o_118 x0) @PySem.W.BT.nil @PySem.W.BT.nil)) (@PySem.W.BT.node (@left_o_67 x0) (@PySem.W.BT.node (@left_o_102 x0) (@PySem.W.BT.node (@left_o_169 x0) @PySem.W.BT.nil @PySem.W.BT.nil) @PySem.W.BT.nil) (@PySem.W.BT.node (@left_o_134 x0) @PySem.W.BT.nil @PySem.W.BT.nil))) (@PySem.W.BT.node (@left_o_29 x0) (@PySem.W.BT.node (@left_o_55 x0) (@PySem.W.BT.node (@left_o_94 x0) (@PySem.W.BT.node (@left_o_161 x0) @PySem.W.BT.nil @PySem.W.BT.nil) @PySem.W.BT.nil) (@PySem.W.BT.node (@left_o_126 x0) @PySem.W.BT.nil @PySem.W.BT.nil)) (@PySem.W.BT.node (@left_o_75 x0) (@PySem.W.BT.node (@left_o_110 x0) @PySem.W.BT.nil @PySem.W.BT.nil) (@PySem.W.BT.node (@left_o_145 x0) @PySem.W.BT.nil @PySem.W.BT.nil))))))))
def eleft__proof_177 : PySem.World → Prop := (fun (x0 : @PySem.World) => (@Eq.{0+1} ((x1 : @PySem.OsState) → (@Option.{0} (@Prod.{0, 0} @PySem.Flow (@Prod.{0, 0} @PySem.W.SharedT (@Prod.{0, 0} @PySem.Code @PySem.Pos))))) (fun (x1 : @PySem.OsState) => (@PySem.W.segRunT @PySem.treeTable @PySem.Challenge.pw_tr0009_01 x0 (nat_lit 11) (@Option.some.{0} @PySem.Value (@PySem.Value.ref 6)) (nat_lit 1) (nat_lit 143) (@PySem.W.SharedT.mk (@left_tree_141 (@PySem.World.params x0)) (nat_lit 126) (@PySem.Life.mk [] [] [] 0 [] [] @Bool.false #[] [] 0 @Bool.false @Bool.false @Bool.false (@OfNat.ofNat.{0} @Int (nat_lit 0) (@instOfNat (nat_lit 0))) [(@OfNat.ofNat.{0} @Int (nat_lit 2000) (@instOfNat (nat_lit 2000))), (@OfNat.ofNat.{0} @Int (nat_lit 10) (@instOfNat (nat_lit 10))), (@OfNat.ofNat.{0} @Int (nat_lit 10) (@instOfNat (nat_lit 10)))] @Bool.false 0 @Bool.true [] [] 0 @Bool.false) (@Array.mk.{0} @PySem.GenState []) (@PySem.Drawn.mk 0 0 0 0) (nat_lit 389) x1) (@PySem.W.piecesOf @left_sts_143 @left_env_1 (@PySem.Code.body (@PySem.W.behindTheImports @PySem.Challenge.pw_tr0009_01) @left_env_1) (@PySem.Pos.mk 77 0 81 17) [(@PySem.W.topFrame (@PySem.Pos.mk 0 0 0 0))]))) (fun (x1 : @PySem.OsState) => (@Option.some.{0} (@Prod.{0, 0} @PySem.Flow (@Prod.{0, 0} @PySem.W.SharedT (@Prod.{0, 0} @PySem.Code @PySem.Pos))) (@Prod.mk.{0, 0} @PySem.Flow (@Prod.{0, 0} @PySem.W.SharedT (@Prod.{0, 0} @PySem.Code @PySem.Pos)) @PySem.Flow.next (@Prod.mk.{0, 0} @PySem.W.SharedT (@Prod.{0, 0} @PySem.Code @PySem.Pos) (@PySem.W.SharedT.mk (@left_tree_175 (@PySem.World.params x0)) (nat_lit 157) (@PySem.Life.mk [] [] [] 0 [] [] @Bool.false #[] [] 0 @Bool.false @Bool.false @Bool.false (@OfNat.ofNat.{0} @Int (nat_lit 0) (@instOfNat (nat_lit 0))) [(@OfNat.ofNat.{0} @Int (nat_lit 2000) (@instOfNat (nat_lit 2000))), (@OfNat.ofNat.{0} @Int (nat_lit 10) (@instOfNat (nat_lit 10))), (@OfNat.ofNat.{0} @Int (nat_lit 10) (@instOfNat (nat_lit 10)))] @Bool.false 0 @Bool.true [] [] 0 @Bool.false) (@Array.mk.{0} @PySem.GenState []) (@PySem.Drawn.mk 0 0 0 0) (nat_lit 425) x1) (@Prod.mk.{0, 0} @PySem.Code @PySem.Pos (@PySem.Code.body (@PySem.W.behindTheImports @PySem.Challenge.pw_tr0009_01) @left_env_1) (@PySem.Pos.mk 94 0 125 44))))))))
theorem eleft__proof_177_p : ∀ w : PySem.World, eleft__proof_177 w := fun w => (by show _ = _; rewrite [PySem.W.Fast.te10110043849684766642, PySem.W.Fast.te14364793385576792824]; kernel_rfl)
theorem left__proof_177 : ((x0 : @PySem.World) → (@Eq.{0+1} ((x1 : @PySem.OsState) → (@Option.{0} (@Prod.{0, 0} @PySem.Flow (@Prod.{0, 0} @PySem.W.SharedT (@Prod.{0, 0} @PySem.Code @PySem.Pos))))) (fun (x1 : @PySem.OsState) => (@PySem.W.segRunT @PySem.treeTable @PySem.Challenge.pw_tr0009_01 x0 (nat_lit 11) (@Option.some.{0} @PySem.Value (@PySem.Value.ref 6)) (nat_lit 1) (nat_lit 143) (@PySem.W.SharedT.mk (@left_tree_141 (@PySem.World.params x0)) (nat_lit 126) (@PySem.Life.mk [] [] [] 0 [] [] @Bool.false #[] [] 0 @Bool.false @Bool.false @Bool.false (@OfNat.ofNat.{0} @Int (nat_lit 0) (@instOfNat (nat_lit 0))) [(@OfNat.ofNat.{0} @Int (nat_lit 2000) (@instOfNat (nat_lit 2000))), (@OfNat.ofNat.{0} @Int (nat_lit 10) (@instOfNat (nat_lit 10))), (@OfNat.ofNat.{0} @Int (nat_lit 10) (@instOfNat (nat_lit 10)))] @Bool.false 0 @Bool.true [] [] 0 @Bool.false) (@Array.mk.{0} @PySem.GenState []) (@PySem.Drawn.mk 0 0 0 0) (nat_lit 389) x1) (@PySem.W.piecesOf @left_sts_143 @left_env_1 (@PySem.Code.body (@PySem.W.behindTheImports @PySem.Challenge.pw_tr0009_01) @left_env_1) (@PySem.Pos.mk 77 0 81 17) [(@PySem.W.topFrame (@PySem.Pos.mk 0 0 0 0))]))) (fun (x1 : @PySem.OsState) => (@Option.some.{0} (@Prod.{0, 0} @PySem.Flow (@Prod.{0, 0} @PySem.W.SharedT (@Prod.{0, 0} @PySem.Code @PySem.Pos))) (@Prod.mk.{0, 0} @PySem.Flow (@Prod.{0, 0} @PySem.W.SharedT (@Prod.{0, 0} @PySem.Code @PySem.Pos)) @PySem.Flow.next (@Prod.mk.{0, 0} @PySem.W.SharedT (@Prod.{0, 0} @PySem.Code @PySem.Pos) (@PySem.W.SharedT.mk (@left_tree_175 (@PySem.World.params x0)) (nat_lit 157) (@PySem.Life.mk [] [] [] 0 [] [] @Bool.false #[] [] 0 @Bool.false @Bool.false @Bool.false (@OfNat.ofNat.{0} @Int (nat_lit 0) (@instOfNat (nat_lit 0))) [(@OfNat.ofNat.{0} @Int (nat_lit 2000) (@instOfNat (nat_lit 2000))), (@OfNat.ofNat.{0} @Int (nat_lit 10) (@instOfNat (nat_lit 10))), (@OfNat.ofNat.{0} @Int (nat_lit 10) (@instOfNat (nat_lit 10)))] @Bool.false 0 @Bool.true [] [] 0 @Bool.false) (@Array.mk.{0} @PySem.GenState []) (@PySem.Drawn.mk 0 0 0 0) (nat_lit 425) x1) (@Prod.mk.{0, 0} @PySem.Code @PySem.Pos (@PySem.Code.body (@PySem.W.behindTheImports @PySem.Challenge.pw_tr0009_01) @left_env_1) (@PySem.Pos.mk 94 0 125 44)))))))) := eleft__proof_177_p
noncomputable def left_heap_177 : ((x0 : @PySem.Params) → @PySem.Heap) :=
  (fun (x0 : @PySem.Params) => (@PySem.Heap.mk (@Array.mk.{0} @PySem.Obj ((@PySem.W.boot_o_0 x0) :: (@PySem.W.boot_o_1 x0) :: (@left_o_39 x0) :: (@left_o_143 x0) :: (@PySem.W.boot_o_4 x0) :: (@PySem.W.boot_o_5 x0) :: (@PySem.W.boot_o_6 x0) :: (@PySem.W.boot_o_7 x0) :: (@PySem.W.boot_o_8 x0) :: (@PySem.W.boot_o_9 x0) :: (@PySem.W.boot_o_10 x0) :: (@left_o_2 x0) :: (@left_o_144 x0) :: (@left_o_4 x0) :: (@left_o_5 x0) :: (@left_o_12 x0) :: (@left_o_13 x0) :: (@left_o_14 x0) :: (@left_o_15 x0) :: (@left_o_16 x0) :: (@left_o_17 x0) :: (@left_o_18 x0) :: (@left_o_21 x0) :: (@left_o_22 x0) :: (@left_o_23 x0) :: (@left_o_24 x0) :: (@left_o_25 x0) :: (@left_o_26 x0) :: (@left_o_27 x0) :: (@left_o_28 x0) :: (@left_o_29 x0) :: (@left_o_30 x0) :: (@left_o_31 x0) :: (@left_o_42 x0) :: (@left_o_43 x0) :: (@left_o_44 x0) :: (@left_o_45 x0) :: (@left_o_46 x0) :: (@left_o_47 x0) :: (@left_o_48 x0) :: (@left_o_49 x0) :: (@left_o_50 x0) :: (@left_o_51 x0) :: (@left_o_52 x0) :: (@left_o_53 x0) :: (@left_o_54 x0) :: (@left_o_55 x0) :: (@left_o_56 x0) :: (@left_o_57 x0) :: (@left_o_65 x0) :: (@left_o_59 x0) :: (@left_o_60 x0) :: (@left_o_61 x0) :: (@left_o_66 x0) :: (@left_o_67 x0) :: (@left_o_68 x0) :: (@left_o_69 x0) :: (@left_o_70 x0) :: (@left_o_71 x0) :: (@left_o_72 x0) :: (@left_o_73 x0) :: (@left_o_74 x0) :: (@left_o_75 x0) :: (@left_o_76 x0) :: (@left_o_77 x0) :: (@left_o_78 x0) :: (@left_o_79 x0) :: (@left_o_80 x0) :: (@left_o_81 x0) :: (@left_o_82 x0) :: (@left_o_83 x0) :: (@left_o_84 x0) :: (@left_o_88 x0) :: (@left_o_89 x0) :: (@left_o_90 x0) :: (@left_o_91 x0) :: (@left_o_92 x0) :: (@left_o_93 x0) :: (@left_o_94 x0) :: (@left_o_95 x0) :: (@left_o_96 x0) :: (@left_o_97 x0) :: (@left_o_98 x0) :: (@left_o_99 x0) :: (@left_o_100 x0) :: (@left_o_101 x0) :: (@left_o_102 x0) :: (@left_o_103 x0) :: (@left_o_104 x0) :: (@left_o_105 x0) :: (@left_o_106 x0) :: (@left_o_107 x0) :: (@left_o_108 x0) :: (@left_o_109 x0) :: (@left_o_110 x0) :: (@left_o_111 x0) :: (@left_o_112 x0) :: (@left_o_113 x0) :: (@left_o_114 x0) :: (@left_o_115 x0) :: (@left_o_116 x0) :: (@left_o_117 x0) :: (@left_o_118 x0) :: (@left_o_119 x0) :: (@left_o_120 x0) :: (@left_o_121 x0) :: (@left_o_122 x0) :: (@left_o_123 x0) :: (@left_o_124 x0) :: (@left_o_125 x0) :: (@left_o_126 x0) :: (@left_o_127 x0) :: (@left_o_128 x0) :: (@left_o_129 x0) :: (@left_o_130 x0) :: (@left_o_131 x0) :: (@left_o_132 x0) :: (@left_o_133 x0) :: (@left_o_134 x0) :: (@left_o_135 x0) :: (@left_o_136 x0) :: (@left_o_137 x0) :: (@left_o_138 x0) :: (@left_o_139 x0) :: (@left_o_140 x0) :: (@left_o_141 x0) :: (@left_o_145 x0) :: (@left_o_146 x0) :: (@left_o_147 x0) :: (@left_o_148 x0) :: (@left_o_149 x0) :: (@left_o_150 x0) :: (@left_o_151 x0) :: (@left_o_152 x0) :: (@left_o_153 x0) :: (@left_o_154 x0) :: (@left_o_155 x0) :: (@left_o_156 x0) :: (@left_o_157 x0) :: (@left_o_158 x0) :: (@left_o_159 x0) :: (@left_o_160 x0) :: (@left_o_161 x0) :: (@left_o_162 x0) :: (@left_o_163 x0) :: (@left_o_164 x0) :: (@left_o_165 x0) :: (@left_o_166 x0) :: (@left_o_167 x0) :: (@left_o_168 x0) :: (@left_o_169 x0) :: (@left_o_170 x0) :: (@left_o_171 x0) :: (@left_o_172 x0) :: (@left_o_173 x0) :: (@left_o_174 x0) :: (@left_o_175 x0) :: [])) (@PySem.Life.mk [] [] [] 0 [] [] @Bool.false #[] [] 0 @Bool.false @Bool.false @Bool.false (@OfNat.ofNat.{0} @Int (nat_lit 0) (@instOfNat (nat_lit 0))) [(@OfNat.ofNat.{0} @Int (nat_lit 2000) (@instOfNat (nat_lit 2000))), (@OfNat.ofNat.{0} @Int (nat_lit 10) (@instOfNat (nat_lit 10))), (@OfNat.ofNat.{0} @Int (nat_lit 10) (@instOfNat (nat_lit 10)))] @Bool.false 0 @Bool.true [] [] 0 @Bool.false)))
def eleft__proof_180 : PySem.World → Prop := (fun (x0 : @PySem.World) => (@Eq.{0+1} ((x1 : @PySem.OsState) → (@Option.{0} @PySem.Shared)) (fun (x1 : @PySem.OsState) => (@PySem.W.topRun @PySem.treeTable @PySem.Challenge.pw_tr0009_01 x0 (nat_lit 11) (@Option.some.{0} @PySem.Value (@PySem.Value.ref 6)) (nat_lit 2) (@PySem.W.SharedT.abs (@PySem.W.SharedT.mk (@left_tree_175 (@PySem.World.params x0)) (nat_lit 157) (@PySem.Life.mk [] [] [] 0 [] [] @Bool.false #[] [] 0 @Bool.false @Bool.false @Bool.false (@OfNat.ofNat.{0} @Int (nat_lit 0) (@instOfNat (nat_lit 0))) [(@OfNat.ofNat.{0} @Int (nat_lit 2000) (@instOfNat (nat_lit 2000))), (@OfNat.ofNat.{0} @Int (nat_lit 10) (@instOfNat (nat_lit 10))), (@OfNat.ofNat.{0} @Int (nat_lit 10) (@instOfNat (nat_lit 10)))] @Bool.false 0 @Bool.true [] [] 0 @Bool.false) (@Array.mk.{0} @PySem.GenState []) (@PySem.Drawn.mk 0 0 0 0) (nat_lit 425) x1)) (@PySem.Thread.mk (@PySem.W.doneF @PySem.Flow.next) (@PySem.Code.body (@PySem.W.behindTheImports @PySem.Challenge.pw_tr0009_01) @left_env_1) (@PySem.Pos.mk 94 0 125 44) [(@PySem.W.topFrame (@PySem.Pos.mk 0 0 0 0))]))) (fun (x1 : @PySem.OsState) => (@Option.some.{0} @PySem.Shared (@PySem.Shared.mk (@left_heap_177 (@PySem.World.params x0)) (@Array.mk.{0} @PySem.GenState []) (@PySem.Drawn.mk 0 0 0 0) (nat_lit 425) x1)))))
theorem eleft__proof_180_p : ∀ w : PySem.World, eleft__proof_180 w := fun w => (by show _ = _; kernel_rfl)
theorem left__proof_180 : ((x0 : @PySem.World) → (@Eq.{0+1} ((x1 : @PySem.OsState) → (@Option.{0} @PySem.Shared)) (fun (x1 : @PySem.OsState) => (@PySem.W.topRun @PySem.treeTable @PySem.Challenge.pw_tr0009_01 x0 (nat_lit 11) (@Option.some.{0} @PySem.Value (@PySem.Value.ref 6)) (nat_lit 2) (@PySem.W.SharedT.abs (@PySem.W.SharedT.mk (@left_tree_175 (@PySem.World.params x0)) (nat_lit 157) (@PySem.Life.mk [] [] [] 0 [] [] @Bool.false #[] [] 0 @Bool.false @Bool.false @Bool.false (@OfNat.ofNat.{0} @Int (nat_lit 0) (@instOfNat (nat_lit 0))) [(@OfNat.ofNat.{0} @Int (nat_lit 2000) (@instOfNat (nat_lit 2000))), (@OfNat.ofNat.{0} @Int (nat_lit 10) (@instOfNat (nat_lit 10))), (@OfNat.ofNat.{0} @Int (nat_lit 10) (@instOfNat (nat_lit 10)))] @Bool.false 0 @Bool.true [] [] 0 @Bool.false) (@Array.mk.{0} @PySem.GenState []) (@PySem.Drawn.mk 0 0 0 0) (nat_lit 425) x1)) (@PySem.Thread.mk (@PySem.W.doneF @PySem.Flow.next) (@PySem.Code.body (@PySem.W.behindTheImports @PySem.Challenge.pw_tr0009_01) @left_env_1) (@PySem.Pos.mk 94 0 125 44) [(@PySem.W.topFrame (@PySem.Pos.mk 0 0 0 0))]))) (fun (x1 : @PySem.OsState) => (@Option.some.{0} @PySem.Shared (@PySem.Shared.mk (@left_heap_177 (@PySem.World.params x0)) (@Array.mk.{0} @PySem.GenState []) (@PySem.Drawn.mk 0 0 0 0) (nat_lit 425) x1))))) := eleft__proof_180_p
theorem left__proof_181 : ((x0 : @PySem.World) → ((x1 : @PySem.OsState) → (@Eq.{0+1} (@Option.{0} @PySem.Shared) (@PySem.W.topRun @PySem.treeTable @PySem.Challenge.pw_tr0009_01 x0 (nat_lit 11) (@Option.some.{0} @PySem.Value (@PySem.Value.ref 6)) (@Nat.add (nat_lit 12) (@Nat.add (nat_lit 1) (@Nat.add (nat_lit 39) (@Nat.add (nat_lit 999) (@Nat.add (nat_lit 235) (@Nat.add (nat_lit 256) (@Nat.add (nat_lit 390) (@Nat.add (nat_lit 143) (nat_lit 2))))))))) (@PySem.Shared.mk (@PySem.W.boot_heap (@PySem.World.params x0)) (@Array.mk.{0} @PySem.GenState []) @PySem.W.boot_drawn @PySem.W.boot_toks x1) (@PySem.W.topStub @PySem.Challenge.pw_tr0009_01)) (@Option.some.{0} @PySem.Shared (@PySem.Shared.mk (@left_heap_177 (@PySem.World.params x0)) (@Array.mk.{0} @PySem.GenState []) (@PySem.Drawn.mk 0 0 0 0) (nat_lit 425) x1))))) :=
  (fun (x0 : @PySem.World) => (fun (x1 : @PySem.OsState) => (@PySem.W.go_top @PySem.treeTable @PySem.Challenge.pw_tr0009_01 x0 (nat_lit 11) (@Option.some.{0} @PySem.Value (@PySem.Value.ref 6)) (nat_lit 12) (@Nat.add (nat_lit 1) (@Nat.add (nat_lit 39) (@Nat.add (nat_lit 999) (@Nat.add (nat_lit 235) (@Nat.add (nat_lit 256) (@Nat.add (nat_lit 390) (@Nat.add (nat_lit 143) (nat_lit 2)))))))) (@PySem.Shared.mk (@PySem.W.boot_heap (@PySem.World.params x0)) (@Array.mk.{0} @PySem.GenState []) @PySem.W.boot_drawn @PySem.W.boot_toks x1) (@PySem.Shared.mk (@left_heap_5 (@PySem.World.params x0)) (@Array.mk.{0} @PySem.GenState []) (@PySem.Drawn.mk 0 0 0 0) (nat_lit 187) x1) (@PySem.Shared.mk (@left_heap_177 (@PySem.World.params x0)) (@Array.mk.{0} @PySem.GenState []) (@PySem.Drawn.mk 0 0 0 0) (nat_lit 425) x1) (@PySem.W.topStub @PySem.Challenge.pw_tr0009_01) (@PySem.Thread.mk (@PySem.denote @PySem.treeTable (@PySem.Code.body (@PySem.W.behindTheImports @PySem.Challenge.pw_tr0009_01) @left_env_1)) (@PySem.Code.body (@PySem.W.behindTheImports @PySem.Challenge.pw_tr0009_01) @left_env_1) (@PySem.Pos.mk 0 0 0 0) [(@PySem.W.topFrame (@PySem.Pos.mk 0 0 0 0))]) (@congrFun.{0+1, 0+1} @PySem.OsState (fun (x2 : @PySem.OsState) => (@Option.{0} (@Prod.{0, 0} @PySem.Shared @PySem.Thread))) (fun (x2 : @PySem.OsState) => (@PySem.W.topGo @PySem.treeTable @PySem.Challenge.pw_tr0009_01 x0 (nat_lit 11) (@Option.some.{0} @PySem.Value (@PySem.Value.ref 6)) (nat_lit 12) (@PySem.Shared.mk (@PySem.W.boot_heap (@PySem.World.params x0)) (@Array.mk.{0} @PySem.GenState []) @PySem.W.boot_drawn @PySem.W.boot_toks x2) (@PySem.W.topStub @PySem.Challenge.pw_tr0009_01))) (fun (x2 : @PySem.OsState) => (@Option.some.{0} (@Prod.{0, 0} @PySem.Shared @PySem.Thread) (@Prod.mk.{0, 0} @PySem.Shared @PySem.Thread (@PySem.Shared.mk (@left_heap_5 (@PySem.World.params x0)) (@Array.mk.{0} @PySem.GenState []) (@PySem.Drawn.mk 0 0 0 0) (nat_lit 187) x2) (@PySem.Thread.mk (@PySem.denote @PySem.treeTable (@PySem.Code.body (@PySem.W.behindTheImports @PySem.Challenge.pw_tr0009_01) @left_env_1)) (@PySem.Code.body (@PySem.W.behindTheImports @PySem.Challenge.pw_tr0009_01) @left_env_1) (@PySem.Pos.mk 0 0 0 0) [(@PySem.W.topFrame (@PySem.Pos.mk 0 0 0 0))])))) (@left__proof_7 x0) x1) (@PySem.W.piece_block @PySem.treeTable @PySem.Challenge.pw_tr0009_01 x0 (nat_lit 11) (@Option.some.{0} @PySem.Value (@PySem.Value.ref 6)) @left_env_1 (@PySem.Pos.mk 0 0 0 0) (nat_lit 1) (@Nat.add (nat_lit 39) (@Nat.add (nat_lit 999) (@Nat.add (nat_lit 235) (@Nat.add (nat_lit 256) (@Nat.add (nat_lit 390) (@Nat.add (nat_lit 143) (nat_lit 2))))))) (@PySem.Shared.mk (@left_heap_5 (@PySem.World.params x0)) (@Array.mk.{0} @PySem.GenState []) (@PySem.Drawn.mk 0 0 0 0) (nat_lit 187) x1) (@PySem.W.SharedT.abs (@PySem.W.SharedT.mk (@left_tree_7 (@PySem.World.params x0)) (nat_lit 15) (@PySem.Life.mk [] [] [] 0 [] [] @Bool.false #[] [] 0 @Bool.false @Bool.false @Bool.false (@OfNat.ofNat.{0} @Int (nat_lit 0) (@instOfNat (nat_lit 0))) [(@OfNat.ofNat.{0} @Int (nat_lit 2000) (@instOfNat (nat_lit 2000))), (@OfNat.ofNat.{0} @Int (nat_lit 10) (@instOfNat (nat_lit 10))), (@OfNat.ofNat.{0} @Int (nat_lit 10) (@instOfNat (nat_lit 10)))] @Bool.false 0 @Bool.true [] [] 0 @Bool.false) (@Array.mk.{0} @PySem.GenState []) (@PySem.Drawn.mk 0 0 0 0) (nat_lit 187) x1)) (@PySem.Shared.mk (@left_heap_177 (@PySem.World.params x0)) (@Array.mk.{0} @PySem.GenState []) (@PySem.Drawn.mk 0 0 0 0) (nat_lit 425) x1) (@PySem.W.behindTheImports @PySem.Challenge.pw_tr0009_01) (@PySem.Code.body (@PySem.W.behindTheImports @PySem.Challenge.pw_tr0009_01) @left_env_1) (@PySem.Pos.mk 0 0 0 0) (@PySem.Pos.mk 0 0 0 0) (@congrFun.{0+1, 0+1} @PySem.OsState (fun (x2 : @PySem.OsState) => (@Option.{0} (@Prod.{0, 0} @PySem.Flow (@Prod.{0, 0} @PySem.Shared (@Prod.{0, 0} @PySem.Code @PySem.Pos))))) (fun (x2 : @PySem.OsState) => (@PySem.W.segRun @PySem.treeTable @PySem.Challenge.pw_tr0009_01 x0 (nat_lit 11) (@Option.some.{0} @PySem.Value (@PySem.Value.ref 6)) (nat_lit 1) (nat_lit 1) (@PySem.Shared.mk (@left_heap_5 (@PySem.World.params x0)) (@Array.mk.{0} @PySem.GenState []) (@PySem.Drawn.mk 0 0 0 0) (nat_lit 187) x2) (@PySem.W.blockOf (@PySem.W.behindTheImports @PySem.Challenge.pw_tr0009_01) @left_env_1 (@PySem.Code.body (@PySem.W.behindTheImports @PySem.Challenge.pw_tr0009_01) @left_env_1) (@PySem.Pos.mk 0 0 0 0) [(@PySem.W.topFrame (@PySem.Pos.mk 0 0 0 0))]))) (fun (x2 : @PySem.OsState) => (@Option.some.{0} (@Prod.{0, 0} @PySem.Flow (@Prod.{0, 0} @PySem.Shared (@Prod.{0, 0} @PySem.Code @PySem.Pos))) (@Prod.mk.{0, 0} @PySem.Flow (@Prod.{0, 0} @PySem.Shared (@Prod.{0, 0} @PySem.Code @PySem.Pos)) @PySem.Flow.next (@Prod.mk.{0, 0} @PySem.Shared (@Prod.{0, 0} @PySem.Code @PySem.Pos) (@PySem.W.SharedT.abs (@PySem.W.SharedT.mk (@left_tree_7 (@PySem.World.params x0)) (nat_lit 15) (@PySem.Life.mk [] [] [] 0 [] [] @Bool.false #[] [] 0 @Bool.false @Bool.false @Bool.false (@OfNat.ofNat.{0} @Int (nat_lit 0) (@instOfNat (nat_lit 0))) [(@OfNat.ofNat.{0} @Int (nat_lit 2000) (@instOfNat (nat_lit 2000))), (@OfNat.ofNat.{0} @Int (nat_lit 10) (@instOfNat (nat_lit 10))), (@OfNat.ofNat.{0} @Int (nat_lit 10) (@instOfNat (nat_lit 10)))] @Bool.false 0 @Bool.true [] [] 0 @Bool.false) (@Array.mk.{0} @PySem.GenState []) (@PySem.Drawn.mk 0 0 0 0) (nat_lit 187) x2)) (@Prod.mk.{0, 0} @PySem.Code @PySem.Pos (@PySem.Code.body (@PySem.W.behindTheImports @PySem.Challenge.pw_tr0009_01) @left_env_1) (@PySem.Pos.mk 0 0 0 0)))))) (@left__proof_10 x0) x1) (@PySem.W.piece_app @PySem.treeTable @PySem.Challenge.pw_tr0009_01 x0 (nat_lit 11) (@Option.some.{0} @PySem.Value (@PySem.Value.ref 6)) @left_env_1 (@PySem.Pos.mk 0 0 0 0) (nat_lit 39) (@Nat.add (nat_lit 999) (@Nat.add (nat_lit 235) (@Nat.add (nat_lit 256) (@Nat.add (nat_lit 390) (@Nat.add (nat_lit 143) (nat_lit 2)))))) (@PySem.W.SharedT.abs (@PySem.W.SharedT.mk (@left_tree_7 (@PySem.World.params x0)) (nat_lit 15) (@PySem.Life.mk [] [] [] 0 [] [] @Bool.false #[] [] 0 @Bool.false @Bool.false @Bool.false (@OfNat.ofNat.{0} @Int (nat_lit 0) (@instOfNat (nat_lit 0))) [(@OfNat.ofNat.{0} @Int (nat_lit 2000) (@instOfNat (nat_lit 2000))), (@OfNat.ofNat.{0} @Int (nat_lit 10) (@instOfNat (nat_lit 10))), (@OfNat.ofNat.{0} @Int (nat_lit 10) (@instOfNat (nat_lit 10)))] @Bool.false 0 @Bool.true [] [] 0 @Bool.false) (@Array.mk.{0} @PySem.GenState []) (@PySem.Drawn.mk 0 0 0 0) (nat_lit 187) x1)) (@PySem.W.SharedT.abs (@PySem.W.SharedT.mk (@left_tree_18 (@PySem.World.params x0)) (nat_lit 22) (@PySem.Life.mk [] [] [] 0 [] [] @Bool.false #[] [] 0 @Bool.false @Bool.false @Bool.false (@OfNat.ofNat.{0} @Int (nat_lit 0) (@instOfNat (nat_lit 0))) [(@OfNat.ofNat.{0} @Int (nat_lit 2000) (@instOfNat (nat_lit 2000))), (@OfNat.ofNat.{0} @Int (nat_lit 10) (@instOfNat (nat_lit 10))), (@OfNat.ofNat.{0} @Int (nat_lit 10) (@instOfNat (nat_lit 10)))] @Bool.false 0 @Bool.true [] [] 0 @Bool.false) (@Array.mk.{0} @PySem.GenState []) (@PySem.Drawn.mk 0 0 0 0) (nat_lit 196) x1)) (@PySem.Shared.mk (@left_heap_177 (@PySem.World.params x0)) (@Array.mk.{0} @PySem.GenState []) (@PySem.Drawn.mk 0 0 0 0) (nat_lit 425) x1) @left_sts_10 (@HAppend.hAppend.{0, 0, 0} (@List.{0} @PySem.Stmt) (@List.{0} @PySem.Stmt) (@List.{0} @PySem.Stmt) (@instHAppendOfAppend.{0} (@List.{0} @PySem.Stmt) (@List.instAppend.{0} @PySem.Stmt)) @left_sts_20 (@HAppend.hAppend.{0, 0, 0} (@List.{0} @PySem.Stmt) (@List.{0} @PySem.Stmt) (@List.{0} @PySem.Stmt) (@instHAppendOfAppend.{0} (@List.{0} @PySem.Stmt) (@List.instAppend.{0} @PySem.Stmt)) @left_sts_39 (@HAppend.hAppend.{0, 0, 0} (@List.{0} @PySem.Stmt) (@List.{0} @PySem.Stmt) (@List.{0} @PySem.Stmt) (@instHAppendOfAppend.{0} (@List.{0} @PySem.Stmt) (@List.instAppend.{0} @PySem.Stmt)) @left_sts_63 (@HAppend.hAppend.{0, 0, 0} (@List.{0} @PySem.Stmt) (@List.{0} @PySem.Stmt) (@List.{0} @PySem.Stmt) (@instHAppendOfAppend.{0} (@List.{0} @PySem.Stmt) (@List.instAppend.{0} @PySem.Stmt)) @left_sts_86 (@HAppend.hAppend.{0, 0, 0} (@List.{0} @PySem.Stmt) (@List.{0} @PySem.Stmt) (@List.{0} @PySem.Stmt) (@instHAppendOfAppend.{0} (@List.{0} @PySem.Stmt) (@List.instAppend.{0} @PySem.Stmt)) @left_sts_143 []))))) (@PySem.Code.body (@PySem.W.behindTheImports @PySem.Challenge.pw_tr0009_01) @left_env_1) (@PySem.Pos.mk 0 0 0 0) (@PySem.Pos.mk 4 0 4 8) (@congrFun.{0+1, 0+1} @PySem.OsState (fun (x2 : @PySem.OsState) => (@Option.{0} (@Prod.{0, 0} @PySem.Flow (@Prod.{0, 0} @PySem.Shared (@Prod.{0, 0} @PySem.Code @PySem.Pos))))) (fun (x2 : @PySem.OsState) => (@PySem.W.segRun @PySem.treeTable @PySem.Challenge.pw_tr0009_01 x0 (nat_lit 11) (@Option.some.{0} @PySem.Value (@PySem.Value.ref 6)) (nat_lit 1) (nat_lit 39) (@PySem.W.SharedT.abs (@PySem.W.SharedT.mk (@left_tree_7 (@PySem.World.params x0)) (nat_lit 15) (@PySem.Life.mk [] [] [] 0 [] [] @Bool.false #[] [] 0 @Bool.false @Bool.false @Bool.false (@OfNat.ofNat.{0} @Int (nat_lit 0) (@instOfNat (nat_lit 0))) [(@OfNat.ofNat.{0} @Int (nat_lit 2000) (@instOfNat (nat_lit 2000))), (@OfNat.ofNat.{0} @Int (nat_lit 10) (@instOfNat (nat_lit 10))), (@OfNat.ofNat.{0} @Int (nat_lit 10) (@instOfNat (nat_lit 10)))] @Bool.false 0 @Bool.true [] [] 0 @Bool.false) (@Array.mk.{0} @PySem.GenState []) (@PySem.Drawn.mk 0 0 0 0) (nat_lit 187) x2)) (@PySem.W.piecesOf @left_sts_10 @left_env_1 (@PySem.Code.body (@PySem.W.behindTheImports @PySem.Challenge.pw_tr0009_01) @left_env_1) (@PySem.Pos.mk 0 0 0 0) [(@PySem.W.topFrame (@PySem.Pos.mk 0 0 0 0))]))) (fun (x2 : @PySem.OsState) => (@Option.some.{0} (@Prod.{0, 0} @PySem.Flow (@Prod.{0, 0} @PySem.Shared (@Prod.{0, 0} @PySem.Code @PySem.Pos))) (@Prod.mk.{0, 0} @PySem.Flow (@Prod.{0, 0} @PySem.Shared (@Prod.{0, 0} @PySem.Code @PySem.Pos)) @PySem.Flow.next (@Prod.mk.{0, 0} @PySem.Shared (@Prod.{0, 0} @PySem.Code @PySem.Pos) (@PySem.W.SharedT.abs (@PySem.W.SharedT.mk (@left_tree_18 (@PySem.World.params x0)) (nat_lit 22) (@PySem.Life.mk [] [] [] 0 [] [] @Bool.false #[] [] 0 @Bool.false @Bool.false @Bool.false (@OfNat.ofNat.{0} @Int (nat_lit 0) (@instOfNat (nat_lit 0))) [(@OfNat.ofNat.{0} @Int (nat_lit 2000) (@instOfNat (nat_lit 2000))), (@OfNat.ofNat.{0} @Int (nat_lit 10) (@instOfNat (nat_lit 10))), (@OfNat.ofNat.{0} @Int (nat_lit 10) (@instOfNat (nat_lit 10)))] @Bool.false 0 @Bool.true [] [] 0 @Bool.false) (@Array.mk.{0} @PySem.GenState []) (@PySem.Drawn.mk 0 0 0 0) (nat_lit 196) x2)) (@Prod.mk.{0, 0} @PySem.Code @PySem.Pos (@PySem.Code.body (@PySem.W.behindTheImports @PySem.Challenge.pw_tr0009_01) @left_env_1) (@PySem.Pos.mk 4 0 4 8)))))) ((fun (x2 : @PySem.World) => (@funext.{0+1, 0+1} @PySem.OsState (fun (x3 : @PySem.OsState) => (@Option.{0} (@Prod.{0, 0} @PySem.Flow (@Prod.{0, 0} @PySem.Shared (@Prod.{0, 0} @PySem.Code @PySem.Pos))))) (fun (x3 : @PySem.OsState) => (@PySem.W.segRun @PySem.treeTable @PySem.Challenge.pw_tr0009_01 x2 (nat_lit 11) (@Option.some.{0} @PySem.Value (@PySem.Value.ref 6)) (nat_lit 1) (nat_lit 39) (@PySem.W.SharedT.abs (@PySem.W.SharedT.mk (@left_tree_7 (@PySem.World.params x2)) (nat_lit 15) (@PySem.Life.mk [] [] [] 0 [] [] @Bool.false #[] [] 0 @Bool.false @Bool.false @Bool.false (@OfNat.ofNat.{0} @Int (nat_lit 0) (@instOfNat (nat_lit 0))) [(@OfNat.ofNat.{0} @Int (nat_lit 2000) (@instOfNat (nat_lit 2000))), (@OfNat.ofNat.{0} @Int (nat_lit 10) (@instOfNat (nat_lit 10))), (@OfNat.ofNat.{0} @Int (nat_lit 10) (@instOfNat (nat_lit 10)))] @Bool.false 0 @Bool.true [] [] 0 @Bool.false) (@Array.mk.{0} @PySem.GenState []) (@PySem.Drawn.mk 0 0 0 0) (nat_lit 187) x3)) (@PySem.W.piecesOf @left_sts_10 @left_env_1 (@PySem.Code.body (@PySem.W.behindTheImports @PySem.Challenge.pw_tr0009_01) @left_env_1) (@PySem.Pos.mk 0 0 0 0) [(@PySem.W.topFrame (@PySem.Pos.mk 0 0 0 0))]))) (fun (x3 : @PySem.OsState) => (@Option.some.{0} (@Prod.{0, 0} @PySem.Flow (@Prod.{0, 0} @PySem.Shared (@Prod.{0, 0} @PySem.Code @PySem.Pos))) (@Prod.mk.{0, 0} @PySem.Flow (@Prod.{0, 0} @PySem.Shared (@Prod.{0, 0} @PySem.Code @PySem.Pos)) @PySem.Flow.next (@Prod.mk.{0, 0} @PySem.Shared (@Prod.{0, 0} @PySem.Code @PySem.Pos) (@PySem.W.SharedT.abs (@PySem.W.SharedT.mk (@left_tree_18 (@PySem.World.params x2)) (nat_lit 22) (@PySem.Life.mk [] [] [] 0 [] [] @Bool.false #[] [] 0 @Bool.false @Bool.false @Bool.false (@OfNat.ofNat.{0} @Int (nat_lit 0) (@instOfNat (nat_lit 0))) [(@OfNat.ofNat.{0} @Int (nat_lit 2000) (@instOfNat (nat_lit 2000))), (@OfNat.ofNat.{0} @Int (nat_lit 10) (@instOfNat (nat_lit 10))), (@OfNat.ofNat.{0} @Int (nat_lit 10) (@instOfNat (nat_lit 10)))] @Bool.false 0 @Bool.true [] [] 0 @Bool.false) (@Array.mk.{0} @PySem.GenState []) (@PySem.Drawn.mk 0 0 0 0) (nat_lit 196) x3)) (@Prod.mk.{0, 0} @PySem.Code @PySem.Pos (@PySem.Code.body (@PySem.W.behindTheImports @PySem.Challenge.pw_tr0009_01) @left_env_1) (@PySem.Pos.mk 4 0 4 8)))))) (fun (x3 : @PySem.OsState) => (@PySem.W.segRun_of @PySem.treeTable @PySem.Challenge.pw_tr0009_01 x2 (nat_lit 11) (@Option.some.{0} @PySem.Value (@PySem.Value.ref 6)) (nat_lit 1) (nat_lit 39) (@PySem.W.SharedT.mk (@left_tree_7 (@PySem.World.params x2)) (nat_lit 15) (@PySem.Life.mk [] [] [] 0 [] [] @Bool.false #[] [] 0 @Bool.false @Bool.false @Bool.false (@OfNat.ofNat.{0} @Int (nat_lit 0) (@instOfNat (nat_lit 0))) [(@OfNat.ofNat.{0} @Int (nat_lit 2000) (@instOfNat (nat_lit 2000))), (@OfNat.ofNat.{0} @Int (nat_lit 10) (@instOfNat (nat_lit 10))), (@OfNat.ofNat.{0} @Int (nat_lit 10) (@instOfNat (nat_lit 10)))] @Bool.false 0 @Bool.true [] [] 0 @Bool.false) (@Array.mk.{0} @PySem.GenState []) (@PySem.Drawn.mk 0 0 0 0) (nat_lit 187) x3) (@PySem.W.SharedT.mk (@left_tree_18 (@PySem.World.params x2)) (nat_lit 22) (@PySem.Life.mk [] [] [] 0 [] [] @Bool.false #[] [] 0 @Bool.false @Bool.false @Bool.false (@OfNat.ofNat.{0} @Int (nat_lit 0) (@instOfNat (nat_lit 0))) [(@OfNat.ofNat.{0} @Int (nat_lit 2000) (@instOfNat (nat_lit 2000))), (@OfNat.ofNat.{0} @Int (nat_lit 10) (@instOfNat (nat_lit 10))), (@OfNat.ofNat.{0} @Int (nat_lit 10) (@instOfNat (nat_lit 10)))] @Bool.false 0 @Bool.true [] [] 0 @Bool.false) (@Array.mk.{0} @PySem.GenState []) (@PySem.Drawn.mk 0 0 0 0) (nat_lit 196) x3) (@PySem.W.piecesOf @left_sts_10 @left_env_1 (@PySem.Code.body (@PySem.W.behindTheImports @PySem.Challenge.pw_tr0009_01) @left_env_1) (@PySem.Pos.mk 0 0 0 0) [(@PySem.W.topFrame (@PySem.Pos.mk 0 0 0 0))]) @PySem.Flow.next (@PySem.Code.body (@PySem.W.behindTheImports @PySem.Challenge.pw_tr0009_01) @left_env_1) (@PySem.Pos.mk 4 0 4 8) (@congrFun.{0+1, 0+1} @PySem.OsState (fun (x4 : @PySem.OsState) => (@Option.{0} (@Prod.{0, 0} @PySem.Flow (@Prod.{0, 0} @PySem.W.SharedT (@Prod.{0, 0} @PySem.Code @PySem.Pos))))) (fun (x4 : @PySem.OsState) => (@PySem.W.segRunT @PySem.treeTable @PySem.Challenge.pw_tr0009_01 x2 (nat_lit 11) (@Option.some.{0} @PySem.Value (@PySem.Value.ref 6)) (nat_lit 1) (nat_lit 39) (@PySem.W.SharedT.mk (@left_tree_7 (@PySem.World.params x2)) (nat_lit 15) (@PySem.Life.mk [] [] [] 0 [] [] @Bool.false #[] [] 0 @Bool.false @Bool.false @Bool.false (@OfNat.ofNat.{0} @Int (nat_lit 0) (@instOfNat (nat_lit 0))) [(@OfNat.ofNat.{0} @Int (nat_lit 2000) (@instOfNat (nat_lit 2000))), (@OfNat.ofNat.{0} @Int (nat_lit 10) (@instOfNat (nat_lit 10))), (@OfNat.ofNat.{0} @Int (nat_lit 10) (@instOfNat (nat_lit 10)))] @Bool.false 0 @Bool.true [] [] 0 @Bool.false) (@Array.mk.{0} @PySem.GenState []) (@PySem.Drawn.mk 0 0 0 0) (nat_lit 187) x4) (@PySem.W.piecesOf @left_sts_10 @left_env_1 (@PySem.Code.body (@PySem.W.behindTheImports @PySem.Challenge.pw_tr0009_01) @left_env_1) (@PySem.Pos.mk 0 0 0 0) [(@PySem.W.topFrame (@PySem.Pos.mk 0 0 0 0))]))) (fun (x4 : @PySem.OsState) => (@Option.some.{0} (@Prod.{0, 0} @PySem.Flow (@Prod.{0, 0} @PySem.W.SharedT (@Prod.{0, 0} @PySem.Code @PySem.Pos))) (@Prod.mk.{0, 0} @PySem.Flow (@Prod.{0, 0} @PySem.W.SharedT (@Prod.{0, 0} @PySem.Code @PySem.Pos)) @PySem.Flow.next (@Prod.mk.{0, 0} @PySem.W.SharedT (@Prod.{0, 0} @PySem.Code @PySem.Pos) (@PySem.W.SharedT.mk (@left_tree_18 (@PySem.World.params x2)) (nat_lit 22) (@PySem.Life.mk [] [] [] 0 [] [] @Bool.false #[] [] 0 @Bool.false @Bool.false @Bool.false (@OfNat.ofNat.{0} @Int (nat_lit 0) (@instOfNat (nat_lit 0))) [(@OfNat.ofNat.{0} @Int (nat_lit 2000) (@instOfNat (nat_lit 2000))), (@OfNat.ofNat.{0} @Int (nat_lit 10) (@instOfNat (nat_lit 10))), (@OfNat.ofNat.{0} @Int (nat_lit 10) (@instOfNat (nat_lit 10)))] @Bool.false 0 @Bool.true [] [] 0 @Bool.false) (@Array.mk.{0} @PySem.GenState []) (@PySem.Drawn.mk 0 0 0 0) (nat_lit 196) x4) (@Prod.mk.{0, 0} @PySem.Code @PySem.Pos (@PySem.Code.body (@PySem.W.behindTheImports @PySem.Challenge.pw_tr0009_01) @left_env_1) (@PySem.Pos.mk 4 0 4 8)))))) (@left__proof_20 x2) x3))))) x0) x1) (@PySem.W.piece_app @PySem.treeTable @PySem.Challenge.pw_tr0009_01 x0 (nat_lit 11) (@Option.some.{0} @PySem.Value (@PySem.Value.ref 6)) @left_env_1 (@PySem.Pos.mk 0 0 0 0) (nat_lit 999) (@Nat.add (nat_lit 235) (@Nat.add (nat_lit 256) (@Nat.add (nat_lit 390) (@Nat.add (nat_lit 143) (nat_lit 2))))) (@PySem.W.SharedT.abs (@PySem.W.SharedT.mk (@left_tree_18 (@PySem.World.params x0)) (nat_lit 22) (@PySem.Life.mk [] [] [] 0 [] [] @Bool.false #[] [] 0 @Bool.false @Bool.false @Bool.false (@OfNat.ofNat.{0} @Int (nat_lit 0) (@instOfNat (nat_lit 0))) [(@OfNat.ofNat.{0} @Int (nat_lit 2000) (@instOfNat (nat_lit 2000))), (@OfNat.ofNat.{0} @Int (nat_lit 10) (@instOfNat (nat_lit 10))), (@OfNat.ofNat.{0} @Int (nat_lit 10) (@instOfNat (nat_lit 10)))] @Bool.false 0 @Bool.true [] [] 0 @Bool.false) (@Array.mk.{0} @PySem.GenState []) (@PySem.Drawn.mk 0 0 0 0) (nat_lit 196) x1)) (@PySem.W.SharedT.abs (@PySem.W.SharedT.mk (@left_tree_31 (@PySem.World.params x0)) (nat_lit 33) (@PySem.Life.mk [] [] [] 0 [] [] @Bool.false #[] [] 0 @Bool.false @Bool.false @Bool.false (@OfNat.ofNat.{0} @Int (nat_lit 0) (@instOfNat (nat_lit 0))) [(@OfNat.ofNat.{0} @Int (nat_lit 2000) (@instOfNat (nat_lit 2000))), (@OfNat.ofNat.{0} @Int (nat_lit 10) (@instOfNat (nat_lit 10))), (@OfNat.ofNat.{0} @Int (nat_lit 10) (@instOfNat (nat_lit 10)))] @Bool.false 0 @Bool.true [] [] 0 @Bool.false) (@Array.mk.{0} @PySem.GenState []) (@PySem.Drawn.mk 0 0 0 0) (nat_lit 256) x1)) (@PySem.Shared.mk (@left_heap_177 (@PySem.World.params x0)) (@Array.mk.{0} @PySem.GenState []) (@PySem.Drawn.mk 0 0 0 0) (nat_lit 425) x1) @left_sts_20 (@HAppend.hAppend.{0, 0, 0} (@List.{0} @PySem.Stmt) (@List.{0} @PySem.Stmt) (@List.{0} @PySem.Stmt) (@instHAppendOfAppend.{0} (@List.{0} @PySem.Stmt) (@List.instAppend.{0} @PySem.Stmt)) @left_sts_39 (@HAppend.hAppend.{0, 0, 0} (@List.{0} @PySem.Stmt) (@List.{0} @PySem.Stmt) (@List.{0} @PySem.Stmt) (@instHAppendOfAppend.{0} (@List.{0} @PySem.Stmt) (@List.instAppend.{0} @PySem.Stmt)) @left_sts_63 (@HAppend.hAppend.{0, 0, 0} (@List.{0} @PySem.Stmt) (@List.{0} @PySem.Stmt) (@List.{0} @PySem.Stmt) (@instHAppendOfAppend.{0} (@List.{0} @PySem.Stmt) (@List.instAppend.{0} @PySem.Stmt)) @left_sts_86 (@HAppend.hAppend.{0, 0, 0} (@List.{0} @PySem.Stmt) (@List.{0} @PySem.Stmt) (@List.{0} @PySem.Stmt) (@instHAppendOfAppend.{0} (@List.{0} @PySem.Stmt) (@List.instAppend.{0} @PySem.Stmt)) @left_sts_143 [])))) (@PySem.Code.body (@PySem.W.behindTheImports @PySem.Challenge.pw_tr0009_01) @left_env_1) (@PySem.Pos.mk 4 0 4 8) (@PySem.Pos.mk 5 0 5 6) (@congrFun.{0+1, 0+1} @PySem.OsState (fun (x2 : @PySem.OsState) => (@Option.{0} (@Prod.{0, 0} @PySem.Flow (@Prod.{0, 0} @PySem.Shared (@Prod.{0, 0} @PySem.Code @PySem.Pos))))) (fun (x2 : @PySem.OsState) => (@PySem.W.segRun @PySem.treeTable @PySem.Challenge.pw_tr0009_01 x0 (nat_lit 11) (@Option.some.{0} @PySem.Value (@PySem.Value.ref 6)) (nat_lit 1) (nat_lit 999) (@PySem.W.SharedT.abs (@PySem.W.SharedT.mk (@left_tree_18 (@PySem.World.params x0)) (nat_lit 22) (@PySem.Life.mk [] [] [] 0 [] [] @Bool.false #[] [] 0 @Bool.false @Bool.false @Bool.false (@OfNat.ofNat.{0} @Int (nat_lit 0) (@instOfNat (nat_lit 0))) [(@OfNat.ofNat.{0} @Int (nat_lit 2000) (@instOfNat (nat_lit 2000))), (@OfNat.ofNat.{0} @Int (nat_lit 10) (@instOfNat (nat_lit 10))), (@OfNat.ofNat.{0} @Int (nat_lit 10) (@instOfNat (nat_lit 10)))] @Bool.false 0 @Bool.true [] [] 0 @Bool.false) (@Array.mk.{0} @PySem.GenState []) (@PySem.Drawn.mk 0 0 0 0) (nat_lit 196) x2)) (@PySem.W.piecesOf @left_sts_20 @left_env_1 (@PySem.Code.body (@PySem.W.behindTheImports @PySem.Challenge.pw_tr0009_01) @left_env_1) (@PySem.Pos.mk 4 0 4 8) [(@PySem.W.topFrame (@PySem.Pos.mk 0 0 0 0))]))) (fun (x2 : @PySem.OsState) => (@Option.some.{0} (@Prod.{0, 0} @PySem.Flow (@Prod.{0, 0} @PySem.Shared (@Prod.{0, 0} @PySem.Code @PySem.Pos))) (@Prod.mk.{0, 0} @PySem.Flow (@Prod.{0, 0} @PySem.Shared (@Prod.{0, 0} @PySem.Code @PySem.Pos)) @PySem.Flow.next (@Prod.mk.{0, 0} @PySem.Shared (@Prod.{0, 0} @PySem.Code @PySem.Pos) (@PySem.W.SharedT.abs (@PySem.W.SharedT.mk (@left_tree_31 (@PySem.World.params x0)) (nat_lit 33) (@PySem.Life.mk [] [] [] 0 [] [] @Bool.false #[] [] 0 @Bool.false @Bool.false @Bool.false (@OfNat.ofNat.{0} @Int (nat_lit 0) (@instOfNat (nat_lit 0))) [(@OfNat.ofNat.{0} @Int (nat_lit 2000) (@instOfNat (nat_lit 2000))), (@OfNat.ofNat.{0} @Int (nat_lit 10) (@instOfNat (nat_lit 10))), (@OfNat.ofNat.{0} @Int (nat_lit 10) (@instOfNat (nat_lit 10)))] @Bool.false 0 @Bool.true [] [] 0 @Bool.false) (@Array.mk.{0} @PySem.GenState []) (@PySem.Drawn.mk 0 0 0 0) (nat_lit 256) x2)) (@Prod.mk.{0, 0} @PySem.Code @PySem.Pos (@PySem.Code.body (@PySem.W.behindTheImports @PySem.Challenge.pw_tr0009_01) @left_env_1) (@PySem.Pos.mk 5 0 5 6)))))) ((fun (x2 : @PySem.World) => (@funext.{0+1, 0+1} @PySem.OsState (fun (x3 : @PySem.OsState) => (@Option.{0} (@Prod.{0, 0} @PySem.Flow (@Prod.{0, 0} @PySem.Shared (@Prod.{0, 0} @PySem.Code @PySem.Pos))))) (fun (x3 : @PySem.OsState) => (@PySem.W.segRun @PySem.treeTable @PySem.Challenge.pw_tr0009_01 x2 (nat_lit 11) (@Option.some.{0} @PySem.Value (@PySem.Value.ref 6)) (nat_lit 1) (nat_lit 999) (@PySem.W.SharedT.abs (@PySem.W.SharedT.mk (@left_tree_18 (@PySem.World.params x2)) (nat_lit 22) (@PySem.Life.mk [] [] [] 0 [] [] @Bool.false #[] [] 0 @Bool.false @Bool.false @Bool.false (@OfNat.ofNat.{0} @Int (nat_lit 0) (@instOfNat (nat_lit 0))) [(@OfNat.ofNat.{0} @Int (nat_lit 2000) (@instOfNat (nat_lit 2000))), (@OfNat.ofNat.{0} @Int (nat_lit 10) (@instOfNat (nat_lit 10))), (@OfNat.ofNat.{0} @Int (nat_lit 10) (@instOfNat (nat_lit 10)))] @Bool.false 0 @Bool.true [] [] 0 @Bool.false) (@Array.mk.{0} @PySem.GenState []) (@PySem.Drawn.mk 0 0 0 0) (nat_lit 196) x3)) (@PySem.W.piecesOf @left_sts_20 @left_env_1 (@PySem.Code.body (@PySem.W.behindTheImports @PySem.Challenge.pw_tr0009_01) @left_env_1) (@PySem.Pos.mk 4 0 4 8) [(@PySem.W.topFrame (@PySem.Pos.mk 0 0 0 0))]))) (fun (x3 : @PySem.OsState) => (@Option.some.{0} (@Prod.{0, 0} @PySem.Flow (@Prod.{0, 0} @PySem.Shared (@Prod.{0, 0} @PySem.Code @PySem.Pos))) (@Prod.mk.{0, 0} @PySem.Flow (@Prod.{0, 0} @PySem.Shared (@Prod.{0, 0} @PySem.Code @PySem.Pos)) @PySem.Flow.next (@Prod.mk.{0, 0} @PySem.Shared (@Prod.{0, 0} @PySem.Code @PySem.Pos) (@PySem.W.SharedT.abs (@PySem.W.SharedT.mk (@left_tree_31 (@PySem.World.params x2)) (nat_lit 33) (@PySem.Life.mk [] [] [] 0 [] [] @Bool.false #[] [] 0 @Bool.false @Bool.false @Bool.false (@OfNat.ofNat.{0} @Int (nat_lit 0) (@instOfNat (nat_lit 0))) [(@OfNat.ofNat.{0} @Int (nat_lit 2000) (@instOfNat (nat_lit 2000))), (@OfNat.ofNat.{0} @Int (nat_lit 10) (@instOfNat (nat_lit 10))), (@OfNat.ofNat.{0} @Int (nat_lit 10) (@instOfNat (nat_lit 10)))] @Bool.false 0 @Bool.true [] [] 0 @Bool.false) (@Array.mk.{0} @PySem.GenState []) (@PySem.Drawn.mk 0 0 0 0) (nat_lit 256) x3)) (@Prod.mk.{0, 0} @PySem.Code @PySem.Pos (@PySem.Code.body (@PySem.W.behindTheImports @PySem.Challenge.pw_tr0009_01) @left_env_1) (@PySem.Pos.mk 5 0 5 6)))))) (fun (x3 : @PySem.OsState) => (@PySem.W.segRun_of @PySem.treeTable @PySem.Challenge.pw_tr0009_01 x2 (nat_lit 11) (@Option.some.{0} @PySem.Value (@PySem.Value.ref 6)) (nat_lit 1) (nat_lit 999) (@PySem.W.SharedT.mk (@left_tree_18 (@PySem.World.params x2)) (nat_lit 22) (@PySem.Life.mk [] [] [] 0 [] [] @Bool.false #[] [] 0 @Bool.false @Bool.false @Bool.false (@OfNat.ofNat.{0} @Int (nat_lit 0) (@instOfNat (nat_lit 0))) [(@OfNat.ofNat.{0} @Int (nat_lit 2000) (@instOfNat (nat_lit 2000))), (@OfNat.ofNat.{0} @Int (nat_lit 10) (@instOfNat (nat_lit 10))), (@OfNat.ofNat.{0} @Int (nat_lit 10) (@instOfNat (nat_lit 10)))] @Bool.false 0 @Bool.true [] [] 0 @Bool.false) (@Array.mk.{0} @PySem.GenState []) (@PySem.Drawn.mk 0 0 0 0) (nat_lit 196) x3) (@PySem.W.SharedT.mk (@left_tree_31 (@PySem.World.params x2)) (nat_lit 33) (@PySem.Life.mk [] [] [] 0 [] [] @Bool.false #[] [] 0 @Bool.false @Bool.false @Bool.false (@OfNat.ofNat.{0} @Int (nat_lit 0) (@instOfNat (nat_lit 0))) [(@OfNat.ofNat.{0} @Int (nat_lit 2000) (@instOfNat (nat_lit 2000))), (@OfNat.ofNat.{0} @Int (nat_lit 10) (@instOfNat (nat_lit 10))), (@OfNat.ofNat.{0} @Int (nat_lit 10) (@instOfNat (nat_lit 10)))] @Bool.false 0 @Bool.true [] [] 0 @Bool.false) (@Array.mk.{0} @PySem.GenState []) (@PySem.Drawn.mk 0 0 0 0) (nat_lit 256) x3) (@PySem.W.piecesOf @left_sts_20 @left_env_1 (@PySem.Code.body (@PySem.W.behindTheImports @PySem.Challenge.pw_tr0009_01) @left_env_1) (@PySem.Pos.mk 4 0 4 8) [(@PySem.W.topFrame (@PySem.Pos.mk 0 0 0 0))]) @PySem.Flow.next (@PySem.Code.body (@PySem.W.behindTheImports @PySem.Challenge.pw_tr0009_01) @left_env_1) (@PySem.Pos.mk 5 0 5 6) (@congrFun.{0+1, 0+1} @PySem.OsState (fun (x4 : @PySem.OsState) => (@Option.{0} (@Prod.{0, 0} @PySem.Flow (@Prod.{0, 0} @PySem.W.SharedT (@Prod.{0, 0} @PySem.Code @PySem.Pos))))) (fun (x4 : @PySem.OsState) => (@PySem.W.segRunT @PySem.treeTable @PySem.Challenge.pw_tr0009_01 x2 (nat_lit 11) (@Option.some.{0} @PySem.Value (@PySem.Value.ref 6)) (nat_lit 1) (nat_lit 999) (@PySem.W.SharedT.mk (@left_tree_18 (@PySem.World.params x2)) (nat_lit 22) (@PySem.Life.mk [] [] [] 0 [] [] @Bool.false #[] [] 0 @Bool.false @Bool.false @Bool.false (@OfNat.ofNat.{0} @Int (nat_lit 0) (@instOfNat (nat_lit 0))) [(@OfNat.ofNat.{0} @Int (nat_lit 2000) (@instOfNat (nat_lit 2000))), (@OfNat.ofNat.{0} @Int (nat_lit 10) (@instOfNat (nat_lit 10))), (@OfNat.ofNat.{0} @Int (nat_lit 10) (@instOfNat (nat_lit 10)))] @Bool.false 0 @Bool.true [] [] 0 @Bool.false) (@Array.mk.{0} @PySem.GenState []) (@PySem.Drawn.mk 0 0 0 0) (nat_lit 196) x4) (@PySem.W.piecesOf @left_sts_20 @left_env_1 (@PySem.Code.body (@PySem.W.behindTheImports @PySem.Challenge.pw_tr0009_01) @left_env_1) (@PySem.Pos.mk 4 0 4 8) [(@PySem.W.topFrame (@PySem.Pos.mk 0 0 0 0))]))) (fun (x4 : @PySem.OsState) => (@Option.some.{0} (@Prod.{0, 0} @PySem.Flow (@Prod.{0, 0} @PySem.W.SharedT (@Prod.{0, 0} @PySem.Code @PySem.Pos))) (@Prod.mk.{0, 0} @PySem.Flow (@Prod.{0, 0} @PySem.W.SharedT (@Prod.{0, 0} @PySem.Code @PySem.Pos)) @PySem.Flow.next (@Prod.mk.{0, 0} @PySem.W.SharedT (@Prod.{0, 0} @PySem.Code @PySem.Pos) (@PySem.W.SharedT.mk (@left_tree_31 (@PySem.World.params x2)) (nat_lit 33) (@PySem.Life.mk [] [] [] 0 [] [] @Bool.false #[] [] 0 @Bool.false @Bool.false @Bool.false (@OfNat.ofNat.{0} @Int (nat_lit 0) (@instOfNat (nat_lit 0))) [(@OfNat.ofNat.{0} @Int (nat_lit 2000) (@instOfNat (nat_lit 2000))), (@OfNat.ofNat.{0} @Int (nat_lit 10) (@instOfNat (nat_lit 10))), (@OfNat.ofNat.{0} @Int (nat_lit 10) (@instOfNat (nat_lit 10)))] @Bool.false 0 @Bool.true [] [] 0 @Bool.false) (@Array.mk.{0} @PySem.GenState []) (@PySem.Drawn.mk 0 0 0 0) (nat_lit 256) x4) (@Prod.mk.{0, 0} @PySem.Code @PySem.Pos (@PySem.Code.body (@PySem.W.behindTheImports @PySem.Challenge.pw_tr0009_01) @left_env_1) (@PySem.Pos.mk 5 0 5 6)))))) (@left__proof_39 x2) x3))))) x0) x1) (@PySem.W.piece_app @PySem.treeTable @PySem.Challenge.pw_tr0009_01 x0 (nat_lit 11) (@Option.some.{0} @PySem.Value (@PySem.Value.ref 6)) @left_env_1 (@PySem.Pos.mk 0 0 0 0) (nat_lit 235) (@Nat.add (nat_lit 256) (@Nat.add (nat_lit 390) (@Nat.add (nat_lit 143) (nat_lit 2)))) (@PySem.W.SharedT.abs (@PySem.W.SharedT.mk (@left_tree_31 (@PySem.World.params x0)) (nat_lit 33) (@PySem.Life.mk [] [] [] 0 [] [] @Bool.false #[] [] 0 @Bool.false @Bool.false @Bool.false (@OfNat.ofNat.{0} @Int (nat_lit 0) (@instOfNat (nat_lit 0))) [(@OfNat.ofNat.{0} @Int (nat_lit 2000) (@instOfNat (nat_lit 2000))), (@OfNat.ofNat.{0} @Int (nat_lit 10) (@instOfNat (nat_lit 10))), (@OfNat.ofNat.{0} @Int (nat_lit 10) (@instOfNat (nat_lit 10)))] @Bool.false 0 @Bool.true [] [] 0 @Bool.false) (@Array.mk.{0} @PySem.GenState []) (@PySem.Drawn.mk 0 0 0 0) (nat_lit 256) x1)) (@PySem.W.SharedT.abs (@PySem.W.SharedT.mk (@left_tree_61 (@PySem.World.params x0)) (nat_lit 53) (@PySem.Life.mk [] [] [] 0 [] [] @Bool.false #[] [] 0 @Bool.false @Bool.false @Bool.false (@OfNat.ofNat.{0} @Int (nat_lit 0) (@instOfNat (nat_lit 0))) [(@OfNat.ofNat.{0} @Int (nat_lit 2000) (@instOfNat (nat_lit 2000))), (@OfNat.ofNat.{0} @Int (nat_lit 10) (@instOfNat (nat_lit 10))), (@OfNat.ofNat.{0} @Int (nat_lit 10) (@instOfNat (nat_lit 10)))] @Bool.false 0 @Bool.true [] [] 0 @Bool.false) (@Array.mk.{0} @PySem.GenState []) (@PySem.Drawn.mk 0 0 0 0) (nat_lit 285) x1)) (@PySem.Shared.mk (@left_heap_177 (@PySem.World.params x0)) (@Array.mk.{0} @PySem.GenState []) (@PySem.Drawn.mk 0 0 0 0) (nat_lit 425) x1) @left_sts_39 (@HAppend.hAppend.{0, 0, 0} (@List.{0} @PySem.Stmt) (@List.{0} @PySem.Stmt) (@List.{0} @PySem.Stmt) (@instHAppendOfAppend.{0} (@List.{0} @PySem.Stmt) (@List.instAppend.{0} @PySem.Stmt)) @left_sts_63 (@HAppend.hAppend.{0, 0, 0} (@List.{0} @PySem.Stmt) (@List.{0} @PySem.Stmt) (@List.{0} @PySem.Stmt) (@instHAppendOfAppend.{0} (@List.{0} @PySem.Stmt) (@List.instAppend.{0} @PySem.Stmt)) @left_sts_86 (@HAppend.hAppend.{0, 0, 0} (@List.{0} @PySem.Stmt) (@List.{0} @PySem.Stmt) (@List.{0} @PySem.Stmt) (@instHAppendOfAppend.{0} (@List.{0} @PySem.Stmt) (@List.instAppend.{0} @PySem.Stmt)) @left_sts_143 []))) (@PySem.Code.body (@PySem.W.behindTheImports @PySem.Challenge.pw_tr0009_01) @left_env_1) (@PySem.Pos.mk 5 0 5 6) (@PySem.Pos.mk 9 0 10 8) (@congrFun.{0+1, 0+1} @PySem.OsState (fun (x2 : @PySem.OsState) => (@Option.{0} (@Prod.{0, 0} @PySem.Flow (@Prod.{0, 0} @PySem.Shared (@Prod.{0, 0} @PySem.Code @PySem.Pos))))) (fun (x2 : @PySem.OsState) => (@PySem.W.segRun @PySem.treeTable @PySem.Challenge.pw_tr0009_01 x0 (nat_lit 11) (@Option.some.{0} @PySem.Value (@PySem.Value.ref 6)) (nat_lit 1) (nat_lit 235) (@PySem.W.SharedT.abs (@PySem.W.SharedT.mk (@left_tree_31 (@PySem.World.params x0)) (nat_lit 33) (@PySem.Life.mk [] [] [] 0 [] [] @Bool.false #[] [] 0 @Bool.false @Bool.false @Bool.false (@OfNat.ofNat.{0} @Int (nat_lit 0) (@instOfNat (nat_lit 0))) [(@OfNat.ofNat.{0} @Int (nat_lit 2000) (@instOfNat (nat_lit 2000))), (@OfNat.ofNat.{0} @Int (nat_lit 10) (@instOfNat (nat_lit 10))), (@OfNat.ofNat.{0} @Int (nat_lit 10) (@instOfNat (nat_lit 10)))] @Bool.false 0 @Bool.true [] [] 0 @Bool.false) (@Array.mk.{0} @PySem.GenState []) (@PySem.Drawn.mk 0 0 0 0) (nat_lit 256) x2)) (@PySem.W.piecesOf @left_sts_39 @left_env_1 (@PySem.Code.body (@PySem.W.behindTheImports @PySem.Challenge.pw_tr0009_01) @left_env_1) (@PySem.Pos.mk 5 0 5 6) [(@PySem.W.topFrame (@PySem.Pos.mk 0 0 0 0))]))) (fun (x2 : @PySem.OsState) => (@Option.some.{0} (@Prod.{0, 0} @PySem.Flow (@Prod.{0, 0} @PySem.Shared (@Prod.{0, 0} @PySem.Code @PySem.Pos))) (@Prod.mk.{0, 0} @PySem.Flow (@Prod.{0, 0} @PySem.Shared (@Prod.{0, 0} @PySem.Code @PySem.Pos)) @PySem.Flow.next (@Prod.mk.{0, 0} @PySem.Shared (@Prod.{0, 0} @PySem.Code @PySem.Pos) (@PySem.W.SharedT.abs (@PySem.W.SharedT.mk (@left_tree_61 (@PySem.World.params x0)) (nat_lit 53) (@PySem.Life.mk [] [] [] 0 [] [] @Bool.false #[] [] 0 @Bool.false @Bool.false @Bool.false (@OfNat.ofNat.{0} @Int (nat_lit 0) (@instOfNat (nat_lit 0))) [(@OfNat.ofNat.{0} @Int (nat_lit 2000) (@instOfNat (nat_lit 2000))), (@OfNat.ofNat.{0} @Int (nat_lit 10) (@instOfNat (nat_lit 10))), (@OfNat.ofNat.{0} @Int (nat_lit 10) (@instOfNat (nat_lit 10)))] @Bool.false 0 @Bool.true [] [] 0 @Bool.false) (@Array.mk.{0} @PySem.GenState []) (@PySem.Drawn.mk 0 0 0 0) (nat_lit 285) x2)) (@Prod.mk.{0, 0} @PySem.Code @PySem.Pos (@PySem.Code.body (@PySem.W.behindTheImports @PySem.Challenge.pw_tr0009_01) @left_env_1) (@PySem.Pos.mk 9 0 10 8)))))) ((fun (x2 : @PySem.World) => (@funext.{0+1, 0+1} @PySem.OsState (fun (x3 : @PySem.OsState) => (@Option.{0} (@Prod.{0, 0} @PySem.Flow (@Prod.{0, 0} @PySem.Shared (@Prod.{0, 0} @PySem.Code @PySem.Pos))))) (fun (x3 : @PySem.OsState) => (@PySem.W.segRun @PySem.treeTable @PySem.Challenge.pw_tr0009_01 x2 (nat_lit 11) (@Option.some.{0} @PySem.Value (@PySem.Value.ref 6)) (nat_lit 1) (nat_lit 235) (@PySem.W.SharedT.abs (@PySem.W.SharedT.mk (@left_tree_31 (@PySem.World.params x2)) (nat_lit 33) (@PySem.Life.mk [] [] [] 0 [] [] @Bool.false #[] [] 0 @Bool.false @Bool.false @Bool.false (@OfNat.ofNat.{0} @Int (nat_lit 0) (@instOfNat (nat_lit 0))) [(@OfNat.ofNat.{0} @Int (nat_lit 2000) (@instOfNat (nat_lit 2000))), (@OfNat.ofNat.{0} @Int (nat_lit 10) (@instOfNat (nat_lit 10))), (@OfNat.ofNat.{0} @Int (nat_lit 10) (@instOfNat (nat_lit 10)))] @Bool.false 0 @Bool.true [] [] 0 @Bool.false) (@Array.mk.{0} @PySem.GenState []) (@PySem.Drawn.mk 0 0 0 0) (nat_lit 256) x3)) (@PySem.W.piecesOf @left_sts_39 @left_env_1 (@PySem.Code.body (@PySem.W.behindTheImports @PySem.Challenge.pw_tr0009_01) @left_env_1) (@PySem.Pos.mk 5 0 5 6) [(@PySem.W.topFrame (@PySem.Pos.mk 0 0 0 0))]))) (fun (x3 : @PySem.OsState) => (@Option.some.{0} (@Prod.{0, 0} @PySem.Flow (@Prod.{0, 0} @PySem.Shared (@Prod.{0, 0} @PySem.Code @PySem.Pos))) (@Prod.mk.{0, 0} @PySem.Flow (@Prod.{0, 0} @PySem.Shared (@Prod.{0, 0} @PySem.Code @PySem.Pos)) @PySem.Flow.next (@Prod.mk.{0, 0} @PySem.Shared (@Prod.{0, 0} @PySem.Code @PySem.Pos) (@PySem.W.SharedT.abs (@PySem.W.SharedT.mk (@left_tree_61 (@PySem.World.params x2)) (nat_lit 53) (@PySem.Life.mk [] [] [] 0 [] [] @Bool.false #[] [] 0 @Bool.false @Bool.false @Bool.false (@OfNat.ofNat.{0} @Int (nat_lit 0) (@instOfNat (nat_lit 0))) [(@OfNat.ofNat.{0} @Int (nat_lit 2000) (@instOfNat (nat_lit 2000))), (@OfNat.ofNat.{0} @Int (nat_lit 10) (@instOfNat (nat_lit 10))), (@OfNat.ofNat.{0} @Int (nat_lit 10) (@instOfNat (nat_lit 10)))] @Bool.false 0 @Bool.true [] [] 0 @Bool.false) (@Array.mk.{0} @PySem.GenState []) (@PySem.Drawn.mk 0 0 0 0) (nat_lit 285) x3)) (@Prod.mk.{0, 0} @PySem.Code @PySem.Pos (@PySem.Code.body (@PySem.W.behindTheImports @PySem.Challenge.pw_tr0009_01) @left_env_1) (@PySem.Pos.mk 9 0 10 8)))))) (fun (x3 : @PySem.OsState) => (@PySem.W.segRun_of @PySem.treeTable @PySem.Challenge.pw_tr0009_01 x2 (nat_lit 11) (@Option.some.{0} @PySem.Value (@PySem.Value.ref 6)) (nat_lit 1) (nat_lit 235) (@PySem.W.SharedT.mk (@left_tree_31 (@PySem.World.params x2)) (nat_lit 33) (@PySem.Life.mk [] [] [] 0 [] [] @Bool.false #[] [] 0 @Bool.false @Bool.false @Bool.false (@OfNat.ofNat.{0} @Int (nat_lit 0) (@instOfNat (nat_lit 0))) [(@OfNat.ofNat.{0} @Int (nat_lit 2000) (@instOfNat (nat_lit 2000))), (@OfNat.ofNat.{0} @Int (nat_lit 10) (@instOfNat (nat_lit 10))), (@OfNat.ofNat.{0} @Int (nat_lit 10) (@instOfNat (nat_lit 10)))] @Bool.false 0 @Bool.true [] [] 0 @Bool.false) (@Array.mk.{0} @PySem.GenState []) (@PySem.Drawn.mk 0 0 0 0) (nat_lit 256) x3) (@PySem.W.SharedT.mk (@left_tree_61 (@PySem.World.params x2)) (nat_lit 53) (@PySem.Life.mk [] [] [] 0 [] [] @Bool.false #[] [] 0 @Bool.false @Bool.false @Bool.false (@OfNat.ofNat.{0} @Int (nat_lit 0) (@instOfNat (nat_lit 0))) [(@OfNat.ofNat.{0} @Int (nat_lit 2000) (@instOfNat (nat_lit 2000))), (@OfNat.ofNat.{0} @Int (nat_lit 10) (@instOfNat (nat_lit 10))), (@OfNat.ofNat.{0} @Int (nat_lit 10) (@instOfNat (nat_lit 10)))] @Bool.false 0 @Bool.true [] [] 0 @Bool.false) (@Array.mk.{0} @PySem.GenState []) (@PySem.Drawn.mk 0 0 0 0) (nat_lit 285) x3) (@PySem.W.piecesOf @left_sts_39 @left_env_1 (@PySem.Code.body (@PySem.W.behindTheImports @PySem.Challenge.pw_tr0009_01) @left_env_1) (@PySem.Pos.mk 5 0 5 6) [(@PySem.W.topFrame (@PySem.Pos.mk 0 0 0 0))]) @PySem.Flow.next (@PySem.Code.body (@PySem.W.behindTheImports @PySem.Challenge.pw_tr0009_01) @left_env_1) (@PySem.Pos.mk 9 0 10 8) (@congrFun.{0+1, 0+1} @PySem.OsState (fun (x4 : @PySem.OsState) => (@Option.{0} (@Prod.{0, 0} @PySem.Flow (@Prod.{0, 0} @PySem.W.SharedT (@Prod.{0, 0} @PySem.Code @PySem.Pos))))) (fun (x4 : @PySem.OsState) => (@PySem.W.segRunT @PySem.treeTable @PySem.Challenge.pw_tr0009_01 x2 (nat_lit 11) (@Option.some.{0} @PySem.Value (@PySem.Value.ref 6)) (nat_lit 1) (nat_lit 235) (@PySem.W.SharedT.mk (@left_tree_31 (@PySem.World.params x2)) (nat_lit 33) (@PySem.Life.mk [] [] [] 0 [] [] @Bool.false #[] [] 0 @Bool.false @Bool.false @Bool.false (@OfNat.ofNat.{0} @Int (nat_lit 0) (@instOfNat (nat_lit 0))) [(@OfNat.ofNat.{0} @Int (nat_lit 2000) (@instOfNat (nat_lit 2000))), (@OfNat.ofNat.{0} @Int (nat_lit 10) (@instOfNat (nat_lit 10))), (@OfNat.ofNat.{0} @Int (nat_lit 10) (@instOfNat (nat_lit 10)))] @Bool.false 0 @Bool.true [] [] 0 @Bool.false) (@Array.mk.{0} @PySem.GenState []) (@PySem.Drawn.mk 0 0 0 0) (nat_lit 256) x4) (@PySem.W.piecesOf @left_sts_39 @left_env_1 (@PySem.Code.body (@PySem.W.behindTheImports @PySem.Challenge.pw_tr0009_01) @left_env_1) (@PySem.Pos.mk 5 0 5 6) [(@PySem.W.topFrame (@PySem.Pos.mk 0 0 0 0))]))) (fun (x4 : @PySem.OsState) => (@Option.some.{0} (@Prod.{0, 0} @PySem.Flow (@Prod.{0, 0} @PySem.W.SharedT (@Prod.{0, 0} @PySem.Code @PySem.Pos))) (@Prod.mk.{0, 0} @PySem.Flow (@Prod.{0, 0} @PySem.W.SharedT (@Prod.{0, 0} @PySem.Code @PySem.Pos)) @PySem.Flow.next (@Prod.mk.{0, 0} @PySem.W.SharedT (@Prod.{0, 0} @PySem.Code @PySem.Pos) (@PySem.W.SharedT.mk (@left_tree_61 (@PySem.World.params x2)) (nat_lit 53) (@PySem.Life.mk [] [] [] 0 [] [] @Bool.false #[] [] 0 @Bool.false @Bool.false @Bool.false (@OfNat.ofNat.{0} @Int (nat_lit 0) (@instOfNat (nat_lit 0))) [(@OfNat.ofNat.{0} @Int (nat_lit 2000) (@instOfNat (nat_lit 2000))), (@OfNat.ofNat.{0} @Int (nat_lit 10) (@instOfNat (nat_lit 10))), (@OfNat.ofNat.{0} @Int (nat_lit 10) (@instOfNat (nat_lit 10)))] @Bool.false 0 @Bool.true [] [] 0 @Bool.false) (@Array.mk.{0} @PySem.GenState []) (@PySem.Drawn.mk 0 0 0 0) (nat_lit 285) x4) (@Prod.mk.{0, 0} @PySem.Code @PySem.Pos (@PySem.Code.body (@PySem.W.behindTheImports @PySem.Challenge.pw_tr0009_01) @left_env_1) (@PySem.Pos.mk 9 0 10 8)))))) (@left__proof_63 x2) x3))))) x0) x1) (@PySem.W.piece_app @PySem.treeTable @PySem.Challenge.pw_tr0009_01 x0 (nat_lit 11) (@Option.some.{0} @PySem.Value (@PySem.Value.ref 6)) @left_env_1 (@PySem.Pos.mk 0 0 0 0) (nat_lit 256) (@Nat.add (nat_lit 390) (@Nat.add (nat_lit 143) (nat_lit 2))) (@PySem.W.SharedT.abs (@PySem.W.SharedT.mk (@left_tree_61 (@PySem.World.params x0)) (nat_lit 53) (@PySem.Life.mk [] [] [] 0 [] [] @Bool.false #[] [] 0 @Bool.false @Bool.false @Bool.false (@OfNat.ofNat.{0} @Int (nat_lit 0) (@instOfNat (nat_lit 0))) [(@OfNat.ofNat.{0} @Int (nat_lit 2000) (@instOfNat (nat_lit 2000))), (@OfNat.ofNat.{0} @Int (nat_lit 10) (@instOfNat (nat_lit 10))), (@OfNat.ofNat.{0} @Int (nat_lit 10) (@instOfNat (nat_lit 10)))] @Bool.false 0 @Bool.true [] [] 0 @Bool.false) (@Array.mk.{0} @PySem.GenState []) (@PySem.Drawn.mk 0 0 0 0) (nat_lit 285) x1)) (@PySem.W.SharedT.abs (@PySem.W.SharedT.mk (@left_tree_84 (@PySem.World.params x0)) (nat_lit 72) (@PySem.Life.mk [] [] [] 0 [] [] @Bool.false #[] [] 0 @Bool.false @Bool.false @Bool.false (@OfNat.ofNat.{0} @Int (nat_lit 0) (@instOfNat (nat_lit 0))) [(@OfNat.ofNat.{0} @Int (nat_lit 2000) (@instOfNat (nat_lit 2000))), (@OfNat.ofNat.{0} @Int (nat_lit 10) (@instOfNat (nat_lit 10))), (@OfNat.ofNat.{0} @Int (nat_lit 10) (@instOfNat (nat_lit 10)))] @Bool.false 0 @Bool.true [] [] 0 @Bool.false) (@Array.mk.{0} @PySem.GenState []) (@PySem.Drawn.mk 0 0 0 0) (nat_lit 314) x1)) (@PySem.Shared.mk (@left_heap_177 (@PySem.World.params x0)) (@Array.mk.{0} @PySem.GenState []) (@PySem.Drawn.mk 0 0 0 0) (nat_lit 425) x1) @left_sts_63 (@HAppend.hAppend.{0, 0, 0} (@List.{0} @PySem.Stmt) (@List.{0} @PySem.Stmt) (@List.{0} @PySem.Stmt) (@instHAppendOfAppend.{0} (@List.{0} @PySem.Stmt) (@List.instAppend.{0} @PySem.Stmt)) @left_sts_86 (@HAppend.hAppend.{0, 0, 0} (@List.{0} @PySem.Stmt) (@List.{0} @PySem.Stmt) (@List.{0} @PySem.Stmt) (@instHAppendOfAppend.{0} (@List.{0} @PySem.Stmt) (@List.instAppend.{0} @PySem.Stmt)) @left_sts_143 [])) (@PySem.Code.body (@PySem.W.behindTheImports @PySem.Challenge.pw_tr0009_01) @left_env_1) (@PySem.Pos.mk 9 0 10 8) (@PySem.Pos.mk 30 0 30 8) (@congrFun.{0+1, 0+1} @PySem.OsState (fun (x2 : @PySem.OsState) => (@Option.{0} (@Prod.{0, 0} @PySem.Flow (@Prod.{0, 0} @PySem.Shared (@Prod.{0, 0} @PySem.Code @PySem.Pos))))) (fun (x2 : @PySem.OsState) => (@PySem.W.segRun @PySem.treeTable @PySem.Challenge.pw_tr0009_01 x0 (nat_lit 11) (@Option.some.{0} @PySem.Value (@PySem.Value.ref 6)) (nat_lit 1) (nat_lit 256) (@PySem.W.SharedT.abs (@PySem.W.SharedT.mk (@left_tree_61 (@PySem.World.params x0)) (nat_lit 53) (@PySem.Life.mk [] [] [] 0 [] [] @Bool.false #[] [] 0 @Bool.false @Bool.false @Bool.false (@OfNat.ofNat.{0} @Int (nat_lit 0) (@instOfNat (nat_lit 0))) [(@OfNat.ofNat.{0} @Int (nat_lit 2000) (@instOfNat (nat_lit 2000))), (@OfNat.ofNat.{0} @Int (nat_lit 10) (@instOfNat (nat_lit 10))), (@OfNat.ofNat.{0} @Int (nat_lit 10) (@instOfNat (nat_lit 10)))] @Bool.false 0 @Bool.true [] [] 0 @Bool.false) (@Array.mk.{0} @PySem.GenState []) (@PySem.Drawn.mk 0 0 0 0) (nat_lit 285) x2)) (@PySem.W.piecesOf @left_sts_63 @left_env_1 (@PySem.Code.body (@PySem.W.behindTheImports @PySem.Challenge.pw_tr0009_01) @left_env_1) (@PySem.Pos.mk 9 0 10 8) [(@PySem.W.topFrame (@PySem.Pos.mk 0 0 0 0))]))) (fun (x2 : @PySem.OsState) => (@Option.some.{0} (@Prod.{0, 0} @PySem.Flow (@Prod.{0, 0} @PySem.Shared (@Prod.{0, 0} @PySem.Code @PySem.Pos))) (@Prod.mk.{0, 0} @PySem.Flow (@Prod.{0, 0} @PySem.Shared (@Prod.{0, 0} @PySem.Code @PySem.Pos)) @PySem.Flow.next (@Prod.mk.{0, 0} @PySem.Shared (@Prod.{0, 0} @PySem.Code @PySem.Pos) (@PySem.W.SharedT.abs (@PySem.W.SharedT.mk (@left_tree_84 (@PySem.World.params x0)) (nat_lit 72) (@PySem.Life.mk [] [] [] 0 [] [] @Bool.false #[] [] 0 @Bool.false @Bool.false @Bool.false (@OfNat.ofNat.{0} @Int (nat_lit 0) (@instOfNat (nat_lit 0))) [(@OfNat.ofNat.{0} @Int (nat_lit 2000) (@instOfNat (nat_lit 2000))), (@OfNat.ofNat.{0} @Int (nat_lit 10) (@instOfNat (nat_lit 10))), (@OfNat.ofNat.{0} @Int (nat_lit 10) (@instOfNat (nat_lit 10)))] @Bool.false 0 @Bool.true [] [] 0 @Bool.false) (@Array.mk.{0} @PySem.GenState []) (@PySem.Drawn.mk 0 0 0 0) (nat_lit 314) x2)) (@Prod.mk.{0, 0} @PySem.Code @PySem.Pos (@PySem.Code.body (@PySem.W.behindTheImports @PySem.Challenge.pw_tr0009_01) @left_env_1) (@PySem.Pos.mk 30 0 30 8)))))) ((fun (x2 : @PySem.World) => (@funext.{0+1, 0+1} @PySem.OsState (fun (x3 : @PySem.OsState) => (@Option.{0} (@Prod.{0, 0} @PySem.Flow (@Prod.{0, 0} @PySem.Shared (@Prod.{0, 0} @PySem.Code @PySem.Pos))))) (fun (x3 : @PySem.OsState) => (@PySem.W.segRun @PySem.treeTable @PySem.Challenge.pw_tr0009_01 x2 (nat_lit 11) (@Option.some.{0} @PySem.Value (@PySem.Value.ref 6)) (nat_lit 1) (nat_lit 256) (@PySem.W.SharedT.abs (@PySem.W.SharedT.mk (@left_tree_61 (@PySem.World.params x2)) (nat_lit 53) (@PySem.Life.mk [] [] [] 0 [] [] @Bool.false #[] [] 0 @Bool.false @Bool.false @Bool.false (@OfNat.ofNat.{0} @Int (nat_lit 0) (@instOfNat (nat_lit 0))) [(@OfNat.ofNat.{0} @Int (nat_lit 2000) (@instOfNat (nat_lit 2000))), (@OfNat.ofNat.{0} @Int (nat_lit 10) (@instOfNat (nat_lit 10))), (@OfNat.ofNat.{0} @Int (nat_lit 10) (@instOfNat (nat_lit 10)))] @Bool.false 0 @Bool.true [] [] 0 @Bool.false) (@Array.mk.{0} @PySem.GenState []) (@PySem.Drawn.mk 0 0 0 0) (nat_lit 285) x3)) (@PySem.W.piecesOf @left_sts_63 @left_env_1 (@PySem.Code.body (@PySem.W.behindTheImports @PySem.Challenge.pw_tr0009_01) @left_env_1) (@PySem.Pos.mk 9 0 10 8) [(@PySem.W.topFrame (@PySem.Pos.mk 0 0 0 0))]))) (fun (x3 : @PySem.OsState) => (@Option.some.{0} (@Prod.{0, 0} @PySem.Flow (@Prod.{0, 0} @PySem.Shared (@Prod.{0, 0} @PySem.Code @PySem.Pos))) (@Prod.mk.{0, 0} @PySem.Flow (@Prod.{0, 0} @PySem.Shared (@Prod.{0, 0} @PySem.Code @PySem.Pos)) @PySem.Flow.next (@Prod.mk.{0, 0} @PySem.Shared (@Prod.{0, 0} @PySem.Code @PySem.Pos) (@PySem.W.SharedT.abs (@PySem.W.SharedT.mk (@left_tree_84 (@PySem.World.params x2)) (nat_lit 72) (@PySem.Life.mk [] [] [] 0 [] [] @Bool.false #[] [] 0 @Bool.false @Bool.false @Bool.false (@OfNat.ofNat.{0} @Int (nat_lit 0) (@instOfNat (nat_lit 0))) [(@OfNat.ofNat.{0} @Int (nat_lit 2000) (@instOfNat (nat_lit 2000))), (@OfNat.ofNat.{0} @Int (nat_lit 10) (@instOfNat (nat_lit 10))), (@OfNat.ofNat.{0} @Int (nat_lit 10) (@instOfNat (nat_lit 10)))] @Bool.false 0 @Bool.true [] [] 0 @Bool.false) (@Array.mk.{0} @PySem.GenState []) (@PySem.Drawn.mk 0 0 0 0) (nat_lit 314) x3)) (@Prod.mk.{0, 0} @PySem.Code @PySem.Pos (@PySem.Code.body (@PySem.W.behindTheImports @PySem.Challenge.pw_tr0009_01) @left_env_1) (@PySem.Pos.mk 30 0 30 8)))))) (fun (x3 : @PySem.OsState) => (@PySem.W.segRun_of @PySem.treeTable @PySem.Challenge.pw_tr0009_01 x2 (nat_lit 11) (@Option.some.{0} @PySem.Value (@PySem.Value.ref 6)) (nat_lit 1) (nat_lit 256) (@PySem.W.SharedT.mk (@left_tree_61 (@PySem.World.params x2)) (nat_lit 53) (@PySem.Life.mk [] [] [] 0 [] [] @Bool.false #[] [] 0 @Bool.false @Bool.false @Bool.false (@OfNat.ofNat.{0} @Int (nat_lit 0) (@instOfNat (nat_lit 0))) [(@OfNat.ofNat.{0} @Int (nat_lit 2000) (@instOfNat (nat_lit 2000))), (@OfNat.ofNat.{0} @Int (nat_lit 10) (@instOfNat (nat_lit 10))), (@OfNat.ofNat.{0} @Int (nat_lit 10) (@instOfNat (nat_lit 10)))] @Bool.false 0 @Bool.true [] [] 0 @Bool.false) (@Array.mk.{0} @PySem.GenState []) (@PySem.Drawn.mk 0 0 0 0) (nat_lit 285) x3) (@PySem.W.SharedT.mk (@left_tree_84 (@PySem.World.params x2)) (nat_lit 72) (@PySem.Life.mk [] [] [] 0 [] [] @Bool.false #[] [] 0 @Bool.false @Bool.false @Bool.false (@OfNat.ofNat.{0} @Int (nat_lit 0) (@instOfNat (nat_lit 0))) [(@OfNat.ofNat.{0} @Int (nat_lit 2000) (@instOfNat (nat_lit 2000))), (@OfNat.ofNat.{0} @Int (nat_lit 10) (@instOfNat (nat_lit 10))), (@OfNat.ofNat.{0} @Int (nat_lit 10) (@instOfNat (nat_lit 10)))] @Bool.false 0 @Bool.true [] [] 0 @Bool.false) (@Array.mk.{0} @PySem.GenState []) (@PySem.Drawn.mk 0 0 0 0) (nat_lit 314) x3) (@PySem.W.piecesOf @left_sts_63 @left_env_1 (@PySem.Code.body (@PySem.W.behindTheImports @PySem.Challenge.pw_tr0009_01) @left_env_1) (@PySem.Pos.mk 9 0 10 8) [(@PySem.W.topFrame (@PySem.Pos.mk 0 0 0 0))]) @PySem.Flow.next (@PySem.Code.body (@PySem.W.behindTheImports @PySem.Challenge.pw_tr0009_01) @left_env_1) (@PySem.Pos.mk 30 0 30 8) (@congrFun.{0+1, 0+1} @PySem.OsState (fun (x4 : @PySem.OsState) => (@Option.{0} (@Prod.{0, 0} @PySem.Flow (@Prod.{0, 0} @PySem.W.SharedT (@Prod.{0, 0} @PySem.Code @PySem.Pos))))) (fun (x4 : @PySem.OsState) => (@PySem.W.segRunT @PySem.treeTable @PySem.Challenge.pw_tr0009_01 x2 (nat_lit 11) (@Option.some.{0} @PySem.Value (@PySem.Value.ref 6)) (nat_lit 1) (nat_lit 256) (@PySem.W.SharedT.mk (@left_tree_61 (@PySem.World.params x2)) (nat_lit 53) (@PySem.Life.mk [] [] [] 0 [] [] @Bool.false #[] [] 0 @Bool.false @Bool.false @Bool.false (@OfNat.ofNat.{0} @Int (nat_lit 0) (@instOfNat (nat_lit 0))) [(@OfNat.ofNat.{0} @Int (nat_lit 2000) (@instOfNat (nat_lit 2000))), (@OfNat.ofNat.{0} @Int (nat_lit 10) (@instOfNat (nat_lit 10))), (@OfNat.ofNat.{0} @Int (nat_lit 10) (@instOfNat (nat_lit 10)))] @Bool.false 0 @Bool.true [] [] 0 @Bool.false) (@Array.mk.{0} @PySem.GenState []) (@PySem.Drawn.mk 0 0 0 0) (nat_lit 285) x4) (@PySem.W.piecesOf @left_sts_63 @left_env_1 (@PySem.Code.body (@PySem.W.behindTheImports @PySem.Challenge.pw_tr0009_01) @left_env_1) (@PySem.Pos.mk 9 0 10 8) [(@PySem.W.topFrame (@PySem.Pos.mk 0 0 0 0))]))) (fun (x4 : @PySem.OsState) => (@Option.some.{0} (@Prod.{0, 0} @PySem.Flow (@Prod.{0, 0} @PySem.W.SharedT (@Prod.{0, 0} @PySem.Code @PySem.Pos))) (@Prod.mk.{0, 0} @PySem.Flow (@Prod.{0, 0} @PySem.W.SharedT (@Prod.{0, 0} @PySem.Code @PySem.Pos)) @PySem.Flow.next (@Prod.mk.{0, 0} @PySem.W.SharedT (@Prod.{0, 0} @PySem.Code @PySem.Pos) (@PySem.W.SharedT.mk (@left_tree_84 (@PySem.World.params x2)) (nat_lit 72) (@PySem.Life.mk [] [] [] 0 [] [] @Bool.false #[] [] 0 @Bool.false @Bool.false @Bool.false (@OfNat.ofNat.{0} @Int (nat_lit 0) (@instOfNat (nat_lit 0))) [(@OfNat.ofNat.{0} @Int (nat_lit 2000) (@instOfNat (nat_lit 2000))), (@OfNat.ofNat.{0} @Int (nat_lit 10) (@instOfNat (nat_lit 10))), (@OfNat.ofNat.{0} @Int (nat_lit 10) (@instOfNat (nat_lit 10)))] @Bool.false 0 @Bool.true [] [] 0 @Bool.false) (@Array.mk.{0} @PySem.GenState []) (@PySem.Drawn.mk 0 0 0 0) (nat_lit 314) x4) (@Prod.mk.{0, 0} @PySem.Code @PySem.Pos (@PySem.Code.body (@PySem.W.behindTheImports @PySem.Challenge.pw_tr0009_01) @left_env_1) (@PySem.Pos.mk 30 0 30 8)))))) (@left__proof_86 x2) x3))))) x0) x1) (@PySem.W.piece_app @PySem.treeTable @PySem.Challenge.pw_tr0009_01 x0 (nat_lit 11) (@Option.some.{0} @PySem.Value (@PySem.Value.ref 6)) @left_env_1 (@PySem.Pos.mk 0 0 0 0) (nat_lit 390) (@Nat.add (nat_lit 143) (nat_lit 2)) (@PySem.W.SharedT.abs (@PySem.W.SharedT.mk (@left_tree_84 (@PySem.World.params x0)) (nat_lit 72) (@PySem.Life.mk [] [] [] 0 [] [] @Bool.false #[] [] 0 @Bool.false @Bool.false @Bool.false (@OfNat.ofNat.{0} @Int (nat_lit 0) (@instOfNat (nat_lit 0))) [(@OfNat.ofNat.{0} @Int (nat_lit 2000) (@instOfNat (nat_lit 2000))), (@OfNat.ofNat.{0} @Int (nat_lit 10) (@instOfNat (nat_lit 10))), (@OfNat.ofNat.{0} @Int (nat_lit 10) (@instOfNat (nat_lit 10)))] @Bool.false 0 @Bool.true [] [] 0 @Bool.false) (@Array.mk.{0} @PySem.GenState []) (@PySem.Drawn.mk 0 0 0 0) (nat_lit 314) x1)) (@PySem.W.SharedT.abs (@PySem.W.SharedT.mk (@left_tree_141 (@PySem.World.params x0)) (nat_lit 126) (@PySem.Life.mk [] [] [] 0 [] [] @Bool.false #[] [] 0 @Bool.false @Bool.false @Bool.false (@OfNat.ofNat.{0} @Int (nat_lit 0) (@instOfNat (nat_lit 0))) [(@OfNat.ofNat.{0} @Int (nat_lit 2000) (@instOfNat (nat_lit 2000))), (@OfNat.ofNat.{0} @Int (nat_lit 10) (@instOfNat (nat_lit 10))), (@OfNat.ofNat.{0} @Int (nat_lit 10) (@instOfNat (nat_lit 10)))] @Bool.false 0 @Bool.true [] [] 0 @Bool.false) (@Array.mk.{0} @PySem.GenState []) (@PySem.Drawn.mk 0 0 0 0) (nat_lit 389) x1)) (@PySem.Shared.mk (@left_heap_177 (@PySem.World.params x0)) (@Array.mk.{0} @PySem.GenState []) (@PySem.Drawn.mk 0 0 0 0) (nat_lit 425) x1) @left_sts_86 (@HAppend.hAppend.{0, 0, 0} (@List.{0} @PySem.Stmt) (@List.{0} @PySem.Stmt) (@List.{0} @PySem.Stmt) (@instHAppendOfAppend.{0} (@List.{0} @PySem.Stmt) (@List.instAppend.{0} @PySem.Stmt)) @left_sts_143 []) (@PySem.Code.body (@PySem.W.behindTheImports @PySem.Challenge.pw_tr0009_01) @left_env_1) (@PySem.Pos.mk 30 0 30 8) (@PySem.Pos.mk 77 0 81 17) (@congrFun.{0+1, 0+1} @PySem.OsState (fun (x2 : @PySem.OsState) => (@Option.{0} (@Prod.{0, 0} @PySem.Flow (@Prod.{0, 0} @PySem.Shared (@Prod.{0, 0} @PySem.Code @PySem.Pos))))) (fun (x2 : @PySem.OsState) => (@PySem.W.segRun @PySem.treeTable @PySem.Challenge.pw_tr0009_01 x0 (nat_lit 11) (@Option.some.{0} @PySem.Value (@PySem.Value.ref 6)) (nat_lit 1) (nat_lit 390) (@PySem.W.SharedT.abs (@PySem.W.SharedT.mk (@left_tree_84 (@PySem.World.params x0)) (nat_lit 72) (@PySem.Life.mk [] [] [] 0 [] [] @Bool.false #[] [] 0 @Bool.false @Bool.false @Bool.false (@OfNat.ofNat.{0} @Int (nat_lit 0) (@instOfNat (nat_lit 0))) [(@OfNat.ofNat.{0} @Int (nat_lit 2000) (@instOfNat (nat_lit 2000))), (@OfNat.ofNat.{0} @Int (nat_lit 10) (@instOfNat (nat_lit 10))), (@OfNat.ofNat.{0} @Int (nat_lit 10) (@instOfNat (nat_lit 10)))] @Bool.false 0 @Bool.true [] [] 0 @Bool.false) (@Array.mk.{0} @PySem.GenState []) (@PySem.Drawn.mk 0 0 0 0) (nat_lit 314) x2)) (@PySem.W.piecesOf @left_sts_86 @left_env_1 (@PySem.Code.body (@PySem.W.behindTheImports @PySem.Challenge.pw_tr0009_01) @left_env_1) (@PySem.Pos.mk 30 0 30 8) [(@PySem.W.topFrame (@PySem.Pos.mk 0 0 0 0))]))) (fun (x2 : @PySem.OsState) => (@Option.some.{0} (@Prod.{0, 0} @PySem.Flow (@Prod.{0, 0} @PySem.Shared (@Prod.{0, 0} @PySem.Code @PySem.Pos))) (@Prod.mk.{0, 0} @PySem.Flow (@Prod.{0, 0} @PySem.Shared (@Prod.{0, 0} @PySem.Code @PySem.Pos)) @PySem.Flow.next (@Prod.mk.{0, 0} @PySem.Shared (@Prod.{0, 0} @PySem.Code @PySem.Pos) (@PySem.W.SharedT.abs (@PySem.W.SharedT.mk (@left_tree_141 (@PySem.World.params x0)) (nat_lit 126) (@PySem.Life.mk [] [] [] 0 [] [] @Bool.false #[] [] 0 @Bool.false @Bool.false @Bool.false (@OfNat.ofNat.{0} @Int (nat_lit 0) (@instOfNat (nat_lit 0))) [(@OfNat.ofNat.{0} @Int (nat_lit 2000) (@instOfNat (nat_lit 2000))), (@OfNat.ofNat.{0} @Int (nat_lit 10) (@instOfNat (nat_lit 10))), (@OfNat.ofNat.{0} @Int (nat_lit 10) (@instOfNat (nat_lit 10)))] @Bool.false 0 @Bool.true [] [] 0 @Bool.false) (@Array.mk.{0} @PySem.GenState []) (@PySem.Drawn.mk 0 0 0 0) (nat_lit 389) x2)) (@Prod.mk.{0, 0} @PySem.Code @PySem.Pos (@PySem.Code.body (@PySem.W.behindTheImports @PySem.Challenge.pw_tr0009_01) @left_env_1) (@PySem.Pos.mk 77 0 81 17)))))) ((fun (x2 : @PySem.World) => (@funext.{0+1, 0+1} @PySem.OsState (fun (x3 : @PySem.OsState) => (@Option.{0} (@Prod.{0, 0} @PySem.Flow (@Prod.{0, 0} @PySem.Shared (@Prod.{0, 0} @PySem.Code @PySem.Pos))))) (fun (x3 : @PySem.OsState) => (@PySem.W.segRun @PySem.treeTable @PySem.Challenge.pw_tr0009_01 x2 (nat_lit 11) (@Option.some.{0} @PySem.Value (@PySem.Value.ref 6)) (nat_lit 1) (nat_lit 390) (@PySem.W.SharedT.abs (@PySem.W.SharedT.mk (@left_tree_84 (@PySem.World.params x2)) (nat_lit 72) (@PySem.Life.mk [] [] [] 0 [] [] @Bool.false #[] [] 0 @Bool.false @Bool.false @Bool.false (@OfNat.ofNat.{0} @Int (nat_lit 0) (@instOfNat (nat_lit 0))) [(@OfNat.ofNat.{0} @Int (nat_lit 2000) (@instOfNat (nat_lit 2000))), (@OfNat.ofNat.{0} @Int (nat_lit 10) (@instOfNat (nat_lit 10))), (@OfNat.ofNat.{0} @Int (nat_lit 10) (@instOfNat (nat_lit 10)))] @Bool.false 0 @Bool.true [] [] 0 @Bool.false) (@Array.mk.{0} @PySem.GenState []) (@PySem.Drawn.mk 0 0 0 0) (nat_lit 314) x3)) (@PySem.W.piecesOf @left_sts_86 @left_env_1 (@PySem.Code.body (@PySem.W.behindTheImports @PySem.Challenge.pw_tr0009_01) @left_env_1) (@PySem.Pos.mk 30 0 30 8) [(@PySem.W.topFrame (@PySem.Pos.mk 0 0 0 0))]))) (fun (x3 : @PySem.OsState) => (@Option.some.{0} (@Prod.{0, 0} @PySem.Flow (@Prod.{0, 0} @PySem.Shared (@Prod.{0, 0} @PySem.Code @PySem.Pos))) (@Prod.mk.{0, 0} @PySem.Flow (@Prod.{0, 0} @PySem.Shared (@Prod.{0, 0} @PySem.Code @PySem.Pos)) @PySem.Flow.next (@Prod.mk.{0, 0} @PySem.Shared (@Prod.{0, 0} @PySem.Code @PySem.Pos) (@PySem.W.SharedT.abs (@PySem.W.SharedT.mk (@left_tree_141 (@PySem.World.params x2)) (nat_lit 126) (@PySem.Life.mk [] [] [] 0 [] [] @Bool.false #[] [] 0 @Bool.false @Bool.false @Bool.false (@OfNat.ofNat.{0} @Int (nat_lit 0) (@instOfNat (nat_lit 0))) [(@OfNat.ofNat.{0} @Int (nat_lit 2000) (@instOfNat (nat_lit 2000))), (@OfNat.ofNat.{0} @Int (nat_lit 10) (@instOfNat (nat_lit 10))), (@OfNat.ofNat.{0} @Int (nat_lit 10) (@instOfNat (nat_lit 10)))] @Bool.false 0 @Bool.true [] [] 0 @Bool.false) (@Array.mk.{0} @PySem.GenState []) (@PySem.Drawn.mk 0 0 0 0) (nat_lit 389) x3)) (@Prod.mk.{0, 0} @PySem.Code @PySem.Pos (@PySem.Code.body (@PySem.W.behindTheImports @PySem.Challenge.pw_tr0009_01) @left_env_1) (@PySem.Pos.mk 77 0 81 17)))))) (fun (x3 : @PySem.OsState) => (@PySem.W.segRun_of @PySem.treeTable @PySem.Challenge.pw_tr0009_01 x2 (nat_lit 11) (@Option.some.{0} @PySem.Value (@PySem.Value.ref 6)) (nat_lit 1) (nat_lit 390) (@PySem.W.SharedT.mk (@left_tree_84 (@PySem.World.params x2)) (nat_lit 72) (@PySem.Life.mk [] [] [] 0 [] [] @Bool.false #[] [] 0 @Bool.false @Bool.false @Bool.false (@OfNat.ofNat.{0} @Int (nat_lit 0) (@instOfNat (nat_lit 0))) [(@OfNat.ofNat.{0} @Int (nat_lit 2000) (@instOfNat (nat_lit 2000))), (@OfNat.ofNat.{0} @Int (nat_lit 10) (@instOfNat (nat_lit 10))), (@OfNat.ofNat.{0} @Int (nat_lit 10) (@instOfNat (nat_lit 10)))] @Bool.false 0 @Bool.true [] [] 0 @Bool.false) (@Array.mk.{0} @PySem.GenState []) (@PySem.Drawn.mk 0 0 0 0) (nat_lit 314) x3) (@PySem.W.SharedT.mk (@left_tree_141 (@PySem.World.params x2)) (nat_lit 126) (@PySem.Life.mk [] [] [] 0 [] [] @Bool.false #[] [] 0 @Bool.false @Bool.false @Bool.false (@OfNat.ofNat.{0} @Int (nat_lit 0) (@instOfNat (nat_lit 0))) [(@OfNat.ofNat.{0} @Int (nat_lit 2000) (@instOfNat (nat_lit 2000))), (@OfNat.ofNat.{0} @Int (nat_lit 10) (@instOfNat (nat_lit 10))), (@OfNat.ofNat.{0} @Int (nat_lit 10) (@instOfNat (nat_lit 10)))] @Bool.false 0 @Bool.true [] [] 0 @Bool.false) (@Array.mk.{0} @PySem.GenState []) (@PySem.Drawn.mk 0 0 0 0) (nat_lit 389) x3) (@PySem.W.piecesOf @left_sts_86 @left_env_1 (@PySem.Code.body (@PySem.W.behindTheImports @PySem.Challenge.pw_tr0009_01) @left_env_1) (@PySem.Pos.mk 30 0 30 8) [(@PySem.W.topFrame (@PySem.Pos.mk 0 0 0 0))]) @PySem.Flow.next (@PySem.Code.body (@PySem.W.behindTheImports @PySem.Challenge.pw_tr0009_01) @left_env_1) (@PySem.Pos.mk 77 0 81 17) (@congrFun.{0+1, 0+1} @PySem.OsState (fun (x4 : @PySem.OsState) => (@Option.{0} (@Prod.{0, 0} @PySem.Flow (@Prod.{0, 0} @PySem.W.SharedT (@Prod.{0, 0} @PySem.Code @PySem.Pos))))) (fun (x4 : @PySem.OsState) => (@PySem.W.segRunT @PySem.treeTable @PySem.Challenge.pw_tr0009_01 x2 (nat_lit 11) (@Option.some.{0} @PySem.Value (@PySem.Value.ref 6)) (nat_lit 1) (nat_lit 390) (@PySem.W.SharedT.mk (@left_tree_84 (@PySem.World.params x2)) (nat_lit 72) (@PySem.Life.mk [] [] [] 0 [] [] @Bool.false #[] [] 0 @Bool.false @Bool.false @Bool.false (@OfNat.ofNat.{0} @Int (nat_lit 0) (@instOfNat (nat_lit 0))) [(@OfNat.ofNat.{0} @Int (nat_lit 2000) (@instOfNat (nat_lit 2000))), (@OfNat.ofNat.{0} @Int (nat_lit 10) (@instOfNat (nat_lit 10))), (@OfNat.ofNat.{0} @Int (nat_lit 10) (@instOfNat (nat_lit 10)))] @Bool.false 0 @Bool.true [] [] 0 @Bool.false) (@Array.mk.{0} @PySem.GenState []) (@PySem.Drawn.mk 0 0 0 0) (nat_lit 314) x4) (@PySem.W.piecesOf @left_sts_86 @left_env_1 (@PySem.Code.body (@PySem.W.behindTheImports @PySem.Challenge.pw_tr0009_01) @left_env_1) (@PySem.Pos.mk 30 0 30 8) [(@PySem.W.topFrame (@PySem.Pos.mk 0 0 0 0))]))) (fun (x4 : @PySem.OsState) => (@Option.some.{0} (@Prod.{0, 0} @PySem.Flow (@Prod.{0, 0} @PySem.W.SharedT (@Prod.{0, 0} @PySem.Code @PySem.Pos))) (@Prod.mk.{0, 0} @PySem.Flow (@Prod.{0, 0} @PySem.W.SharedT (@Prod.{0, 0} @PySem.Code @PySem.Pos)) @PySem.Flow.next (@Prod.mk.{0, 0} @PySem.W.SharedT (@Prod.{0, 0} @PySem.Code @PySem.Pos) (@PySem.W.SharedT.mk (@left_tree_141 (@PySem.World.params x2)) (nat_lit 126) (@PySem.Life.mk [] [] [] 0 [] [] @Bool.false #[] [] 0 @Bool.false @Bool.false @Bool.false (@OfNat.ofNat.{0} @Int (nat_lit 0) (@instOfNat (nat_lit 0))) [(@OfNat.ofNat.{0} @Int (nat_lit 2000) (@instOfNat (nat_lit 2000))), (@OfNat.ofNat.{0} @Int (nat_lit 10) (@instOfNat (nat_lit 10))), (@OfNat.ofNat.{0} @Int (nat_lit 10) (@instOfNat (nat_lit 10)))] @Bool.false 0 @Bool.true [] [] 0 @Bool.false) (@Array.mk.{0} @PySem.GenState []) (@PySem.Drawn.mk 0 0 0 0) (nat_lit 389) x4) (@Prod.mk.{0, 0} @PySem.Code @PySem.Pos (@PySem.Code.body (@PySem.W.behindTheImports @PySem.Challenge.pw_tr0009_01) @left_env_1) (@PySem.Pos.mk 77 0 81 17)))))) (@left__proof_143 x2) x3))))) x0) x1) (@PySem.W.piece_app @PySem.treeTable @PySem.Challenge.pw_tr0009_01 x0 (nat_lit 11) (@Option.some.{0} @PySem.Value (@PySem.Value.ref 6)) @left_env_1 (@PySem.Pos.mk 0 0 0 0) (nat_lit 143) (nat_lit 2) (@PySem.W.SharedT.abs (@PySem.W.SharedT.mk (@left_tree_141 (@PySem.World.params x0)) (nat_lit 126) (@PySem.Life.mk [] [] [] 0 [] [] @Bool.false #[] [] 0 @Bool.false @Bool.false @Bool.false (@OfNat.ofNat.{0} @Int (nat_lit 0) (@instOfNat (nat_lit 0))) [(@OfNat.ofNat.{0} @Int (nat_lit 2000) (@instOfNat (nat_lit 2000))), (@OfNat.ofNat.{0} @Int (nat_lit 10) (@instOfNat (nat_lit 10))), (@OfNat.ofNat.{0} @Int (nat_lit 10) (@instOfNat (nat_lit 10)))] @Bool.false 0 @Bool.true [] [] 0 @Bool.false) (@Array.mk.{0} @PySem.GenState []) (@PySem.Drawn.mk 0 0 0 0) (nat_lit 389) x1)) (@PySem.W.SharedT.abs (@PySem.W.SharedT.mk (@left_tree_175 (@PySem.World.params x0)) (nat_lit 157) (@PySem.Life.mk [] [] [] 0 [] [] @Bool.false #[] [] 0 @Bool.false @Bool.false @Bool.false (@OfNat.ofNat.{0} @Int (nat_lit 0) (@instOfNat (nat_lit 0))) [(@OfNat.ofNat.{0} @Int (nat_lit 2000) (@instOfNat (nat_lit 2000))), (@OfNat.ofNat.{0} @Int (nat_lit 10) (@instOfNat (nat_lit 10))), (@OfNat.ofNat.{0} @Int (nat_lit 10) (@instOfNat (nat_lit 10)))] @Bool.false 0 @Bool.true [] [] 0 @Bool.false) (@Array.mk.{0} @PySem.GenState []) (@PySem.Drawn.mk 0 0 0 0) (nat_lit 425) x1)) (@PySem.Shared.mk (@left_heap_177 (@PySem.World.params x0)) (@Array.mk.{0} @PySem.GenState []) (@PySem.Drawn.mk 0 0 0 0) (nat_lit 425) x1) @left_sts_143 [] (@PySem.Code.body (@PySem.W.behindTheImports @PySem.Challenge.pw_tr0009_01) @left_env_1) (@PySem.Pos.mk 77 0 81 17) (@PySem.Pos.mk 94 0 125 44) (@congrFun.{0+1, 0+1} @PySem.OsState (fun (x2 : @PySem.OsState) => (@Option.{0} (@Prod.{0, 0} @PySem.Flow (@Prod.{0, 0} @PySem.Shared (@Prod.{0, 0} @PySem.Code @PySem.Pos))))) (fun (x2 : @PySem.OsState) => (@PySem.W.segRun @PySem.treeTable @PySem.Challenge.pw_tr0009_01 x0 (nat_lit 11) (@Option.some.{0} @PySem.Value (@PySem.Value.ref 6)) (nat_lit 1) (nat_lit 143) (@PySem.W.SharedT.abs (@PySem.W.SharedT.mk (@left_tree_141 (@PySem.World.params x0)) (nat_lit 126) (@PySem.Life.mk [] [] [] 0 [] [] @Bool.false #[] [] 0 @Bool.false @Bool.false @Bool.false (@OfNat.ofNat.{0} @Int (nat_lit 0) (@instOfNat (nat_lit 0))) [(@OfNat.ofNat.{0} @Int (nat_lit 2000) (@instOfNat (nat_lit 2000))), (@OfNat.ofNat.{0} @Int (nat_lit 10) (@instOfNat (nat_lit 10))), (@OfNat.ofNat.{0} @Int (nat_lit 10) (@instOfNat (nat_lit 10)))] @Bool.false 0 @Bool.true [] [] 0 @Bool.false) (@Array.mk.{0} @PySem.GenState []) (@PySem.Drawn.mk 0 0 0 0) (nat_lit 389) x2)) (@PySem.W.piecesOf @left_sts_143 @left_env_1 (@PySem.Code.body (@PySem.W.behindTheImports @PySem.Challenge.pw_tr0009_01) @left_env_1) (@PySem.Pos.mk 77 0 81 17) [(@PySem.W.topFrame (@PySem.Pos.mk 0 0 0 0))]))) (fun (x2 : @PySem.OsState) => (@Option.some.{0} (@Prod.{0, 0} @PySem.Flow (@Prod.{0, 0} @PySem.Shared (@Prod.{0, 0} @PySem.Code @PySem.Pos))) (@Prod.mk.{0, 0} @PySem.Flow (@Prod.{0, 0} @PySem.Shared (@Prod.{0, 0} @PySem.Code @PySem.Pos)) @PySem.Flow.next (@Prod.mk.{0, 0} @PySem.Shared (@Prod.{0, 0} @PySem.Code @PySem.Pos) (@PySem.W.SharedT.abs (@PySem.W.SharedT.mk (@left_tree_175 (@PySem.World.params x0)) (nat_lit 157) (@PySem.Life.mk [] [] [] 0 [] [] @Bool.false #[] [] 0 @Bool.false @Bool.false @Bool.false (@OfNat.ofNat.{0} @Int (nat_lit 0) (@instOfNat (nat_lit 0))) [(@OfNat.ofNat.{0} @Int (nat_lit 2000) (@instOfNat (nat_lit 2000))), (@OfNat.ofNat.{0} @Int (nat_lit 10) (@instOfNat (nat_lit 10))), (@OfNat.ofNat.{0} @Int (nat_lit 10) (@instOfNat (nat_lit 10)))] @Bool.false 0 @Bool.true [] [] 0 @Bool.false) (@Array.mk.{0} @PySem.GenState []) (@PySem.Drawn.mk 0 0 0 0) (nat_lit 425) x2)) (@Prod.mk.{0, 0} @PySem.Code @PySem.Pos (@PySem.Code.body (@PySem.W.behindTheImports @PySem.Challenge.pw_tr0009_01) @left_env_1) (@PySem.Pos.mk 94 0 125 44)))))) ((fun (x2 : @PySem.World) => (@funext.{0+1, 0+1} @PySem.OsState (fun (x3 : @PySem.OsState) => (@Option.{0} (@Prod.{0, 0} @PySem.Flow (@Prod.{0, 0} @PySem.Shared (@Prod.{0, 0} @PySem.Code @PySem.Pos))))) (fun (x3 : @PySem.OsState) => (@PySem.W.segRun @PySem.treeTable @PySem.Challenge.pw_tr0009_01 x2 (nat_lit 11) (@Option.some.{0} @PySem.Value (@PySem.Value.ref 6)) (nat_lit 1) (nat_lit 143) (@PySem.W.SharedT.abs (@PySem.W.SharedT.mk (@left_tree_141 (@PySem.World.params x2)) (nat_lit 126) (@PySem.Life.mk [] [] [] 0 [] [] @Bool.false #[] [] 0 @Bool.false @Bool.false @Bool.false (@OfNat.ofNat.{0} @Int (nat_lit 0) (@instOfNat (nat_lit 0))) [(@OfNat.ofNat.{0} @Int (nat_lit 2000) (@instOfNat (nat_lit 2000))), (@OfNat.ofNat.{0} @Int (nat_lit 10) (@instOfNat (nat_lit 10))), (@OfNat.ofNat.{0} @Int (nat_lit 10) (@instOfNat (nat_lit 10)))] @Bool.false 0 @Bool.true [] [] 0 @Bool.false) (@Array.mk.{0} @PySem.GenState []) (@PySem.Drawn.mk 0 0 0 0) (nat_lit 389) x3)) (@PySem.W.piecesOf @left_sts_143 @left_env_1 (@PySem.Code.body (@PySem.W.behindTheImports @PySem.Challenge.pw_tr0009_01) @left_env_1) (@PySem.Pos.mk 77 0 81 17) [(@PySem.W.topFrame (@PySem.Pos.mk 0 0 0 0))]))) (fun (x3 : @PySem.OsState) => (@Option.some.{0} (@Prod.{0, 0} @PySem.Flow (@Prod.{0, 0} @PySem.Shared (@Prod.{0, 0} @PySem.Code @PySem.Pos))) (@Prod.mk.{0, 0} @PySem.Flow (@Prod.{0, 0} @PySem.Shared (@Prod.{0, 0} @PySem.Code @PySem.Pos)) @PySem.Flow.next (@Prod.mk.{0, 0} @PySem.Shared (@Prod.{0, 0} @PySem.Code @PySem.Pos) (@PySem.W.SharedT.abs (@PySem.W.SharedT.mk (@left_tree_175 (@PySem.World.params x2)) (nat_lit 157) (@PySem.Life.mk [] [] [] 0 [] [] @Bool.false #[] [] 0 @Bool.false @Bool.false @Bool.false (@OfNat.ofNat.{0} @Int (nat_lit 0) (@instOfNat (nat_lit 0))) [(@OfNat.ofNat.{0} @Int (nat_lit 2000) (@instOfNat (nat_lit 2000))), (@OfNat.ofNat.{0} @Int (nat_lit 10) (@instOfNat (nat_lit 10))), (@OfNat.ofNat.{0} @Int (nat_lit 10) (@instOfNat (nat_lit 10)))] @Bool.false 0 @Bool.true [] [] 0 @Bool.false) (@Array.mk.{0} @PySem.GenState []) (@PySem.Drawn.mk 0 0 0 0) (nat_lit 425) x3)) (@Prod.mk.{0, 0} @PySem.Code @PySem.Pos (@PySem.Code.body (@PySem.W.behindTheImports @PySem.Challenge.pw_tr0009_01) @left_env_1) (@PySem.Pos.mk 94 0 125 44)))))) (fun (x3 : @PySem.OsState) => (@PySem.W.segRun_of @PySem.treeTable @PySem.Challenge.pw_tr0009_01 x2 (nat_lit 11) (@Option.some.{0} @PySem.Value (@PySem.Value.ref 6)) (nat_lit 1) (nat_lit 143) (@PySem.W.SharedT.mk (@left_tree_141 (@PySem.World.params x2)) (nat_lit 126) (@PySem.Life.mk [] [] [] 0 [] [] @Bool.false #[] [] 0 @Bool.false @Bool.false @Bool.false (@OfNat.ofNat.{0} @Int (nat_lit 0) (@instOfNat (nat_lit 0))) [(@OfNat.ofNat.{0} @Int (nat_lit 2000) (@instOfNat (nat_lit 2000))), (@OfNat.ofNat.{0} @Int (nat_lit 10) (@instOfNat (nat_lit 10))), (@OfNat.ofNat.{0} @Int (nat_lit 10) (@instOfNat (nat_lit 10)))] @Bool.false 0 @Bool.true [] [] 0 @Bool.false) (@Array.mk.{0} @PySem.GenState []) (@PySem.Drawn.mk 0 0 0 0) (nat_lit 389) x3) (@PySem.W.SharedT.mk (@left_tree_175 (@PySem.World.params x2)) (nat_lit 157) (@PySem.Life.mk [] [] [] 0 [] [] @Bool.false #[] [] 0 @Bool.false @Bool.false @Bool.false (@OfNat.ofNat.{0} @Int (nat_lit 0) (@instOfNat (nat_lit 0))) [(@OfNat.ofNat.{0} @Int (nat_lit 2000) (@instOfNat (nat_lit 2000))), (@OfNat.ofNat.{0} @Int (nat_lit 10) (@instOfNat (nat_lit 10))), (@OfNat.ofNat.{0} @Int (nat_lit 10) (@instOfNat (nat_lit 10)))] @Bool.false 0 @Bool.true [] [] 0 @Bool.false) (@Array.mk.{0} @PySem.GenState []) (@PySem.Drawn.mk 0 0 0 0) (nat_lit 425) x3) (@PySem.W.piecesOf @left_sts_143 @left_env_1 (@PySem.Code.body (@PySem.W.behindTheImports @PySem.Challenge.pw_tr0009_01) @left_env_1) (@PySem.Pos.mk 77 0 81 17) [(@PySem.W.topFrame (@PySem.Pos.mk 0 0 0 0))]) @PySem.Flow.next (@PySem.Code.body (@PySem.W.behindTheImports @PySem.Challenge.pw_tr0009_01) @left_env_1) (@PySem.Pos.mk 94 0 125 44) (@congrFun.{0+1, 0+1} @PySem.OsState (fun (x4 : @PySem.OsState) => (@Option.{0} (@Prod.{0, 0} @PySem.Flow (@Prod.{0, 0} @PySem.W.SharedT (@Prod.{0, 0} @PySem.Code @PySem.Pos))))) (fun (x4 : @PySem.OsState) => (@PySem.W.segRunT @PySem.treeTable @PySem.Challenge.pw_tr0009_01 x2 (nat_lit 11) (@Option.some.{0} @PySem.Value (@PySem.Value.ref 6)) (nat_lit 1) (nat_lit 143) (@PySem.W.SharedT.mk (@left_tree_141 (@PySem.World.params x2)) (nat_lit 126) (@PySem.Life.mk [] [] [] 0 [] [] @Bool.false #[] [] 0 @Bool.false @Bool.false @Bool.false (@OfNat.ofNat.{0} @Int (nat_lit 0) (@instOfNat (nat_lit 0))) [(@OfNat.ofNat.{0} @Int (nat_lit 2000) (@instOfNat (nat_lit 2000))), (@OfNat.ofNat.{0} @Int (nat_lit 10) (@instOfNat (nat_lit 10))), (@OfNat.ofNat.{0} @Int (nat_lit 10) (@instOfNat (nat_lit 10)))] @Bool.false 0 @Bool.true [] [] 0 @Bool.false) (@Array.mk.{0} @PySem.GenState []) (@PySem.Drawn.mk 0 0 0 0) (nat_lit 389) x4) (@PySem.W.piecesOf @left_sts_143 @left_env_1 (@PySem.Code.body (@PySem.W.behindTheImports @PySem.Challenge.pw_tr0009_01) @left_env_1) (@PySem.Pos.mk 77 0 81 17) [(@PySem.W.topFrame (@PySem.Pos.mk 0 0 0 0))]))) (fun (x4 : @PySem.OsState) => (@Option.some.{0} (@Prod.{0, 0} @PySem.Flow (@Prod.{0, 0} @PySem.W.SharedT (@Prod.{0, 0} @PySem.Code @PySem.Pos))) (@Prod.mk.{0, 0} @PySem.Flow (@Prod.{0, 0} @PySem.W.SharedT (@Prod.{0, 0} @PySem.Code @PySem.Pos)) @PySem.Flow.next (@Prod.mk.{0, 0} @PySem.W.SharedT (@Prod.{0, 0} @PySem.Code @PySem.Pos) (@PySem.W.SharedT.mk (@left_tree_175 (@PySem.World.params x2)) (nat_lit 157) (@PySem.Life.mk [] [] [] 0 [] [] @Bool.false #[] [] 0 @Bool.false @Bool.false @Bool.false (@OfNat.ofNat.{0} @Int (nat_lit 0) (@instOfNat (nat_lit 0))) [(@OfNat.ofNat.{0} @Int (nat_lit 2000) (@instOfNat (nat_lit 2000))), (@OfNat.ofNat.{0} @Int (nat_lit 10) (@instOfNat (nat_lit 10))), (@OfNat.ofNat.{0} @Int (nat_lit 10) (@instOfNat (nat_lit 10)))] @Bool.false 0 @Bool.true [] [] 0 @Bool.false) (@Array.mk.{0} @PySem.GenState []) (@PySem.Drawn.mk 0 0 0 0) (nat_lit 425) x4) (@Prod.mk.{0, 0} @PySem.Code @PySem.Pos (@PySem.Code.body (@PySem.W.behindTheImports @PySem.Challenge.pw_tr0009_01) @left_env_1) (@PySem.Pos.mk 94 0 125 44)))))) (@left__proof_177 x2) x3))))) x0) x1) (@congrFun.{0+1, 0+1} @PySem.OsState (fun (x2 : @PySem.OsState) => (@Option.{0} @PySem.Shared)) (fun (x2 : @PySem.OsState) => (@PySem.W.topRun @PySem.treeTable @PySem.Challenge.pw_tr0009_01 x0 (nat_lit 11) (@Option.some.{0} @PySem.Value (@PySem.Value.ref 6)) (nat_lit 2) (@PySem.W.SharedT.abs (@PySem.W.SharedT.mk (@left_tree_175 (@PySem.World.params x0)) (nat_lit 157) (@PySem.Life.mk [] [] [] 0 [] [] @Bool.false #[] [] 0 @Bool.false @Bool.false @Bool.false (@OfNat.ofNat.{0} @Int (nat_lit 0) (@instOfNat (nat_lit 0))) [(@OfNat.ofNat.{0} @Int (nat_lit 2000) (@instOfNat (nat_lit 2000))), (@OfNat.ofNat.{0} @Int (nat_lit 10) (@instOfNat (nat_lit 10))), (@OfNat.ofNat.{0} @Int (nat_lit 10) (@instOfNat (nat_lit 10)))] @Bool.false 0 @Bool.true [] [] 0 @Bool.false) (@Array.mk.{0} @PySem.GenState []) (@PySem.Drawn.mk 0 0 0 0) (nat_lit 425) x2)) (@PySem.Thread.mk (@PySem.W.doneF @PySem.Flow.next) (@PySem.Code.body (@PySem.W.behindTheImports @PySem.Challenge.pw_tr0009_01) @left_env_1) (@PySem.Pos.mk 94 0 125 44) [(@PySem.W.topFrame (@PySem.Pos.mk 0 0 0 0))]))) (fun (x2 : @PySem.OsState) => (@Option.some.{0} @PySem.Shared (@PySem.Shared.mk (@left_heap_177 (@PySem.World.params x0)) (@Array.mk.{0} @PySem.GenState []) (@PySem.Drawn.mk 0 0 0 0) (nat_lit 425) x2))) (@left__proof_180 x0) x1)))))))))))
def eleft__proof_184 : PySem.World → Prop := (fun (x0 : @PySem.World) => (@Eq.{0+1} (@Prod.{0, 0} @Bool (@Prod.{0, 0} @Nat (@Option.{0} @PySem.Value))) (@Prod.mk.{0, 0} @Bool (@Prod.{0, 0} @Nat (@Option.{0} @PySem.Value)) (@Bool.and (@PySem.Heap.isNs (@PySem.W.boot_heap (@PySem.World.params x0)) @PySem.mainGlobals) (@BEq.beq.{0} @Nat (@instBEqOfDecidableEq.{0} @Nat @instDecidableEqNat) (@Array.size.{0} @PySem.GenState (@Array.mk.{0} @PySem.GenState [])) 0)) (@Prod.mk.{0, 0} @Nat (@Option.{0} @PySem.Value) (@Array.size.{0} @PySem.Obj (@PySem.Heap.objs (@PySem.W.boot_heap (@PySem.World.params x0)))) (@PySem.Heap.nsMap (@PySem.W.boot_heap (@PySem.World.params x0)) @PySem.mainGlobals (PySem.Str.ofString "__annotations__")))) (@Prod.mk.{0, 0} @Bool (@Prod.{0, 0} @Nat (@Option.{0} @PySem.Value)) @Bool.true (@Prod.mk.{0, 0} @Nat (@Option.{0} @PySem.Value) (nat_lit 11) (@Option.some.{0} @PySem.Value (@PySem.Value.ref 6))))))
theorem eleft__proof_184_p : ∀ w : PySem.World, eleft__proof_184 w := fun w => (by show _ = _; kernel_rfl)
theorem left__proof_184 : ((x0 : @PySem.World) → (@Eq.{0+1} (@Prod.{0, 0} @Bool (@Prod.{0, 0} @Nat (@Option.{0} @PySem.Value))) (@Prod.mk.{0, 0} @Bool (@Prod.{0, 0} @Nat (@Option.{0} @PySem.Value)) (@Bool.and (@PySem.Heap.isNs (@PySem.W.boot_heap (@PySem.World.params x0)) @PySem.mainGlobals) (@BEq.beq.{0} @Nat (@instBEqOfDecidableEq.{0} @Nat @instDecidableEqNat) (@Array.size.{0} @PySem.GenState (@Array.mk.{0} @PySem.GenState [])) 0)) (@Prod.mk.{0, 0} @Nat (@Option.{0} @PySem.Value) (@Array.size.{0} @PySem.Obj (@PySem.Heap.objs (@PySem.W.boot_heap (@PySem.World.params x0)))) (@PySem.Heap.nsMap (@PySem.W.boot_heap (@PySem.World.params x0)) @PySem.mainGlobals (PySem.Str.ofString "__annotations__")))) (@Prod.mk.{0, 0} @Bool (@Prod.{0, 0} @Nat (@Option.{0} @PySem.Value)) @Bool.true (@Prod.mk.{0, 0} @Nat (@Option.{0} @PySem.Value) (nat_lit 11) (@Option.some.{0} @PySem.Value (@PySem.Value.ref 6)))))) := eleft__proof_184_p
def eleft__proof_187 : PySem.World → Prop := (fun (x0 : @PySem.World) => (@Eq.{0+1} ((x1 : @PySem.OsState) → @Bool) (fun (x1 : @PySem.OsState) => (@Bool.and (@Bool.and (@Bool.and (@PySem.W.staticsOk (@PySem.importedModules (@PySem.Module.body (@PySem.Program.main @PySem.Challenge.pw_tr0009_01))) (@PySem.W.boot_heap (@PySem.World.params x0)) (@left_heap_177 (@PySem.World.params x0))) (@PySem.W.namesBound @PySem.Challenge.pw_tr0009_01 (@left_heap_177 (@PySem.World.params x0)))) (@PySem.W.gensDone (@PySem.Shared.mk (@left_heap_177 (@PySem.World.params x0)) (@Array.mk.{0} @PySem.GenState []) (@PySem.Drawn.mk 0 0 0 0) (nat_lit 425) x1))) (@PySem.W.laidKept (@PySem.W.boot_heap (@PySem.World.params x0)) (@left_heap_177 (@PySem.World.params x0))))) (fun (x1 : @PySem.OsState) => @Bool.true)))
theorem eleft__proof_187_p : ∀ w : PySem.World, eleft__proof_187 w := fun w => (by show _ = _; kernel_rfl)
theorem left__proof_187 : ((x0 : @PySem.World) → (@Eq.{0+1} ((x1 : @PySem.OsState) → @Bool) (fun (x1 : @PySem.OsState) => (@Bool.and (@Bool.and (@Bool.and (@PySem.W.staticsOk (@PySem.importedModules (@PySem.Module.body (@PySem.Program.main @PySem.Challenge.pw_tr0009_01))) (@PySem.W.boot_heap (@PySem.World.params x0)) (@left_heap_177 (@PySem.World.params x0))) (@PySem.W.namesBound @PySem.Challenge.pw_tr0009_01 (@left_heap_177 (@PySem.World.params x0)))) (@PySem.W.gensDone (@PySem.Shared.mk (@left_heap_177 (@PySem.World.params x0)) (@Array.mk.{0} @PySem.GenState []) (@PySem.Drawn.mk 0 0 0 0) (nat_lit 425) x1))) (@PySem.W.laidKept (@PySem.W.boot_heap (@PySem.World.params x0)) (@left_heap_177 (@PySem.World.params x0))))) (fun (x1 : @PySem.OsState) => @Bool.true))) := eleft__proof_187_p
def eleft__proof_190 : PySem.World → Prop := (fun (x0 : @PySem.World) => (@Eq.{0+1} ((x1 : @PySem.OsState) → @PyProof.Rows.Seen) (fun (x1 : @PySem.OsState) => (@PyProof.Rows.seen (@List.map.{0, 0} @PySem.DefRec @PySem.Str (fun (x2 : @PySem.DefRec) => (@PySem.DefRec.name x2)) (@PyProof.Rows.recsOf @q)) (@PyProof.Rows.ownsOf @q) [] (@PySem.Shared.mk (@PySem.Shared.heap (@PySem.Shared.mk (@left_heap_177 (@PySem.World.params x0)) (@Array.mk.{0} @PySem.GenState []) (@PySem.Drawn.mk 0 0 0 0) (nat_lit 425) x1)) #[] (@PySem.Shared.drawn (@PySem.Shared.mk (@left_heap_177 (@PySem.World.params x0)) (@Array.mk.{0} @PySem.GenState []) (@PySem.Drawn.mk 0 0 0 0) (nat_lit 425) x1)) (@PySem.Shared.toks (@PySem.Shared.mk (@left_heap_177 (@PySem.World.params x0)) (@Array.mk.{0} @PySem.GenState []) (@PySem.Drawn.mk 0 0 0 0) (nat_lit 425) x1)) (@PySem.Shared.os (@PySem.Shared.mk (@left_heap_177 (@PySem.World.params x0)) (@Array.mk.{0} @PySem.GenState []) (@PySem.Drawn.mk 0 0 0 0) (nat_lit 425) x1))))) (fun (x1 : @PySem.OsState) => (@PyProof.Rows.expectedOf @q))))
theorem eleft__proof_190_p : ∀ w : PySem.World, eleft__proof_190 w := fun w => (by show _ = _; kernel_rfl)
theorem left__proof_190 : ((x0 : @PySem.World) → (@Eq.{0+1} ((x1 : @PySem.OsState) → @PyProof.Rows.Seen) (fun (x1 : @PySem.OsState) => (@PyProof.Rows.seen (@List.map.{0, 0} @PySem.DefRec @PySem.Str (fun (x2 : @PySem.DefRec) => (@PySem.DefRec.name x2)) (@PyProof.Rows.recsOf @q)) (@PyProof.Rows.ownsOf @q) [] (@PySem.Shared.mk (@PySem.Shared.heap (@PySem.Shared.mk (@left_heap_177 (@PySem.World.params x0)) (@Array.mk.{0} @PySem.GenState []) (@PySem.Drawn.mk 0 0 0 0) (nat_lit 425) x1)) #[] (@PySem.Shared.drawn (@PySem.Shared.mk (@left_heap_177 (@PySem.World.params x0)) (@Array.mk.{0} @PySem.GenState []) (@PySem.Drawn.mk 0 0 0 0) (nat_lit 425) x1)) (@PySem.Shared.toks (@PySem.Shared.mk (@left_heap_177 (@PySem.World.params x0)) (@Array.mk.{0} @PySem.GenState []) (@PySem.Drawn.mk 0 0 0 0) (nat_lit 425) x1)) (@PySem.Shared.os (@PySem.Shared.mk (@left_heap_177 (@PySem.World.params x0)) (@Array.mk.{0} @PySem.GenState []) (@PySem.Drawn.mk 0 0 0 0) (nat_lit 425) x1))))) (fun (x1 : @PySem.OsState) => (@PyProof.Rows.expectedOf @q)))) := eleft__proof_190_p
def eleft__proof_193 : PySem.World → Prop := (fun (x0 : @PySem.World) => (@Eq.{0+1} ((x1 : @PySem.OsState) → (@Prod.{0, 0} (@Option.{0} @PySem.Str) (@List.{0} (@Prod.{0, 0} @PySem.Str @PySem.Value)))) (fun (x1 : @PySem.OsState) => (@PySem.Heap.bltView (@PySem.Shared.heap (@PySem.Shared.mk (@left_heap_177 (@PySem.World.params x0)) (@Array.mk.{0} @PySem.GenState []) (@PySem.Drawn.mk 0 0 0 0) (nat_lit 425) x1)))) (fun (x1 : @PySem.OsState) => @PySem.bltViewBooted)))
theorem eleft__proof_193_p : ∀ w : PySem.World, eleft__proof_193 w := fun w => (by show _ = _; kernel_rfl)
theorem left__proof_193 : ((x0 : @PySem.World) → (@Eq.{0+1} ((x1 : @PySem.OsState) → (@Prod.{0, 0} (@Option.{0} @PySem.Str) (@List.{0} (@Prod.{0, 0} @PySem.Str @PySem.Value)))) (fun (x1 : @PySem.OsState) => (@PySem.Heap.bltView (@PySem.Shared.heap (@PySem.Shared.mk (@left_heap_177 (@PySem.World.params x0)) (@Array.mk.{0} @PySem.GenState []) (@PySem.Drawn.mk 0 0 0 0) (nat_lit 425) x1)))) (fun (x1 : @PySem.OsState) => @PySem.bltViewBooted))) := eleft__proof_193_p
def eleft__proof_196 : PySem.World → Prop := (fun (x0 : @PySem.World) => (@Eq.{0+1} ((x1 : @PySem.OsState) → @Bool) (fun (x1 : @PySem.OsState) => (@Bool.and (@Bool.and (@Bool.and (@Bool.and (@Bool.and (@Bool.and (@PySem.Heap.keysOk (@PySem.Shared.heap (@PySem.Shared.mk (@left_heap_177 (@PySem.World.params x0)) (@Array.mk.{0} @PySem.GenState []) (@PySem.Drawn.mk 0 0 0 0) (nat_lit 425) x1)) (@PySem.W.looseW @q [(PySem.Str.ofString "b1_set")]) (@List.map.{0, 0} @PySem.DefRec @PySem.Str (fun (x2 : @PySem.DefRec) => (@PySem.DefRec.name x2)) (@PyProof.Rows.recsOf @q)) (@List.map.{0, 0} (@Prod.{0, 0} @PySem.Str @PySem.PyData) @PySem.Str (fun (x2 : (@Prod.{0, 0} @PySem.Str @PySem.PyData)) => (@Prod.fst.{0, 0} @PySem.Str @PySem.PyData x2)) (@PyProof.Rows.litsOf @q)) (@List.map.{0, 0} @PySem.ClsRec @PySem.Str (fun (x2 : @PySem.ClsRec) => (@PySem.ClsRec.name x2)) (@PyProof.Rows.clssOf @q (@PySem.W.looseW @q [(PySem.Str.ofString "b1_set")])))) (@PySem.Heap.accountedOkI (@PySem.Shared.heap (@PySem.Shared.mk (@left_heap_177 (@PySem.World.params x0)) (@Array.mk.{0} @PySem.GenState []) (@PySem.Drawn.mk 0 0 0 0) (nat_lit 425) x1)) (@PySem.importedModules (@PySem.Module.body (@PySem.Program.main @PySem.Challenge.pw_tr0009_01))))) (@PySem.Heap.isNs (@PySem.Shared.heap (@PySem.Shared.mk (@left_heap_177 (@PySem.World.params x0)) (@Array.mk.{0} @PySem.GenState []) (@PySem.Drawn.mk 0 0 0 0) (nat_lit 425) x1)) @PySem.mainGlobals)) (@PySem.Heap.isNs (@PySem.Shared.heap (@PySem.Shared.mk (@left_heap_177 (@PySem.World.params x0)) (@Array.mk.{0} @PySem.GenState []) (@PySem.Drawn.mk 0 0 0 0) (nat_lit 425) x1)) @PySem.builtinsNs)) (@PyProof.Rows.tablesOk @q (@PySem.Shared.heap (@PySem.Shared.mk (@left_heap_177 (@PySem.World.params x0)) (@Array.mk.{0} @PySem.GenState []) (@PySem.Drawn.mk 0 0 0 0) (nat_lit 425) x1)))) ((fun (x2 : @PySem.Shared) => (@Bool.and (@PySem.W.xlAt @q [] x2) (@PySem.W.recOk (@PySem.W.RowW.records (@PySem.W.OpenRow.toRowW (@PySem.W.OpenLaw.row @PySem.Challenge.rw_tr0009_01))) x2))) (@PySem.Shared.mk (@left_heap_177 (@PySem.World.params x0)) (@Array.mk.{0} @PySem.GenState []) (@PySem.Drawn.mk 0 0 0 0) (nat_lit 425) x1))) (@ite.{0+1} @Bool (@Eq.{0+1} @Bool @Bool.true @Bool.true) (@instDecidableEqBool @Bool.true @Bool.true) (@BEq.beq.{0} @Nat (@instBEqOfDecidableEq.{0} @Nat @instDecidableEqNat) (@Array.size.{0} @PySem.GenState (@PySem.Shared.gens (@PySem.Shared.mk (@left_heap_177 (@PySem.World.params x0)) (@Array.mk.{0} @PySem.GenState []) (@PySem.Drawn.mk 0 0 0 0) (nat_lit 425) x1))) 0) (@Bool.not (@PySem.leftWithCleanup (@PySem.Shared.gens (@PySem.Shared.mk (@left_heap_177 (@PySem.World.params x0)) (@Array.mk.{0} @PySem.GenState []) (@PySem.Drawn.mk 0 0 0 0) (nat_lit 425) x1))))))) (fun (x1 : @PySem.OsState) => @Bool.true)))
theorem eleft__proof_196_p : ∀ w : PySem.World, eleft__proof_196 w := fun w => (by show _ = _; kernel_rfl)
theorem left__proof_196 : ((x0 : @PySem.World) → (@Eq.{0+1} ((x1 : @PySem.OsState) → @Bool) (fun (x1 : @PySem.OsState) => (@Bool.and (@Bool.and (@Bool.and (@Bool.and (@Bool.and (@Bool.and (@PySem.Heap.keysOk (@PySem.Shared.heap (@PySem.Shared.mk (@left_heap_177 (@PySem.World.params x0)) (@Array.mk.{0} @PySem.GenState []) (@PySem.Drawn.mk 0 0 0 0) (nat_lit 425) x1)) (@PySem.W.looseW @q [(PySem.Str.ofString "b1_set")]) (@List.map.{0, 0} @PySem.DefRec @PySem.Str (fun (x2 : @PySem.DefRec) => (@PySem.DefRec.name x2)) (@PyProof.Rows.recsOf @q)) (@List.map.{0, 0} (@Prod.{0, 0} @PySem.Str @PySem.PyData) @PySem.Str (fun (x2 : (@Prod.{0, 0} @PySem.Str @PySem.PyData)) => (@Prod.fst.{0, 0} @PySem.Str @PySem.PyData x2)) (@PyProof.Rows.litsOf @q)) (@List.map.{0, 0} @PySem.ClsRec @PySem.Str (fun (x2 : @PySem.ClsRec) => (@PySem.ClsRec.name x2)) (@PyProof.Rows.clssOf @q (@PySem.W.looseW @q [(PySem.Str.ofString "b1_set")])))) (@PySem.Heap.accountedOkI (@PySem.Shared.heap (@PySem.Shared.mk (@left_heap_177 (@PySem.World.params x0)) (@Array.mk.{0} @PySem.GenState []) (@PySem.Drawn.mk 0 0 0 0) (nat_lit 425) x1)) (@PySem.importedModules (@PySem.Module.body (@PySem.Program.main @PySem.Challenge.pw_tr0009_01))))) (@PySem.Heap.isNs (@PySem.Shared.heap (@PySem.Shared.mk (@left_heap_177 (@PySem.World.params x0)) (@Array.mk.{0} @PySem.GenState []) (@PySem.Drawn.mk 0 0 0 0) (nat_lit 425) x1)) @PySem.mainGlobals)) (@PySem.Heap.isNs (@PySem.Shared.heap (@PySem.Shared.mk (@left_heap_177 (@PySem.World.params x0)) (@Array.mk.{0} @PySem.GenState []) (@PySem.Drawn.mk 0 0 0 0) (nat_lit 425) x1)) @PySem.builtinsNs)) (@PyProof.Rows.tablesOk @q (@PySem.Shared.heap (@PySem.Shared.mk (@left_heap_177 (@PySem.World.params x0)) (@Array.mk.{0} @PySem.GenState []) (@PySem.Drawn.mk 0 0 0 0) (nat_lit 425) x1)))) ((fun (x2 : @PySem.Shared) => (@Bool.and (@PySem.W.xlAt @q [] x2) (@PySem.W.recOk (@PySem.W.RowW.records (@PySem.W.OpenRow.toRowW (@PySem.W.OpenLaw.row @PySem.Challenge.rw_tr0009_01))) x2))) (@PySem.Shared.mk (@left_heap_177 (@PySem.World.params x0)) (@Array.mk.{0} @PySem.GenState []) (@PySem.Drawn.mk 0 0 0 0) (nat_lit 425) x1))) (@ite.{0+1} @Bool (@Eq.{0+1} @Bool @Bool.true @Bool.true) (@instDecidableEqBool @Bool.true @Bool.true) (@BEq.beq.{0} @Nat (@instBEqOfDecidableEq.{0} @Nat @instDecidableEqNat) (@Array.size.{0} @PySem.GenState (@PySem.Shared.gens (@PySem.Shared.mk (@left_heap_177 (@PySem.World.params x0)) (@Array.mk.{0} @PySem.GenState []) (@PySem.Drawn.mk 0 0 0 0) (nat_lit 425) x1))) 0) (@Bool.not (@PySem.leftWithCleanup (@PySem.Shared.gens (@PySem.Shared.mk (@left_heap_177 (@PySem.World.params x0)) (@Array.mk.{0} @PySem.GenState []) (@PySem.Drawn.mk 0 0 0 0) (nat_lit 425) x1))))))) (fun (x1 : @PySem.OsState) => @Bool.true))) := eleft__proof_196_p
def eleft__proof_199 : PySem.World → Prop := (fun (x0 : @PySem.World) => (@Eq.{0+1} ((x1 : @PySem.OsState) → @Bool) (fun (x1 : @PySem.OsState) => (@PyProof.Rows.tabsOk @q (@PySem.Shared.mk (@left_heap_177 (@PySem.World.params x0)) (@Array.mk.{0} @PySem.GenState []) (@PySem.Drawn.mk 0 0 0 0) (nat_lit 425) x1))) (fun (x1 : @PySem.OsState) => @Bool.true)))
theorem eleft__proof_199_p : ∀ w : PySem.World, eleft__proof_199 w := fun w => (by show _ = _; kernel_rfl)
theorem left__proof_199 : ((x0 : @PySem.World) → (@Eq.{0+1} ((x1 : @PySem.OsState) → @Bool) (fun (x1 : @PySem.OsState) => (@PyProof.Rows.tabsOk @q (@PySem.Shared.mk (@left_heap_177 (@PySem.World.params x0)) (@Array.mk.{0} @PySem.GenState []) (@PySem.Drawn.mk 0 0 0 0) (nat_lit 425) x1))) (fun (x1 : @PySem.OsState) => @Bool.true))) := eleft__proof_199_p
def eleft__proof_202 : PySem.World → Prop := (fun (x0 : @PySem.World) => (@Eq.{0+1} ((x1 : @PySem.OsState) → (@Prod.{0, 0} (@List.{0} (@Option.{0} @PySem.FnShape)) @Bool)) (fun (x1 : @PySem.OsState) => (@PySem.pinSeenD @q (@PyProof.Rows.drecsOf @q) (@PySem.Shared.mk (@left_heap_177 (@PySem.World.params x0)) (@Array.mk.{0} @PySem.GenState []) (@PySem.Drawn.mk 0 0 0 0) (nat_lit 425) x1))) (fun (x1 : @PySem.OsState) => (@PySem.pinGoodD (@PyProof.Rows.drecsOf @q)))))
theorem eleft__proof_202_p : ∀ w : PySem.World, eleft__proof_202 w := fun w => (by show _ = _; kernel_rfl)
theorem left__proof_202 : ((x0 : @PySem.World) → (@Eq.{0+1} ((x1 : @PySem.OsState) → (@Prod.{0, 0} (@List.{0} (@Option.{0} @PySem.FnShape)) @Bool)) (fun (x1 : @PySem.OsState) => (@PySem.pinSeenD @q (@PyProof.Rows.drecsOf @q) (@PySem.Shared.mk (@left_heap_177 (@PySem.World.params x0)) (@Array.mk.{0} @PySem.GenState []) (@PySem.Drawn.mk 0 0 0 0) (nat_lit 425) x1))) (fun (x1 : @PySem.OsState) => (@PySem.pinGoodD (@PyProof.Rows.drecsOf @q))))) := eleft__proof_202_p
def eleft__proof_205 : PySem.World → Prop := (fun (x0 : @PySem.World) => (@Eq.{0+1} ((x1 : @PySem.OsState) → (@List.{0} (@Option.{0} @PyProof.Rows.PlainShape))) (fun (x1 : @PySem.OsState) => (@PyProof.Rows.plainSeenE @q (@PySem.W.looseW @q [(PySem.Str.ofString "b1_set")]) (@PySem.Shared.mk (@left_heap_177 (@PySem.World.params x0)) (@Array.mk.{0} @PySem.GenState []) (@PySem.Drawn.mk 0 0 0 0) (nat_lit 425) x1))) (fun (x1 : @PySem.OsState) => (@PyProof.Rows.plainGoodE @q (@PySem.W.looseW @q [(PySem.Str.ofString "b1_set")])))))
theorem eleft__proof_205_p : ∀ w : PySem.World, eleft__proof_205 w := fun w => (by show _ = _; kernel_rfl)
theorem left__proof_205 : ((x0 : @PySem.World) → (@Eq.{0+1} ((x1 : @PySem.OsState) → (@List.{0} (@Option.{0} @PyProof.Rows.PlainShape))) (fun (x1 : @PySem.OsState) => (@PyProof.Rows.plainSeenE @q (@PySem.W.looseW @q [(PySem.Str.ofString "b1_set")]) (@PySem.Shared.mk (@left_heap_177 (@PySem.World.params x0)) (@Array.mk.{0} @PySem.GenState []) (@PySem.Drawn.mk 0 0 0 0) (nat_lit 425) x1))) (fun (x1 : @PySem.OsState) => (@PyProof.Rows.plainGoodE @q (@PySem.W.looseW @q [(PySem.Str.ofString "b1_set")]))))) := eleft__proof_205_p
def eleft__proof_208 : PySem.World → Prop := (fun (x0 : @PySem.World) => (@Eq.{0+1} ((x1 : @PySem.OsState) → (@List.{0} (@Option.{0} (@Prod.{0, 0} @PyProof.Rows.PlainShape @Bool)))) (fun (x1 : @PySem.OsState) => (@PyProof.Rows.plainSeenD @q [(PySem.Str.ofString "b1_set")] (@PySem.Shared.mk (@left_heap_177 (@PySem.World.params x0)) (@Array.mk.{0} @PySem.GenState []) (@PySem.Drawn.mk 0 0 0 0) (nat_lit 425) x1))) (fun (x1 : @PySem.OsState) => (@PyProof.Rows.plainGoodD @q [(PySem.Str.ofString "b1_set")]))))
theorem eleft__proof_208_p : ∀ w : PySem.World, eleft__proof_208 w := fun w => (by show _ = _; kernel_rfl)
theorem left__proof_208 : ((x0 : @PySem.World) → (@Eq.{0+1} ((x1 : @PySem.OsState) → (@List.{0} (@Option.{0} (@Prod.{0, 0} @PyProof.Rows.PlainShape @Bool)))) (fun (x1 : @PySem.OsState) => (@PyProof.Rows.plainSeenD @q [(PySem.Str.ofString "b1_set")] (@PySem.Shared.mk (@left_heap_177 (@PySem.World.params x0)) (@Array.mk.{0} @PySem.GenState []) (@PySem.Drawn.mk 0 0 0 0) (nat_lit 425) x1))) (fun (x1 : @PySem.OsState) => (@PyProof.Rows.plainGoodD @q [(PySem.Str.ofString "b1_set")])))) := eleft__proof_208_p
def eleft__proof_211 : PySem.World → Prop := (fun (x0 : @PySem.World) => (@Eq.{0+1} ((x1 : @PySem.OsState) → (@Prod.{0, 0} (@List.{0} (@Option.{0} @PySem.FnShape)) @Bool)) (fun (x1 : @PySem.OsState) => (@PySem.W.wideSeen @q (@PySem.Shared.mk (@left_heap_177 (@PySem.World.params x0)) (@Array.mk.{0} @PySem.GenState []) (@PySem.Drawn.mk 0 0 0 0) (nat_lit 425) x1))) (fun (x1 : @PySem.OsState) => (@PySem.W.wideGood @q))))
theorem eleft__proof_211_p : ∀ w : PySem.World, eleft__proof_211 w := fun w => (by show _ = _; kernel_rfl)
theorem left__proof_211 : ((x0 : @PySem.World) → (@Eq.{0+1} ((x1 : @PySem.OsState) → (@Prod.{0, 0} (@List.{0} (@Option.{0} @PySem.FnShape)) @Bool)) (fun (x1 : @PySem.OsState) => (@PySem.W.wideSeen @q (@PySem.Shared.mk (@left_heap_177 (@PySem.World.params x0)) (@Array.mk.{0} @PySem.GenState []) (@PySem.Drawn.mk 0 0 0 0) (nat_lit 425) x1))) (fun (x1 : @PySem.OsState) => (@PySem.W.wideGood @q)))) := eleft__proof_211_p
def eleft__proof_214 : PySem.World → Prop := (fun (x0 : @PySem.World) => (@Eq.{0+1} ((x1 : @PySem.OsState) → (@List.{0} (@Prod.{0, 0} (@Option.{0} (@Prod.{0, 0} (@List.{0} (@Option.{0} @PySem.FnShape)) @Bool)) (@Option.{0} (@Prod.{0, 0} @PyProof.Rows.PlainShape @Bool))))) (fun (x1 : @PySem.OsState) => (@PySem.W.clsSeenW @q [(PySem.Str.ofString "b1_set")] (@PySem.Shared.mk (@left_heap_177 (@PySem.World.params x0)) (@Array.mk.{0} @PySem.GenState []) (@PySem.Drawn.mk 0 0 0 0) (nat_lit 425) x1))) (fun (x1 : @PySem.OsState) => (@PySem.W.clsGoodW @q [(PySem.Str.ofString "b1_set")]))))
theorem eleft__proof_214_p : ∀ w : PySem.World, eleft__proof_214 w := fun w => (by show _ = _; kernel_rfl)
theorem left__proof_214 : ((x0 : @PySem.World) → (@Eq.{0+1} ((x1 : @PySem.OsState) → (@List.{0} (@Prod.{0, 0} (@Option.{0} (@Prod.{0, 0} (@List.{0} (@Option.{0} @PySem.FnShape)) @Bool)) (@Option.{0} (@Prod.{0, 0} @PyProof.Rows.PlainShape @Bool))))) (fun (x1 : @PySem.OsState) => (@PySem.W.clsSeenW @q [(PySem.Str.ofString "b1_set")] (@PySem.Shared.mk (@left_heap_177 (@PySem.World.params x0)) (@Array.mk.{0} @PySem.GenState []) (@PySem.Drawn.mk 0 0 0 0) (nat_lit 425) x1))) (fun (x1 : @PySem.OsState) => (@PySem.W.clsGoodW @q [(PySem.Str.ofString "b1_set")])))) := eleft__proof_214_p
theorem left__proof_215 : ((x0 : @PySem.World) → ((x1 : @PySem.OsState) → (@Eq.{0+1} (@Prod.{0, 0} (@Prod.{0, 0} (@List.{0} (@Option.{0} @PySem.FnShape)) @Bool) (@List.{0} (@Prod.{0, 0} (@Option.{0} (@Prod.{0, 0} (@List.{0} (@Option.{0} @PySem.FnShape)) @Bool)) (@Option.{0} (@Prod.{0, 0} @PyProof.Rows.PlainShape @Bool))))) (@Prod.mk.{0, 0} (@Prod.{0, 0} (@List.{0} (@Option.{0} @PySem.FnShape)) @Bool) (@List.{0} (@Prod.{0, 0} (@Option.{0} (@Prod.{0, 0} (@List.{0} (@Option.{0} @PySem.FnShape)) @Bool)) (@Option.{0} (@Prod.{0, 0} @PyProof.Rows.PlainShape @Bool)))) (@PySem.W.wideSeen @q (@PySem.Shared.mk (@left_heap_177 (@PySem.World.params x0)) (@Array.mk.{0} @PySem.GenState []) (@PySem.Drawn.mk 0 0 0 0) (nat_lit 425) x1)) (@PySem.W.clsSeenW @q [(PySem.Str.ofString "b1_set")] (@PySem.Shared.mk (@left_heap_177 (@PySem.World.params x0)) (@Array.mk.{0} @PySem.GenState []) (@PySem.Drawn.mk 0 0 0 0) (nat_lit 425) x1))) (@Prod.mk.{0, 0} (@Prod.{0, 0} (@List.{0} (@Option.{0} @PySem.FnShape)) @Bool) (@List.{0} (@Prod.{0, 0} (@Option.{0} (@Prod.{0, 0} (@List.{0} (@Option.{0} @PySem.FnShape)) @Bool)) (@Option.{0} (@Prod.{0, 0} @PyProof.Rows.PlainShape @Bool)))) (@PySem.W.wideGood @q) (@PySem.W.clsGoodW @q [(PySem.Str.ofString "b1_set")]))))) :=
  (fun (x0 : @PySem.World) => (fun (x1 : @PySem.OsState) => (@PySem.W.looks_pair (@Prod.{0, 0} (@List.{0} (@Option.{0} @PySem.FnShape)) @Bool) (@List.{0} (@Prod.{0, 0} (@Option.{0} (@Prod.{0, 0} (@List.{0} (@Option.{0} @PySem.FnShape)) @Bool)) (@Option.{0} (@Prod.{0, 0} @PyProof.Rows.PlainShape @Bool)))) (@PySem.W.wideSeen @q (@PySem.Shared.mk (@left_heap_177 (@PySem.World.params x0)) (@Array.mk.{0} @PySem.GenState []) (@PySem.Drawn.mk 0 0 0 0) (nat_lit 425) x1)) (@PySem.W.wideGood @q) (@PySem.W.clsSeenW @q [(PySem.Str.ofString "b1_set")] (@PySem.Shared.mk (@left_heap_177 (@PySem.World.params x0)) (@Array.mk.{0} @PySem.GenState []) (@PySem.Drawn.mk 0 0 0 0) (nat_lit 425) x1)) (@PySem.W.clsGoodW @q [(PySem.Str.ofString "b1_set")]) ((fun (x2 : @PySem.World) => (fun (x3 : @PySem.OsState) => (@congrFun.{0+1, 0+1} @PySem.OsState (fun (x4 : @PySem.OsState) => (@Prod.{0, 0} (@List.{0} (@Option.{0} @PySem.FnShape)) @Bool)) (fun (x4 : @PySem.OsState) => (@PySem.W.wideSeen @q (@PySem.Shared.mk (@left_heap_177 (@PySem.World.params x2)) (@Array.mk.{0} @PySem.GenState []) (@PySem.Drawn.mk 0 0 0 0) (nat_lit 425) x4))) (fun (x4 : @PySem.OsState) => (@PySem.W.wideGood @q)) (@left__proof_211 x2) x3))) x0 x1) ((fun (x2 : @PySem.World) => (fun (x3 : @PySem.OsState) => (@congrFun.{0+1, 0+1} @PySem.OsState (fun (x4 : @PySem.OsState) => (@List.{0} (@Prod.{0, 0} (@Option.{0} (@Prod.{0, 0} (@List.{0} (@Option.{0} @PySem.FnShape)) @Bool)) (@Option.{0} (@Prod.{0, 0} @PyProof.Rows.PlainShape @Bool))))) (fun (x4 : @PySem.OsState) => (@PySem.W.clsSeenW @q [(PySem.Str.ofString "b1_set")] (@PySem.Shared.mk (@left_heap_177 (@PySem.World.params x2)) (@Array.mk.{0} @PySem.GenState []) (@PySem.Drawn.mk 0 0 0 0) (nat_lit 425) x4))) (fun (x4 : @PySem.OsState) => (@PySem.W.clsGoodW @q [(PySem.Str.ofString "b1_set")])) (@left__proof_214 x2) x3))) x0 x1))))
theorem left__proof_216 : ((x0 : @PySem.World) → ((x1 : @PySem.OsState) → (@Eq.{0+1} (@Prod.{0, 0} (@List.{0} (@Option.{0} (@Prod.{0, 0} @PyProof.Rows.PlainShape @Bool))) (@Prod.{0, 0} (@Prod.{0, 0} (@List.{0} (@Option.{0} @PySem.FnShape)) @Bool) (@List.{0} (@Prod.{0, 0} (@Option.{0} (@Prod.{0, 0} (@List.{0} (@Option.{0} @PySem.FnShape)) @Bool)) (@Option.{0} (@Prod.{0, 0} @PyProof.Rows.PlainShape @Bool)))))) (@Prod.mk.{0, 0} (@List.{0} (@Option.{0} (@Prod.{0, 0} @PyProof.Rows.PlainShape @Bool))) (@Prod.{0, 0} (@Prod.{0, 0} (@List.{0} (@Option.{0} @PySem.FnShape)) @Bool) (@List.{0} (@Prod.{0, 0} (@Option.{0} (@Prod.{0, 0} (@List.{0} (@Option.{0} @PySem.FnShape)) @Bool)) (@Option.{0} (@Prod.{0, 0} @PyProof.Rows.PlainShape @Bool))))) (@PyProof.Rows.plainSeenD @q [(PySem.Str.ofString "b1_set")] (@PySem.Shared.mk (@left_heap_177 (@PySem.World.params x0)) (@Array.mk.{0} @PySem.GenState []) (@PySem.Drawn.mk 0 0 0 0) (nat_lit 425) x1)) (@Prod.mk.{0, 0} (@Prod.{0, 0} (@List.{0} (@Option.{0} @PySem.FnShape)) @Bool) (@List.{0} (@Prod.{0, 0} (@Option.{0} (@Prod.{0, 0} (@List.{0} (@Option.{0} @PySem.FnShape)) @Bool)) (@Option.{0} (@Prod.{0, 0} @PyProof.Rows.PlainShape @Bool)))) (@PySem.W.wideSeen @q (@PySem.Shared.mk (@left_heap_177 (@PySem.World.params x0)) (@Array.mk.{0} @PySem.GenState []) (@PySem.Drawn.mk 0 0 0 0) (nat_lit 425) x1)) (@PySem.W.clsSeenW @q [(PySem.Str.ofString "b1_set")] (@PySem.Shared.mk (@left_heap_177 (@PySem.World.params x0)) (@Array.mk.{0} @PySem.GenState []) (@PySem.Drawn.mk 0 0 0 0) (nat_lit 425) x1)))) (@Prod.mk.{0, 0} (@List.{0} (@Option.{0} (@Prod.{0, 0} @PyProof.Rows.PlainShape @Bool))) (@Prod.{0, 0} (@Prod.{0, 0} (@List.{0} (@Option.{0} @PySem.FnShape)) @Bool) (@List.{0} (@Prod.{0, 0} (@Option.{0} (@Prod.{0, 0} (@List.{0} (@Option.{0} @PySem.FnShape)) @Bool)) (@Option.{0} (@Prod.{0, 0} @PyProof.Rows.PlainShape @Bool))))) (@PyProof.Rows.plainGoodD @q [(PySem.Str.ofString "b1_set")]) (@Prod.mk.{0, 0} (@Prod.{0, 0} (@List.{0} (@Option.{0} @PySem.FnShape)) @Bool) (@List.{0} (@Prod.{0, 0} (@Option.{0} (@Prod.{0, 0} (@List.{0} (@Option.{0} @PySem.FnShape)) @Bool)) (@Option.{0} (@Prod.{0, 0} @PyProof.Rows.PlainShape @Bool)))) (@PySem.W.wideGood @q) (@PySem.W.clsGoodW @q [(PySem.Str.ofString "b1_set")])))))) :=
  (fun (x0 : @PySem.World) => (fun (x1 : @PySem.OsState) => (@PySem.W.looks_pair (@List.{0} (@Option.{0} (@Prod.{0, 0} @PyProof.Rows.PlainShape @Bool))) (@Prod.{0, 0} (@Prod.{0, 0} (@List.{0} (@Option.{0} @PySem.FnShape)) @Bool) (@List.{0} (@Prod.{0, 0} (@Option.{0} (@Prod.{0, 0} (@List.{0} (@Option.{0} @PySem.FnShape)) @Bool)) (@Option.{0} (@Prod.{0, 0} @PyProof.Rows.PlainShape @Bool))))) (@PyProof.Rows.plainSeenD @q [(PySem.Str.ofString "b1_set")] (@PySem.Shared.mk (@left_heap_177 (@PySem.World.params x0)) (@Array.mk.{0} @PySem.GenState []) (@PySem.Drawn.mk 0 0 0 0) (nat_lit 425) x1)) (@PyProof.Rows.plainGoodD @q [(PySem.Str.ofString "b1_set")]) (@Prod.mk.{0, 0} (@Prod.{0, 0} (@List.{0} (@Option.{0} @PySem.FnShape)) @Bool) (@List.{0} (@Prod.{0, 0} (@Option.{0} (@Prod.{0, 0} (@List.{0} (@Option.{0} @PySem.FnShape)) @Bool)) (@Option.{0} (@Prod.{0, 0} @PyProof.Rows.PlainShape @Bool)))) (@PySem.W.wideSeen @q (@PySem.Shared.mk (@left_heap_177 (@PySem.World.params x0)) (@Array.mk.{0} @PySem.GenState []) (@PySem.Drawn.mk 0 0 0 0) (nat_lit 425) x1)) (@PySem.W.clsSeenW @q [(PySem.Str.ofString "b1_set")] (@PySem.Shared.mk (@left_heap_177 (@PySem.World.params x0)) (@Array.mk.{0} @PySem.GenState []) (@PySem.Drawn.mk 0 0 0 0) (nat_lit 425) x1))) (@Prod.mk.{0, 0} (@Prod.{0, 0} (@List.{0} (@Option.{0} @PySem.FnShape)) @Bool) (@List.{0} (@Prod.{0, 0} (@Option.{0} (@Prod.{0, 0} (@List.{0} (@Option.{0} @PySem.FnShape)) @Bool)) (@Option.{0} (@Prod.{0, 0} @PyProof.Rows.PlainShape @Bool)))) (@PySem.W.wideGood @q) (@PySem.W.clsGoodW @q [(PySem.Str.ofString "b1_set")])) ((fun (x2 : @PySem.World) => (fun (x3 : @PySem.OsState) => (@congrFun.{0+1, 0+1} @PySem.OsState (fun (x4 : @PySem.OsState) => (@List.{0} (@Option.{0} (@Prod.{0, 0} @PyProof.Rows.PlainShape @Bool)))) (fun (x4 : @PySem.OsState) => (@PyProof.Rows.plainSeenD @q [(PySem.Str.ofString "b1_set")] (@PySem.Shared.mk (@left_heap_177 (@PySem.World.params x2)) (@Array.mk.{0} @PySem.GenState []) (@PySem.Drawn.mk 0 0 0 0) (nat_lit 425) x4))) (fun (x4 : @PySem.OsState) => (@PyProof.Rows.plainGoodD @q [(PySem.Str.ofString "b1_set")])) (@left__proof_208 x2) x3))) x0 x1) (@left__proof_215 x0 x1))))
theorem left__proof_217 : ((x0 : @PySem.World) → ((x1 : @PySem.OsState) → (@Eq.{0+1} (@Prod.{0, 0} (@List.{0} (@Option.{0} @PyProof.Rows.PlainShape)) (@Prod.{0, 0} (@List.{0} (@Option.{0} (@Prod.{0, 0} @PyProof.Rows.PlainShape @Bool))) (@Prod.{0, 0} (@Prod.{0, 0} (@List.{0} (@Option.{0} @PySem.FnShape)) @Bool) (@List.{0} (@Prod.{0, 0} (@Option.{0} (@Prod.{0, 0} (@List.{0} (@Option.{0} @PySem.FnShape)) @Bool)) (@Option.{0} (@Prod.{0, 0} @PyProof.Rows.PlainShape @Bool))))))) (@Prod.mk.{0, 0} (@List.{0} (@Option.{0} @PyProof.Rows.PlainShape)) (@Prod.{0, 0} (@List.{0} (@Option.{0} (@Prod.{0, 0} @PyProof.Rows.PlainShape @Bool))) (@Prod.{0, 0} (@Prod.{0, 0} (@List.{0} (@Option.{0} @PySem.FnShape)) @Bool) (@List.{0} (@Prod.{0, 0} (@Option.{0} (@Prod.{0, 0} (@List.{0} (@Option.{0} @PySem.FnShape)) @Bool)) (@Option.{0} (@Prod.{0, 0} @PyProof.Rows.PlainShape @Bool)))))) (@PyProof.Rows.plainSeenE @q (@PySem.W.looseW @q [(PySem.Str.ofString "b1_set")]) (@PySem.Shared.mk (@left_heap_177 (@PySem.World.params x0)) (@Array.mk.{0} @PySem.GenState []) (@PySem.Drawn.mk 0 0 0 0) (nat_lit 425) x1)) (@Prod.mk.{0, 0} (@List.{0} (@Option.{0} (@Prod.{0, 0} @PyProof.Rows.PlainShape @Bool))) (@Prod.{0, 0} (@Prod.{0, 0} (@List.{0} (@Option.{0} @PySem.FnShape)) @Bool) (@List.{0} (@Prod.{0, 0} (@Option.{0} (@Prod.{0, 0} (@List.{0} (@Option.{0} @PySem.FnShape)) @Bool)) (@Option.{0} (@Prod.{0, 0} @PyProof.Rows.PlainShape @Bool))))) (@PyProof.Rows.plainSeenD @q [(PySem.Str.ofString "b1_set")] (@PySem.Shared.mk (@left_heap_177 (@PySem.World.params x0)) (@Array.mk.{0} @PySem.GenState []) (@PySem.Drawn.mk 0 0 0 0) (nat_lit 425) x1)) (@Prod.mk.{0, 0} (@Prod.{0, 0} (@List.{0} (@Option.{0} @PySem.FnShape)) @Bool) (@List.{0} (@Prod.{0, 0} (@Option.{0} (@Prod.{0, 0} (@List.{0} (@Option.{0} @PySem.FnShape)) @Bool)) (@Option.{0} (@Prod.{0, 0} @PyProof.Rows.PlainShape @Bool)))) (@PySem.W.wideSeen @q (@PySem.Shared.mk (@left_heap_177 (@PySem.World.params x0)) (@Array.mk.{0} @PySem.GenState []) (@PySem.Drawn.mk 0 0 0 0) (nat_lit 425) x1)) (@PySem.W.clsSeenW @q [(PySem.Str.ofString "b1_set")] (@PySem.Shared.mk (@left_heap_177 (@PySem.World.params x0)) (@Array.mk.{0} @PySem.GenState []) (@PySem.Drawn.mk 0 0 0 0) (nat_lit 425) x1))))) (@Prod.mk.{0, 0} (@List.{0} (@Option.{0} @PyProof.Rows.PlainShape)) (@Prod.{0, 0} (@List.{0} (@Option.{0} (@Prod.{0, 0} @PyProof.Rows.PlainShape @Bool))) (@Prod.{0, 0} (@Prod.{0, 0} (@List.{0} (@Option.{0} @PySem.FnShape)) @Bool) (@List.{0} (@Prod.{0, 0} (@Option.{0} (@Prod.{0, 0} (@List.{0} (@Option.{0} @PySem.FnShape)) @Bool)) (@Option.{0} (@Prod.{0, 0} @PyProof.Rows.PlainShape @Bool)))))) (@PyProof.Rows.plainGoodE @q (@PySem.W.looseW @q [(PySem.Str.ofString "b1_set")])) (@Prod.mk.{0, 0} (@List.{0} (@Option.{0} (@Prod.{0, 0} @PyProof.Rows.PlainShape @Bool))) (@Prod.{0, 0} (@Prod.{0, 0} (@List.{0} (@Option.{0} @PySem.FnShape)) @Bool) (@List.{0} (@Prod.{0, 0} (@Option.{0} (@Prod.{0, 0} (@List.{0} (@Option.{0} @PySem.FnShape)) @Bool)) (@Option.{0} (@Prod.{0, 0} @PyProof.Rows.PlainShape @Bool))))) (@PyProof.Rows.plainGoodD @q [(PySem.Str.ofString "b1_set")]) (@Prod.mk.{0, 0} (@Prod.{0, 0} (@List.{0} (@Option.{0} @PySem.FnShape)) @Bool) (@List.{0} (@Prod.{0, 0} (@Option.{0} (@Prod.{0, 0} (@List.{0} (@Option.{0} @PySem.FnShape)) @Bool)) (@Option.{0} (@Prod.{0, 0} @PyProof.Rows.PlainShape @Bool)))) (@PySem.W.wideGood @q) (@PySem.W.clsGoodW @q [(PySem.Str.ofString "b1_set")]))))))) :=
  (fun (x0 : @PySem.World) => (fun (x1 : @PySem.OsState) => (@PySem.W.looks_pair (@List.{0} (@Option.{0} @PyProof.Rows.PlainShape)) (@Prod.{0, 0} (@List.{0} (@Option.{0} (@Prod.{0, 0} @PyProof.Rows.PlainShape @Bool))) (@Prod.{0, 0} (@Prod.{0, 0} (@List.{0} (@Option.{0} @PySem.FnShape)) @Bool) (@List.{0} (@Prod.{0, 0} (@Option.{0} (@Prod.{0, 0} (@List.{0} (@Option.{0} @PySem.FnShape)) @Bool)) (@Option.{0} (@Prod.{0, 0} @PyProof.Rows.PlainShape @Bool)))))) (@PyProof.Rows.plainSeenE @q (@PySem.W.looseW @q [(PySem.Str.ofString "b1_set")]) (@PySem.Shared.mk (@left_heap_177 (@PySem.World.params x0)) (@Array.mk.{0} @PySem.GenState []) (@PySem.Drawn.mk 0 0 0 0) (nat_lit 425) x1)) (@PyProof.Rows.plainGoodE @q (@PySem.W.looseW @q [(PySem.Str.ofString "b1_set")])) (@Prod.mk.{0, 0} (@List.{0} (@Option.{0} (@Prod.{0, 0} @PyProof.Rows.PlainShape @Bool))) (@Prod.{0, 0} (@Prod.{0, 0} (@List.{0} (@Option.{0} @PySem.FnShape)) @Bool) (@List.{0} (@Prod.{0, 0} (@Option.{0} (@Prod.{0, 0} (@List.{0} (@Option.{0} @PySem.FnShape)) @Bool)) (@Option.{0} (@Prod.{0, 0} @PyProof.Rows.PlainShape @Bool))))) (@PyProof.Rows.plainSeenD @q [(PySem.Str.ofString "b1_set")] (@PySem.Shared.mk (@left_heap_177 (@PySem.World.params x0)) (@Array.mk.{0} @PySem.GenState []) (@PySem.Drawn.mk 0 0 0 0) (nat_lit 425) x1)) (@Prod.mk.{0, 0} (@Prod.{0, 0} (@List.{0} (@Option.{0} @PySem.FnShape)) @Bool) (@List.{0} (@Prod.{0, 0} (@Option.{0} (@Prod.{0, 0} (@List.{0} (@Option.{0} @PySem.FnShape)) @Bool)) (@Option.{0} (@Prod.{0, 0} @PyProof.Rows.PlainShape @Bool)))) (@PySem.W.wideSeen @q (@PySem.Shared.mk (@left_heap_177 (@PySem.World.params x0)) (@Array.mk.{0} @PySem.GenState []) (@PySem.Drawn.mk 0 0 0 0) (nat_lit 425) x1)) (@PySem.W.clsSeenW @q [(PySem.Str.ofString "b1_set")] (@PySem.Shared.mk (@left_heap_177 (@PySem.World.params x0)) (@Array.mk.{0} @PySem.GenState []) (@PySem.Drawn.mk 0 0 0 0) (nat_lit 425) x1)))) (@Prod.mk.{0, 0} (@List.{0} (@Option.{0} (@Prod.{0, 0} @PyProof.Rows.PlainShape @Bool))) (@Prod.{0, 0} (@Prod.{0, 0} (@List.{0} (@Option.{0} @PySem.FnShape)) @Bool) (@List.{0} (@Prod.{0, 0} (@Option.{0} (@Prod.{0, 0} (@List.{0} (@Option.{0} @PySem.FnShape)) @Bool)) (@Option.{0} (@Prod.{0, 0} @PyProof.Rows.PlainShape @Bool))))) (@PyProof.Rows.plainGoodD @q [(PySem.Str.ofString "b1_set")]) (@Prod.mk.{0, 0} (@Prod.{0, 0} (@List.{0} (@Option.{0} @PySem.FnShape)) @Bool) (@List.{0} (@Prod.{0, 0} (@Option.{0} (@Prod.{0, 0} (@List.{0} (@Option.{0} @PySem.FnShape)) @Bool)) (@Option.{0} (@Prod.{0, 0} @PyProof.Rows.PlainShape @Bool)))) (@PySem.W.wideGood @q) (@PySem.W.clsGoodW @q [(PySem.Str.ofString "b1_set")]))) ((fun (x2 : @PySem.World) => (fun (x3 : @PySem.OsState) => (@congrFun.{0+1, 0+1} @PySem.OsState (fun (x4 : @PySem.OsState) => (@List.{0} (@Option.{0} @PyProof.Rows.PlainShape))) (fun (x4 : @PySem.OsState) => (@PyProof.Rows.plainSeenE @q (@PySem.W.looseW @q [(PySem.Str.ofString "b1_set")]) (@PySem.Shared.mk (@left_heap_177 (@PySem.World.params x2)) (@Array.mk.{0} @PySem.GenState []) (@PySem.Drawn.mk 0 0 0 0) (nat_lit 425) x4))) (fun (x4 : @PySem.OsState) => (@PyProof.Rows.plainGoodE @q (@PySem.W.looseW @q [(PySem.Str.ofString "b1_set")]))) (@left__proof_205 x2) x3))) x0 x1) (@left__proof_216 x0 x1))))
theorem left__proof_218 : ((x0 : @PySem.World) → ((x1 : @PySem.OsState) → (@Eq.{0+1} (@Prod.{0, 0} (@Prod.{0, 0} (@List.{0} (@Option.{0} @PySem.FnShape)) @Bool) (@Prod.{0, 0} (@List.{0} (@Option.{0} @PyProof.Rows.PlainShape)) (@Prod.{0, 0} (@List.{0} (@Option.{0} (@Prod.{0, 0} @PyProof.Rows.PlainShape @Bool))) (@Prod.{0, 0} (@Prod.{0, 0} (@List.{0} (@Option.{0} @PySem.FnShape)) @Bool) (@List.{0} (@Prod.{0, 0} (@Option.{0} (@Prod.{0, 0} (@List.{0} (@Option.{0} @PySem.FnShape)) @Bool)) (@Option.{0} (@Prod.{0, 0} @PyProof.Rows.PlainShape @Bool)))))))) (@Prod.mk.{0, 0} (@Prod.{0, 0} (@List.{0} (@Option.{0} @PySem.FnShape)) @Bool) (@Prod.{0, 0} (@List.{0} (@Option.{0} @PyProof.Rows.PlainShape)) (@Prod.{0, 0} (@List.{0} (@Option.{0} (@Prod.{0, 0} @PyProof.Rows.PlainShape @Bool))) (@Prod.{0, 0} (@Prod.{0, 0} (@List.{0} (@Option.{0} @PySem.FnShape)) @Bool) (@List.{0} (@Prod.{0, 0} (@Option.{0} (@Prod.{0, 0} (@List.{0} (@Option.{0} @PySem.FnShape)) @Bool)) (@Option.{0} (@Prod.{0, 0} @PyProof.Rows.PlainShape @Bool))))))) (@PySem.pinSeenD @q (@PyProof.Rows.drecsOf @q) (@PySem.Shared.mk (@left_heap_177 (@PySem.World.params x0)) (@Array.mk.{0} @PySem.GenState []) (@PySem.Drawn.mk 0 0 0 0) (nat_lit 425) x1)) (@Prod.mk.{0, 0} (@List.{0} (@Option.{0} @PyProof.Rows.PlainShape)) (@Prod.{0, 0} (@List.{0} (@Option.{0} (@Prod.{0, 0} @PyProof.Rows.PlainShape @Bool))) (@Prod.{0, 0} (@Prod.{0, 0} (@List.{0} (@Option.{0} @PySem.FnShape)) @Bool) (@List.{0} (@Prod.{0, 0} (@Option.{0} (@Prod.{0, 0} (@List.{0} (@Option.{0} @PySem.FnShape)) @Bool)) (@Option.{0} (@Prod.{0, 0} @PyProof.Rows.PlainShape @Bool)))))) (@PyProof.Rows.plainSeenE @q (@PySem.W.looseW @q [(PySem.Str.ofString "b1_set")]) (@PySem.Shared.mk (@left_heap_177 (@PySem.World.params x0)) (@Array.mk.{0} @PySem.GenState []) (@PySem.Drawn.mk 0 0 0 0) (nat_lit 425) x1)) (@Prod.mk.{0, 0} (@List.{0} (@Option.{0} (@Prod.{0, 0} @PyProof.Rows.PlainShape @Bool))) (@Prod.{0, 0} (@Prod.{0, 0} (@List.{0} (@Option.{0} @PySem.FnShape)) @Bool) (@List.{0} (@Prod.{0, 0} (@Option.{0} (@Prod.{0, 0} (@List.{0} (@Option.{0} @PySem.FnShape)) @Bool)) (@Option.{0} (@Prod.{0, 0} @PyProof.Rows.PlainShape @Bool))))) (@PyProof.Rows.plainSeenD @q [(PySem.Str.ofString "b1_set")] (@PySem.Shared.mk (@left_heap_177 (@PySem.World.params x0)) (@Array.mk.{0} @PySem.GenState []) (@PySem.Drawn.mk 0 0 0 0) (nat_lit 425) x1)) (@Prod.mk.{0, 0} (@Prod.{0, 0} (@List.{0} (@Option.{0} @PySem.FnShape)) @Bool) (@List.{0} (@Prod.{0, 0} (@Option.{0} (@Prod.{0, 0} (@List.{0} (@Option.{0} @PySem.FnShape)) @Bool)) (@Option.{0} (@Prod.{0, 0} @PyProof.Rows.PlainShape @Bool)))) (@PySem.W.wideSeen @q (@PySem.Shared.mk (@left_heap_177 (@PySem.World.params x0)) (@Array.mk.{0} @PySem.GenState []) (@PySem.Drawn.mk 0 0 0 0) (nat_lit 425) x1)) (@PySem.W.clsSeenW @q [(PySem.Str.ofString "b1_set")] (@PySem.Shared.mk (@left_heap_177 (@PySem.World.params x0)) (@Array.mk.{0} @PySem.GenState []) (@PySem.Drawn.mk 0 0 0 0) (nat_lit 425) x1)))))) (@Prod.mk.{0, 0} (@Prod.{0, 0} (@List.{0} (@Option.{0} @PySem.FnShape)) @Bool) (@Prod.{0, 0} (@List.{0} (@Option.{0} @PyProof.Rows.PlainShape)) (@Prod.{0, 0} (@List.{0} (@Option.{0} (@Prod.{0, 0} @PyProof.Rows.PlainShape @Bool))) (@Prod.{0, 0} (@Prod.{0, 0} (@List.{0} (@Option.{0} @PySem.FnShape)) @Bool) (@List.{0} (@Prod.{0, 0} (@Option.{0} (@Prod.{0, 0} (@List.{0} (@Option.{0} @PySem.FnShape)) @Bool)) (@Option.{0} (@Prod.{0, 0} @PyProof.Rows.PlainShape @Bool))))))) (@PySem.pinGoodD (@PyProof.Rows.drecsOf @q)) (@Prod.mk.{0, 0} (@List.{0} (@Option.{0} @PyProof.Rows.PlainShape)) (@Prod.{0, 0} (@List.{0} (@Option.{0} (@Prod.{0, 0} @PyProof.Rows.PlainShape @Bool))) (@Prod.{0, 0} (@Prod.{0, 0} (@List.{0} (@Option.{0} @PySem.FnShape)) @Bool) (@List.{0} (@Prod.{0, 0} (@Option.{0} (@Prod.{0, 0} (@List.{0} (@Option.{0} @PySem.FnShape)) @Bool)) (@Option.{0} (@Prod.{0, 0} @PyProof.Rows.PlainShape @Bool)))))) (@PyProof.Rows.plainGoodE @q (@PySem.W.looseW @q [(PySem.Str.ofString "b1_set")])) (@Prod.mk.{0, 0} (@List.{0} (@Option.{0} (@Prod.{0, 0} @PyProof.Rows.PlainShape @Bool))) (@Prod.{0, 0} (@Prod.{0, 0} (@List.{0} (@Option.{0} @PySem.FnShape)) @Bool) (@List.{0} (@Prod.{0, 0} (@Option.{0} (@Prod.{0, 0} (@List.{0} (@Option.{0} @PySem.FnShape)) @Bool)) (@Option.{0} (@Prod.{0, 0} @PyProof.Rows.PlainShape @Bool))))) (@PyProof.Rows.plainGoodD @q [(PySem.Str.ofString "b1_set")]) (@Prod.mk.{0, 0} (@Prod.{0, 0} (@List.{0} (@Option.{0} @PySem.FnShape)) @Bool) (@List.{0} (@Prod.{0, 0} (@Option.{0} (@Prod.{0, 0} (@List.{0} (@Option.{0} @PySem.FnShape)) @Bool)) (@Option.{0} (@Prod.{0, 0} @PyProof.Rows.PlainShape @Bool)))) (@PySem.W.wideGood @q) (@PySem.W.clsGoodW @q [(PySem.Str.ofString "b1_set")])))))))) :=
  (fun (x0 : @PySem.World) => (fun (x1 : @PySem.OsState) => (@PySem.W.looks_pair (@Prod.{0, 0} (@List.{0} (@Option.{0} @PySem.FnShape)) @Bool) (@Prod.{0, 0} (@List.{0} (@Option.{0} @PyProof.Rows.PlainShape)) (@Prod.{0, 0} (@List.{0} (@Option.{0} (@Prod.{0, 0} @PyProof.Rows.PlainShape @Bool))) (@Prod.{0, 0} (@Prod.{0, 0} (@List.{0} (@Option.{0} @PySem.FnShape)) @Bool) (@List.{0} (@Prod.{0, 0} (@Option.{0} (@Prod.{0, 0} (@List.{0} (@Option.{0} @PySem.FnShape)) @Bool)) (@Option.{0} (@Prod.{0, 0} @PyProof.Rows.PlainShape @Bool))))))) (@PySem.pinSeenD @q (@PyProof.Rows.drecsOf @q) (@PySem.Shared.mk (@left_heap_177 (@PySem.World.params x0)) (@Array.mk.{0} @PySem.GenState []) (@PySem.Drawn.mk 0 0 0 0) (nat_lit 425) x1)) (@PySem.pinGoodD (@PyProof.Rows.drecsOf @q)) (@Prod.mk.{0, 0} (@List.{0} (@Option.{0} @PyProof.Rows.PlainShape)) (@Prod.{0, 0} (@List.{0} (@Option.{0} (@Prod.{0, 0} @PyProof.Rows.PlainShape @Bool))) (@Prod.{0, 0} (@Prod.{0, 0} (@List.{0} (@Option.{0} @PySem.FnShape)) @Bool) (@List.{0} (@Prod.{0, 0} (@Option.{0} (@Prod.{0, 0} (@List.{0} (@Option.{0} @PySem.FnShape)) @Bool)) (@Option.{0} (@Prod.{0, 0} @PyProof.Rows.PlainShape @Bool)))))) (@PyProof.Rows.plainSeenE @q (@PySem.W.looseW @q [(PySem.Str.ofString "b1_set")]) (@PySem.Shared.mk (@left_heap_177 (@PySem.World.params x0)) (@Array.mk.{0} @PySem.GenState []) (@PySem.Drawn.mk 0 0 0 0) (nat_lit 425) x1)) (@Prod.mk.{0, 0} (@List.{0} (@Option.{0} (@Prod.{0, 0} @PyProof.Rows.PlainShape @Bool))) (@Prod.{0, 0} (@Prod.{0, 0} (@List.{0} (@Option.{0} @PySem.FnShape)) @Bool) (@List.{0} (@Prod.{0, 0} (@Option.{0} (@Prod.{0, 0} (@List.{0} (@Option.{0} @PySem.FnShape)) @Bool)) (@Option.{0} (@Prod.{0, 0} @PyProof.Rows.PlainShape @Bool))))) (@PyProof.Rows.plainSeenD @q [(PySem.Str.ofString "b1_set")] (@PySem.Shared.mk (@left_heap_177 (@PySem.World.params x0)) (@Array.mk.{0} @PySem.GenState []) (@PySem.Drawn.mk 0 0 0 0) (nat_lit 425) x1)) (@Prod.mk.{0, 0} (@Prod.{0, 0} (@List.{0} (@Option.{0} @PySem.FnShape)) @Bool) (@List.{0} (@Prod.{0, 0} (@Option.{0} (@Prod.{0, 0} (@List.{0} (@Option.{0} @PySem.FnShape)) @Bool)) (@Option.{0} (@Prod.{0, 0} @PyProof.Rows.PlainShape @Bool)))) (@PySem.W.wideSeen @q (@PySem.Shared.mk (@left_heap_177 (@PySem.World.params x0)) (@Array.mk.{0} @PySem.GenState []) (@PySem.Drawn.mk 0 0 0 0) (nat_lit 425) x1)) (@PySem.W.clsSeenW @q [(PySem.Str.ofString "b1_set")] (@PySem.Shared.mk (@left_heap_177 (@PySem.World.params x0)) (@Array.mk.{0} @PySem.GenState []) (@PySem.Drawn.mk 0 0 0 0) (nat_lit 425) x1))))) (@Prod.mk.{0, 0} (@List.{0} (@Option.{0} @PyProof.Rows.PlainShape)) (@Prod.{0, 0} (@List.{0} (@Option.{0} (@Prod.{0, 0} @PyProof.Rows.PlainShape @Bool))) (@Prod.{0, 0} (@Prod.{0, 0} (@List.{0} (@Option.{0} @PySem.FnShape)) @Bool) (@List.{0} (@Prod.{0, 0} (@Option.{0} (@Prod.{0, 0} (@List.{0} (@Option.{0} @PySem.FnShape)) @Bool)) (@Option.{0} (@Prod.{0, 0} @PyProof.Rows.PlainShape @Bool)))))) (@PyProof.Rows.plainGoodE @q (@PySem.W.looseW @q [(PySem.Str.ofString "b1_set")])) (@Prod.mk.{0, 0} (@List.{0} (@Option.{0} (@Prod.{0, 0} @PyProof.Rows.PlainShape @Bool))) (@Prod.{0, 0} (@Prod.{0, 0} (@List.{0} (@Option.{0} @PySem.FnShape)) @Bool) (@List.{0} (@Prod.{0, 0} (@Option.{0} (@Prod.{0, 0} (@List.{0} (@Option.{0} @PySem.FnShape)) @Bool)) (@Option.{0} (@Prod.{0, 0} @PyProof.Rows.PlainShape @Bool))))) (@PyProof.Rows.plainGoodD @q [(PySem.Str.ofString "b1_set")]) (@Prod.mk.{0, 0} (@Prod.{0, 0} (@List.{0} (@Option.{0} @PySem.FnShape)) @Bool) (@List.{0} (@Prod.{0, 0} (@Option.{0} (@Prod.{0, 0} (@List.{0} (@Option.{0} @PySem.FnShape)) @Bool)) (@Option.{0} (@Prod.{0, 0} @PyProof.Rows.PlainShape @Bool)))) (@PySem.W.wideGood @q) (@PySem.W.clsGoodW @q [(PySem.Str.ofString "b1_set")])))) ((fun (x2 : @PySem.World) => (fun (x3 : @PySem.OsState) => (@congrFun.{0+1, 0+1} @PySem.OsState (fun (x4 : @PySem.OsState) => (@Prod.{0, 0} (@List.{0} (@Option.{0} @PySem.FnShape)) @Bool)) (fun (x4 : @PySem.OsState) => (@PySem.pinSeenD @q (@PyProof.Rows.drecsOf @q) (@PySem.Shared.mk (@left_heap_177 (@PySem.World.params x2)) (@Array.mk.{0} @PySem.GenState []) (@PySem.Drawn.mk 0 0 0 0) (nat_lit 425) x4))) (fun (x4 : @PySem.OsState) => (@PySem.pinGoodD (@PyProof.Rows.drecsOf @q))) (@left__proof_202 x2) x3))) x0 x1) (@left__proof_217 x0 x1))))
theorem left__proof_219 : ((x0 : @PySem.World) → ((x1 : @PySem.OsState) → (@Eq.{0+1} (@Prod.{0, 0} @Bool (@Prod.{0, 0} (@Prod.{0, 0} (@List.{0} (@Option.{0} @PySem.FnShape)) @Bool) (@Prod.{0, 0} (@List.{0} (@Option.{0} @PyProof.Rows.PlainShape)) (@Prod.{0, 0} (@List.{0} (@Option.{0} (@Prod.{0, 0} @PyProof.Rows.PlainShape @Bool))) (@Prod.{0, 0} (@Prod.{0, 0} (@List.{0} (@Option.{0} @PySem.FnShape)) @Bool) (@List.{0} (@Prod.{0, 0} (@Option.{0} (@Prod.{0, 0} (@List.{0} (@Option.{0} @PySem.FnShape)) @Bool)) (@Option.{0} (@Prod.{0, 0} @PyProof.Rows.PlainShape @Bool))))))))) (@Prod.mk.{0, 0} @Bool (@Prod.{0, 0} (@Prod.{0, 0} (@List.{0} (@Option.{0} @PySem.FnShape)) @Bool) (@Prod.{0, 0} (@List.{0} (@Option.{0} @PyProof.Rows.PlainShape)) (@Prod.{0, 0} (@List.{0} (@Option.{0} (@Prod.{0, 0} @PyProof.Rows.PlainShape @Bool))) (@Prod.{0, 0} (@Prod.{0, 0} (@List.{0} (@Option.{0} @PySem.FnShape)) @Bool) (@List.{0} (@Prod.{0, 0} (@Option.{0} (@Prod.{0, 0} (@List.{0} (@Option.{0} @PySem.FnShape)) @Bool)) (@Option.{0} (@Prod.{0, 0} @PyProof.Rows.PlainShape @Bool)))))))) (@PyProof.Rows.tabsOk @q (@PySem.Shared.mk (@left_heap_177 (@PySem.World.params x0)) (@Array.mk.{0} @PySem.GenState []) (@PySem.Drawn.mk 0 0 0 0) (nat_lit 425) x1)) (@Prod.mk.{0, 0} (@Prod.{0, 0} (@List.{0} (@Option.{0} @PySem.FnShape)) @Bool) (@Prod.{0, 0} (@List.{0} (@Option.{0} @PyProof.Rows.PlainShape)) (@Prod.{0, 0} (@List.{0} (@Option.{0} (@Prod.{0, 0} @PyProof.Rows.PlainShape @Bool))) (@Prod.{0, 0} (@Prod.{0, 0} (@List.{0} (@Option.{0} @PySem.FnShape)) @Bool) (@List.{0} (@Prod.{0, 0} (@Option.{0} (@Prod.{0, 0} (@List.{0} (@Option.{0} @PySem.FnShape)) @Bool)) (@Option.{0} (@Prod.{0, 0} @PyProof.Rows.PlainShape @Bool))))))) (@PySem.pinSeenD @q (@PyProof.Rows.drecsOf @q) (@PySem.Shared.mk (@left_heap_177 (@PySem.World.params x0)) (@Array.mk.{0} @PySem.GenState []) (@PySem.Drawn.mk 0 0 0 0) (nat_lit 425) x1)) (@Prod.mk.{0, 0} (@List.{0} (@Option.{0} @PyProof.Rows.PlainShape)) (@Prod.{0, 0} (@List.{0} (@Option.{0} (@Prod.{0, 0} @PyProof.Rows.PlainShape @Bool))) (@Prod.{0, 0} (@Prod.{0, 0} (@List.{0} (@Option.{0} @PySem.FnShape)) @Bool) (@List.{0} (@Prod.{0, 0} (@Option.{0} (@Prod.{0, 0} (@List.{0} (@Option.{0} @PySem.FnShape)) @Bool)) (@Option.{0} (@Prod.{0, 0} @PyProof.Rows.PlainShape @Bool)))))) (@PyProof.Rows.plainSeenE @q (@PySem.W.looseW @q [(PySem.Str.ofString "b1_set")]) (@PySem.Shared.mk (@left_heap_177 (@PySem.World.params x0)) (@Array.mk.{0} @PySem.GenState []) (@PySem.Drawn.mk 0 0 0 0) (nat_lit 425) x1)) (@Prod.mk.{0, 0} (@List.{0} (@Option.{0} (@Prod.{0, 0} @PyProof.Rows.PlainShape @Bool))) (@Prod.{0, 0} (@Prod.{0, 0} (@List.{0} (@Option.{0} @PySem.FnShape)) @Bool) (@List.{0} (@Prod.{0, 0} (@Option.{0} (@Prod.{0, 0} (@List.{0} (@Option.{0} @PySem.FnShape)) @Bool)) (@Option.{0} (@Prod.{0, 0} @PyProof.Rows.PlainShape @Bool))))) (@PyProof.Rows.plainSeenD @q [(PySem.Str.ofString "b1_set")] (@PySem.Shared.mk (@left_heap_177 (@PySem.World.params x0)) (@Array.mk.{0} @PySem.GenState []) (@PySem.Drawn.mk 0 0 0 0) (nat_lit 425) x1)) (@Prod.mk.{0, 0} (@Prod.{0, 0} (@List.{0} (@Option.{0} @PySem.FnShape)) @Bool) (@List.{0} (@Prod.{0, 0} (@Option.{0} (@Prod.{0, 0} (@List.{0} (@Option.{0} @PySem.FnShape)) @Bool)) (@Option.{0} (@Prod.{0, 0} @PyProof.Rows.PlainShape @Bool)))) (@PySem.W.wideSeen @q (@PySem.Shared.mk (@left_heap_177 (@PySem.World.params x0)) (@Array.mk.{0} @PySem.GenState []) (@PySem.Drawn.mk 0 0 0 0) (nat_lit 425) x1)) (@PySem.W.clsSeenW @q [(PySem.Str.ofString "b1_set")] (@PySem.Shared.mk (@left_heap_177 (@PySem.World.params x0)) (@Array.mk.{0} @PySem.GenState []) (@PySem.Drawn.mk 0 0 0 0) (nat_lit 425) x1))))))) (@Prod.mk.{0, 0} @Bool (@Prod.{0, 0} (@Prod.{0, 0} (@List.{0} (@Option.{0} @PySem.FnShape)) @Bool) (@Prod.{0, 0} (@List.{0} (@Option.{0} @PyProof.Rows.PlainShape)) (@Prod.{0, 0} (@List.{0} (@Option.{0} (@Prod.{0, 0} @PyProof.Rows.PlainShape @Bool))) (@Prod.{0, 0} (@Prod.{0, 0} (@List.{0} (@Option.{0} @PySem.FnShape)) @Bool) (@List.{0} (@Prod.{0, 0} (@Option.{0} (@Prod.{0, 0} (@List.{0} (@Option.{0} @PySem.FnShape)) @Bool)) (@Option.{0} (@Prod.{0, 0} @PyProof.Rows.PlainShape @Bool)))))))) @Bool.true (@Prod.mk.{0, 0} (@Prod.{0, 0} (@List.{0} (@Option.{0} @PySem.FnShape)) @Bool) (@Prod.{0, 0} (@List.{0} (@Option.{0} @PyProof.Rows.PlainShape)) (@Prod.{0, 0} (@List.{0} (@Option.{0} (@Prod.{0, 0} @PyProof.Rows.PlainShape @Bool))) (@Prod.{0, 0} (@Prod.{0, 0} (@List.{0} (@Option.{0} @PySem.FnShape)) @Bool) (@List.{0} (@Prod.{0, 0} (@Option.{0} (@Prod.{0, 0} (@List.{0} (@Option.{0} @PySem.FnShape)) @Bool)) (@Option.{0} (@Prod.{0, 0} @PyProof.Rows.PlainShape @Bool))))))) (@PySem.pinGoodD (@PyProof.Rows.drecsOf @q)) (@Prod.mk.{0, 0} (@List.{0} (@Option.{0} @PyProof.Rows.PlainShape)) (@Prod.{0, 0} (@List.{0} (@Option.{0} (@Prod.{0, 0} @PyProof.Rows.PlainShape @Bool))) (@Prod.{0, 0} (@Prod.{0, 0} (@List.{0} (@Option.{0} @PySem.FnShape)) @Bool) (@List.{0} (@Prod.{0, 0} (@Option.{0} (@Prod.{0, 0} (@List.{0} (@Option.{0} @PySem.FnShape)) @Bool)) (@Option.{0} (@Prod.{0, 0} @PyProof.Rows.PlainShape @Bool)))))) (@PyProof.Rows.plainGoodE @q (@PySem.W.looseW @q [(PySem.Str.ofString "b1_set")])) (@Prod.mk.{0, 0} (@List.{0} (@Option.{0} (@Prod.{0, 0} @PyProof.Rows.PlainShape @Bool))) (@Prod.{0, 0} (@Prod.{0, 0} (@List.{0} (@Option.{0} @PySem.FnShape)) @Bool) (@List.{0} (@Prod.{0, 0} (@Option.{0} (@Prod.{0, 0} (@List.{0} (@Option.{0} @PySem.FnShape)) @Bool)) (@Option.{0} (@Prod.{0, 0} @PyProof.Rows.PlainShape @Bool))))) (@PyProof.Rows.plainGoodD @q [(PySem.Str.ofString "b1_set")]) (@Prod.mk.{0, 0} (@Prod.{0, 0} (@List.{0} (@Option.{0} @PySem.FnShape)) @Bool) (@List.{0} (@Prod.{0, 0} (@Option.{0} (@Prod.{0, 0} (@List.{0} (@Option.{0} @PySem.FnShape)) @Bool)) (@Option.{0} (@Prod.{0, 0} @PyProof.Rows.PlainShape @Bool)))) (@PySem.W.wideGood @q) (@PySem.W.clsGoodW @q [(PySem.Str.ofString "b1_set")]))))))))) :=
  (fun (x0 : @PySem.World) => (fun (x1 : @PySem.OsState) => (@PySem.W.looks_pair @Bool (@Prod.{0, 0} (@Prod.{0, 0} (@List.{0} (@Option.{0} @PySem.FnShape)) @Bool) (@Prod.{0, 0} (@List.{0} (@Option.{0} @PyProof.Rows.PlainShape)) (@Prod.{0, 0} (@List.{0} (@Option.{0} (@Prod.{0, 0} @PyProof.Rows.PlainShape @Bool))) (@Prod.{0, 0} (@Prod.{0, 0} (@List.{0} (@Option.{0} @PySem.FnShape)) @Bool) (@List.{0} (@Prod.{0, 0} (@Option.{0} (@Prod.{0, 0} (@List.{0} (@Option.{0} @PySem.FnShape)) @Bool)) (@Option.{0} (@Prod.{0, 0} @PyProof.Rows.PlainShape @Bool)))))))) (@PyProof.Rows.tabsOk @q (@PySem.Shared.mk (@left_heap_177 (@PySem.World.params x0)) (@Array.mk.{0} @PySem.GenState []) (@PySem.Drawn.mk 0 0 0 0) (nat_lit 425) x1)) @Bool.true (@Prod.mk.{0, 0} (@Prod.{0, 0} (@List.{0} (@Option.{0} @PySem.FnShape)) @Bool) (@Prod.{0, 0} (@List.{0} (@Option.{0} @PyProof.Rows.PlainShape)) (@Prod.{0, 0} (@List.{0} (@Option.{0} (@Prod.{0, 0} @PyProof.Rows.PlainShape @Bool))) (@Prod.{0, 0} (@Prod.{0, 0} (@List.{0} (@Option.{0} @PySem.FnShape)) @Bool) (@List.{0} (@Prod.{0, 0} (@Option.{0} (@Prod.{0, 0} (@List.{0} (@Option.{0} @PySem.FnShape)) @Bool)) (@Option.{0} (@Prod.{0, 0} @PyProof.Rows.PlainShape @Bool))))))) (@PySem.pinSeenD @q (@PyProof.Rows.drecsOf @q) (@PySem.Shared.mk (@left_heap_177 (@PySem.World.params x0)) (@Array.mk.{0} @PySem.GenState []) (@PySem.Drawn.mk 0 0 0 0) (nat_lit 425) x1)) (@Prod.mk.{0, 0} (@List.{0} (@Option.{0} @PyProof.Rows.PlainShape)) (@Prod.{0, 0} (@List.{0} (@Option.{0} (@Prod.{0, 0} @PyProof.Rows.PlainShape @Bool))) (@Prod.{0, 0} (@Prod.{0, 0} (@List.{0} (@Option.{0} @PySem.FnShape)) @Bool) (@List.{0} (@Prod.{0, 0} (@Option.{0} (@Prod.{0, 0} (@List.{0} (@Option.{0} @PySem.FnShape)) @Bool)) (@Option.{0} (@Prod.{0, 0} @PyProof.Rows.PlainShape @Bool)))))) (@PyProof.Rows.plainSeenE @q (@PySem.W.looseW @q [(PySem.Str.ofString "b1_set")]) (@PySem.Shared.mk (@left_heap_177 (@PySem.World.params x0)) (@Array.mk.{0} @PySem.GenState []) (@PySem.Drawn.mk 0 0 0 0) (nat_lit 425) x1)) (@Prod.mk.{0, 0} (@List.{0} (@Option.{0} (@Prod.{0, 0} @PyProof.Rows.PlainShape @Bool))) (@Prod.{0, 0} (@Prod.{0, 0} (@List.{0} (@Option.{0} @PySem.FnShape)) @Bool) (@List.{0} (@Prod.{0, 0} (@Option.{0} (@Prod.{0, 0} (@List.{0} (@Option.{0} @PySem.FnShape)) @Bool)) (@Option.{0} (@Prod.{0, 0} @PyProof.Rows.PlainShape @Bool))))) (@PyProof.Rows.plainSeenD @q [(PySem.Str.ofString "b1_set")] (@PySem.Shared.mk (@left_heap_177 (@PySem.World.params x0)) (@Array.mk.{0} @PySem.GenState []) (@PySem.Drawn.mk 0 0 0 0) (nat_lit 425) x1)) (@Prod.mk.{0, 0} (@Prod.{0, 0} (@List.{0} (@Option.{0} @PySem.FnShape)) @Bool) (@List.{0} (@Prod.{0, 0} (@Option.{0} (@Prod.{0, 0} (@List.{0} (@Option.{0} @PySem.FnShape)) @Bool)) (@Option.{0} (@Prod.{0, 0} @PyProof.Rows.PlainShape @Bool)))) (@PySem.W.wideSeen @q (@PySem.Shared.mk (@left_heap_177 (@PySem.World.params x0)) (@Array.mk.{0} @PySem.GenState []) (@PySem.Drawn.mk 0 0 0 0) (nat_lit 425) x1)) (@PySem.W.clsSeenW @q [(PySem.Str.ofString "b1_set")] (@PySem.Shared.mk (@left_heap_177 (@PySem.World.params x0)) (@Array.mk.{0} @PySem.GenState []) (@PySem.Drawn.mk 0 0 0 0) (nat_lit 425) x1)))))) (@Prod.mk.{0, 0} (@Prod.{0, 0} (@List.{0} (@Option.{0} @PySem.FnShape)) @Bool) (@Prod.{0, 0} (@List.{0} (@Option.{0} @PyProof.Rows.PlainShape)) (@Prod.{0, 0} (@List.{0} (@Option.{0} (@Prod.{0, 0} @PyProof.Rows.PlainShape @Bool))) (@Prod.{0, 0} (@Prod.{0, 0} (@List.{0} (@Option.{0} @PySem.FnShape)) @Bool) (@List.{0} (@Prod.{0, 0} (@Option.{0} (@Prod.{0, 0} (@List.{0} (@Option.{0} @PySem.FnShape)) @Bool)) (@Option.{0} (@Prod.{0, 0} @PyProof.Rows.PlainShape @Bool))))))) (@PySem.pinGoodD (@PyProof.Rows.drecsOf @q)) (@Prod.mk.{0, 0} (@List.{0} (@Option.{0} @PyProof.Rows.PlainShape)) (@Prod.{0, 0} (@List.{0} (@Option.{0} (@Prod.{0, 0} @PyProof.Rows.PlainShape @Bool))) (@Prod.{0, 0} (@Prod.{0, 0} (@List.{0} (@Option.{0} @PySem.FnShape)) @Bool) (@List.{0} (@Prod.{0, 0} (@Option.{0} (@Prod.{0, 0} (@List.{0} (@Option.{0} @PySem.FnShape)) @Bool)) (@Option.{0} (@Prod.{0, 0} @PyProof.Rows.PlainShape @Bool)))))) (@PyProof.Rows.plainGoodE @q (@PySem.W.looseW @q [(PySem.Str.ofString "b1_set")])) (@Prod.mk.{0, 0} (@List.{0} (@Option.{0} (@Prod.{0, 0} @PyProof.Rows.PlainShape @Bool))) (@Prod.{0, 0} (@Prod.{0, 0} (@List.{0} (@Option.{0} @PySem.FnShape)) @Bool) (@List.{0} (@Prod.{0, 0} (@Option.{0} (@Prod.{0, 0} (@List.{0} (@Option.{0} @PySem.FnShape)) @Bool)) (@Option.{0} (@Prod.{0, 0} @PyProof.Rows.PlainShape @Bool))))) (@PyProof.Rows.plainGoodD @q [(PySem.Str.ofString "b1_set")]) (@Prod.mk.{0, 0} (@Prod.{0, 0} (@List.{0} (@Option.{0} @PySem.FnShape)) @Bool) (@List.{0} (@Prod.{0, 0} (@Option.{0} (@Prod.{0, 0} (@List.{0} (@Option.{0} @PySem.FnShape)) @Bool)) (@Option.{0} (@Prod.{0, 0} @PyProof.Rows.PlainShape @Bool)))) (@PySem.W.wideGood @q) (@PySem.W.clsGoodW @q [(PySem.Str.ofString "b1_set")]))))) ((fun (x2 : @PySem.World) => (fun (x3 : @PySem.OsState) => (@congrFun.{0+1, 0+1} @PySem.OsState (fun (x4 : @PySem.OsState) => @Bool) (fun (x4 : @PySem.OsState) => (@PyProof.Rows.tabsOk @q (@PySem.Shared.mk (@left_heap_177 (@PySem.World.params x2)) (@Array.mk.{0} @PySem.GenState []) (@PySem.Drawn.mk 0 0 0 0) (nat_lit 425) x4))) (fun (x4 : @PySem.OsState) => @Bool.true) (@left__proof_199 x2) x3))) x0 x1) (@left__proof_218 x0 x1))))
theorem left__proof_220 : ((x0 : @PySem.World) → ((x1 : @PySem.OsState) → (@Eq.{0+1} (@Prod.{0, 0} @Bool (@Prod.{0, 0} @Bool (@Prod.{0, 0} (@Prod.{0, 0} (@List.{0} (@Option.{0} @PySem.FnShape)) @Bool) (@Prod.{0, 0} (@List.{0} (@Option.{0} @PyProof.Rows.PlainShape)) (@Prod.{0, 0} (@List.{0} (@Option.{0} (@Prod.{0, 0} @PyProof.Rows.PlainShape @Bool))) (@Prod.{0, 0} (@Prod.{0, 0} (@List.{0} (@Option.{0} @PySem.FnShape)) @Bool) (@List.{0} (@Prod.{0, 0} (@Option.{0} (@Prod.{0, 0} (@List.{0} (@Option.{0} @PySem.FnShape)) @Bool)) (@Option.{0} (@Prod.{0, 0} @PyProof.Rows.PlainShape @Bool)))))))))) (@Prod.mk.{0, 0} @Bool (@Prod.{0, 0} @Bool (@Prod.{0, 0} (@Prod.{0, 0} (@List.{0} (@Option.{0} @PySem.FnShape)) @Bool) (@Prod.{0, 0} (@List.{0} (@Option.{0} @PyProof.Rows.PlainShape)) (@Prod.{0, 0} (@List.{0} (@Option.{0} (@Prod.{0, 0} @PyProof.Rows.PlainShape @Bool))) (@Prod.{0, 0} (@Prod.{0, 0} (@List.{0} (@Option.{0} @PySem.FnShape)) @Bool) (@List.{0} (@Prod.{0, 0} (@Option.{0} (@Prod.{0, 0} (@List.{0} (@Option.{0} @PySem.FnShape)) @Bool)) (@Option.{0} (@Prod.{0, 0} @PyProof.Rows.PlainShape @Bool))))))))) (@Bool.and (@Bool.and (@Bool.and (@Bool.and (@Bool.and (@Bool.and (@PySem.Heap.keysOk (@PySem.Shared.heap (@PySem.Shared.mk (@left_heap_177 (@PySem.World.params x0)) (@Array.mk.{0} @PySem.GenState []) (@PySem.Drawn.mk 0 0 0 0) (nat_lit 425) x1)) (@PySem.W.looseW @q [(PySem.Str.ofString "b1_set")]) (@List.map.{0, 0} @PySem.DefRec @PySem.Str (fun (x2 : @PySem.DefRec) => (@PySem.DefRec.name x2)) (@PyProof.Rows.recsOf @q)) (@List.map.{0, 0} (@Prod.{0, 0} @PySem.Str @PySem.PyData) @PySem.Str (fun (x2 : (@Prod.{0, 0} @PySem.Str @PySem.PyData)) => (@Prod.fst.{0, 0} @PySem.Str @PySem.PyData x2)) (@PyProof.Rows.litsOf @q)) (@List.map.{0, 0} @PySem.ClsRec @PySem.Str (fun (x2 : @PySem.ClsRec) => (@PySem.ClsRec.name x2)) (@PyProof.Rows.clssOf @q (@PySem.W.looseW @q [(PySem.Str.ofString "b1_set")])))) (@PySem.Heap.accountedOkI (@PySem.Shared.heap (@PySem.Shared.mk (@left_heap_177 (@PySem.World.params x0)) (@Array.mk.{0} @PySem.GenState []) (@PySem.Drawn.mk 0 0 0 0) (nat_lit 425) x1)) (@PySem.importedModules (@PySem.Module.body (@PySem.Program.main @PySem.Challenge.pw_tr0009_01))))) (@PySem.Heap.isNs (@PySem.Shared.heap (@PySem.Shared.mk (@left_heap_177 (@PySem.World.params x0)) (@Array.mk.{0} @PySem.GenState []) (@PySem.Drawn.mk 0 0 0 0) (nat_lit 425) x1)) @PySem.mainGlobals)) (@PySem.Heap.isNs (@PySem.Shared.heap (@PySem.Shared.mk (@left_heap_177 (@PySem.World.params x0)) (@Array.mk.{0} @PySem.GenState []) (@PySem.Drawn.mk 0 0 0 0) (nat_lit 425) x1)) @PySem.builtinsNs)) (@PyProof.Rows.tablesOk @q (@PySem.Shared.heap (@PySem.Shared.mk (@left_heap_177 (@PySem.World.params x0)) (@Array.mk.{0} @PySem.GenState []) (@PySem.Drawn.mk 0 0 0 0) (nat_lit 425) x1)))) ((fun (x2 : @PySem.Shared) => (@Bool.and (@PySem.W.xlAt @q [] x2) (@PySem.W.recOk (@PySem.W.RowW.records (@PySem.W.OpenRow.toRowW (@PySem.W.OpenLaw.row @PySem.Challenge.rw_tr0009_01))) x2))) (@PySem.Shared.mk (@left_heap_177 (@PySem.World.params x0)) (@Array.mk.{0} @PySem.GenState []) (@PySem.Drawn.mk 0 0 0 0) (nat_lit 425) x1))) (@ite.{0+1} @Bool (@Eq.{0+1} @Bool @Bool.true @Bool.true) (@instDecidableEqBool @Bool.true @Bool.true) (@BEq.beq.{0} @Nat (@instBEqOfDecidableEq.{0} @Nat @instDecidableEqNat) (@Array.size.{0} @PySem.GenState (@PySem.Shared.gens (@PySem.Shared.mk (@left_heap_177 (@PySem.World.params x0)) (@Array.mk.{0} @PySem.GenState []) (@PySem.Drawn.mk 0 0 0 0) (nat_lit 425) x1))) 0) (@Bool.not (@PySem.leftWithCleanup (@PySem.Shared.gens (@PySem.Shared.mk (@left_heap_177 (@PySem.World.params x0)) (@Array.mk.{0} @PySem.GenState []) (@PySem.Drawn.mk 0 0 0 0) (nat_lit 425) x1)))))) (@Prod.mk.{0, 0} @Bool (@Prod.{0, 0} (@Prod.{0, 0} (@List.{0} (@Option.{0} @PySem.FnShape)) @Bool) (@Prod.{0, 0} (@List.{0} (@Option.{0} @PyProof.Rows.PlainShape)) (@Prod.{0, 0} (@List.{0} (@Option.{0} (@Prod.{0, 0} @PyProof.Rows.PlainShape @Bool))) (@Prod.{0, 0} (@Prod.{0, 0} (@List.{0} (@Option.{0} @PySem.FnShape)) @Bool) (@List.{0} (@Prod.{0, 0} (@Option.{0} (@Prod.{0, 0} (@List.{0} (@Option.{0} @PySem.FnShape)) @Bool)) (@Option.{0} (@Prod.{0, 0} @PyProof.Rows.PlainShape @Bool)))))))) (@PyProof.Rows.tabsOk @q (@PySem.Shared.mk (@left_heap_177 (@PySem.World.params x0)) (@Array.mk.{0} @PySem.GenState []) (@PySem.Drawn.mk 0 0 0 0) (nat_lit 425) x1)) (@Prod.mk.{0, 0} (@Prod.{0, 0} (@List.{0} (@Option.{0} @PySem.FnShape)) @Bool) (@Prod.{0, 0} (@List.{0} (@Option.{0} @PyProof.Rows.PlainShape)) (@Prod.{0, 0} (@List.{0} (@Option.{0} (@Prod.{0, 0} @PyProof.Rows.PlainShape @Bool))) (@Prod.{0, 0} (@Prod.{0, 0} (@List.{0} (@Option.{0} @PySem.FnShape)) @Bool) (@List.{0} (@Prod.{0, 0} (@Option.{0} (@Prod.{0, 0} (@List.{0} (@Option.{0} @PySem.FnShape)) @Bool)) (@Option.{0} (@Prod.{0, 0} @PyProof.Rows.PlainShape @Bool))))))) (@PySem.pinSeenD @q (@PyProof.Rows.drecsOf @q) (@PySem.Shared.mk (@left_heap_177 (@PySem.World.params x0)) (@Array.mk.{0} @PySem.GenState []) (@PySem.Drawn.mk 0 0 0 0) (nat_lit 425) x1)) (@Prod.mk.{0, 0} (@List.{0} (@Option.{0} @PyProof.Rows.PlainShape)) (@Prod.{0, 0} (@List.{0} (@Option.{0} (@Prod.{0, 0} @PyProof.Rows.PlainShape @Bool))) (@Prod.{0, 0} (@Prod.{0, 0} (@List.{0} (@Option.{0} @PySem.FnShape)) @Bool) (@List.{0} (@Prod.{0, 0} (@Option.{0} (@Prod.{0, 0} (@List.{0} (@Option.{0} @PySem.FnShape)) @Bool)) (@Option.{0} (@Prod.{0, 0} @PyProof.Rows.PlainShape @Bool)))))) (@PyProof.Rows.plainSeenE @q (@PySem.W.looseW @q [(PySem.Str.ofString "b1_set")]) (@PySem.Shared.mk (@left_heap_177 (@PySem.World.params x0)) (@Array.mk.{0} @PySem.GenState []) (@PySem.Drawn.mk 0 0 0 0) (nat_lit 425) x1)) (@Prod.mk.{0, 0} (@List.{0} (@Option.{0} (@Prod.{0, 0} @PyProof.Rows.PlainShape @Bool))) (@Prod.{0, 0} (@Prod.{0, 0} (@List.{0} (@Option.{0} @PySem.FnShape)) @Bool) (@List.{0} (@Prod.{0, 0} (@Option.{0} (@Prod.{0, 0} (@List.{0} (@Option.{0} @PySem.FnShape)) @Bool)) (@Option.{0} (@Prod.{0, 0} @PyProof.Rows.PlainShape @Bool))))) (@PyProof.Rows.plainSeenD @q [(PySem.Str.ofString "b1_set")] (@PySem.Shared.mk (@left_heap_177 (@PySem.World.params x0)) (@Array.mk.{0} @PySem.GenState []) (@PySem.Drawn.mk 0 0 0 0) (nat_lit 425) x1)) (@Prod.mk.{0, 0} (@Prod.{0, 0} (@List.{0} (@Option.{0} @PySem.FnShape)) @Bool) (@List.{0} (@Prod.{0, 0} (@Option.{0} (@Prod.{0, 0} (@List.{0} (@Option.{0} @PySem.FnShape)) @Bool)) (@Option.{0} (@Prod.{0, 0} @PyProof.Rows.PlainShape @Bool)))) (@PySem.W.wideSeen @q (@PySem.Shared.mk (@left_heap_177 (@PySem.World.params x0)) (@Array.mk.{0} @PySem.GenState []) (@PySem.Drawn.mk 0 0 0 0) (nat_lit 425) x1)) (@PySem.W.clsSeenW @q [(PySem.Str.ofString "b1_set")] (@PySem.Shared.mk (@left_heap_177 (@PySem.World.params x0)) (@Array.mk.{0} @PySem.GenState []) (@PySem.Drawn.mk 0 0 0 0) (nat_lit 425) x1)))))))) (@Prod.mk.{0, 0} @Bool (@Prod.{0, 0} @Bool (@Prod.{0, 0} (@Prod.{0, 0} (@List.{0} (@Option.{0} @PySem.FnShape)) @Bool) (@Prod.{0, 0} (@List.{0} (@Option.{0} @PyProof.Rows.PlainShape)) (@Prod.{0, 0} (@List.{0} (@Option.{0} (@Prod.{0, 0} @PyProof.Rows.PlainShape @Bool))) (@Prod.{0, 0} (@Prod.{0, 0} (@List.{0} (@Option.{0} @PySem.FnShape)) @Bool) (@List.{0} (@Prod.{0, 0} (@Option.{0} (@Prod.{0, 0} (@List.{0} (@Option.{0} @PySem.FnShape)) @Bool)) (@Option.{0} (@Prod.{0, 0} @PyProof.Rows.PlainShape @Bool))))))))) @Bool.true (@Prod.mk.{0, 0} @Bool (@Prod.{0, 0} (@Prod.{0, 0} (@List.{0} (@Option.{0} @PySem.FnShape)) @Bool) (@Prod.{0, 0} (@List.{0} (@Option.{0} @PyProof.Rows.PlainShape)) (@Prod.{0, 0} (@List.{0} (@Option.{0} (@Prod.{0, 0} @PyProof.Rows.PlainShape @Bool))) (@Prod.{0, 0} (@Prod.{0, 0} (@List.{0} (@Option.{0} @PySem.FnShape)) @Bool) (@List.{0} (@Prod.{0, 0} (@Option.{0} (@Prod.{0, 0} (@List.{0} (@Option.{0} @PySem.FnShape)) @Bool)) (@Option.{0} (@Prod.{0, 0} @PyProof.Rows.PlainShape @Bool)))))))) @Bool.true (@Prod.mk.{0, 0} (@Prod.{0, 0} (@List.{0} (@Option.{0} @PySem.FnShape)) @Bool) (@Prod.{0, 0} (@List.{0} (@Option.{0} @PyProof.Rows.PlainShape)) (@Prod.{0, 0} (@List.{0} (@Option.{0} (@Prod.{0, 0} @PyProof.Rows.PlainShape @Bool))) (@Prod.{0, 0} (@Prod.{0, 0} (@List.{0} (@Option.{0} @PySem.FnShape)) @Bool) (@List.{0} (@Prod.{0, 0} (@Option.{0} (@Prod.{0, 0} (@List.{0} (@Option.{0} @PySem.FnShape)) @Bool)) (@Option.{0} (@Prod.{0, 0} @PyProof.Rows.PlainShape @Bool))))))) (@PySem.pinGoodD (@PyProof.Rows.drecsOf @q)) (@Prod.mk.{0, 0} (@List.{0} (@Option.{0} @PyProof.Rows.PlainShape)) (@Prod.{0, 0} (@List.{0} (@Option.{0} (@Prod.{0, 0} @PyProof.Rows.PlainShape @Bool))) (@Prod.{0, 0} (@Prod.{0, 0} (@List.{0} (@Option.{0} @PySem.FnShape)) @Bool) (@List.{0} (@Prod.{0, 0} (@Option.{0} (@Prod.{0, 0} (@List.{0} (@Option.{0} @PySem.FnShape)) @Bool)) (@Option.{0} (@Prod.{0, 0} @PyProof.Rows.PlainShape @Bool)))))) (@PyProof.Rows.plainGoodE @q (@PySem.W.looseW @q [(PySem.Str.ofString "b1_set")])) (@Prod.mk.{0, 0} (@List.{0} (@Option.{0} (@Prod.{0, 0} @PyProof.Rows.PlainShape @Bool))) (@Prod.{0, 0} (@Prod.{0, 0} (@List.{0} (@Option.{0} @PySem.FnShape)) @Bool) (@List.{0} (@Prod.{0, 0} (@Option.{0} (@Prod.{0, 0} (@List.{0} (@Option.{0} @PySem.FnShape)) @Bool)) (@Option.{0} (@Prod.{0, 0} @PyProof.Rows.PlainShape @Bool))))) (@PyProof.Rows.plainGoodD @q [(PySem.Str.ofString "b1_set")]) (@Prod.mk.{0, 0} (@Prod.{0, 0} (@List.{0} (@Option.{0} @PySem.FnShape)) @Bool) (@List.{0} (@Prod.{0, 0} (@Option.{0} (@Prod.{0, 0} (@List.{0} (@Option.{0} @PySem.FnShape)) @Bool)) (@Option.{0} (@Prod.{0, 0} @PyProof.Rows.PlainShape @Bool)))) (@PySem.W.wideGood @q) (@PySem.W.clsGoodW @q [(PySem.Str.ofString "b1_set")])))))))))) :=
  (fun (x0 : @PySem.World) => (fun (x1 : @PySem.OsState) => (@PySem.W.looks_pair @Bool (@Prod.{0, 0} @Bool (@Prod.{0, 0} (@Prod.{0, 0} (@List.{0} (@Option.{0} @PySem.FnShape)) @Bool) (@Prod.{0, 0} (@List.{0} (@Option.{0} @PyProof.Rows.PlainShape)) (@Prod.{0, 0} (@List.{0} (@Option.{0} (@Prod.{0, 0} @PyProof.Rows.PlainShape @Bool))) (@Prod.{0, 0} (@Prod.{0, 0} (@List.{0} (@Option.{0} @PySem.FnShape)) @Bool) (@List.{0} (@Prod.{0, 0} (@Option.{0} (@Prod.{0, 0} (@List.{0} (@Option.{0} @PySem.FnShape)) @Bool)) (@Option.{0} (@Prod.{0, 0} @PyProof.Rows.PlainShape @Bool))))))))) (@Bool.and (@Bool.and (@Bool.and (@Bool.and (@Bool.and (@Bool.and (@PySem.Heap.keysOk (@PySem.Shared.heap (@PySem.Shared.mk (@left_heap_177 (@PySem.World.params x0)) (@Array.mk.{0} @PySem.GenState []) (@PySem.Drawn.mk 0 0 0 0) (nat_lit 425) x1)) (@PySem.W.looseW @q [(PySem.Str.ofString "b1_set")]) (@List.map.{0, 0} @PySem.DefRec @PySem.Str (fun (x2 : @PySem.DefRec) => (@PySem.DefRec.name x2)) (@PyProof.Rows.recsOf @q)) (@List.map.{0, 0} (@Prod.{0, 0} @PySem.Str @PySem.PyData) @PySem.Str (fun (x2 : (@Prod.{0, 0} @PySem.Str @PySem.PyData)) => (@Prod.fst.{0, 0} @PySem.Str @PySem.PyData x2)) (@PyProof.Rows.litsOf @q)) (@List.map.{0, 0} @PySem.ClsRec @PySem.Str (fun (x2 : @PySem.ClsRec) => (@PySem.ClsRec.name x2)) (@PyProof.Rows.clssOf @q (@PySem.W.looseW @q [(PySem.Str.ofString "b1_set")])))) (@PySem.Heap.accountedOkI (@PySem.Shared.heap (@PySem.Shared.mk (@left_heap_177 (@PySem.World.params x0)) (@Array.mk.{0} @PySem.GenState []) (@PySem.Drawn.mk 0 0 0 0) (nat_lit 425) x1)) (@PySem.importedModules (@PySem.Module.body (@PySem.Program.main @PySem.Challenge.pw_tr0009_01))))) (@PySem.Heap.isNs (@PySem.Shared.heap (@PySem.Shared.mk (@left_heap_177 (@PySem.World.params x0)) (@Array.mk.{0} @PySem.GenState []) (@PySem.Drawn.mk 0 0 0 0) (nat_lit 425) x1)) @PySem.mainGlobals)) (@PySem.Heap.isNs (@PySem.Shared.heap (@PySem.Shared.mk (@left_heap_177 (@PySem.World.params x0)) (@Array.mk.{0} @PySem.GenState []) (@PySem.Drawn.mk 0 0 0 0) (nat_lit 425) x1)) @PySem.builtinsNs)) (@PyProof.Rows.tablesOk @q (@PySem.Shared.heap (@PySem.Shared.mk (@left_heap_177 (@PySem.World.params x0)) (@Array.mk.{0} @PySem.GenState []) (@PySem.Drawn.mk 0 0 0 0) (nat_lit 425) x1)))) ((fun (x2 : @PySem.Shared) => (@Bool.and (@PySem.W.xlAt @q [] x2) (@PySem.W.recOk (@PySem.W.RowW.records (@PySem.W.OpenRow.toRowW (@PySem.W.OpenLaw.row @PySem.Challenge.rw_tr0009_01))) x2))) (@PySem.Shared.mk (@left_heap_177 (@PySem.World.params x0)) (@Array.mk.{0} @PySem.GenState []) (@PySem.Drawn.mk 0 0 0 0) (nat_lit 425) x1))) (@ite.{0+1} @Bool (@Eq.{0+1} @Bool @Bool.true @Bool.true) (@instDecidableEqBool @Bool.true @Bool.true) (@BEq.beq.{0} @Nat (@instBEqOfDecidableEq.{0} @Nat @instDecidableEqNat) (@Array.size.{0} @PySem.GenState (@PySem.Shared.gens (@PySem.Shared.mk (@left_heap_177 (@PySem.World.params x0)) (@Array.mk.{0} @PySem.GenState []) (@PySem.Drawn.mk 0 0 0 0) (nat_lit 425) x1))) 0) (@Bool.not (@PySem.leftWithCleanup (@PySem.Shared.gens (@PySem.Shared.mk (@left_heap_177 (@PySem.World.params x0)) (@Array.mk.{0} @PySem.GenState []) (@PySem.Drawn.mk 0 0 0 0) (nat_lit 425) x1)))))) @Bool.true (@Prod.mk.{0, 0} @Bool (@Prod.{0, 0} (@Prod.{0, 0} (@List.{0} (@Option.{0} @PySem.FnShape)) @Bool) (@Prod.{0, 0} (@List.{0} (@Option.{0} @PyProof.Rows.PlainShape)) (@Prod.{0, 0} (@List.{0} (@Option.{0} (@Prod.{0, 0} @PyProof.Rows.PlainShape @Bool))) (@Prod.{0, 0} (@Prod.{0, 0} (@List.{0} (@Option.{0} @PySem.FnShape)) @Bool) (@List.{0} (@Prod.{0, 0} (@Option.{0} (@Prod.{0, 0} (@List.{0} (@Option.{0} @PySem.FnShape)) @Bool)) (@Option.{0} (@Prod.{0, 0} @PyProof.Rows.PlainShape @Bool)))))))) (@PyProof.Rows.tabsOk @q (@PySem.Shared.mk (@left_heap_177 (@PySem.World.params x0)) (@Array.mk.{0} @PySem.GenState []) (@PySem.Drawn.mk 0 0 0 0) (nat_lit 425) x1)) (@Prod.mk.{0, 0} (@Prod.{0, 0} (@List.{0} (@Option.{0} @PySem.FnShape)) @Bool) (@Prod.{0, 0} (@List.{0} (@Option.{0} @PyProof.Rows.PlainShape)) (@Prod.{0, 0} (@List.{0} (@Option.{0} (@Prod.{0, 0} @PyProof.Rows.PlainShape @Bool))) (@Prod.{0, 0} (@Prod.{0, 0} (@List.{0} (@Option.{0} @PySem.FnShape)) @Bool) (@List.{0} (@Prod.{0, 0} (@Option.{0} (@Prod.{0, 0} (@List.{0} (@Option.{0} @PySem.FnShape)) @Bool)) (@Option.{0} (@Prod.{0, 0} @PyProof.Rows.PlainShape @Bool))))))) (@PySem.pinSeenD @q (@PyProof.Rows.drecsOf @q) (@PySem.Shared.mk (@left_heap_177 (@PySem.World.params x0)) (@Array.mk.{0} @PySem.GenState []) (@PySem.Drawn.mk 0 0 0 0) (nat_lit 425) x1)) (@Prod.mk.{0, 0} (@List.{0} (@Option.{0} @PyProof.Rows.PlainShape)) (@Prod.{0, 0} (@List.{0} (@Option.{0} (@Prod.{0, 0} @PyProof.Rows.PlainShape @Bool))) (@Prod.{0, 0} (@Prod.{0, 0} (@List.{0} (@Option.{0} @PySem.FnShape)) @Bool) (@List.{0} (@Prod.{0, 0} (@Option.{0} (@Prod.{0, 0} (@List.{0} (@Option.{0} @PySem.FnShape)) @Bool)) (@Option.{0} (@Prod.{0, 0} @PyProof.Rows.PlainShape @Bool)))))) (@PyProof.Rows.plainSeenE @q (@PySem.W.looseW @q [(PySem.Str.ofString "b1_set")]) (@PySem.Shared.mk (@left_heap_177 (@PySem.World.params x0)) (@Array.mk.{0} @PySem.GenState []) (@PySem.Drawn.mk 0 0 0 0) (nat_lit 425) x1)) (@Prod.mk.{0, 0} (@List.{0} (@Option.{0} (@Prod.{0, 0} @PyProof.Rows.PlainShape @Bool))) (@Prod.{0, 0} (@Prod.{0, 0} (@List.{0} (@Option.{0} @PySem.FnShape)) @Bool) (@List.{0} (@Prod.{0, 0} (@Option.{0} (@Prod.{0, 0} (@List.{0} (@Option.{0} @PySem.FnShape)) @Bool)) (@Option.{0} (@Prod.{0, 0} @PyProof.Rows.PlainShape @Bool))))) (@PyProof.Rows.plainSeenD @q [(PySem.Str.ofString "b1_set")] (@PySem.Shared.mk (@left_heap_177 (@PySem.World.params x0)) (@Array.mk.{0} @PySem.GenState []) (@PySem.Drawn.mk 0 0 0 0) (nat_lit 425) x1)) (@Prod.mk.{0, 0} (@Prod.{0, 0} (@List.{0} (@Option.{0} @PySem.FnShape)) @Bool) (@List.{0} (@Prod.{0, 0} (@Option.{0} (@Prod.{0, 0} (@List.{0} (@Option.{0} @PySem.FnShape)) @Bool)) (@Option.{0} (@Prod.{0, 0} @PyProof.Rows.PlainShape @Bool)))) (@PySem.W.wideSeen @q (@PySem.Shared.mk (@left_heap_177 (@PySem.World.params x0)) (@Array.mk.{0} @PySem.GenState []) (@PySem.Drawn.mk 0 0 0 0) (nat_lit 425) x1)) (@PySem.W.clsSeenW @q [(PySem.Str.ofString "b1_set")] (@PySem.Shared.mk (@left_heap_177 (@PySem.World.params x0)) (@Array.mk.{0} @PySem.GenState []) (@PySem.Drawn.mk 0 0 0 0) (nat_lit 425) x1))))))) (@Prod.mk.{0, 0} @Bool (@Prod.{0, 0} (@Prod.{0, 0} (@List.{0} (@Option.{0} @PySem.FnShape)) @Bool) (@Prod.{0, 0} (@List.{0} (@Option.{0} @PyProof.Rows.PlainShape)) (@Prod.{0, 0} (@List.{0} (@Option.{0} (@Prod.{0, 0} @PyProof.Rows.PlainShape @Bool))) (@Prod.{0, 0} (@Prod.{0, 0} (@List.{0} (@Option.{0} @PySem.FnShape)) @Bool) (@List.{0} (@Prod.{0, 0} (@Option.{0} (@Prod.{0, 0} (@List.{0} (@Option.{0} @PySem.FnShape)) @Bool)) (@Option.{0} (@Prod.{0, 0} @PyProof.Rows.PlainShape @Bool)))))))) @Bool.true (@Prod.mk.{0, 0} (@Prod.{0, 0} (@List.{0} (@Option.{0} @PySem.FnShape)) @Bool) (@Prod.{0, 0} (@List.{0} (@Option.{0} @PyProof.Rows.PlainShape)) (@Prod.{0, 0} (@List.{0} (@Option.{0} (@Prod.{0, 0} @PyProof.Rows.PlainShape @Bool))) (@Prod.{0, 0} (@Prod.{0, 0} (@List.{0} (@Option.{0} @PySem.FnShape)) @Bool) (@List.{0} (@Prod.{0, 0} (@Option.{0} (@Prod.{0, 0} (@List.{0} (@Option.{0} @PySem.FnShape)) @Bool)) (@Option.{0} (@Prod.{0, 0} @PyProof.Rows.PlainShape @Bool))))))) (@PySem.pinGoodD (@PyProof.Rows.drecsOf @q)) (@Prod.mk.{0, 0} (@List.{0} (@Option.{0} @PyProof.Rows.PlainShape)) (@Prod.{0, 0} (@List.{0} (@Option.{0} (@Prod.{0, 0} @PyProof.Rows.PlainShape @Bool))) (@Prod.{0, 0} (@Prod.{0, 0} (@List.{0} (@Option.{0} @PySem.FnShape)) @Bool) (@List.{0} (@Prod.{0, 0} (@Option.{0} (@Prod.{0, 0} (@List.{0} (@Option.{0} @PySem.FnShape)) @Bool)) (@Option.{0} (@Prod.{0, 0} @PyProof.Rows.PlainShape @Bool)))))) (@PyProof.Rows.plainGoodE @q (@PySem.W.looseW @q [(PySem.Str.ofString "b1_set")])) (@Prod.mk.{0, 0} (@List.{0} (@Option.{0} (@Prod.{0, 0} @PyProof.Rows.PlainShape @Bool))) (@Prod.{0, 0} (@Prod.{0, 0} (@List.{0} (@Option.{0} @PySem.FnShape)) @Bool) (@List.{0} (@Prod.{0, 0} (@Option.{0} (@Prod.{0, 0} (@List.{0} (@Option.{0} @PySem.FnShape)) @Bool)) (@Option.{0} (@Prod.{0, 0} @PyProof.Rows.PlainShape @Bool))))) (@PyProof.Rows.plainGoodD @q [(PySem.Str.ofString "b1_set")]) (@Prod.mk.{0, 0} (@Prod.{0, 0} (@List.{0} (@Option.{0} @PySem.FnShape)) @Bool) (@List.{0} (@Prod.{0, 0} (@Option.{0} (@Prod.{0, 0} (@List.{0} (@Option.{0} @PySem.FnShape)) @Bool)) (@Option.{0} (@Prod.{0, 0} @PyProof.Rows.PlainShape @Bool)))) (@PySem.W.wideGood @q) (@PySem.W.clsGoodW @q [(PySem.Str.ofString "b1_set")])))))) ((fun (x2 : @PySem.World) => (fun (x3 : @PySem.OsState) => (@congrFun.{0+1, 0+1} @PySem.OsState (fun (x4 : @PySem.OsState) => @Bool) (fun (x4 : @PySem.OsState) => (@Bool.and (@Bool.and (@Bool.and (@Bool.and (@Bool.and (@Bool.and (@PySem.Heap.keysOk (@PySem.Shared.heap (@PySem.Shared.mk (@left_heap_177 (@PySem.World.params x2)) (@Array.mk.{0} @PySem.GenState []) (@PySem.Drawn.mk 0 0 0 0) (nat_lit 425) x4)) (@PySem.W.looseW @q [(PySem.Str.ofString "b1_set")]) (@List.map.{0, 0} @PySem.DefRec @PySem.Str (fun (x5 : @PySem.DefRec) => (@PySem.DefRec.name x5)) (@PyProof.Rows.recsOf @q)) (@List.map.{0, 0} (@Prod.{0, 0} @PySem.Str @PySem.PyData) @PySem.Str (fun (x5 : (@Prod.{0, 0} @PySem.Str @PySem.PyData)) => (@Prod.fst.{0, 0} @PySem.Str @PySem.PyData x5)) (@PyProof.Rows.litsOf @q)) (@List.map.{0, 0} @PySem.ClsRec @PySem.Str (fun (x5 : @PySem.ClsRec) => (@PySem.ClsRec.name x5)) (@PyProof.Rows.clssOf @q (@PySem.W.looseW @q [(PySem.Str.ofString "b1_set")])))) (@PySem.Heap.accountedOkI (@PySem.Shared.heap (@PySem.Shared.mk (@left_heap_177 (@PySem.World.params x2)) (@Array.mk.{0} @PySem.GenState []) (@PySem.Drawn.mk 0 0 0 0) (nat_lit 425) x4)) (@PySem.importedModules (@PySem.Module.body (@PySem.Program.main @PySem.Challenge.pw_tr0009_01))))) (@PySem.Heap.isNs (@PySem.Shared.heap (@PySem.Shared.mk (@left_heap_177 (@PySem.World.params x2)) (@Array.mk.{0} @PySem.GenState []) (@PySem.Drawn.mk 0 0 0 0) (nat_lit 425) x4)) @PySem.mainGlobals)) (@PySem.Heap.isNs (@PySem.Shared.heap (@PySem.Shared.mk (@left_heap_177 (@PySem.World.params x2)) (@Array.mk.{0} @PySem.GenState []) (@PySem.Drawn.mk 0 0 0 0) (nat_lit 425) x4)) @PySem.builtinsNs)) (@PyProof.Rows.tablesOk @q (@PySem.Shared.heap (@PySem.Shared.mk (@left_heap_177 (@PySem.World.params x2)) (@Array.mk.{0} @PySem.GenState []) (@PySem.Drawn.mk 0 0 0 0) (nat_lit 425) x4)))) ((fun (x5 : @PySem.Shared) => (@Bool.and (@PySem.W.xlAt @q [] x5) (@PySem.W.recOk (@PySem.W.RowW.records (@PySem.W.OpenRow.toRowW (@PySem.W.OpenLaw.row @PySem.Challenge.rw_tr0009_01))) x5))) (@PySem.Shared.mk (@left_heap_177 (@PySem.World.params x2)) (@Array.mk.{0} @PySem.GenState []) (@PySem.Drawn.mk 0 0 0 0) (nat_lit 425) x4))) (@ite.{0+1} @Bool (@Eq.{0+1} @Bool @Bool.true @Bool.true) (@instDecidableEqBool @Bool.true @Bool.true) (@BEq.beq.{0} @Nat (@instBEqOfDecidableEq.{0} @Nat @instDecidableEqNat) (@Array.size.{0} @PySem.GenState (@PySem.Shared.gens (@PySem.Shared.mk (@left_heap_177 (@PySem.World.params x2)) (@Array.mk.{0} @PySem.GenState []) (@PySem.Drawn.mk 0 0 0 0) (nat_lit 425) x4))) 0) (@Bool.not (@PySem.leftWithCleanup (@PySem.Shared.gens (@PySem.Shared.mk (@left_heap_177 (@PySem.World.params x2)) (@Array.mk.{0} @PySem.GenState []) (@PySem.Drawn.mk 0 0 0 0) (nat_lit 425) x4))))))) (fun (x4 : @PySem.OsState) => @Bool.true) (@left__proof_196 x2) x3))) x0 x1) (@left__proof_219 x0 x1))))
theorem left__proof_221 : ((x0 : @PySem.World) → ((x1 : @PySem.OsState) → (@Eq.{0+1} (@Prod.{0, 0} (@Prod.{0, 0} (@Option.{0} @PySem.Str) (@List.{0} (@Prod.{0, 0} @PySem.Str @PySem.Value))) (@Prod.{0, 0} @Bool (@Prod.{0, 0} @Bool (@Prod.{0, 0} (@Prod.{0, 0} (@List.{0} (@Option.{0} @PySem.FnShape)) @Bool) (@Prod.{0, 0} (@List.{0} (@Option.{0} @PyProof.Rows.PlainShape)) (@Prod.{0, 0} (@List.{0} (@Option.{0} (@Prod.{0, 0} @PyProof.Rows.PlainShape @Bool))) (@Prod.{0, 0} (@Prod.{0, 0} (@List.{0} (@Option.{0} @PySem.FnShape)) @Bool) (@List.{0} (@Prod.{0, 0} (@Option.{0} (@Prod.{0, 0} (@List.{0} (@Option.{0} @PySem.FnShape)) @Bool)) (@Option.{0} (@Prod.{0, 0} @PyProof.Rows.PlainShape @Bool))))))))))) (@Prod.mk.{0, 0} (@Prod.{0, 0} (@Option.{0} @PySem.Str) (@List.{0} (@Prod.{0, 0} @PySem.Str @PySem.Value))) (@Prod.{0, 0} @Bool (@Prod.{0, 0} @Bool (@Prod.{0, 0} (@Prod.{0, 0} (@List.{0} (@Option.{0} @PySem.FnShape)) @Bool) (@Prod.{0, 0} (@List.{0} (@Option.{0} @PyProof.Rows.PlainShape)) (@Prod.{0, 0} (@List.{0} (@Option.{0} (@Prod.{0, 0} @PyProof.Rows.PlainShape @Bool))) (@Prod.{0, 0} (@Prod.{0, 0} (@List.{0} (@Option.{0} @PySem.FnShape)) @Bool) (@List.{0} (@Prod.{0, 0} (@Option.{0} (@Prod.{0, 0} (@List.{0} (@Option.{0} @PySem.FnShape)) @Bool)) (@Option.{0} (@Prod.{0, 0} @PyProof.Rows.PlainShape @Bool)))))))))) (@PySem.Heap.bltView (@PySem.Shared.heap (@PySem.Shared.mk (@left_heap_177 (@PySem.World.params x0)) (@Array.mk.{0} @PySem.GenState []) (@PySem.Drawn.mk 0 0 0 0) (nat_lit 425) x1))) (@Prod.mk.{0, 0} @Bool (@Prod.{0, 0} @Bool (@Prod.{0, 0} (@Prod.{0, 0} (@List.{0} (@Option.{0} @PySem.FnShape)) @Bool) (@Prod.{0, 0} (@List.{0} (@Option.{0} @PyProof.Rows.PlainShape)) (@Prod.{0, 0} (@List.{0} (@Option.{0} (@Prod.{0, 0} @PyProof.Rows.PlainShape @Bool))) (@Prod.{0, 0} (@Prod.{0, 0} (@List.{0} (@Option.{0} @PySem.FnShape)) @Bool) (@List.{0} (@Prod.{0, 0} (@Option.{0} (@Prod.{0, 0} (@List.{0} (@Option.{0} @PySem.FnShape)) @Bool)) (@Option.{0} (@Prod.{0, 0} @PyProof.Rows.PlainShape @Bool))))))))) (@Bool.and (@Bool.and (@Bool.and (@Bool.and (@Bool.and (@Bool.and (@PySem.Heap.keysOk (@PySem.Shared.heap (@PySem.Shared.mk (@left_heap_177 (@PySem.World.params x0)) (@Array.mk.{0} @PySem.GenState []) (@PySem.Drawn.mk 0 0 0 0) (nat_lit 425) x1)) (@PySem.W.looseW @q [(PySem.Str.ofString "b1_set")]) (@List.map.{0, 0} @PySem.DefRec @PySem.Str (fun (x2 : @PySem.DefRec) => (@PySem.DefRec.name x2)) (@PyProof.Rows.recsOf @q)) (@List.map.{0, 0} (@Prod.{0, 0} @PySem.Str @PySem.PyData) @PySem.Str (fun (x2 : (@Prod.{0, 0} @PySem.Str @PySem.PyData)) => (@Prod.fst.{0, 0} @PySem.Str @PySem.PyData x2)) (@PyProof.Rows.litsOf @q)) (@List.map.{0, 0} @PySem.ClsRec @PySem.Str (fun (x2 : @PySem.ClsRec) => (@PySem.ClsRec.name x2)) (@PyProof.Rows.clssOf @q (@PySem.W.looseW @q [(PySem.Str.ofString "b1_set")])))) (@PySem.Heap.accountedOkI (@PySem.Shared.heap (@PySem.Shared.mk (@left_heap_177 (@PySem.World.params x0)) (@Array.mk.{0} @PySem.GenState []) (@PySem.Drawn.mk 0 0 0 0) (nat_lit 425) x1)) (@PySem.importedModules (@PySem.Module.body (@PySem.Program.main @PySem.Challenge.pw_tr0009_01))))) (@PySem.Heap.isNs (@PySem.Shared.heap (@PySem.Shared.mk (@left_heap_177 (@PySem.World.params x0)) (@Array.mk.{0} @PySem.GenState []) (@PySem.Drawn.mk 0 0 0 0) (nat_lit 425) x1)) @PySem.mainGlobals)) (@PySem.Heap.isNs (@PySem.Shared.heap (@PySem.Shared.mk (@left_heap_177 (@PySem.World.params x0)) (@Array.mk.{0} @PySem.GenState []) (@PySem.Drawn.mk 0 0 0 0) (nat_lit 425) x1)) @PySem.builtinsNs)) (@PyProof.Rows.tablesOk @q (@PySem.Shared.heap (@PySem.Shared.mk (@left_heap_177 (@PySem.World.params x0)) (@Array.mk.{0} @PySem.GenState []) (@PySem.Drawn.mk 0 0 0 0) (nat_lit 425) x1)))) ((fun (x2 : @PySem.Shared) => (@Bool.and (@PySem.W.xlAt @q [] x2) (@PySem.W.recOk (@PySem.W.RowW.records (@PySem.W.OpenRow.toRowW (@PySem.W.OpenLaw.row @PySem.Challenge.rw_tr0009_01))) x2))) (@PySem.Shared.mk (@left_heap_177 (@PySem.World.params x0)) (@Array.mk.{0} @PySem.GenState []) (@PySem.Drawn.mk 0 0 0 0) (nat_lit 425) x1))) (@ite.{0+1} @Bool (@Eq.{0+1} @Bool @Bool.true @Bool.true) (@instDecidableEqBool @Bool.true @Bool.true) (@BEq.beq.{0} @Nat (@instBEqOfDecidableEq.{0} @Nat @instDecidableEqNat) (@Array.size.{0} @PySem.GenState (@PySem.Shared.gens (@PySem.Shared.mk (@left_heap_177 (@PySem.World.params x0)) (@Array.mk.{0} @PySem.GenState []) (@PySem.Drawn.mk 0 0 0 0) (nat_lit 425) x1))) 0) (@Bool.not (@PySem.leftWithCleanup (@PySem.Shared.gens (@PySem.Shared.mk (@left_heap_177 (@PySem.World.params x0)) (@Array.mk.{0} @PySem.GenState []) (@PySem.Drawn.mk 0 0 0 0) (nat_lit 425) x1)))))) (@Prod.mk.{0, 0} @Bool (@Prod.{0, 0} (@Prod.{0, 0} (@List.{0} (@Option.{0} @PySem.FnShape)) @Bool) (@Prod.{0, 0} (@List.{0} (@Option.{0} @PyProof.Rows.PlainShape)) (@Prod.{0, 0} (@List.{0} (@Option.{0} (@Prod.{0, 0} @PyProof.Rows.PlainShape @Bool))) (@Prod.{0, 0} (@Prod.{0, 0} (@List.{0} (@Option.{0} @PySem.FnShape)) @Bool) (@List.{0} (@Prod.{0, 0} (@Option.{0} (@Prod.{0, 0} (@List.{0} (@Option.{0} @PySem.FnShape)) @Bool)) (@Option.{0} (@Prod.{0, 0} @PyProof.Rows.PlainShape @Bool)))))))) (@PyProof.Rows.tabsOk @q (@PySem.Shared.mk (@left_heap_177 (@PySem.World.params x0)) (@Array.mk.{0} @PySem.GenState []) (@PySem.Drawn.mk 0 0 0 0) (nat_lit 425) x1)) (@Prod.mk.{0, 0} (@Prod.{0, 0} (@List.{0} (@Option.{0} @PySem.FnShape)) @Bool) (@Prod.{0, 0} (@List.{0} (@Option.{0} @PyProof.Rows.PlainShape)) (@Prod.{0, 0} (@List.{0} (@Option.{0} (@Prod.{0, 0} @PyProof.Rows.PlainShape @Bool))) (@Prod.{0, 0} (@Prod.{0, 0} (@List.{0} (@Option.{0} @PySem.FnShape)) @Bool) (@List.{0} (@Prod.{0, 0} (@Option.{0} (@Prod.{0, 0} (@List.{0} (@Option.{0} @PySem.FnShape)) @Bool)) (@Option.{0} (@Prod.{0, 0} @PyProof.Rows.PlainShape @Bool))))))) (@PySem.pinSeenD @q (@PyProof.Rows.drecsOf @q) (@PySem.Shared.mk (@left_heap_177 (@PySem.World.params x0)) (@Array.mk.{0} @PySem.GenState []) (@PySem.Drawn.mk 0 0 0 0) (nat_lit 425) x1)) (@Prod.mk.{0, 0} (@List.{0} (@Option.{0} @PyProof.Rows.PlainShape)) (@Prod.{0, 0} (@List.{0} (@Option.{0} (@Prod.{0, 0} @PyProof.Rows.PlainShape @Bool))) (@Prod.{0, 0} (@Prod.{0, 0} (@List.{0} (@Option.{0} @PySem.FnShape)) @Bool) (@List.{0} (@Prod.{0, 0} (@Option.{0} (@Prod.{0, 0} (@List.{0} (@Option.{0} @PySem.FnShape)) @Bool)) (@Option.{0} (@Prod.{0, 0} @PyProof.Rows.PlainShape @Bool)))))) (@PyProof.Rows.plainSeenE @q (@PySem.W.looseW @q [(PySem.Str.ofString "b1_set")]) (@PySem.Shared.mk (@left_heap_177 (@PySem.World.params x0)) (@Array.mk.{0} @PySem.GenState []) (@PySem.Drawn.mk 0 0 0 0) (nat_lit 425) x1)) (@Prod.mk.{0, 0} (@List.{0} (@Option.{0} (@Prod.{0, 0} @PyProof.Rows.PlainShape @Bool))) (@Prod.{0, 0} (@Prod.{0, 0} (@List.{0} (@Option.{0} @PySem.FnShape)) @Bool) (@List.{0} (@Prod.{0, 0} (@Option.{0} (@Prod.{0, 0} (@List.{0} (@Option.{0} @PySem.FnShape)) @Bool)) (@Option.{0} (@Prod.{0, 0} @PyProof.Rows.PlainShape @Bool))))) (@PyProof.Rows.plainSeenD @q [(PySem.Str.ofString "b1_set")] (@PySem.Shared.mk (@left_heap_177 (@PySem.World.params x0)) (@Array.mk.{0} @PySem.GenState []) (@PySem.Drawn.mk 0 0 0 0) (nat_lit 425) x1)) (@Prod.mk.{0, 0} (@Prod.{0, 0} (@List.{0} (@Option.{0} @PySem.FnShape)) @Bool) (@List.{0} (@Prod.{0, 0} (@Option.{0} (@Prod.{0, 0} (@List.{0} (@Option.{0} @PySem.FnShape)) @Bool)) (@Option.{0} (@Prod.{0, 0} @PyProof.Rows.PlainShape @Bool)))) (@PySem.W.wideSeen @q (@PySem.Shared.mk (@left_heap_177 (@PySem.World.params x0)) (@Array.mk.{0} @PySem.GenState []) (@PySem.Drawn.mk 0 0 0 0) (nat_lit 425) x1)) (@PySem.W.clsSeenW @q [(PySem.Str.ofString "b1_set")] (@PySem.Shared.mk (@left_heap_177 (@PySem.World.params x0)) (@Array.mk.{0} @PySem.GenState []) (@PySem.Drawn.mk 0 0 0 0) (nat_lit 425) x1))))))))) (@Prod.mk.{0, 0} (@Prod.{0, 0} (@Option.{0} @PySem.Str) (@List.{0} (@Prod.{0, 0} @PySem.Str @PySem.Value))) (@Prod.{0, 0} @Bool (@Prod.{0, 0} @Bool (@Prod.{0, 0} (@Prod.{0, 0} (@List.{0} (@Option.{0} @PySem.FnShape)) @Bool) (@Prod.{0, 0} (@List.{0} (@Option.{0} @PyProof.Rows.PlainShape)) (@Prod.{0, 0} (@List.{0} (@Option.{0} (@Prod.{0, 0} @PyProof.Rows.PlainShape @Bool))) (@Prod.{0, 0} (@Prod.{0, 0} (@List.{0} (@Option.{0} @PySem.FnShape)) @Bool) (@List.{0} (@Prod.{0, 0} (@Option.{0} (@Prod.{0, 0} (@List.{0} (@Option.{0} @PySem.FnShape)) @Bool)) (@Option.{0} (@Prod.{0, 0} @PyProof.Rows.PlainShape @Bool)))))))))) @PySem.bltViewBooted (@Prod.mk.{0, 0} @Bool (@Prod.{0, 0} @Bool (@Prod.{0, 0} (@Prod.{0, 0} (@List.{0} (@Option.{0} @PySem.FnShape)) @Bool) (@Prod.{0, 0} (@List.{0} (@Option.{0} @PyProof.Rows.PlainShape)) (@Prod.{0, 0} (@List.{0} (@Option.{0} (@Prod.{0, 0} @PyProof.Rows.PlainShape @Bool))) (@Prod.{0, 0} (@Prod.{0, 0} (@List.{0} (@Option.{0} @PySem.FnShape)) @Bool) (@List.{0} (@Prod.{0, 0} (@Option.{0} (@Prod.{0, 0} (@List.{0} (@Option.{0} @PySem.FnShape)) @Bool)) (@Option.{0} (@Prod.{0, 0} @PyProof.Rows.PlainShape @Bool))))))))) @Bool.true (@Prod.mk.{0, 0} @Bool (@Prod.{0, 0} (@Prod.{0, 0} (@List.{0} (@Option.{0} @PySem.FnShape)) @Bool) (@Prod.{0, 0} (@List.{0} (@Option.{0} @PyProof.Rows.PlainShape)) (@Prod.{0, 0} (@List.{0} (@Option.{0} (@Prod.{0, 0} @PyProof.Rows.PlainShape @Bool))) (@Prod.{0, 0} (@Prod.{0, 0} (@List.{0} (@Option.{0} @PySem.FnShape)) @Bool) (@List.{0} (@Prod.{0, 0} (@Option.{0} (@Prod.{0, 0} (@List.{0} (@Option.{0} @PySem.FnShape)) @Bool)) (@Option.{0} (@Prod.{0, 0} @PyProof.Rows.PlainShape @Bool)))))))) @Bool.true (@Prod.mk.{0, 0} (@Prod.{0, 0} (@List.{0} (@Option.{0} @PySem.FnShape)) @Bool) (@Prod.{0, 0} (@List.{0} (@Option.{0} @PyProof.Rows.PlainShape)) (@Prod.{0, 0} (@List.{0} (@Option.{0} (@Prod.{0, 0} @PyProof.Rows.PlainShape @Bool))) (@Prod.{0, 0} (@Prod.{0, 0} (@List.{0} (@Option.{0} @PySem.FnShape)) @Bool) (@List.{0} (@Prod.{0, 0} (@Option.{0} (@Prod.{0, 0} (@List.{0} (@Option.{0} @PySem.FnShape)) @Bool)) (@Option.{0} (@Prod.{0, 0} @PyProof.Rows.PlainShape @Bool))))))) (@PySem.pinGoodD (@PyProof.Rows.drecsOf @q)) (@Prod.mk.{0, 0} (@List.{0} (@Option.{0} @PyProof.Rows.PlainShape)) (@Prod.{0, 0} (@List.{0} (@Option.{0} (@Prod.{0, 0} @PyProof.Rows.PlainShape @Bool))) (@Prod.{0, 0} (@Prod.{0, 0} (@List.{0} (@Option.{0} @PySem.FnShape)) @Bool) (@List.{0} (@Prod.{0, 0} (@Option.{0} (@Prod.{0, 0} (@List.{0} (@Option.{0} @PySem.FnShape)) @Bool)) (@Option.{0} (@Prod.{0, 0} @PyProof.Rows.PlainShape @Bool)))))) (@PyProof.Rows.plainGoodE @q (@PySem.W.looseW @q [(PySem.Str.ofString "b1_set")])) (@Prod.mk.{0, 0} (@List.{0} (@Option.{0} (@Prod.{0, 0} @PyProof.Rows.PlainShape @Bool))) (@Prod.{0, 0} (@Prod.{0, 0} (@List.{0} (@Option.{0} @PySem.FnShape)) @Bool) (@List.{0} (@Prod.{0, 0} (@Option.{0} (@Prod.{0, 0} (@List.{0} (@Option.{0} @PySem.FnShape)) @Bool)) (@Option.{0} (@Prod.{0, 0} @PyProof.Rows.PlainShape @Bool))))) (@PyProof.Rows.plainGoodD @q [(PySem.Str.ofString "b1_set")]) (@Prod.mk.{0, 0} (@Prod.{0, 0} (@List.{0} (@Option.{0} @PySem.FnShape)) @Bool) (@List.{0} (@Prod.{0, 0} (@Option.{0} (@Prod.{0, 0} (@List.{0} (@Option.{0} @PySem.FnShape)) @Bool)) (@Option.{0} (@Prod.{0, 0} @PyProof.Rows.PlainShape @Bool)))) (@PySem.W.wideGood @q) (@PySem.W.clsGoodW @q [(PySem.Str.ofString "b1_set")]))))))))))) :=
  (fun (x0 : @PySem.World) => (fun (x1 : @PySem.OsState) => (@PySem.W.looks_pair (@Prod.{0, 0} (@Option.{0} @PySem.Str) (@List.{0} (@Prod.{0, 0} @PySem.Str @PySem.Value))) (@Prod.{0, 0} @Bool (@Prod.{0, 0} @Bool (@Prod.{0, 0} (@Prod.{0, 0} (@List.{0} (@Option.{0} @PySem.FnShape)) @Bool) (@Prod.{0, 0} (@List.{0} (@Option.{0} @PyProof.Rows.PlainShape)) (@Prod.{0, 0} (@List.{0} (@Option.{0} (@Prod.{0, 0} @PyProof.Rows.PlainShape @Bool))) (@Prod.{0, 0} (@Prod.{0, 0} (@List.{0} (@Option.{0} @PySem.FnShape)) @Bool) (@List.{0} (@Prod.{0, 0} (@Option.{0} (@Prod.{0, 0} (@List.{0} (@Option.{0} @PySem.FnShape)) @Bool)) (@Option.{0} (@Prod.{0, 0} @PyProof.Rows.PlainShape @Bool)))))))))) (@PySem.Heap.bltView (@PySem.Shared.heap (@PySem.Shared.mk (@left_heap_177 (@PySem.World.params x0)) (@Array.mk.{0} @PySem.GenState []) (@PySem.Drawn.mk 0 0 0 0) (nat_lit 425) x1))) @PySem.bltViewBooted (@Prod.mk.{0, 0} @Bool (@Prod.{0, 0} @Bool (@Prod.{0, 0} (@Prod.{0, 0} (@List.{0} (@Option.{0} @PySem.FnShape)) @Bool) (@Prod.{0, 0} (@List.{0} (@Option.{0} @PyProof.Rows.PlainShape)) (@Prod.{0, 0} (@List.{0} (@Option.{0} (@Prod.{0, 0} @PyProof.Rows.PlainShape @Bool))) (@Prod.{0, 0} (@Prod.{0, 0} (@List.{0} (@Option.{0} @PySem.FnShape)) @Bool) (@List.{0} (@Prod.{0, 0} (@Option.{0} (@Prod.{0, 0} (@List.{0} (@Option.{0} @PySem.FnShape)) @Bool)) (@Option.{0} (@Prod.{0, 0} @PyProof.Rows.PlainShape @Bool))))))))) (@Bool.and (@Bool.and (@Bool.and (@Bool.and (@Bool.and (@Bool.and (@PySem.Heap.keysOk (@PySem.Shared.heap (@PySem.Shared.mk (@left_heap_177 (@PySem.World.params x0)) (@Array.mk.{0} @PySem.GenState []) (@PySem.Drawn.mk 0 0 0 0) (nat_lit 425) x1)) (@PySem.W.looseW @q [(PySem.Str.ofString "b1_set")]) (@List.map.{0, 0} @PySem.DefRec @PySem.Str (fun (x2 : @PySem.DefRec) => (@PySem.DefRec.name x2)) (@PyProof.Rows.recsOf @q)) (@List.map.{0, 0} (@Prod.{0, 0} @PySem.Str @PySem.PyData) @PySem.Str (fun (x2 : (@Prod.{0, 0} @PySem.Str @PySem.PyData)) => (@Prod.fst.{0, 0} @PySem.Str @PySem.PyData x2)) (@PyProof.Rows.litsOf @q)) (@List.map.{0, 0} @PySem.ClsRec @PySem.Str (fun (x2 : @PySem.ClsRec) => (@PySem.ClsRec.name x2)) (@PyProof.Rows.clssOf @q (@PySem.W.looseW @q [(PySem.Str.ofString "b1_set")])))) (@PySem.Heap.accountedOkI (@PySem.Shared.heap (@PySem.Shared.mk (@left_heap_177 (@PySem.World.params x0)) (@Array.mk.{0} @PySem.GenState []) (@PySem.Drawn.mk 0 0 0 0) (nat_lit 425) x1)) (@PySem.importedModules (@PySem.Module.body (@PySem.Program.main @PySem.Challenge.pw_tr0009_01))))) (@PySem.Heap.isNs (@PySem.Shared.heap (@PySem.Shared.mk (@left_heap_177 (@PySem.World.params x0)) (@Array.mk.{0} @PySem.GenState []) (@PySem.Drawn.mk 0 0 0 0) (nat_lit 425) x1)) @PySem.mainGlobals)) (@PySem.Heap.isNs (@PySem.Shared.heap (@PySem.Shared.mk (@left_heap_177 (@PySem.World.params x0)) (@Array.mk.{0} @PySem.GenState []) (@PySem.Drawn.mk 0 0 0 0) (nat_lit 425) x1)) @PySem.builtinsNs)) (@PyProof.Rows.tablesOk @q (@PySem.Shared.heap (@PySem.Shared.mk (@left_heap_177 (@PySem.World.params x0)) (@Array.mk.{0} @PySem.GenState []) (@PySem.Drawn.mk 0 0 0 0) (nat_lit 425) x1)))) ((fun (x2 : @PySem.Shared) => (@Bool.and (@PySem.W.xlAt @q [] x2) (@PySem.W.recOk (@PySem.W.RowW.records (@PySem.W.OpenRow.toRowW (@PySem.W.OpenLaw.row @PySem.Challenge.rw_tr0009_01))) x2))) (@PySem.Shared.mk (@left_heap_177 (@PySem.World.params x0)) (@Array.mk.{0} @PySem.GenState []) (@PySem.Drawn.mk 0 0 0 0) (nat_lit 425) x1))) (@ite.{0+1} @Bool (@Eq.{0+1} @Bool @Bool.true @Bool.true) (@instDecidableEqBool @Bool.true @Bool.true) (@BEq.beq.{0} @Nat (@instBEqOfDecidableEq.{0} @Nat @instDecidableEqNat) (@Array.size.{0} @PySem.GenState (@PySem.Shared.gens (@PySem.Shared.mk (@left_heap_177 (@PySem.World.params x0)) (@Array.mk.{0} @PySem.GenState []) (@PySem.Drawn.mk 0 0 0 0) (nat_lit 425) x1))) 0) (@Bool.not (@PySem.leftWithCleanup (@PySem.Shared.gens (@PySem.Shared.mk (@left_heap_177 (@PySem.World.params x0)) (@Array.mk.{0} @PySem.GenState []) (@PySem.Drawn.mk 0 0 0 0) (nat_lit 425) x1)))))) (@Prod.mk.{0, 0} @Bool (@Prod.{0, 0} (@Prod.{0, 0} (@List.{0} (@Option.{0} @PySem.FnShape)) @Bool) (@Prod.{0, 0} (@List.{0} (@Option.{0} @PyProof.Rows.PlainShape)) (@Prod.{0, 0} (@List.{0} (@Option.{0} (@Prod.{0, 0} @PyProof.Rows.PlainShape @Bool))) (@Prod.{0, 0} (@Prod.{0, 0} (@List.{0} (@Option.{0} @PySem.FnShape)) @Bool) (@List.{0} (@Prod.{0, 0} (@Option.{0} (@Prod.{0, 0} (@List.{0} (@Option.{0} @PySem.FnShape)) @Bool)) (@Option.{0} (@Prod.{0, 0} @PyProof.Rows.PlainShape @Bool)))))))) (@PyProof.Rows.tabsOk @q (@PySem.Shared.mk (@left_heap_177 (@PySem.World.params x0)) (@Array.mk.{0} @PySem.GenState []) (@PySem.Drawn.mk 0 0 0 0) (nat_lit 425) x1)) (@Prod.mk.{0, 0} (@Prod.{0, 0} (@List.{0} (@Option.{0} @PySem.FnShape)) @Bool) (@Prod.{0, 0} (@List.{0} (@Option.{0} @PyProof.Rows.PlainShape)) (@Prod.{0, 0} (@List.{0} (@Option.{0} (@Prod.{0, 0} @PyProof.Rows.PlainShape @Bool))) (@Prod.{0, 0} (@Prod.{0, 0} (@List.{0} (@Option.{0} @PySem.FnShape)) @Bool) (@List.{0} (@Prod.{0, 0} (@Option.{0} (@Prod.{0, 0} (@List.{0} (@Option.{0} @PySem.FnShape)) @Bool)) (@Option.{0} (@Prod.{0, 0} @PyProof.Rows.PlainShape @Bool))))))) (@PySem.pinSeenD @q (@PyProof.Rows.drecsOf @q) (@PySem.Shared.mk (@left_heap_177 (@PySem.World.params x0)) (@Array.mk.{0} @PySem.GenState []) (@PySem.Drawn.mk 0 0 0 0) (nat_lit 425) x1)) (@Prod.mk.{0, 0} (@List.{0} (@Option.{0} @PyProof.Rows.PlainShape)) (@Prod.{0, 0} (@List.{0} (@Option.{0} (@Prod.{0, 0} @PyProof.Rows.PlainShape @Bool))) (@Prod.{0, 0} (@Prod.{0, 0} (@List.{0} (@Option.{0} @PySem.FnShape)) @Bool) (@List.{0} (@Prod.{0, 0} (@Option.{0} (@Prod.{0, 0} (@List.{0} (@Option.{0} @PySem.FnShape)) @Bool)) (@Option.{0} (@Prod.{0, 0} @PyProof.Rows.PlainShape @Bool)))))) (@PyProof.Rows.plainSeenE @q (@PySem.W.looseW @q [(PySem.Str.ofString "b1_set")]) (@PySem.Shared.mk (@left_heap_177 (@PySem.World.params x0)) (@Array.mk.{0} @PySem.GenState []) (@PySem.Drawn.mk 0 0 0 0) (nat_lit 425) x1)) (@Prod.mk.{0, 0} (@List.{0} (@Option.{0} (@Prod.{0, 0} @PyProof.Rows.PlainShape @Bool))) (@Prod.{0, 0} (@Prod.{0, 0} (@List.{0} (@Option.{0} @PySem.FnShape)) @Bool) (@List.{0} (@Prod.{0, 0} (@Option.{0} (@Prod.{0, 0} (@List.{0} (@Option.{0} @PySem.FnShape)) @Bool)) (@Option.{0} (@Prod.{0, 0} @PyProof.Rows.PlainShape @Bool))))) (@PyProof.Rows.plainSeenD @q [(PySem.Str.ofString "b1_set")] (@PySem.Shared.mk (@left_heap_177 (@PySem.World.params x0)) (@Array.mk.{0} @PySem.GenState []) (@PySem.Drawn.mk 0 0 0 0) (nat_lit 425) x1)) (@Prod.mk.{0, 0} (@Prod.{0, 0} (@List.{0} (@Option.{0} @PySem.FnShape)) @Bool) (@List.{0} (@Prod.{0, 0} (@Option.{0} (@Prod.{0, 0} (@List.{0} (@Option.{0} @PySem.FnShape)) @Bool)) (@Option.{0} (@Prod.{0, 0} @PyProof.Rows.PlainShape @Bool)))) (@PySem.W.wideSeen @q (@PySem.Shared.mk (@left_heap_177 (@PySem.World.params x0)) (@Array.mk.{0} @PySem.GenState []) (@PySem.Drawn.mk 0 0 0 0) (nat_lit 425) x1)) (@PySem.W.clsSeenW @q [(PySem.Str.ofString "b1_set")] (@PySem.Shared.mk (@left_heap_177 (@PySem.World.params x0)) (@Array.mk.{0} @PySem.GenState []) (@PySem.Drawn.mk 0 0 0 0) (nat_lit 425) x1)))))))) (@Prod.mk.{0, 0} @Bool (@Prod.{0, 0} @Bool (@Prod.{0, 0} (@Prod.{0, 0} (@List.{0} (@Option.{0} @PySem.FnShape)) @Bool) (@Prod.{0, 0} (@List.{0} (@Option.{0} @PyProof.Rows.PlainShape)) (@Prod.{0, 0} (@List.{0} (@Option.{0} (@Prod.{0, 0} @PyProof.Rows.PlainShape @Bool))) (@Prod.{0, 0} (@Prod.{0, 0} (@List.{0} (@Option.{0} @PySem.FnShape)) @Bool) (@List.{0} (@Prod.{0, 0} (@Option.{0} (@Prod.{0, 0} (@List.{0} (@Option.{0} @PySem.FnShape)) @Bool)) (@Option.{0} (@Prod.{0, 0} @PyProof.Rows.PlainShape @Bool))))))))) @Bool.true (@Prod.mk.{0, 0} @Bool (@Prod.{0, 0} (@Prod.{0, 0} (@List.{0} (@Option.{0} @PySem.FnShape)) @Bool) (@Prod.{0, 0} (@List.{0} (@Option.{0} @PyProof.Rows.PlainShape)) (@Prod.{0, 0} (@List.{0} (@Option.{0} (@Prod.{0, 0} @PyProof.Rows.PlainShape @Bool))) (@Prod.{0, 0} (@Prod.{0, 0} (@List.{0} (@Option.{0} @PySem.FnShape)) @Bool) (@List.{0} (@Prod.{0, 0} (@Option.{0} (@Prod.{0, 0} (@List.{0} (@Option.{0} @PySem.FnShape)) @Bool)) (@Option.{0} (@Prod.{0, 0} @PyProof.Rows.PlainShape @Bool)))))))) @Bool.true (@Prod.mk.{0, 0} (@Prod.{0, 0} (@List.{0} (@Option.{0} @PySem.FnShape)) @Bool) (@Prod.{0, 0} (@List.{0} (@Option.{0} @PyProof.Rows.PlainShape)) (@Prod.{0, 0} (@List.{0} (@Option.{0} (@Prod.{0, 0} @PyProof.Rows.PlainShape @Bool))) (@Prod.{0, 0} (@Prod.{0, 0} (@List.{0} (@Option.{0} @PySem.FnShape)) @Bool) (@List.{0} (@Prod.{0, 0} (@Option.{0} (@Prod.{0, 0} (@List.{0} (@Option.{0} @PySem.FnShape)) @Bool)) (@Option.{0} (@Prod.{0, 0} @PyProof.Rows.PlainShape @Bool))))))) (@PySem.pinGoodD (@PyProof.Rows.drecsOf @q)) (@Prod.mk.{0, 0} (@List.{0} (@Option.{0} @PyProof.Rows.PlainShape)) (@Prod.{0, 0} (@List.{0} (@Option.{0} (@Prod.{0, 0} @PyProof.Rows.PlainShape @Bool))) (@Prod.{0, 0} (@Prod.{0, 0} (@List.{0} (@Option.{0} @PySem.FnShape)) @Bool) (@List.{0} (@Prod.{0, 0} (@Option.{0} (@Prod.{0, 0} (@List.{0} (@Option.{0} @PySem.FnShape)) @Bool)) (@Option.{0} (@Prod.{0, 0} @PyProof.Rows.PlainShape @Bool)))))) (@PyProof.Rows.plainGoodE @q (@PySem.W.looseW @q [(PySem.Str.ofString "b1_set")])) (@Prod.mk.{0, 0} (@List.{0} (@Option.{0} (@Prod.{0, 0} @PyProof.Rows.PlainShape @Bool))) (@Prod.{0, 0} (@Prod.{0, 0} (@List.{0} (@Option.{0} @PySem.FnShape)) @Bool) (@List.{0} (@Prod.{0, 0} (@Option.{0} (@Prod.{0, 0} (@List.{0} (@Option.{0} @PySem.FnShape)) @Bool)) (@Option.{0} (@Prod.{0, 0} @PyProof.Rows.PlainShape @Bool))))) (@PyProof.Rows.plainGoodD @q [(PySem.Str.ofString "b1_set")]) (@Prod.mk.{0, 0} (@Prod.{0, 0} (@List.{0} (@Option.{0} @PySem.FnShape)) @Bool) (@List.{0} (@Prod.{0, 0} (@Option.{0} (@Prod.{0, 0} (@List.{0} (@Option.{0} @PySem.FnShape)) @Bool)) (@Option.{0} (@Prod.{0, 0} @PyProof.Rows.PlainShape @Bool)))) (@PySem.W.wideGood @q) (@PySem.W.clsGoodW @q [(PySem.Str.ofString "b1_set")]))))))) ((fun (x2 : @PySem.World) => (fun (x3 : @PySem.OsState) => (@congrFun.{0+1, 0+1} @PySem.OsState (fun (x4 : @PySem.OsState) => (@Prod.{0, 0} (@Option.{0} @PySem.Str) (@List.{0} (@Prod.{0, 0} @PySem.Str @PySem.Value)))) (fun (x4 : @PySem.OsState) => (@PySem.Heap.bltView (@PySem.Shared.heap (@PySem.Shared.mk (@left_heap_177 (@PySem.World.params x2)) (@Array.mk.{0} @PySem.GenState []) (@PySem.Drawn.mk 0 0 0 0) (nat_lit 425) x4)))) (fun (x4 : @PySem.OsState) => @PySem.bltViewBooted) (@left__proof_193 x2) x3))) x0 x1) (@left__proof_220 x0 x1))))
theorem left__proof_222 : ((x0 : @PySem.World) → ((x1 : @PySem.OsState) → (@Eq.{0+1} (@Prod.{0, 0} @PyProof.Rows.Seen (@Prod.{0, 0} (@Prod.{0, 0} (@Option.{0} @PySem.Str) (@List.{0} (@Prod.{0, 0} @PySem.Str @PySem.Value))) (@Prod.{0, 0} @Bool (@Prod.{0, 0} @Bool (@Prod.{0, 0} (@Prod.{0, 0} (@List.{0} (@Option.{0} @PySem.FnShape)) @Bool) (@Prod.{0, 0} (@List.{0} (@Option.{0} @PyProof.Rows.PlainShape)) (@Prod.{0, 0} (@List.{0} (@Option.{0} (@Prod.{0, 0} @PyProof.Rows.PlainShape @Bool))) (@Prod.{0, 0} (@Prod.{0, 0} (@List.{0} (@Option.{0} @PySem.FnShape)) @Bool) (@List.{0} (@Prod.{0, 0} (@Option.{0} (@Prod.{0, 0} (@List.{0} (@Option.{0} @PySem.FnShape)) @Bool)) (@Option.{0} (@Prod.{0, 0} @PyProof.Rows.PlainShape @Bool)))))))))))) (@PySem.W.openSeen @q [(PySem.Str.ofString "b1_set")] (@PySem.importedModules (@PySem.Module.body (@PySem.Program.main @PySem.Challenge.pw_tr0009_01))) (fun (x2 : @PySem.Shared) => (@Bool.and (@PySem.W.xlAt @q [] x2) (@PySem.W.recOk (@PySem.W.RowW.records (@PySem.W.OpenRow.toRowW (@PySem.W.OpenLaw.row @PySem.Challenge.rw_tr0009_01))) x2))) @Bool.true (@PySem.Shared.mk (@left_heap_177 (@PySem.World.params x0)) (@Array.mk.{0} @PySem.GenState []) (@PySem.Drawn.mk 0 0 0 0) (nat_lit 425) x1)) (@PySem.W.openGood @q [(PySem.Str.ofString "b1_set")])))) :=
  (fun (x0 : @PySem.World) => (fun (x1 : @PySem.OsState) => (@PySem.W.looks_pair @PyProof.Rows.Seen (@Prod.{0, 0} (@Prod.{0, 0} (@Option.{0} @PySem.Str) (@List.{0} (@Prod.{0, 0} @PySem.Str @PySem.Value))) (@Prod.{0, 0} @Bool (@Prod.{0, 0} @Bool (@Prod.{0, 0} (@Prod.{0, 0} (@List.{0} (@Option.{0} @PySem.FnShape)) @Bool) (@Prod.{0, 0} (@List.{0} (@Option.{0} @PyProof.Rows.PlainShape)) (@Prod.{0, 0} (@List.{0} (@Option.{0} (@Prod.{0, 0} @PyProof.Rows.PlainShape @Bool))) (@Prod.{0, 0} (@Prod.{0, 0} (@List.{0} (@Option.{0} @PySem.FnShape)) @Bool) (@List.{0} (@Prod.{0, 0} (@Option.{0} (@Prod.{0, 0} (@List.{0} (@Option.{0} @PySem.FnShape)) @Bool)) (@Option.{0} (@Prod.{0, 0} @PyProof.Rows.PlainShape @Bool))))))))))) (@PyProof.Rows.seen (@List.map.{0, 0} @PySem.DefRec @PySem.Str (fun (x2 : @PySem.DefRec) => (@PySem.DefRec.name x2)) (@PyProof.Rows.recsOf @q)) (@PyProof.Rows.ownsOf @q) [] (@PySem.Shared.mk (@PySem.Shared.heap (@PySem.Shared.mk (@left_heap_177 (@PySem.World.params x0)) (@Array.mk.{0} @PySem.GenState []) (@PySem.Drawn.mk 0 0 0 0) (nat_lit 425) x1)) #[] (@PySem.Shared.drawn (@PySem.Shared.mk (@left_heap_177 (@PySem.World.params x0)) (@Array.mk.{0} @PySem.GenState []) (@PySem.Drawn.mk 0 0 0 0) (nat_lit 425) x1)) (@PySem.Shared.toks (@PySem.Shared.mk (@left_heap_177 (@PySem.World.params x0)) (@Array.mk.{0} @PySem.GenState []) (@PySem.Drawn.mk 0 0 0 0) (nat_lit 425) x1)) (@PySem.Shared.os (@PySem.Shared.mk (@left_heap_177 (@PySem.World.params x0)) (@Array.mk.{0} @PySem.GenState []) (@PySem.Drawn.mk 0 0 0 0) (nat_lit 425) x1)))) (@PyProof.Rows.expectedOf @q) (@Prod.mk.{0, 0} (@Prod.{0, 0} (@Option.{0} @PySem.Str) (@List.{0} (@Prod.{0, 0} @PySem.Str @PySem.Value))) (@Prod.{0, 0} @Bool (@Prod.{0, 0} @Bool (@Prod.{0, 0} (@Prod.{0, 0} (@List.{0} (@Option.{0} @PySem.FnShape)) @Bool) (@Prod.{0, 0} (@List.{0} (@Option.{0} @PyProof.Rows.PlainShape)) (@Prod.{0, 0} (@List.{0} (@Option.{0} (@Prod.{0, 0} @PyProof.Rows.PlainShape @Bool))) (@Prod.{0, 0} (@Prod.{0, 0} (@List.{0} (@Option.{0} @PySem.FnShape)) @Bool) (@List.{0} (@Prod.{0, 0} (@Option.{0} (@Prod.{0, 0} (@List.{0} (@Option.{0} @PySem.FnShape)) @Bool)) (@Option.{0} (@Prod.{0, 0} @PyProof.Rows.PlainShape @Bool)))))))))) (@PySem.Heap.bltView (@PySem.Shared.heap (@PySem.Shared.mk (@left_heap_177 (@PySem.World.params x0)) (@Array.mk.{0} @PySem.GenState []) (@PySem.Drawn.mk 0 0 0 0) (nat_lit 425) x1))) (@Prod.mk.{0, 0} @Bool (@Prod.{0, 0} @Bool (@Prod.{0, 0} (@Prod.{0, 0} (@List.{0} (@Option.{0} @PySem.FnShape)) @Bool) (@Prod.{0, 0} (@List.{0} (@Option.{0} @PyProof.Rows.PlainShape)) (@Prod.{0, 0} (@List.{0} (@Option.{0} (@Prod.{0, 0} @PyProof.Rows.PlainShape @Bool))) (@Prod.{0, 0} (@Prod.{0, 0} (@List.{0} (@Option.{0} @PySem.FnShape)) @Bool) (@List.{0} (@Prod.{0, 0} (@Option.{0} (@Prod.{0, 0} (@List.{0} (@Option.{0} @PySem.FnShape)) @Bool)) (@Option.{0} (@Prod.{0, 0} @PyProof.Rows.PlainShape @Bool))))))))) (@Bool.and (@Bool.and (@Bool.and (@Bool.and (@Bool.and (@Bool.and (@PySem.Heap.keysOk (@PySem.Shared.heap (@PySem.Shared.mk (@left_heap_177 (@PySem.World.params x0)) (@Array.mk.{0} @PySem.GenState []) (@PySem.Drawn.mk 0 0 0 0) (nat_lit 425) x1)) (@PySem.W.looseW @q [(PySem.Str.ofString "b1_set")]) (@List.map.{0, 0} @PySem.DefRec @PySem.Str (fun (x2 : @PySem.DefRec) => (@PySem.DefRec.name x2)) (@PyProof.Rows.recsOf @q)) (@List.map.{0, 0} (@Prod.{0, 0} @PySem.Str @PySem.PyData) @PySem.Str (fun (x2 : (@Prod.{0, 0} @PySem.Str @PySem.PyData)) => (@Prod.fst.{0, 0} @PySem.Str @PySem.PyData x2)) (@PyProof.Rows.litsOf @q)) (@List.map.{0, 0} @PySem.ClsRec @PySem.Str (fun (x2 : @PySem.ClsRec) => (@PySem.ClsRec.name x2)) (@PyProof.Rows.clssOf @q (@PySem.W.looseW @q [(PySem.Str.ofString "b1_set")])))) (@PySem.Heap.accountedOkI (@PySem.Shared.heap (@PySem.Shared.mk (@left_heap_177 (@PySem.World.params x0)) (@Array.mk.{0} @PySem.GenState []) (@PySem.Drawn.mk 0 0 0 0) (nat_lit 425) x1)) (@PySem.importedModules (@PySem.Module.body (@PySem.Program.main @PySem.Challenge.pw_tr0009_01))))) (@PySem.Heap.isNs (@PySem.Shared.heap (@PySem.Shared.mk (@left_heap_177 (@PySem.World.params x0)) (@Array.mk.{0} @PySem.GenState []) (@PySem.Drawn.mk 0 0 0 0) (nat_lit 425) x1)) @PySem.mainGlobals)) (@PySem.Heap.isNs (@PySem.Shared.heap (@PySem.Shared.mk (@left_heap_177 (@PySem.World.params x0)) (@Array.mk.{0} @PySem.GenState []) (@PySem.Drawn.mk 0 0 0 0) (nat_lit 425) x1)) @PySem.builtinsNs)) (@PyProof.Rows.tablesOk @q (@PySem.Shared.heap (@PySem.Shared.mk (@left_heap_177 (@PySem.World.params x0)) (@Array.mk.{0} @PySem.GenState []) (@PySem.Drawn.mk 0 0 0 0) (nat_lit 425) x1)))) ((fun (x2 : @PySem.Shared) => (@Bool.and (@PySem.W.xlAt @q [] x2) (@PySem.W.recOk (@PySem.W.RowW.records (@PySem.W.OpenRow.toRowW (@PySem.W.OpenLaw.row @PySem.Challenge.rw_tr0009_01))) x2))) (@PySem.Shared.mk (@left_heap_177 (@PySem.World.params x0)) (@Array.mk.{0} @PySem.GenState []) (@PySem.Drawn.mk 0 0 0 0) (nat_lit 425) x1))) (@ite.{0+1} @Bool (@Eq.{0+1} @Bool @Bool.true @Bool.true) (@instDecidableEqBool @Bool.true @Bool.true) (@BEq.beq.{0} @Nat (@instBEqOfDecidableEq.{0} @Nat @instDecidableEqNat) (@Array.size.{0} @PySem.GenState (@PySem.Shared.gens (@PySem.Shared.mk (@left_heap_177 (@PySem.World.params x0)) (@Array.mk.{0} @PySem.GenState []) (@PySem.Drawn.mk 0 0 0 0) (nat_lit 425) x1))) 0) (@Bool.not (@PySem.leftWithCleanup (@PySem.Shared.gens (@PySem.Shared.mk (@left_heap_177 (@PySem.World.params x0)) (@Array.mk.{0} @PySem.GenState []) (@PySem.Drawn.mk 0 0 0 0) (nat_lit 425) x1)))))) (@Prod.mk.{0, 0} @Bool (@Prod.{0, 0} (@Prod.{0, 0} (@List.{0} (@Option.{0} @PySem.FnShape)) @Bool) (@Prod.{0, 0} (@List.{0} (@Option.{0} @PyProof.Rows.PlainShape)) (@Prod.{0, 0} (@List.{0} (@Option.{0} (@Prod.{0, 0} @PyProof.Rows.PlainShape @Bool))) (@Prod.{0, 0} (@Prod.{0, 0} (@List.{0} (@Option.{0} @PySem.FnShape)) @Bool) (@List.{0} (@Prod.{0, 0} (@Option.{0} (@Prod.{0, 0} (@List.{0} (@Option.{0} @PySem.FnShape)) @Bool)) (@Option.{0} (@Prod.{0, 0} @PyProof.Rows.PlainShape @Bool)))))))) (@PyProof.Rows.tabsOk @q (@PySem.Shared.mk (@left_heap_177 (@PySem.World.params x0)) (@Array.mk.{0} @PySem.GenState []) (@PySem.Drawn.mk 0 0 0 0) (nat_lit 425) x1)) (@Prod.mk.{0, 0} (@Prod.{0, 0} (@List.{0} (@Option.{0} @PySem.FnShape)) @Bool) (@Prod.{0, 0} (@List.{0} (@Option.{0} @PyProof.Rows.PlainShape)) (@Prod.{0, 0} (@List.{0} (@Option.{0} (@Prod.{0, 0} @PyProof.Rows.PlainShape @Bool))) (@Prod.{0, 0} (@Prod.{0, 0} (@List.{0} (@Option.{0} @PySem.FnShape)) @Bool) (@List.{0} (@Prod.{0, 0} (@Option.{0} (@Prod.{0, 0} (@List.{0} (@Option.{0} @PySem.FnShape)) @Bool)) (@Option.{0} (@Prod.{0, 0} @PyProof.Rows.PlainShape @Bool))))))) (@PySem.pinSeenD @q (@PyProof.Rows.drecsOf @q) (@PySem.Shared.mk (@left_heap_177 (@PySem.World.params x0)) (@Array.mk.{0} @PySem.GenState []) (@PySem.Drawn.mk 0 0 0 0) (nat_lit 425) x1)) (@Prod.mk.{0, 0} (@List.{0} (@Option.{0} @PyProof.Rows.PlainShape)) (@Prod.{0, 0} (@List.{0} (@Option.{0} (@Prod.{0, 0} @PyProof.Rows.PlainShape @Bool))) (@Prod.{0, 0} (@Prod.{0, 0} (@List.{0} (@Option.{0} @PySem.FnShape)) @Bool) (@List.{0} (@Prod.{0, 0} (@Option.{0} (@Prod.{0, 0} (@List.{0} (@Option.{0} @PySem.FnShape)) @Bool)) (@Option.{0} (@Prod.{0, 0} @PyProof.Rows.PlainShape @Bool)))))) (@PyProof.Rows.plainSeenE @q (@PySem.W.looseW @q [(PySem.Str.ofString "b1_set")]) (@PySem.Shared.mk (@left_heap_177 (@PySem.World.params x0)) (@Array.mk.{0} @PySem.GenState []) (@PySem.Drawn.mk 0 0 0 0) (nat_lit 425) x1)) (@Prod.mk.{0, 0} (@List.{0} (@Option.{0} (@Prod.{0, 0} @PyProof.Rows.PlainShape @Bool))) (@Prod.{0, 0} (@Prod.{0, 0} (@List.{0} (@Option.{0} @PySem.FnShape)) @Bool) (@List.{0} (@Prod.{0, 0} (@Option.{0} (@Prod.{0, 0} (@List.{0} (@Option.{0} @PySem.FnShape)) @Bool)) (@Option.{0} (@Prod.{0, 0} @PyProof.Rows.PlainShape @Bool))))) (@PyProof.Rows.plainSeenD @q [(PySem.Str.ofString "b1_set")] (@PySem.Shared.mk (@left_heap_177 (@PySem.World.params x0)) (@Array.mk.{0} @PySem.GenState []) (@PySem.Drawn.mk 0 0 0 0) (nat_lit 425) x1)) (@Prod.mk.{0, 0} (@Prod.{0, 0} (@List.{0} (@Option.{0} @PySem.FnShape)) @Bool) (@List.{0} (@Prod.{0, 0} (@Option.{0} (@Prod.{0, 0} (@List.{0} (@Option.{0} @PySem.FnShape)) @Bool)) (@Option.{0} (@Prod.{0, 0} @PyProof.Rows.PlainShape @Bool)))) (@PySem.W.wideSeen @q (@PySem.Shared.mk (@left_heap_177 (@PySem.World.params x0)) (@Array.mk.{0} @PySem.GenState []) (@PySem.Drawn.mk 0 0 0 0) (nat_lit 425) x1)) (@PySem.W.clsSeenW @q [(PySem.Str.ofString "b1_set")] (@PySem.Shared.mk (@left_heap_177 (@PySem.World.params x0)) (@Array.mk.{0} @PySem.GenState []) (@PySem.Drawn.mk 0 0 0 0) (nat_lit 425) x1))))))))) (@Prod.mk.{0, 0} (@Prod.{0, 0} (@Option.{0} @PySem.Str) (@List.{0} (@Prod.{0, 0} @PySem.Str @PySem.Value))) (@Prod.{0, 0} @Bool (@Prod.{0, 0} @Bool (@Prod.{0, 0} (@Prod.{0, 0} (@List.{0} (@Option.{0} @PySem.FnShape)) @Bool) (@Prod.{0, 0} (@List.{0} (@Option.{0} @PyProof.Rows.PlainShape)) (@Prod.{0, 0} (@List.{0} (@Option.{0} (@Prod.{0, 0} @PyProof.Rows.PlainShape @Bool))) (@Prod.{0, 0} (@Prod.{0, 0} (@List.{0} (@Option.{0} @PySem.FnShape)) @Bool) (@List.{0} (@Prod.{0, 0} (@Option.{0} (@Prod.{0, 0} (@List.{0} (@Option.{0} @PySem.FnShape)) @Bool)) (@Option.{0} (@Prod.{0, 0} @PyProof.Rows.PlainShape @Bool)))))))))) @PySem.bltViewBooted (@Prod.mk.{0, 0} @Bool (@Prod.{0, 0} @Bool (@Prod.{0, 0} (@Prod.{0, 0} (@List.{0} (@Option.{0} @PySem.FnShape)) @Bool) (@Prod.{0, 0} (@List.{0} (@Option.{0} @PyProof.Rows.PlainShape)) (@Prod.{0, 0} (@List.{0} (@Option.{0} (@Prod.{0, 0} @PyProof.Rows.PlainShape @Bool))) (@Prod.{0, 0} (@Prod.{0, 0} (@List.{0} (@Option.{0} @PySem.FnShape)) @Bool) (@List.{0} (@Prod.{0, 0} (@Option.{0} (@Prod.{0, 0} (@List.{0} (@Option.{0} @PySem.FnShape)) @Bool)) (@Option.{0} (@Prod.{0, 0} @PyProof.Rows.PlainShape @Bool))))))))) @Bool.true (@Prod.mk.{0, 0} @Bool (@Prod.{0, 0} (@Prod.{0, 0} (@List.{0} (@Option.{0} @PySem.FnShape)) @Bool) (@Prod.{0, 0} (@List.{0} (@Option.{0} @PyProof.Rows.PlainShape)) (@Prod.{0, 0} (@List.{0} (@Option.{0} (@Prod.{0, 0} @PyProof.Rows.PlainShape @Bool))) (@Prod.{0, 0} (@Prod.{0, 0} (@List.{0} (@Option.{0} @PySem.FnShape)) @Bool) (@List.{0} (@Prod.{0, 0} (@Option.{0} (@Prod.{0, 0} (@List.{0} (@Option.{0} @PySem.FnShape)) @Bool)) (@Option.{0} (@Prod.{0, 0} @PyProof.Rows.PlainShape @Bool)))))))) @Bool.true (@Prod.mk.{0, 0} (@Prod.{0, 0} (@List.{0} (@Option.{0} @PySem.FnShape)) @Bool) (@Prod.{0, 0} (@List.{0} (@Option.{0} @PyProof.Rows.PlainShape)) (@Prod.{0, 0} (@List.{0} (@Option.{0} (@Prod.{0, 0} @PyProof.Rows.PlainShape @Bool))) (@Prod.{0, 0} (@Prod.{0, 0} (@List.{0} (@Option.{0} @PySem.FnShape)) @Bool) (@List.{0} (@Prod.{0, 0} (@Option.{0} (@Prod.{0, 0} (@List.{0} (@Option.{0} @PySem.FnShape)) @Bool)) (@Option.{0} (@Prod.{0, 0} @PyProof.Rows.PlainShape @Bool))))))) (@PySem.pinGoodD (@PyProof.Rows.drecsOf @q)) (@Prod.mk.{0, 0} (@List.{0} (@Option.{0} @PyProof.Rows.PlainShape)) (@Prod.{0, 0} (@List.{0} (@Option.{0} (@Prod.{0, 0} @PyProof.Rows.PlainShape @Bool))) (@Prod.{0, 0} (@Prod.{0, 0} (@List.{0} (@Option.{0} @PySem.FnShape)) @Bool) (@List.{0} (@Prod.{0, 0} (@Option.{0} (@Prod.{0, 0} (@List.{0} (@Option.{0} @PySem.FnShape)) @Bool)) (@Option.{0} (@Prod.{0, 0} @PyProof.Rows.PlainShape @Bool)))))) (@PyProof.Rows.plainGoodE @q (@PySem.W.looseW @q [(PySem.Str.ofString "b1_set")])) (@Prod.mk.{0, 0} (@List.{0} (@Option.{0} (@Prod.{0, 0} @PyProof.Rows.PlainShape @Bool))) (@Prod.{0, 0} (@Prod.{0, 0} (@List.{0} (@Option.{0} @PySem.FnShape)) @Bool) (@List.{0} (@Prod.{0, 0} (@Option.{0} (@Prod.{0, 0} (@List.{0} (@Option.{0} @PySem.FnShape)) @Bool)) (@Option.{0} (@Prod.{0, 0} @PyProof.Rows.PlainShape @Bool))))) (@PyProof.Rows.plainGoodD @q [(PySem.Str.ofString "b1_set")]) (@Prod.mk.{0, 0} (@Prod.{0, 0} (@List.{0} (@Option.{0} @PySem.FnShape)) @Bool) (@List.{0} (@Prod.{0, 0} (@Option.{0} (@Prod.{0, 0} (@List.{0} (@Option.{0} @PySem.FnShape)) @Bool)) (@Option.{0} (@Prod.{0, 0} @PyProof.Rows.PlainShape @Bool)))) (@PySem.W.wideGood @q) (@PySem.W.clsGoodW @q [(PySem.Str.ofString "b1_set")])))))))) ((fun (x2 : @PySem.World) => (fun (x3 : @PySem.OsState) => (@congrFun.{0+1, 0+1} @PySem.OsState (fun (x4 : @PySem.OsState) => @PyProof.Rows.Seen) (fun (x4 : @PySem.OsState) => (@PyProof.Rows.seen (@List.map.{0, 0} @PySem.DefRec @PySem.Str (fun (x5 : @PySem.DefRec) => (@PySem.DefRec.name x5)) (@PyProof.Rows.recsOf @q)) (@PyProof.Rows.ownsOf @q) [] (@PySem.Shared.mk (@PySem.Shared.heap (@PySem.Shared.mk (@left_heap_177 (@PySem.World.params x2)) (@Array.mk.{0} @PySem.GenState []) (@PySem.Drawn.mk 0 0 0 0) (nat_lit 425) x4)) #[] (@PySem.Shared.drawn (@PySem.Shared.mk (@left_heap_177 (@PySem.World.params x2)) (@Array.mk.{0} @PySem.GenState []) (@PySem.Drawn.mk 0 0 0 0) (nat_lit 425) x4)) (@PySem.Shared.toks (@PySem.Shared.mk (@left_heap_177 (@PySem.World.params x2)) (@Array.mk.{0} @PySem.GenState []) (@PySem.Drawn.mk 0 0 0 0) (nat_lit 425) x4)) (@PySem.Shared.os (@PySem.Shared.mk (@left_heap_177 (@PySem.World.params x2)) (@Array.mk.{0} @PySem.GenState []) (@PySem.Drawn.mk 0 0 0 0) (nat_lit 425) x4))))) (fun (x4 : @PySem.OsState) => (@PyProof.Rows.expectedOf @q)) (@left__proof_190 x2) x3))) x0 x1) (@left__proof_221 x0 x1))))
def eleft__proof_225 : PySem.World → Prop := (fun (x0 : @PySem.World) => (@Eq.{0+1} ((x1 : @PySem.OsState) → (@PySem.W.Hook.α (@PySem.W.kHook @K @as @as_eq))) (fun (x1 : @PySem.OsState) => (@PySem.W.Hook.obs (@PySem.W.kHook @K @as @as_eq) (@PySem.Shared.mk (@left_heap_177 (@PySem.World.params x0)) (@Array.mk.{0} @PySem.GenState []) (@PySem.Drawn.mk 0 0 0 0) (nat_lit 425) x1))) (fun (x1 : @PySem.OsState) => (@PySem.W.Hook.val (@PySem.W.kHook @K @as @as_eq) x0))))
theorem eleft__proof_225_p : ∀ w : PySem.World, eleft__proof_225 w := fun w => (by show _ = _; kernel_rfl)
theorem left__proof_225 : ((x0 : @PySem.World) → (@Eq.{0+1} ((x1 : @PySem.OsState) → (@PySem.W.Hook.α (@PySem.W.kHook @K @as @as_eq))) (fun (x1 : @PySem.OsState) => (@PySem.W.Hook.obs (@PySem.W.kHook @K @as @as_eq) (@PySem.Shared.mk (@left_heap_177 (@PySem.World.params x0)) (@Array.mk.{0} @PySem.GenState []) (@PySem.Drawn.mk 0 0 0 0) (nat_lit 425) x1))) (fun (x1 : @PySem.OsState) => (@PySem.W.Hook.val (@PySem.W.kHook @K @as @as_eq) x0)))) := eleft__proof_225_p
theorem left__proof_226 : ((x0 : @PySem.World) → ((x1 : @PySem.OsState) → (@Eq.{0+1} (@Prod.{0, 0} (@Prod.{0, 0} @PyProof.Rows.Seen (@Prod.{0, 0} (@Prod.{0, 0} (@Option.{0} @PySem.Str) (@List.{0} (@Prod.{0, 0} @PySem.Str @PySem.Value))) (@Prod.{0, 0} @Bool (@Prod.{0, 0} @Bool (@Prod.{0, 0} (@Prod.{0, 0} (@List.{0} (@Option.{0} @PySem.FnShape)) @Bool) (@Prod.{0, 0} (@List.{0} (@Option.{0} @PyProof.Rows.PlainShape)) (@Prod.{0, 0} (@List.{0} (@Option.{0} (@Prod.{0, 0} @PyProof.Rows.PlainShape @Bool))) (@Prod.{0, 0} (@Prod.{0, 0} (@List.{0} (@Option.{0} @PySem.FnShape)) @Bool) (@List.{0} (@Prod.{0, 0} (@Option.{0} (@Prod.{0, 0} (@List.{0} (@Option.{0} @PySem.FnShape)) @Bool)) (@Option.{0} (@Prod.{0, 0} @PyProof.Rows.PlainShape @Bool)))))))))))) (@PySem.W.Hook.α (@PySem.W.kHook @K @as @as_eq))) (@Prod.mk.{0, 0} (@Prod.{0, 0} @PyProof.Rows.Seen (@Prod.{0, 0} (@Prod.{0, 0} (@Option.{0} @PySem.Str) (@List.{0} (@Prod.{0, 0} @PySem.Str @PySem.Value))) (@Prod.{0, 0} @Bool (@Prod.{0, 0} @Bool (@Prod.{0, 0} (@Prod.{0, 0} (@List.{0} (@Option.{0} @PySem.FnShape)) @Bool) (@Prod.{0, 0} (@List.{0} (@Option.{0} @PyProof.Rows.PlainShape)) (@Prod.{0, 0} (@List.{0} (@Option.{0} (@Prod.{0, 0} @PyProof.Rows.PlainShape @Bool))) (@Prod.{0, 0} (@Prod.{0, 0} (@List.{0} (@Option.{0} @PySem.FnShape)) @Bool) (@List.{0} (@Prod.{0, 0} (@Option.{0} (@Prod.{0, 0} (@List.{0} (@Option.{0} @PySem.FnShape)) @Bool)) (@Option.{0} (@Prod.{0, 0} @PyProof.Rows.PlainShape @Bool)))))))))))) (@PySem.W.Hook.α (@PySem.W.kHook @K @as @as_eq)) (@PySem.W.openSeen @q [(PySem.Str.ofString "b1_set")] (@PySem.importedModules (@PySem.Module.body (@PySem.Program.main @PySem.Challenge.pw_tr0009_01))) (fun (x2 : @PySem.Shared) => (@Bool.and (@PySem.W.xlAt @q [] x2) (@PySem.W.recOk (@PySem.W.RowW.records (@PySem.W.OpenRow.toRowW (@PySem.W.OpenLaw.row @PySem.Challenge.rw_tr0009_01))) x2))) @Bool.true (@PySem.Shared.mk (@left_heap_177 (@PySem.World.params x0)) (@Array.mk.{0} @PySem.GenState []) (@PySem.Drawn.mk 0 0 0 0) (nat_lit 425) x1)) (@PySem.W.Hook.obs (@PySem.W.kHook @K @as @as_eq) (@PySem.Shared.mk (@left_heap_177 (@PySem.World.params x0)) (@Array.mk.{0} @PySem.GenState []) (@PySem.Drawn.mk 0 0 0 0) (nat_lit 425) x1))) (@Prod.mk.{0, 0} (@Prod.{0, 0} @PyProof.Rows.Seen (@Prod.{0, 0} (@Prod.{0, 0} (@Option.{0} @PySem.Str) (@List.{0} (@Prod.{0, 0} @PySem.Str @PySem.Value))) (@Prod.{0, 0} @Bool (@Prod.{0, 0} @Bool (@Prod.{0, 0} (@Prod.{0, 0} (@List.{0} (@Option.{0} @PySem.FnShape)) @Bool) (@Prod.{0, 0} (@List.{0} (@Option.{0} @PyProof.Rows.PlainShape)) (@Prod.{0, 0} (@List.{0} (@Option.{0} (@Prod.{0, 0} @PyProof.Rows.PlainShape @Bool))) (@Prod.{0, 0} (@Prod.{0, 0} (@List.{0} (@Option.{0} @PySem.FnShape)) @Bool) (@List.{0} (@Prod.{0, 0} (@Option.{0} (@Prod.{0, 0} (@List.{0} (@Option.{0} @PySem.FnShape)) @Bool)) (@Option.{0} (@Prod.{0, 0} @PyProof.Rows.PlainShape @Bool)))))))))))) (@PySem.W.Hook.α (@PySem.W.kHook @K @as @as_eq)) (@PySem.W.openGood @q [(PySem.Str.ofString "b1_set")]) (@PySem.W.Hook.val (@PySem.W.kHook @K @as @as_eq) x0))))) :=
  (fun (x0 : @PySem.World) => (fun (x1 : @PySem.OsState) => (@PySem.W.looks_pair (@Prod.{0, 0} @PyProof.Rows.Seen (@Prod.{0, 0} (@Prod.{0, 0} (@Option.{0} @PySem.Str) (@List.{0} (@Prod.{0, 0} @PySem.Str @PySem.Value))) (@Prod.{0, 0} @Bool (@Prod.{0, 0} @Bool (@Prod.{0, 0} (@Prod.{0, 0} (@List.{0} (@Option.{0} @PySem.FnShape)) @Bool) (@Prod.{0, 0} (@List.{0} (@Option.{0} @PyProof.Rows.PlainShape)) (@Prod.{0, 0} (@List.{0} (@Option.{0} (@Prod.{0, 0} @PyProof.Rows.PlainShape @Bool))) (@Prod.{0, 0} (@Prod.{0, 0} (@List.{0} (@Option.{0} @PySem.FnShape)) @Bool) (@List.{0} (@Prod.{0, 0} (@Option.{0} (@Prod.{0, 0} (@List.{0} (@Option.{0} @PySem.FnShape)) @Bool)) (@Option.{0} (@Prod.{0, 0} @PyProof.Rows.PlainShape @Bool)))))))))))) (@PySem.W.Hook.α (@PySem.W.kHook @K @as @as_eq)) (@PySem.W.openSeen @q [(PySem.Str.ofString "b1_set")] (@PySem.importedModules (@PySem.Module.body (@PySem.Program.main @PySem.Challenge.pw_tr0009_01))) (fun (x2 : @PySem.Shared) => (@Bool.and (@PySem.W.xlAt @q [] x2) (@PySem.W.recOk (@PySem.W.RowW.records (@PySem.W.OpenRow.toRowW (@PySem.W.OpenLaw.row @PySem.Challenge.rw_tr0009_01))) x2))) @Bool.true (@PySem.Shared.mk (@left_heap_177 (@PySem.World.params x0)) (@Array.mk.{0} @PySem.GenState []) (@PySem.Drawn.mk 0 0 0 0) (nat_lit 425) x1)) (@PySem.W.openGood @q [(PySem.Str.ofString "b1_set")]) (@PySem.W.Hook.obs (@PySem.W.kHook @K @as @as_eq) (@PySem.Shared.mk (@left_heap_177 (@PySem.World.params x0)) (@Array.mk.{0} @PySem.GenState []) (@PySem.Drawn.mk 0 0 0 0) (nat_lit 425) x1)) (@PySem.W.Hook.val (@PySem.W.kHook @K @as @as_eq) x0) (@left__proof_222 x0 x1) ((fun (x2 : @PySem.World) => (fun (x3 : @PySem.OsState) => (@congrFun.{0+1, 0+1} @PySem.OsState (fun (x4 : @PySem.OsState) => (@PySem.W.Hook.α (@PySem.W.kHook @K @as @as_eq))) (fun (x4 : @PySem.OsState) => (@PySem.W.Hook.obs (@PySem.W.kHook @K @as @as_eq) (@PySem.Shared.mk (@left_heap_177 (@PySem.World.params x2)) (@Array.mk.{0} @PySem.GenState []) (@PySem.Drawn.mk 0 0 0 0) (nat_lit 425) x4))) (fun (x4 : @PySem.OsState) => (@PySem.W.Hook.val (@PySem.W.kHook @K @as @as_eq) x2)) (@left__proof_225 x2) x3))) x0 x1))))
theorem left__proof_227 : ((x0 : @PySem.World) → ((x1 : @PySem.OsState) → (@Eq.{0+1} (@Prod.{0, 0} @Bool (@Prod.{0, 0} (@Prod.{0, 0} @PyProof.Rows.Seen (@Prod.{0, 0} (@Prod.{0, 0} (@Option.{0} @PySem.Str) (@List.{0} (@Prod.{0, 0} @PySem.Str @PySem.Value))) (@Prod.{0, 0} @Bool (@Prod.{0, 0} @Bool (@Prod.{0, 0} (@Prod.{0, 0} (@List.{0} (@Option.{0} @PySem.FnShape)) @Bool) (@Prod.{0, 0} (@List.{0} (@Option.{0} @PyProof.Rows.PlainShape)) (@Prod.{0, 0} (@List.{0} (@Option.{0} (@Prod.{0, 0} @PyProof.Rows.PlainShape @Bool))) (@Prod.{0, 0} (@Prod.{0, 0} (@List.{0} (@Option.{0} @PySem.FnShape)) @Bool) (@List.{0} (@Prod.{0, 0} (@Option.{0} (@Prod.{0, 0} (@List.{0} (@Option.{0} @PySem.FnShape)) @Bool)) (@Option.{0} (@Prod.{0, 0} @PyProof.Rows.PlainShape @Bool)))))))))))) (@PySem.W.Hook.α (@PySem.W.kHook @K @as @as_eq)))) (@Prod.mk.{0, 0} @Bool (@Prod.{0, 0} (@Prod.{0, 0} @PyProof.Rows.Seen (@Prod.{0, 0} (@Prod.{0, 0} (@Option.{0} @PySem.Str) (@List.{0} (@Prod.{0, 0} @PySem.Str @PySem.Value))) (@Prod.{0, 0} @Bool (@Prod.{0, 0} @Bool (@Prod.{0, 0} (@Prod.{0, 0} (@List.{0} (@Option.{0} @PySem.FnShape)) @Bool) (@Prod.{0, 0} (@List.{0} (@Option.{0} @PyProof.Rows.PlainShape)) (@Prod.{0, 0} (@List.{0} (@Option.{0} (@Prod.{0, 0} @PyProof.Rows.PlainShape @Bool))) (@Prod.{0, 0} (@Prod.{0, 0} (@List.{0} (@Option.{0} @PySem.FnShape)) @Bool) (@List.{0} (@Prod.{0, 0} (@Option.{0} (@Prod.{0, 0} (@List.{0} (@Option.{0} @PySem.FnShape)) @Bool)) (@Option.{0} (@Prod.{0, 0} @PyProof.Rows.PlainShape @Bool)))))))))))) (@PySem.W.Hook.α (@PySem.W.kHook @K @as @as_eq))) (@Bool.and (@Bool.and (@Bool.and (@PySem.W.staticsOk (@PySem.importedModules (@PySem.Module.body (@PySem.Program.main @PySem.Challenge.pw_tr0009_01))) (@PySem.W.boot_heap (@PySem.World.params x0)) (@left_heap_177 (@PySem.World.params x0))) (@PySem.W.namesBound @PySem.Challenge.pw_tr0009_01 (@left_heap_177 (@PySem.World.params x0)))) (@PySem.W.gensDone (@PySem.Shared.mk (@left_heap_177 (@PySem.World.params x0)) (@Array.mk.{0} @PySem.GenState []) (@PySem.Drawn.mk 0 0 0 0) (nat_lit 425) x1))) (@PySem.W.laidKept (@PySem.W.boot_heap (@PySem.World.params x0)) (@left_heap_177 (@PySem.World.params x0)))) (@Prod.mk.{0, 0} (@Prod.{0, 0} @PyProof.Rows.Seen (@Prod.{0, 0} (@Prod.{0, 0} (@Option.{0} @PySem.Str) (@List.{0} (@Prod.{0, 0} @PySem.Str @PySem.Value))) (@Prod.{0, 0} @Bool (@Prod.{0, 0} @Bool (@Prod.{0, 0} (@Prod.{0, 0} (@List.{0} (@Option.{0} @PySem.FnShape)) @Bool) (@Prod.{0, 0} (@List.{0} (@Option.{0} @PyProof.Rows.PlainShape)) (@Prod.{0, 0} (@List.{0} (@Option.{0} (@Prod.{0, 0} @PyProof.Rows.PlainShape @Bool))) (@Prod.{0, 0} (@Prod.{0, 0} (@List.{0} (@Option.{0} @PySem.FnShape)) @Bool) (@List.{0} (@Prod.{0, 0} (@Option.{0} (@Prod.{0, 0} (@List.{0} (@Option.{0} @PySem.FnShape)) @Bool)) (@Option.{0} (@Prod.{0, 0} @PyProof.Rows.PlainShape @Bool)))))))))))) (@PySem.W.Hook.α (@PySem.W.kHook @K @as @as_eq)) (@PySem.W.openSeen @q [(PySem.Str.ofString "b1_set")] (@PySem.importedModules (@PySem.Module.body (@PySem.Program.main @PySem.Challenge.pw_tr0009_01))) (fun (x2 : @PySem.Shared) => (@Bool.and (@PySem.W.xlAt @q [] x2) (@PySem.W.recOk (@PySem.W.RowW.records (@PySem.W.OpenRow.toRowW (@PySem.W.OpenLaw.row @PySem.Challenge.rw_tr0009_01))) x2))) @Bool.true (@PySem.Shared.mk (@left_heap_177 (@PySem.World.params x0)) (@Array.mk.{0} @PySem.GenState []) (@PySem.Drawn.mk 0 0 0 0) (nat_lit 425) x1)) (@PySem.W.Hook.obs (@PySem.W.kHook @K @as @as_eq) (@PySem.Shared.mk (@left_heap_177 (@PySem.World.params x0)) (@Array.mk.{0} @PySem.GenState []) (@PySem.Drawn.mk 0 0 0 0) (nat_lit 425) x1)))) (@Prod.mk.{0, 0} @Bool (@Prod.{0, 0} (@Prod.{0, 0} @PyProof.Rows.Seen (@Prod.{0, 0} (@Prod.{0, 0} (@Option.{0} @PySem.Str) (@List.{0} (@Prod.{0, 0} @PySem.Str @PySem.Value))) (@Prod.{0, 0} @Bool (@Prod.{0, 0} @Bool (@Prod.{0, 0} (@Prod.{0, 0} (@List.{0} (@Option.{0} @PySem.FnShape)) @Bool) (@Prod.{0, 0} (@List.{0} (@Option.{0} @PyProof.Rows.PlainShape)) (@Prod.{0, 0} (@List.{0} (@Option.{0} (@Prod.{0, 0} @PyProof.Rows.PlainShape @Bool))) (@Prod.{0, 0} (@Prod.{0, 0} (@List.{0} (@Option.{0} @PySem.FnShape)) @Bool) (@List.{0} (@Prod.{0, 0} (@Option.{0} (@Prod.{0, 0} (@List.{0} (@Option.{0} @PySem.FnShape)) @Bool)) (@Option.{0} (@Prod.{0, 0} @PyProof.Rows.PlainShape @Bool)))))))))))) (@PySem.W.Hook.α (@PySem.W.kHook @K @as @as_eq))) @Bool.true (@Prod.mk.{0, 0} (@Prod.{0, 0} @PyProof.Rows.Seen (@Prod.{0, 0} (@Prod.{0, 0} (@Option.{0} @PySem.Str) (@List.{0} (@Prod.{0, 0} @PySem.Str @PySem.Value))) (@Prod.{0, 0} @Bool (@Prod.{0, 0} @Bool (@Prod.{0, 0} (@Prod.{0, 0} (@List.{0} (@Option.{0} @PySem.FnShape)) @Bool) (@Prod.{0, 0} (@List.{0} (@Option.{0} @PyProof.Rows.PlainShape)) (@Prod.{0, 0} (@List.{0} (@Option.{0} (@Prod.{0, 0} @PyProof.Rows.PlainShape @Bool))) (@Prod.{0, 0} (@Prod.{0, 0} (@List.{0} (@Option.{0} @PySem.FnShape)) @Bool) (@List.{0} (@Prod.{0, 0} (@Option.{0} (@Prod.{0, 0} (@List.{0} (@Option.{0} @PySem.FnShape)) @Bool)) (@Option.{0} (@Prod.{0, 0} @PyProof.Rows.PlainShape @Bool)))))))))))) (@PySem.W.Hook.α (@PySem.W.kHook @K @as @as_eq)) (@PySem.W.openGood @q [(PySem.Str.ofString "b1_set")]) (@PySem.W.Hook.val (@PySem.W.kHook @K @as @as_eq) x0)))))) :=
  (fun (x0 : @PySem.World) => (fun (x1 : @PySem.OsState) => (@PySem.W.looks_pair @Bool (@Prod.{0, 0} (@Prod.{0, 0} @PyProof.Rows.Seen (@Prod.{0, 0} (@Prod.{0, 0} (@Option.{0} @PySem.Str) (@List.{0} (@Prod.{0, 0} @PySem.Str @PySem.Value))) (@Prod.{0, 0} @Bool (@Prod.{0, 0} @Bool (@Prod.{0, 0} (@Prod.{0, 0} (@List.{0} (@Option.{0} @PySem.FnShape)) @Bool) (@Prod.{0, 0} (@List.{0} (@Option.{0} @PyProof.Rows.PlainShape)) (@Prod.{0, 0} (@List.{0} (@Option.{0} (@Prod.{0, 0} @PyProof.Rows.PlainShape @Bool))) (@Prod.{0, 0} (@Prod.{0, 0} (@List.{0} (@Option.{0} @PySem.FnShape)) @Bool) (@List.{0} (@Prod.{0, 0} (@Option.{0} (@Prod.{0, 0} (@List.{0} (@Option.{0} @PySem.FnShape)) @Bool)) (@Option.{0} (@Prod.{0, 0} @PyProof.Rows.PlainShape @Bool)))))))))))) (@PySem.W.Hook.α (@PySem.W.kHook @K @as @as_eq))) (@Bool.and (@Bool.and (@Bool.and (@PySem.W.staticsOk (@PySem.importedModules (@PySem.Module.body (@PySem.Program.main @PySem.Challenge.pw_tr0009_01))) (@PySem.W.boot_heap (@PySem.World.params x0)) (@left_heap_177 (@PySem.World.params x0))) (@PySem.W.namesBound @PySem.Challenge.pw_tr0009_01 (@left_heap_177 (@PySem.World.params x0)))) (@PySem.W.gensDone (@PySem.Shared.mk (@left_heap_177 (@PySem.World.params x0)) (@Array.mk.{0} @PySem.GenState []) (@PySem.Drawn.mk 0 0 0 0) (nat_lit 425) x1))) (@PySem.W.laidKept (@PySem.W.boot_heap (@PySem.World.params x0)) (@left_heap_177 (@PySem.World.params x0)))) @Bool.true (@Prod.mk.{0, 0} (@Prod.{0, 0} @PyProof.Rows.Seen (@Prod.{0, 0} (@Prod.{0, 0} (@Option.{0} @PySem.Str) (@List.{0} (@Prod.{0, 0} @PySem.Str @PySem.Value))) (@Prod.{0, 0} @Bool (@Prod.{0, 0} @Bool (@Prod.{0, 0} (@Prod.{0, 0} (@List.{0} (@Option.{0} @PySem.FnShape)) @Bool) (@Prod.{0, 0} (@List.{0} (@Option.{0} @PyProof.Rows.PlainShape)) (@Prod.{0, 0} (@List.{0} (@Option.{0} (@Prod.{0, 0} @PyProof.Rows.PlainShape @Bool))) (@Prod.{0, 0} (@Prod.{0, 0} (@List.{0} (@Option.{0} @PySem.FnShape)) @Bool) (@List.{0} (@Prod.{0, 0} (@Option.{0} (@Prod.{0, 0} (@List.{0} (@Option.{0} @PySem.FnShape)) @Bool)) (@Option.{0} (@Prod.{0, 0} @PyProof.Rows.PlainShape @Bool)))))))))))) (@PySem.W.Hook.α (@PySem.W.kHook @K @as @as_eq)) (@PySem.W.openSeen @q [(PySem.Str.ofString "b1_set")] (@PySem.importedModules (@PySem.Module.body (@PySem.Program.main @PySem.Challenge.pw_tr0009_01))) (fun (x2 : @PySem.Shared) => (@Bool.and (@PySem.W.xlAt @q [] x2) (@PySem.W.recOk (@PySem.W.RowW.records (@PySem.W.OpenRow.toRowW (@PySem.W.OpenLaw.row @PySem.Challenge.rw_tr0009_01))) x2))) @Bool.true (@PySem.Shared.mk (@left_heap_177 (@PySem.World.params x0)) (@Array.mk.{0} @PySem.GenState []) (@PySem.Drawn.mk 0 0 0 0) (nat_lit 425) x1)) (@PySem.W.Hook.obs (@PySem.W.kHook @K @as @as_eq) (@PySem.Shared.mk (@left_heap_177 (@PySem.World.params x0)) (@Array.mk.{0} @PySem.GenState []) (@PySem.Drawn.mk 0 0 0 0) (nat_lit 425) x1))) (@Prod.mk.{0, 0} (@Prod.{0, 0} @PyProof.Rows.Seen (@Prod.{0, 0} (@Prod.{0, 0} (@Option.{0} @PySem.Str) (@List.{0} (@Prod.{0, 0} @PySem.Str @PySem.Value))) (@Prod.{0, 0} @Bool (@Prod.{0, 0} @Bool (@Prod.{0, 0} (@Prod.{0, 0} (@List.{0} (@Option.{0} @PySem.FnShape)) @Bool) (@Prod.{0, 0} (@List.{0} (@Option.{0} @PyProof.Rows.PlainShape)) (@Prod.{0, 0} (@List.{0} (@Option.{0} (@Prod.{0, 0} @PyProof.Rows.PlainShape @Bool))) (@Prod.{0, 0} (@Prod.{0, 0} (@List.{0} (@Option.{0} @PySem.FnShape)) @Bool) (@List.{0} (@Prod.{0, 0} (@Option.{0} (@Prod.{0, 0} (@List.{0} (@Option.{0} @PySem.FnShape)) @Bool)) (@Option.{0} (@Prod.{0, 0} @PyProof.Rows.PlainShape @Bool)))))))))))) (@PySem.W.Hook.α (@PySem.W.kHook @K @as @as_eq)) (@PySem.W.openGood @q [(PySem.Str.ofString "b1_set")]) (@PySem.W.Hook.val (@PySem.W.kHook @K @as @as_eq) x0)) ((fun (x2 : @PySem.World) => (fun (x3 : @PySem.OsState) => (@congrFun.{0+1, 0+1} @PySem.OsState (fun (x4 : @PySem.OsState) => @Bool) (fun (x4 : @PySem.OsState) => (@Bool.and (@Bool.and (@Bool.and (@PySem.W.staticsOk (@PySem.importedModules (@PySem.Module.body (@PySem.Program.main @PySem.Challenge.pw_tr0009_01))) (@PySem.W.boot_heap (@PySem.World.params x2)) (@left_heap_177 (@PySem.World.params x2))) (@PySem.W.namesBound @PySem.Challenge.pw_tr0009_01 (@left_heap_177 (@PySem.World.params x2)))) (@PySem.W.gensDone (@PySem.Shared.mk (@left_heap_177 (@PySem.World.params x2)) (@Array.mk.{0} @PySem.GenState []) (@PySem.Drawn.mk 0 0 0 0) (nat_lit 425) x4))) (@PySem.W.laidKept (@PySem.W.boot_heap (@PySem.World.params x2)) (@left_heap_177 (@PySem.World.params x2))))) (fun (x4 : @PySem.OsState) => @Bool.true) (@left__proof_187 x2) x3))) x0 x1) (@left__proof_226 x0 x1))))
theorem left : (@PySem.W.LeftO @PySem.Challenge.pw_tr0009_01 @q [(PySem.Str.ofString "b1_set")] (fun (x0 : @PySem.Shared) => (@Bool.and (@PySem.W.xlAt @q [] x0) (@PySem.W.recOk (@PySem.W.RowW.records (@PySem.W.OpenRow.toRowW (@PySem.W.OpenLaw.row @PySem.Challenge.rw_tr0009_01))) x0))) (@PySem.W.Hook.α (@PySem.W.kHook @K @as @as_eq)) (@PySem.W.Hook.obs (@PySem.W.kHook @K @as @as_eq)) (@PySem.W.Hook.val (@PySem.W.kHook @K @as @as_eq)) 4238 @Bool.true) :=
  (@PySem.W.LeftO.of_pieces @PySem.Challenge.pw_tr0009_01 @q [(PySem.Str.ofString "b1_set")] (fun (x0 : @PySem.Shared) => (@Bool.and (@PySem.W.xlAt @q [] x0) (@PySem.W.recOk (@PySem.W.RowW.records (@PySem.W.OpenRow.toRowW (@PySem.W.OpenLaw.row @PySem.Challenge.rw_tr0009_01))) x0))) (@PySem.W.Hook.α (@PySem.W.kHook @K @as @as_eq)) (@PySem.W.Hook.obs (@PySem.W.kHook @K @as @as_eq)) (@PySem.W.Hook.val (@PySem.W.kHook @K @as @as_eq)) 4238 @Bool.true @PySem.W.boot_heap @left_heap_177 (@Array.mk.{0} @PySem.GenState []) (@Array.mk.{0} @PySem.GenState []) @PySem.W.boot_drawn (@PySem.Drawn.mk 0 0 0 0) @PySem.W.boot_toks (nat_lit 425) (nat_lit 11) (@Option.some.{0} @PySem.Value (@PySem.Value.ref 6)) (@Nat.add (nat_lit 12) (@Nat.add (nat_lit 1) (@Nat.add (nat_lit 39) (@Nat.add (nat_lit 999) (@Nat.add (nat_lit 235) (@Nat.add (nat_lit 256) (@Nat.add (nat_lit 390) (@Nat.add (nat_lit 143) (nat_lit 2))))))))) (@PySem.W.boot_open @PySem.Challenge.pw_tr0009_01 4238 @left__proof_1 (@of_decide_eq_true (@Eq.{0+1} @Bool (@Nat.ble (nat_lit 600) 4238) @Bool.true) (@instDecidableEqBool (@Nat.ble (nat_lit 600) 4238) @Bool.true) (@id.{0} (@Eq.{0+1} @Bool (@Decidable.decide (@Eq.{0+1} @Bool (@Nat.ble (nat_lit 600) 4238) @Bool.true) (@instDecidableEqBool (@Nat.ble (nat_lit 600) 4238) @Bool.true)) @Bool.true) (@Eq.refl.{0+1} @Bool @Bool.true))) @left__proof_2) @left__proof_184 @left__proof_181 (@of_decide_eq_true (@Eq.{0+1} @Bool (@Nat.ble (@Nat.add (nat_lit 12) (@Nat.add (nat_lit 1) (@Nat.add (nat_lit 39) (@Nat.add (nat_lit 999) (@Nat.add (nat_lit 235) (@Nat.add (nat_lit 256) (@Nat.add (nat_lit 390) (@Nat.add (nat_lit 143) (nat_lit 2))))))))) 4238) @Bool.true) (@instDecidableEqBool (@Nat.ble (@Nat.add (nat_lit 12) (@Nat.add (nat_lit 1) (@Nat.add (nat_lit 39) (@Nat.add (nat_lit 999) (@Nat.add (nat_lit 235) (@Nat.add (nat_lit 256) (@Nat.add (nat_lit 390) (@Nat.add (nat_lit 143) (nat_lit 2))))))))) 4238) @Bool.true) (@id.{0} (@Eq.{0+1} @Bool (@Decidable.decide (@Eq.{0+1} @Bool (@Nat.ble (@Nat.add (nat_lit 12) (@Nat.add (nat_lit 1) (@Nat.add (nat_lit 39) (@Nat.add (nat_lit 999) (@Nat.add (nat_lit 235) (@Nat.add (nat_lit 256) (@Nat.add (nat_lit 390) (@Nat.add (nat_lit 143) (nat_lit 2))))))))) 4238) @Bool.true) (@instDecidableEqBool (@Nat.ble (@Nat.add (nat_lit 12) (@Nat.add (nat_lit 1) (@Nat.add (nat_lit 39) (@Nat.add (nat_lit 999) (@Nat.add (nat_lit 235) (@Nat.add (nat_lit 256) (@Nat.add (nat_lit 390) (@Nat.add (nat_lit 143) (nat_lit 2))))))))) 4238) @Bool.true)) @Bool.true) (@Eq.refl.{0+1} @Bool @Bool.true))) (fun (x0 : @PySem.World) => (@funext.{0+1, 0+1} @PySem.OsState (fun (x1 : @PySem.OsState) => (@Prod.{0, 0} @Bool (@Prod.{0, 0} (@Prod.{0, 0} @PyProof.Rows.Seen (@Prod.{0, 0} (@Prod.{0, 0} (@Option.{0} @PySem.Str) (@List.{0} (@Prod.{0, 0} @PySem.Str @PySem.Value))) (@Prod.{0, 0} @Bool (@Prod.{0, 0} @Bool (@Prod.{0, 0} (@Prod.{0, 0} (@List.{0} (@Option.{0} @PySem.FnShape)) @Bool) (@Prod.{0, 0} (@List.{0} (@Option.{0} @PyProof.Rows.PlainShape)) (@Prod.{0, 0} (@List.{0} (@Option.{0} (@Prod.{0, 0} @PyProof.Rows.PlainShape @Bool))) (@Prod.{0, 0} (@Prod.{0, 0} (@List.{0} (@Option.{0} @PySem.FnShape)) @Bool) (@List.{0} (@Prod.{0, 0} (@Option.{0} (@Prod.{0, 0} (@List.{0} (@Option.{0} @PySem.FnShape)) @Bool)) (@Option.{0} (@Prod.{0, 0} @PyProof.Rows.PlainShape @Bool)))))))))))) (@PySem.W.Hook.α (@PySem.W.kHook @K @as @as_eq))))) (fun (x1 : @PySem.OsState) => (@Prod.mk.{0, 0} @Bool (@Prod.{0, 0} (@Prod.{0, 0} @PyProof.Rows.Seen (@Prod.{0, 0} (@Prod.{0, 0} (@Option.{0} @PySem.Str) (@List.{0} (@Prod.{0, 0} @PySem.Str @PySem.Value))) (@Prod.{0, 0} @Bool (@Prod.{0, 0} @Bool (@Prod.{0, 0} (@Prod.{0, 0} (@List.{0} (@Option.{0} @PySem.FnShape)) @Bool) (@Prod.{0, 0} (@List.{0} (@Option.{0} @PyProof.Rows.PlainShape)) (@Prod.{0, 0} (@List.{0} (@Option.{0} (@Prod.{0, 0} @PyProof.Rows.PlainShape @Bool))) (@Prod.{0, 0} (@Prod.{0, 0} (@List.{0} (@Option.{0} @PySem.FnShape)) @Bool) (@List.{0} (@Prod.{0, 0} (@Option.{0} (@Prod.{0, 0} (@List.{0} (@Option.{0} @PySem.FnShape)) @Bool)) (@Option.{0} (@Prod.{0, 0} @PyProof.Rows.PlainShape @Bool)))))))))))) (@PySem.W.Hook.α (@PySem.W.kHook @K @as @as_eq))) (@Bool.and (@Bool.and (@Bool.and (@PySem.W.staticsOk (@PySem.importedModules (@PySem.Module.body (@PySem.Program.main @PySem.Challenge.pw_tr0009_01))) (@PySem.W.boot_heap (@PySem.World.params x0)) (@left_heap_177 (@PySem.World.params x0))) (@PySem.W.namesBound @PySem.Challenge.pw_tr0009_01 (@left_heap_177 (@PySem.World.params x0)))) (@PySem.W.gensDone (@PySem.Shared.mk (@left_heap_177 (@PySem.World.params x0)) (@Array.mk.{0} @PySem.GenState []) (@PySem.Drawn.mk 0 0 0 0) (nat_lit 425) x1))) (@PySem.W.laidKept (@PySem.W.boot_heap (@PySem.World.params x0)) (@left_heap_177 (@PySem.World.params x0)))) (@Prod.mk.{0, 0} (@Prod.{0, 0} @PyProof.Rows.Seen (@Prod.{0, 0} (@Prod.{0, 0} (@Option.{0} @PySem.Str) (@List.{0} (@Prod.{0, 0} @PySem.Str @PySem.Value))) (@Prod.{0, 0} @Bool (@Prod.{0, 0} @Bool (@Prod.{0, 0} (@Prod.{0, 0} (@List.{0} (@Option.{0} @PySem.FnShape)) @Bool) (@Prod.{0, 0} (@List.{0} (@Option.{0} @PyProof.Rows.PlainShape)) (@Prod.{0, 0} (@List.{0} (@Option.{0} (@Prod.{0, 0} @PyProof.Rows.PlainShape @Bool))) (@Prod.{0, 0} (@Prod.{0, 0} (@List.{0} (@Option.{0} @PySem.FnShape)) @Bool) (@List.{0} (@Prod.{0, 0} (@Option.{0} (@Prod.{0, 0} (@List.{0} (@Option.{0} @PySem.FnShape)) @Bool)) (@Option.{0} (@Prod.{0, 0} @PyProof.Rows.PlainShape @Bool)))))))))))) (@PySem.W.Hook.α (@PySem.W.kHook @K @as @as_eq)) (@PySem.W.openSeen @q [(PySem.Str.ofString "b1_set")] (@PySem.importedModules (@PySem.Module.body (@PySem.Program.main @PySem.Challenge.pw_tr0009_01))) (fun (x2 : @PySem.Shared) => (@Bool.and (@PySem.W.xlAt @q [] x2) (@PySem.W.recOk (@PySem.W.RowW.records (@PySem.W.OpenRow.toRowW (@PySem.W.OpenLaw.row @PySem.Challenge.rw_tr0009_01))) x2))) @Bool.true (@PySem.Shared.mk (@left_heap_177 (@PySem.World.params x0)) (@Array.mk.{0} @PySem.GenState []) (@PySem.Drawn.mk 0 0 0 0) (nat_lit 425) x1)) (@PySem.W.Hook.obs (@PySem.W.kHook @K @as @as_eq) (@PySem.Shared.mk (@left_heap_177 (@PySem.World.params x0)) (@Array.mk.{0} @PySem.GenState []) (@PySem.Drawn.mk 0 0 0 0) (nat_lit 425) x1))))) (fun (x1 : @PySem.OsState) => (@Prod.mk.{0, 0} @Bool (@Prod.{0, 0} (@Prod.{0, 0} @PyProof.Rows.Seen (@Prod.{0, 0} (@Prod.{0, 0} (@Option.{0} @PySem.Str) (@List.{0} (@Prod.{0, 0} @PySem.Str @PySem.Value))) (@Prod.{0, 0} @Bool (@Prod.{0, 0} @Bool (@Prod.{0, 0} (@Prod.{0, 0} (@List.{0} (@Option.{0} @PySem.FnShape)) @Bool) (@Prod.{0, 0} (@List.{0} (@Option.{0} @PyProof.Rows.PlainShape)) (@Prod.{0, 0} (@List.{0} (@Option.{0} (@Prod.{0, 0} @PyProof.Rows.PlainShape @Bool))) (@Prod.{0, 0} (@Prod.{0, 0} (@List.{0} (@Option.{0} @PySem.FnShape)) @Bool) (@List.{0} (@Prod.{0, 0} (@Option.{0} (@Prod.{0, 0} (@List.{0} (@Option.{0} @PySem.FnShape)) @Bool)) (@Option.{0} (@Prod.{0, 0} @PyProof.Rows.PlainShape @Bool)))))))))))) (@PySem.W.Hook.α (@PySem.W.kHook @K @as @as_eq))) @Bool.true (@Prod.mk.{0, 0} (@Prod.{0, 0} @PyProof.Rows.Seen (@Prod.{0, 0} (@Prod.{0, 0} (@Option.{0} @PySem.Str) (@List.{0} (@Prod.{0, 0} @PySem.Str @PySem.Value))) (@Prod.{0, 0} @Bool (@Prod.{0, 0} @Bool (@Prod.{0, 0} (@Prod.{0, 0} (@List.{0} (@Option.{0} @PySem.FnShape)) @Bool) (@Prod.{0, 0} (@List.{0} (@Option.{0} @PyProof.Rows.PlainShape)) (@Prod.{0, 0} (@List.{0} (@Option.{0} (@Prod.{0, 0} @PyProof.Rows.PlainShape @Bool))) (@Prod.{0, 0} (@Prod.{0, 0} (@List.{0} (@Option.{0} @PySem.FnShape)) @Bool) (@List.{0} (@Prod.{0, 0} (@Option.{0} (@Prod.{0, 0} (@List.{0} (@Option.{0} @PySem.FnShape)) @Bool)) (@Option.{0} (@Prod.{0, 0} @PyProof.Rows.PlainShape @Bool)))))))))))) (@PySem.W.Hook.α (@PySem.W.kHook @K @as @as_eq)) (@PySem.W.openGood @q [(PySem.Str.ofString "b1_set")]) (@PySem.W.Hook.val (@PySem.W.kHook @K @as @as_eq) x0)))) (fun (x1 : @PySem.OsState) => (@left__proof_227 x0 x1)))))

end Mine
end

section
open PySem PySem.W PyProof.Rows PySem.Calls PySem.Spec
set_option Elab.async false
namespace Mine
/-- the 27 signs of table B.1 -/
def b1List : List Nat := [173, 847, 6150, 6155, 6156, 6157, 8203, 8204, 8205, 8288, 65279, 65024, 65025, 65026, 65027, 65028, 65029, 65030, 65031, 65032, 65033, 65034, 65035, 65036, 65037, 65038, 65039]
def inB1 (c : Nat) : Bool := b1List.contains c
def esOf (K : Frag) : Array (Int × Value) := match K.lookup 29 with
  | some ⟨_, _, .set es _ _, _⟩ => es
  | _ => #[]
def tabOf29 (K : Frag) : SetTable := match K.lookup 29 with
  | some ⟨_, _, .set _ _ t, _⟩ => t
  | _ => .fresh 0 0 true
def hasInt (es : List (Int × Value)) (k : Int) : Bool := es.any fun e => e.2.isInt k
def intHashed (e : Int × Value) : Bool := match e.2 with
  | .int n _ => e.1 == hashInt n
  | _ => false
def intsOf (es : List (Int × Value)) : List Int := es.map fun e => match e.2 with | .int n _ => n | _ => 0

theorem hasInt_eq : ∀ {es : List (Int × Value)}, es.all intHashed = true → ∀ k : Int, hasInt es k = (intsOf es).contains k
  | [], _, k => rfl
  | e :: r, h, k => by
    rw [List.all_cons, Bool.and_eq_true] at h
    obtain ⟨h0, v⟩ := e
    have ih := hasInt_eq h.2 k
    have h1 := h.1
    unfold intHashed at h1
    cases v <;> simp only [Bool.false_eq_true] at h1
    rename_i n t
    unfold hasInt intsOf at ih ⊢
    rw [List.any_cons, List.map_cons, List.contains_cons, ih]
    congr 1
    show Value.isInt k (.int n t) = (k == n)
    show (n == k) = (k == n)
    exact Bool.eq_iff_iff.mpr ⟨fun x => beq_iff_eq.mpr (beq_iff_eq.mp x).symm, fun x => beq_iff_eq.mpr (beq_iff_eq.mp x).symm⟩

theorem b1_setOf {w : World} {h : Heap} (X : (K w.params).In h) : h.SetOf (intKind PySem.Challenge.rw_tr0009_01.prog w) 29 (fun k => hasInt (esOf (K w.params)).toList k) 27 := by
  have hl : (K w.params).lookup 29 = some ⟨.type "set", none, .set (esOf (K w.params)) 29 (tabOf29 (K w.params)), #[]⟩ := by kernel_rfl
  have ht : (tabOf29 (K w.params)).fits 27 = true := by kernel_rfl
  have hz : (esOf (K w.params)).size = 27 := by kernel_rfl
  have ha : (esOf (K w.params)).toList.all intHashed = true := by kernel_rfl
  refine ⟨_, _, _, _, X _ _ hl, ⟨rfl, rfl, rfl⟩, rfl, fun e he => ?_, fun k => ?_, by rw [hz]; decide, by rw [hz]; exact ht, hz⟩
  · have := List.all_eq_true.mp ha e he
    obtain ⟨h0, v⟩ := e
    unfold intHashed at this
    cases v <;> simp only [Bool.false_eq_true] at this
    rename_i n t
    exact ⟨⟨n, by show Value.isInt n (.int n t) = true; simp [Value.isInt], eq_of_beq this⟩, rfl⟩
  · show List.any _ _ = true ↔ _
    rw [List.any_eq_true]; rfl
theorem b1_is (w : World) (c : Nat) : hasInt (esOf (K w.params)).toList (c : Int) = inB1 c := by
  have ha : (esOf (K w.params)).toList.all intHashed = true := by kernel_rfl
  rw [hasInt_eq ha]
  have e : ((intsOf (esOf (K w.params)).toList).all (fun k => (b1List.map Int.ofNat).contains k) && (b1List.map Int.ofNat).all (fun k => (intsOf (esOf (K w.params)).toList).contains k)) = true := by kernel_rfl
  obtain ⟨e1, e2⟩ := Bool.and_eq_true_iff.mp e
  rw [Bool.eq_iff_iff]
  unfold inB1
  simp only [List.contains_iff_mem, List.all_eq_true] at e1 e2 ⊢
  constructor
  · intro h
    obtain ⟨n, hn, hc⟩ := List.mem_map.mp (e1 _ h)
    have : n = c := Int.ofNat.inj hc
    exact this ▸ hn
  · intro h
    exact e2 _ (List.mem_map.mpr ⟨c, h, rfl⟩)
section
variable {prog : Program} {w : World} {A : Around} {E : Value → Shared → Prop} {Q : Flow → Shared → Prop} {s : Shared} {env : Env} {h₀ : Heap} {L : Addr}
/-- a while by what holds between its turns, with nothing that is filled in by itself -/
theorem my_while {σ : Type} {test : Expr} {body : List Stmt} {pos : Pos} {m₀ : Str → Option Value} (Led : σ → List (Addr × Obj)) (ps : σ → List (Str × Value)) (stored : List Str) (P : σ → Prop) (μ : σ → Nat) (c₀ : σ)
    (F : Fr h₀ L s.heap m₀) (N : News h₀ L s.heap (Led c₀)) (hk : ∀ p ∈ ps c₀, m₀ p.1 = some p.2) (hp : P c₀)
    (turn : ∀ (c : σ) (u : Str → Option Value) h tk, P c → Fr h₀ L h (kstB (fun z => if stored.contains z then u z else m₀ z) (ps c)) → News h₀ L h (Led c) →
      wpAny (model prog w) A (isTrue test env (eval test env)) (fun b s₂ =>
        if b = true then wpAny (model prog w) A (execs body env) (KswPost h₀ L s Led ps (fun _ => True) stored m₀ P μ Q c) E s₂ else Q .next s₂) E { s with heap := h, toks := tk })
    (hE : PassesOwn (model prog w) A env E) :
    wpAny (model prog w) A (exec (.While test body [] pos) env) Q E s :=
  ksw_while Led ps (fun _ => True) stored P μ c₀ F N trivial hk hp (fun c u h tk _ hp F N => turn c u h tk hp F N) hE
end
end Mine
end

section
open PySem PySem.W PyProof.Rows PySem.Calls PySem.Spec
set_option Elab.async false
namespace Mine
local macro_rules | `(tactic| walk_at "PAD0") => `(tactic| fail)
theorem in_b1 {w : World} {A : Around} {E : Value → Shared → Prop} {s : Shared} {h₀ : Heap} {L : Addr} {m : Str → Option Value} {c : Nat} {t : Tok} {Q : Value → Shared → Prop}
    (F : Fr h₀ L s.heap m) (X : (K w.params).In h₀) (h : Q (.bool (inB1 c)) { s with toks := s.toks + 1 }) :
    wpAny (model PySem.Challenge.rw_tr0009_01.prog w) A (compareOp .In (.int (c : Int) t) (.ref 29)) Q E s := by
  refine wpAny_inSet_of (knd := intKind PySem.Challenge.rw_tr0009_01.prog w) (k := (c : Int)) (S := fun k => hasInt (esOf (K w.params)).toList k) (n := 27) (intKind_is _ _ _ _) rfl (b1_setOf (X.keeps F.keep)) ?_
  show Q (.bool (hasInt (esOf (K w.params)).toList (c : Int))) _
  rw [b1_is]; exact h
local macro_rules | `(tactic| walk_at "compareOp In int ref") => `(tactic| (k_here; k_dflt (refine' in_b1 ?F ?X ?_; (case F => k_asm); (case X => k_asm)); (try dsimp only)))
section
variable {w : World} {pT : Program} {lT : List Str} {mean : ExcName → Option Value} {mg mb : Str → Option Value} {dp un : Nat} {gd : Option (List Code)} {cn : Str} {cs : Scope} {a : Addr} {ccd : Value} {cl : List (Str × Addr)} {outer : List Env} {A₀ : Around} {base h₀ : Heap} {L : Addr} {m : Str → Option Value} {news : List (Addr × Obj)} {s : Shared} {Q E : Value → Shared → Prop}
set_option maxRecDepth 100000 in
set_option maxHeartbeats 8000000 in
theorem b1_use {c : Nat} {t : Tok} (B : Below A₀ base outer h₀) (F : Fr h₀ L s.heap m) (X : (K w.params).In h₀) (N : News h₀ L s.heap news) (T : Top pT lT mean mg mb h₀) (hk : cs.kind = .function)
    (hd : dp + 2 < recursionLimit) (hu : un + 16 < cLine) (hret : ∀ (t : Tok) (h' : Heap) (tk' : Nat), Fr h₀ L h' m → News h₀ L h' news → Q (.bool (inB1 c)) { s with heap := h', toks := tk' }) :
    wpAny (model PySem.Challenge.rw_tr0009_01.prog w) (ktrTop dp un gd cn cs L a ccd cl outer) (call (.ref 39) [.str ⟨#[c]⟩ t]) Q E s := by
  have hfill : PySem.Challenge.rw_tr0009_01.prog = PySem.Challenge.rw_tr0009_01.prog ∧ K = K := by k_fill; exact ⟨rfl, rfl⟩
  clear hfill
  refine wpAny_call ?_
  k_dflt cell_enter
  k_steps
  all_goals cb_end hret
end
end Mine
end

section
open PySem PySem.W PyProof.Rows PySem.Calls PySem.Spec
set_option Elab.async false
namespace Mine
local macro_rules | `(tactic| walk_at "PAD0") => `(tactic| fail)
local macro_rules | `(tactic| walk_at "PAD1") => `(tactic| fail)
local macro_rules | `(tactic| walk_at "PAD2") => `(tactic| fail)
def onesI (n : Int) : Int := (n % 2) + (n / 2 % 2) + (n / 4 % 2) + (n / 8 % 2)
local macro_rules | `(tactic| walk_at "ENTERC") => `(tactic| (refine' code_defC ?k1 ?k2 ?k3 ?k4 ?k5 ?kA ?kF ?kK ?k6 ?k7 ?k8 ?k9 ?kB ?kD ?_ ?c2 ?c3 ?c4; (case kA => exact rfl); (case kF => exact rfl); (case kK => assumption); (case k1 => k_asm); (case k2 => k_asm); (case k3 => k_asm); (case k4 => k_asm); (case k5 => k_asm); (case k6 => k_is); (case k7 => k_is); (case k8 => ktr_room); (case k9 => first | exact BindsTo.of_eq rfl | exact binds_K (by k_in) rfl (by k_is) rfl rfl rfl | fail "k_enter: no rule for these arguments"); (case kB => exact rfl); (case kD => decide +kernel); (case c2 => exact rfl); (case c3 => exact rfl); (case c4 => exact rfl); k_whole; intro g' L' h' tk' cells' FG' F' N' Y' B' X' T' l1; (try k_lt l1); k_cells Y'; (try simp only [List.cons_append, List.nil_append] at N'); (try dsimp only); (try k_lift B'); (try k_fold)))
theorem ones_eq {n : Int} (h : 0 ≤ n ∧ n < 16) : (List.map (fun k' : Int => Builtin.bitAnd (n.fdiv (2 ^ k'.toNat)) 1) (rangeKs 0 (4 - 0 : Int).toNat)).sum = onesI n := by
  have key : ∀ k : Fin 16, (List.map (fun k' : Int => Builtin.bitAnd ((k.val : Int).fdiv (2 ^ k'.toNat)) 1) (rangeKs 0 (4 - 0 : Int).toNat)).sum = onesI (k.val : Int) := by decide +kernel
  have := key ⟨n.toNat, by omega⟩
  simpa [Int.toNat_of_nonneg h.1] using this
section
variable {w : World} {pT : Program} {lT : List Str} {mean : ExcName → Option Value} {mg mb : Str → Option Value} {dp un : Nat} {gd : Option (List Code)} {cn : Str} {cs : Scope} {a : Addr} {ccd : Value} {cl : List (Str × Addr)} {outer : List Env} {A₀ : Around} {base h₀ : Heap} {L : Addr} {m : Str → Option Value} {news : List (Addr × Obj)} {s : Shared} {Q E : Value → Shared → Prop}
set_option maxRecDepth 100000 in
set_option maxHeartbeats 8000000 in
theorem ones_use {n : Int} {t : Tok} (B : Below A₀ base outer h₀) (F : Fr h₀ L s.heap m) (X : (K w.params).In h₀) (N : News h₀ L s.heap news) (T : Top pT lT mean mg mb h₀) (hk : cs.kind = .function)
    (hd : dp + 2 < recursionLimit) (hu : un + 16 < cLine) (hn : 0 ≤ n ∧ n < 16) (hret : ∀ (t : Tok) (h' : Heap) (tk' : Nat), Fr h₀ L h' m → News h₀ L h' news → Q (.int (onesI n) t) { s with heap := h', toks := tk' }) :
    wpAny (model PySem.Challenge.rw_tr0009_01.prog w) (ktrTop dp un gd cn cs L a ccd cl outer) (call (.ref 151) [.int n t]) Q E s := by
  have hfill : PySem.Challenge.rw_tr0009_01.prog = PySem.Challenge.rw_tr0009_01.prog ∧ K = K := by k_fill; exact ⟨rfl, rfl⟩
  clear hfill
  refine wpAny_call ?_
  k_dflt (walk_at "ENTERC")
  k_steps
  refine' cb_retI hret ?e1 ?e2 ?e3
  case e1 => exact ones_eq (by assumption)
  case e2 => k_asm
  case e3 => refine' cb_drop ?cbN ?cbS; (case cbN => assumption); (case cbS => kcj_all)
end
end Mine
end

section
open PySem PySem.W PyProof.Rows PySem.Calls PySem.Spec
open PyProof.Rows.LCg PyProof.Rows.LCt
set_option Elab.async false
set_option maxHeartbeats 2000000
namespace Mine
section
variable {prog : Program} {w : World} {A : Around} {E : Value → Shared → Prop} {s : Shared} {h₀ : Heap} {L : Addr} {m : Str → Option Value} {env : Env}

/-- a comprehension with one test over the signs of a text: what is asked of the text -/
def SrcST (prog : Program) (w : World) (A : Around) (h₀ : Heap) (L : Addr) (m : Str → Option Value) (env : Env) (ct elt : Expr) (x : Str) (scope : Scope) (cl : List (Str × Addr)) (Fin : Shared → List Value → List (Addr × Obj) → Prop) (xv : Value) (s₁ : Shared) : Prop :=
  ∃ X t news, xv = .str X t ∧ A.handled = none ∧ Fr h₀ L s₁.heap m ∧ News h₀ L s₁.heap news ∧ X.cps.size ≤ sizeLine ∧
    ∀ s₂ : Shared, (∃ h, s₂ = { s₁ with heap := h }) → CompRestT prog w A h₀ L m env ct elt x scope cl s₂ (fun _ => True) (SignAt X) (Fin s₂) X.cps.size 0 [] news

theorem ListComp_TS {ct elt iter : Expr} {x : Str} {px : Pos} {scope : Scope} {cl : List (Str × Addr)} {pos : Pos} {Q : Value → Shared → Prop} (_F₀ : Fr h₀ L s.heap m)
    (hclos : closureFor scope env = pure cl) (hcell : ∀ y ∈ scope.names, y.2 ≠ .cell) (hkind : scope.kind = .function)
    (hnames : ∀ y ∈ scope.names, y.2 = .local → scope.names.lookup y.1 = some .local) (hx : scope.names.lookup x = some .local)
    (h : wpAny (model prog w) A (eval iter env) (SrcST prog w A h₀ L m env ct elt x scope cl (fun s₂ => FinE h₀ L m s₂ Q)) E s)
    (hs : ∀ x, foldedSetIterable iter env x = pure x := by intro _; rfl) :
    wpAny (model prog w) A (eval (.ListComp elt [⟨.Name x px, iter, [ct], 0⟩] scope pos) env) Q E s := by
  rw [eval_ListComp]
  refine wpAny_comprehension_free (use := none) rfl hs hclos hkind hnames (wpAny_mono h (fun xv s₁ h₁ => ?_) fun _ _ e => e)
  obtain ⟨X, t, news, rfl, hh, F, N, hsz, R⟩ := h₁
  have fin : ∀ (o : Obj) (cls : String), (∀ A' : Around, A'.handled = none → Walks prog w A' s₁.heap.objs.size [s₁.heap.objs.size] [s₁.heap.objs.size] X.cps.size (SignAt X) (fun i h => h.IsStrIter s₁.heap.objs.size cls X t i)) →
      (s₁.heap.push o).IsStrIter s₁.heap.objs.size cls X t 0 → _ := fun o cls W st =>
    block_T (env := env) (elt := elt) (ct := ct) (iter := iter) (x := x) (px := px) (pos := pos) (scope := scope) (cl := cl) (m := m) (L := L) (h₀ := h₀) (s₂ := { s₁ with heap := s₁.heap.push o }) (E := E) (S := fun _ => True)
      (Fin := FinE h₀ L m { s₁ with heap := s₁.heap.push o } Q) (RR := compPost (model prog w) A E none Q)
      (W A hh) hsz (fun i h st => by obtain ⟨o, e, _⟩ := st; exact ⟨o, e⟩)
      (fun i h h' o nw st e e' _ _ _ => by obtain ⟨o', e2, r⟩ := st; rw [e] at e2; cases e2; exact ⟨o, e', r⟩) hcell hkind hx st
      (fun b hb => by rw [List.mem_singleton.mp hb]; show s₁.heap.objs.size < (s₁.heap.push _).objs.size; rw [Heap.size_push]; exact Nat.lt_succ_self _)
      (F.keeps fun _ _ e => Heap.get?_push_of_some _ e) (N.grown fun _ _ e => Heap.get?_push_of_some _ e) (Nat.ne_of_lt F.ns.lt) (next_is_new F) (fun p hp => Nat.ne_of_lt (Heap.lt_size (N p hp).1)) trivial (R _ ⟨_, rfl⟩)
      (fun D C h tk m' ys news' F' N' o1 hn hC₀ hD₀ hCL hDL hCD offC fin => by
        refine ⟨m', hn, fun h'' hs'' => fin D h'' tk (F'.change hs'' hCL hC₀) (fun p hp => ?_) o1⟩
        refine ⟨hs''.extBut _ _ ?_ (N' p hp).1, (N' p hp).2⟩
        rcases List.mem_cons.mp hp with rfl | hp
        · exact Ne.symm hCD
        · exact offC p hp)
  cases ha : X.cps.all (· < 128)
  · exact wpAny_pyIter_wide ha (fin { cls := .type "str_iterator", data := .fields #[.str X t, .int 0 0] } _ (fun A' hA => Walks.strWide hA _ X t) ⟨_, Heap.get?_push_size _ rfl, rfl, rfl⟩)
  · exact wpAny_pyIter_ascii ha (fin { cls := .type "str_ascii_iterator", data := .fields #[.str X t, .int 0 0] } _ (fun A' hA => Walks.strAscii hA _ X t) ⟨_, Heap.get?_push_size _ rfl, rfl, rfl⟩)
end
end Mine
end

section
open PySem PySem.W PyProof.Rows PySem.Calls PySem.Spec
open PyProof.Rows.LCg PyProof.Rows.LCt
set_option Elab.async false
namespace Mine
local macro_rules | `(tactic| walk_at "PAD0") => `(tactic| fail)
local macro_rules | `(tactic| walk_at "PAD1") => `(tactic| fail)
local macro_rules | `(tactic| walk_at "PAD2") => `(tactic| fail)
local macro_rules | `(tactic| walk_at "PAD3") => `(tactic| fail)
local macro_rules | `(tactic| walk_at "PAD4") => `(tactic| fail)
abbrev sg (c : Nat) : Str := ⟨#[c]⟩
def bareL (x : List Nat) : List Nat := x.filter fun c => !inB1 c
theorem strsAre_snoc {y : Str} {t : Tok} : ∀ {vs : List Value} {ys : List Str}, StrsAre vs ys → StrsAre (vs ++ [.str y t]) (ys ++ [y])
  | _, _, .nil => .cons y t .nil
  | _, _, .cons z u r => .cons z u (strsAre_snoc r)
section
variable {prog : Program} {w : World} {A : Around} {h₀ : Heap} {L : Addr} {m : Str → Option Value} {env : Env} {ct elt : Expr} {x : Str} {scope : Scope} {cl : List (Str × Addr)} {s : Shared} {Fin : List Value → List (Addr × Obj) → Prop} {news : List (Addr × Obj)}
theorem str_rest {X : Str} (p : Nat → Bool)
    (turn : ∀ c u I oI C oC D m₂ ys h tk (E' : Value → Shared → Prop), NsObj oC m₂ → m₂ x = some (.str (sg c) u) → Fr h₀ L h m → News h₀ L h ((I, oI) :: (C, oC) :: (D, lst ys) :: news) → Off3 I C D news → ((@Ne Nat I C) ∧ (@Ne Nat I D) ∧ (@Ne Nat C D)) →
      wpAny (model prog w) A (isTrue ct (compEnvC scope cl C env) (eval ct (compEnvC scope cl C env))) (fun b s' => b = p c ∧ if b = true then
        wpAny (model prog w) A (eval elt (compEnvC scope cl C env)) (CompEnd h₀ L m { s with heap := h, toks := tk } I oI C oC D (lst ys) (fun _ => True) (fun y news' => news' = news ∧ ∃ u', y = .str (sg c) u')) E' s'
        else CompEnd h₀ L m { s with heap := h, toks := tk } I oI C oC D (lst ys) (fun _ => True) (fun _ news' => news' = news) Value.none s') E' { s with heap := h, toks := tk })
    (fin : ∀ ys, StrsAre ys ((X.cps.toList.filter p).map sg) → Fin ys news) : CompRestT prog w A h₀ L m env ct elt x scope cl s (fun _ => True) (SignAt X) Fin X.cps.size 0 [] news := by
  have key : ∀ (j i : Nat) (ys : List Value), i + j = X.cps.size → StrsAre ys (((X.cps.toList.take i).filter p).map sg) → CompRestT prog w A h₀ L m env ct elt x scope cl s (fun _ => True) (SignAt X) Fin j i ys news := by
    intro j
    induction j with
    | zero =>
      intro i ys hi hy
      have e : i = X.cps.toList.length := by rw [Array.length_toList]; omega
      subst e
      rw [List.take_length] at hy
      exact CompRestT.zero (fin ys hy)
    | succ j ih =>
      intro i ys hi hy
      refine CompRestT.succ ?_
      intro v I oI C oC D m₂ h tk E' hv hC hx F N off ne
      obtain ⟨c, u, hc, rfl⟩ := hv
      have hc' : X.cps.toList[i]? = some c := by rw [Array.getElem?_toList]; exact hc
      refine wpAny_mono (turn c u I oI C oC D m₂ ys h tk E' hC hx F N off ne) (fun b s₂ hq => ?_) fun _ _ e => e
      obtain ⟨hb, hq⟩ := hq
      subst hb
      cases hp : p c with
      | true =>
        rw [hp] at hq
        simp only [if_true] at hq ⊢
        refine wpAny_mono hq (fun y s₃ hr => ?_) fun _ _ e => e
        obtain ⟨h', tk', nw, e, F', N', off', hS, hn, u', hy'⟩ := hr
        rw [hn] at N' off'
        refine ⟨h', tk', news, e, F', N', off', hS, ?_⟩
        rw [hy']
        refine ih (i + 1) _ (by omega) ?_
        rw [List.take_add_one, hc']
        simp only [Option.toList, List.filter_append, List.map_append]
        have : ([c].filter p).map sg = [sg c] := by simp [hp]
        rw [this]
        exact strsAre_snoc hy
      | false =>
        rw [hp] at hq
        simp only [Bool.false_eq_true, if_false] at hq ⊢
        obtain ⟨h', tk', nw, e, F', N', off', hS, hn⟩ := hq
        rw [hn] at N' off'
        refine ⟨h', tk', news, e, F', N', off', hS, ih (i + 1) _ (by omega) ?_⟩
        rw [List.take_add_one, hc']
        simp only [Option.toList, List.filter_append, List.map_append]
        have : ([c].filter p).map sg = [] := by simp [hp]
        rw [this, List.append_nil]
        exact hy
  exact key _ 0 [] (by omega) (by simp only [List.take_zero, List.filter_nil, List.map_nil]; exact .nil)
end
theorem weight_sg (l : List Nat) : ((l.map sg).map (·.length)).sum + (l.map sg).length = 2 * l.length := by
  induction l with
  | nil => rfl
  | cons a r ih =>
    simp only [List.map_cons, List.sum_cons, List.length_cons] at ih ⊢
    have : (sg a).length = 1 := rfl
    omega
theorem fold_sg (l : List Nat) : ∀ acc : Array Nat, (l.map sg).foldl (fun acc p => acc ++ (Str.ofString "").cps ++ p.cps) acc = acc ++ l.toArray := by
  have e0 : (Str.ofString "").cps = #[] := by decide +kernel
  induction l with
  | nil => intro acc; simp
  | cons a r ih =>
    intro acc
    rw [List.map_cons, List.foldl_cons, ih, e0]
    apply Array.toList_inj.mp
    simp
theorem join_nil_sg (l : List Nat) : Txt.join (Str.ofString "") (l.map sg) = ⟨l.toArray⟩ := by
  show Builtin.Str.glued _ _ = _
  unfold Builtin.Str.glued
  cases l with
  | nil => rfl
  | cons a r =>
    show Str.mk (((r.map sg)).foldl (fun acc p => acc ++ (Str.ofString "").cps ++ p.cps) #[a]) = _
    rw [fold_sg]
    congr 1
    apply Array.toList_inj.mp
    simp
theorem wt_sg {x : Str} (p : Nat → Bool) (hx : x.cps.size < 1000) : (((x.cps.toList.filter p).map sg).map (·.length)).sum + ((x.cps.toList.filter p).map sg).length ≤ 1048576 := by
  rw [weight_sg]
  have := List.length_filter_le p x.cps.toList
  have h2 : x.cps.toList.length = x.cps.size := Array.length_toList
  omega
local macro_rules | `(tactic| walk_at "call ref") => `(tactic| (k_here; k_dflt (refine' b1_use ?k1 ?k2 ?k3 ?k4 ?k5 ?kK ?kd ?ku ?kR; (case k1 => k_asm); (case k2 => k_asm); (case k3 => k_asm); (case k4 => k_asm); (case k5 => k_asm); (case kK => exact rfl); (case kd => ktr_room); (case ku => ktr_units)); intro t9 h9 tk9 F9 N9; (try dsimp only); (try k_fold)))
section
variable {w : World} {pT : Program} {lT : List Str} {mean : ExcName → Option Value} {mg mb : Str → Option Value} {dp un : Nat} {gd : Option (List Code)} {cn : Str} {cs : Scope} {a : Addr} {ccd : Value} {cl : List (Str × Addr)} {outer : List Env} {A₀ : Around} {base h₀ : Heap} {L : Addr} {m : Str → Option Value} {news : List (Addr × Obj)} {s : Shared} {Q E : Value → Shared → Prop}
set_option maxRecDepth 100000 in
set_option maxHeartbeats 8000000 in
theorem bare_use {x : Str} {t : Tok} (B : Below A₀ base outer h₀) (F : Fr h₀ L s.heap m) (X : (K w.params).In h₀) (N : News h₀ L s.heap news) (T : Top pT lT mean mg mb h₀) (hk : cs.kind = .function)
    (hd : dp + 5 < recursionLimit) (hu : un + 50 < cLine) (hx : x.cps.size < 1000) (hret : ∀ (t : Tok) (h' : Heap) (tk' : Nat), Fr h₀ L h' m → News h₀ L h' news → Q (.str ⟨(bareL x.cps.toList).toArray⟩ t) { s with heap := h', toks := tk' }) :
    wpAny (model PySem.Challenge.rw_tr0009_01.prog w) (ktrTop dp un gd cn cs L a ccd cl outer) (call (.ref 118) [.str x t]) Q E s := by
  have hfill : PySem.Challenge.rw_tr0009_01.prog = PySem.Challenge.rw_tr0009_01.prog ∧ K = K := by k_fill; exact ⟨rfl, rfl⟩
  clear hfill
  refine wpAny_call ?_
  k_dflt cell_enter
  iterate 8 walk1
  k_dflt (refine ListComp_TS (_F₀ := by k_asm) (by with_unfolding_all rfl) (by decide) (by rfl) (by decide) (by rfl) ?_)
  walk1
  k_dflt (refine ⟨x, _, _, rfl, rfl, by k_asm, by k_asm, ?sz, ?_⟩)
  case sz => rw [sizeLine_eq]; omega
  rintro _ ⟨gg, rfl⟩
  refine str_rest (fun c => !inB1 c) ?turn ?fin
  case turn =>
    intro c' u' I oI C oC D m₂ ys h tk E' hC hx F N off ne
    k_steps
    · exact CompEnd.intro (by k_asm) (by k_asm) news (fun p hp => hp) off trivial rfl
    · exact CompEnd.intro (by k_asm) (by k_asm) news (fun p hp => hp) off trivial ⟨rfl, _, rfl⟩
  case fin =>
    intro ys hys
    k_steps
    k_dflt (refine join_listW (ys := (x.cps.toList.filter fun c => !inB1 c).map sg) (News.isList (by assumption) (.head _)) (by simpa using hys) (by decide) ?wt ?_)
    case wt => exact wt_sg _ (by assumption)
    rw [join_nil_sg]
    intro t9 tk9
    k_steps
    all_goals cb_end hret
end
end Mine
end

section
open PySem PySem.W PyProof.Rows PySem.Calls PySem.Spec
set_option Elab.async false
namespace Mine
def nameL : List Nat → List Nat
  | [] => []
  | 34 :: 34 :: r => 34 :: nameL r
  | 34 :: _ => []
  | c :: r => c :: nameL r
def preS : List Nat := [50, 53, 55, 32, 34]
theorem nameL_quote_end : nameL [34] = [] := rfl
theorem nameL_quote_two (r : List Nat) : nameL (34 :: 34 :: r) = 34 :: nameL r := by rw [nameL]
theorem nameL_quote_other {c : Nat} (h : c ≠ 34) (r : List Nat) : nameL (34 :: c :: r) = [] := by
  rw [nameL]; exact fun _ e => h (List.cons.inj e).1
theorem nameL_other {c : Nat} (h : c ≠ 34) (r : List Nat) : nameL (c :: r) = c :: nameL r := by
  rw [nameL] <;> (intros; omega)
theorem item_at {x : Str} {y : List Nat} (hx : x.cps.toList = preS ++ y) {i : Nat} (h0 : 5 ≤ i) (h1 : i < 5 + y.length) : Txt.item x (i : Int) = ⟨#[y[i - 5]'(by omega)]⟩ ∧ y.drop (i - 5) = y[i - 5]'(by omega) :: y.drop (i - 5 + 1) := by
  refine ⟨?_, List.drop_eq_getElem_cons (by omega)⟩
  have e : x.cps.toList[i]? = some (y[i - 5]'(by omega)) := by
    rw [hx, List.getElem?_append_right (by show 5 ≤ i; exact h0)]
    show y[i - 5]? = _
    rw [List.getElem?_eq_getElem (by omega)]
  rw [Array.getElem?_toList] at e
  have hl : x.length = 5 + y.length := by
    have := congrArg List.length hx
    rw [Array.length_toList, List.length_append] at this
    exact this
  have hs : seqIndex? (i : Int) x.length = some i := by
    unfold seqIndex?
    simp [hl]
    omega
  unfold Txt.item Txt.charAt
  rw [hs]
  show Str.mk #[(x.cps[i]?).getD 0] = _
  rw [e]; rfl
theorem str_quote {c : Nat} : ((⟨#[c]⟩ : Str) == Str.ofString "\"") = (c == 34) := by
  have : Str.ofString "\"" = ⟨#[34]⟩ := by decide +kernel
  rw [this, Bool.eq_iff_iff]
  simp
/-- one turn of the reader over a sign that is no quote, or over two quotes -/
theorem name_turn {x : Str} {y : List Nat} (hx : x.cps.toList = preS ++ y) {i : Nat} {d : Str} (h0 : 5 ≤ i) (h1 : (i : Int) < ↑(5 + y.length)) (hd : d.length ≤ i) (hp : d.cps.toList ++ nameL (y.drop (i - 5)) = nameL y)
    (h2 : (Txt.item x i == Str.ofString "\"") = false) : i + 1 ≤ 5 + y.length ∧ (d ++ Txt.item x i).length ≤ i + 1 ∧ (d ++ Txt.item x i).cps.toList ++ nameL (y.drop (i + 1 - 5)) = nameL y := by
  have h1' : i < 5 + y.length := by omega
  obtain ⟨e1, e2⟩ := item_at hx h0 h1'
  rw [e1, str_quote] at h2
  have h2' : y[i - 5]'(by omega) ≠ 34 := fun q => by rw [q] at h2; cases h2
  rw [e2, nameL_other h2'] at hp
  refine ⟨by omega, ?_, ?_⟩
  · rw [e1]; show (d.cps ++ #[_]).size ≤ _; rw [Array.size_append]; show d.length + 1 ≤ i + 1; omega
  · rw [e1]
    show (d.cps ++ #[_]).toList ++ _ = _
    rw [Array.toList_append, List.append_assoc, show i + 1 - 5 = i - 5 + 1 by omega]
    exact hp
theorem name_turn2 {x : Str} {y : List Nat} (hx : x.cps.toList = preS ++ y) {i : Nat} {d : Str} (h0 : 5 ≤ i) (hd : d.length ≤ i) (hp : d.cps.toList ++ nameL (y.drop (i - 5)) = nameL y)
    (h2 : (Txt.item x i == Str.ofString "\"") = true) (h3 : ¬ ((↑(5 + y.length) : Int) ≤ i + 1)) (h4 : (Txt.item x ((i : Int) + 1) != Str.ofString "\"") = false) :
    i + 2 ≤ 5 + y.length ∧ (d ++ Txt.item x i).length ≤ i + 2 ∧ (d ++ Txt.item x i).cps.toList ++ nameL (y.drop (i + 2 - 5)) = nameL y := by
  have h1' : i < 5 + y.length := by omega
  obtain ⟨e1, e2⟩ := item_at hx h0 h1'
  obtain ⟨e3, e4⟩ := item_at (i := i + 1) hx (by omega) (by omega)
  rw [show ((i + 1 : Nat) : Int) = (i : Int) + 1 by omega] at e3
  rw [e1, str_quote] at h2
  rw [e3, bne, str_quote] at h4
  have q1 : y[i - 5]'(by omega) = 34 := beq_iff_eq.mp h2
  have q2 : y[i + 1 - 5]'(by omega) = 34 := by simpa using h4
  rw [e2, show i - 5 + 1 = i + 1 - 5 by omega, e4, q1, q2, nameL_quote_two] at hp
  refine ⟨by omega, ?_, ?_⟩
  · rw [e1]; show (d.cps ++ #[_]).size ≤ _; rw [Array.size_append]; show d.length + 1 ≤ i + 2; omega
  · rw [e1, q1]
    show (d.cps ++ #[_]).toList ++ _ = _
    rw [Array.toList_append, List.append_assoc, show i + 2 - 5 = i + 1 - 5 + 1 by omega]
    exact hp
theorem name_last {x : Str} {y : List Nat} (hx : x.cps.toList = preS ++ y) {i : Nat} {d : Str} (h0 : 5 ≤ i) (h1 : (i : Int) < ↑(5 + y.length)) (hp : d.cps.toList ++ nameL (y.drop (i - 5)) = nameL y)
    (h2 : (Txt.item x i == Str.ofString "\"") = true) (h3 : (↑(5 + y.length) : Int) ≤ i + 1) : d = ⟨(nameL y).toArray⟩ := by
  obtain ⟨e1, e2⟩ := item_at hx h0 (by omega)
  rw [e1, str_quote] at h2
  have q1 : y[i - 5]'(by omega) = 34 := beq_iff_eq.mp h2
  rw [e2, q1, List.drop_eq_nil_of_le (by omega), nameL_quote_end, List.append_nil] at hp
  rw [← hp]
theorem name_break {x : Str} {y : List Nat} (hx : x.cps.toList = preS ++ y) {i : Nat} {d : Str} (h0 : 5 ≤ i) (hp : d.cps.toList ++ nameL (y.drop (i - 5)) = nameL y)
    (h2 : (Txt.item x i == Str.ofString "\"") = true) (h3 : ¬ ((↑(5 + y.length) : Int) ≤ i + 1)) (h4 : (Txt.item x ((i : Int) + 1) != Str.ofString "\"") = true) : d = ⟨(nameL y).toArray⟩ := by
  obtain ⟨e1, e2⟩ := item_at hx h0 (by omega)
  obtain ⟨e3, e4⟩ := item_at (i := i + 1) hx (by omega) (by omega)
  rw [show ((i + 1 : Nat) : Int) = (i : Int) + 1 by omega] at e3
  rw [e1, str_quote] at h2
  rw [e3, bne, str_quote] at h4
  have q1 : y[i - 5]'(by omega) = 34 := beq_iff_eq.mp h2
  have q2 : y[i + 1 - 5]'(by omega) ≠ 34 := by simpa using h4
  rw [e2, show i - 5 + 1 = i + 1 - 5 by omega, e4, q1, nameL_quote_other q2, List.append_nil] at hp
  rw [← hp]
theorem name_end {y : List Nat} {i : Nat} {d : Str} (h1 : ¬ ((i : Int) < ↑(5 + y.length))) (hp : d.cps.toList ++ nameL (y.drop (i - 5)) = nameL y) : d = ⟨(nameL y).toArray⟩ := by
  rw [List.drop_eq_nil_of_le (by omega)] at hp
  rw [← hp]
  show d = ⟨(d.cps.toList ++ []).toArray⟩
  rw [List.append_nil]
end Mine
end

section
open PySem PySem.W PyProof.Rows PySem.Calls PySem.Spec
set_option Elab.async false
set_option pp.deepTerms false
set_option pp.deepTerms.threshold 6
namespace Mine
local macro_rules | `(tactic| walk_at "PAD0") => `(tactic| fail)
local macro_rules | `(tactic| walk_at "PAD1") => `(tactic| fail)
local macro_rules | `(tactic| walk_at "PAD2") => `(tactic| fail)
local macro_rules | `(tactic| walk_at "PAD3") => `(tactic| fail)
local macro_rules | `(tactic| walk_at "PAD4") => `(tactic| fail)
local macro_rules | `(tactic| walk_at "PAD5") => `(tactic| fail)
local macro_rules | `(tactic| walk_at "PAD6") => `(tactic| fail)
/-- where the reader of a reply stands -/
structure At where
  i : Nat
  ti : Nat
  d : Str
  td : Nat
local macro_rules | `(tactic| walk_at "S") => `(tactic| first | (k_unfold; (try dsimp only)) | walk1 | (dsimp only; walk1))
local macro_rules | `(tactic| walk_at "T") => `(tactic| (set_option pp.deepTerms false in set_option pp.deepTerms.threshold 6 in trace_state))
section
variable {w : World} {pT : Program} {lT : List Str} {mean : ExcName → Option Value} {mg mb : Str → Option Value} {dp un : Nat} {gd : Option (List Code)} {cn : Str} {cs : Scope} {a : Addr} {ccd : Value} {cl : List (Str × Addr)} {outer : List Env} {A₀ : Around} {base h₀ : Heap} {L : Addr} {m : Str → Option Value} {news : List (Addr × Obj)} {s : Shared} {Q E : Value → Shared → Prop}
set_option maxRecDepth 100000 in
set_option maxHeartbeats 8000000 in
theorem p257_use {x : Str} {t : Tok} (y : List Nat) (B : Below A₀ base outer h₀) (F : Fr h₀ L s.heap m) (X : (K w.params).In h₀) (N : News h₀ L s.heap news) (T : Top pT lT mean mg mb h₀) (hk : cs.kind = .function)
    (hd : dp + 5 < recursionLimit) (hu : un + 50 < cLine) (hx : x.cps.toList = preS ++ y) (hy : y.length < 1000)
    (h1 : (Txt.slice x none (some 3) != Str.ofString "257") = false) (h2 : (Txt.slice x (some 3) (some 5) != Str.ofString " \"") = false)
    (hret : ∀ (t : Tok) (h' : Heap) (tk' : Nat), Fr h₀ L h' m → News h₀ L h' news → Q (.str ⟨(nameL y).toArray⟩ t) { s with heap := h', toks := tk' }) :
    wpAny (model PySem.Challenge.rw_tr0009_01.prog w) (ktrTop dp un gd cn cs L a ccd cl outer) (call (.ref 71) [.str x t]) Q E s := by
  have hfill : PySem.Challenge.rw_tr0009_01.prog = PySem.Challenge.rw_tr0009_01.prog ∧ K = K := by k_fill; exact ⟨rfl, rfl⟩
  clear hfill
  have hxl : x.length = 5 + y.length := by
    have := congrArg List.length hx
    rw [Array.length_toList, List.length_append] at this
    exact this
  refine wpAny_call ?_
  k_dflt cell_enter
  iterate 14 walk_at "S"
  rw [h1]
  iterate 18 walk_at "S"
  rw [h2]
  iterate 20 walk_at "S"
  refine len_str (by rw [hxl]; omega) ?_
  rw [hxl]
  iterate 3 walk_at "S"
  k_dflt (refine' my_while (σ := At) (fun _ => news) (fun c : At => [(Str.ofString "i", .int c.i c.ti), (Str.ofString "dirname", .str c.d c.td)]) [Str.ofString "c"] (fun c : At => 5 ≤ c.i ∧ c.i ≤ 5 + y.length ∧ c.d.length ≤ c.i ∧ c.d.cps.toList ++ nameL (y.drop (c.i - 5)) = nameL y) (fun c : At => 5 + y.length - c.i) ⟨5, ?ti, Str.ofString "", ?td⟩ (by k_asm) (by k_asm) ?hk ?hp ?turn ?hE)
  case hk => exact List.forall_mem_cons.mpr ⟨by with_unfolding_all exact rfl, List.forall_mem_cons.mpr ⟨by with_unfolding_all exact rfl, List.forall_mem_nil _⟩⟩
  case hE => first | passes_own | with_unfolding_all passes_own
  case hp => exact ⟨Nat.le_refl _, Nat.le_add_right _ _, Nat.zero_le _, rfl⟩
  case turn =>
    intro c u h tk hp F N
    obtain ⟨hi0, hi1, hd0, hp⟩ := hp
    k_steps
    · rw [name_last hx hi0 (by assumption) hp (by assumption) (by assumption)]
      exact hret _ _ _ (by assumption) (by assumption)
    · rw [name_break hx hi0 hp (by assumption) (by assumption) (by assumption)]
      exact hret _ _ _ (by assumption) (by assumption)
    · obtain ⟨z1, z2, z3⟩ := name_turn2 hx hi0 hd0 hp (by assumption) (by assumption) (by assumption)
      k_dflt (refine' ksw_end ⟨c.i + 2, ?ti2, c.d ++ Txt.item x c.i, ?td2⟩ (by assumption) (by assumption) (fun p hp => hp) trivial ?kk2 ?ks ?kp ?km)
      case kk2 => exact List.forall_mem_cons.mpr ⟨by with_unfolding_all exact rfl, List.forall_mem_cons.mpr ⟨by with_unfolding_all exact rfl, List.forall_mem_nil _⟩⟩
      case ks =>
        intro z h2 h3
        have n1 : z ≠ Str.ofString "i" := h2 _ (.head _)
        have n2 : z ≠ Str.ofString "dirname" := h2 _ (.tail _ (.head _))
        have n3 : z ≠ Str.ofString "c" := by simpa using h3
        simp only [kstB, if_neg n1, if_neg n2, if_neg n3, h3, Bool.false_eq_true, if_false]
      case kp => exact ⟨Nat.le_trans hi0 (Nat.le_add_right _ _), z1, z2, z3⟩
      case km => show 5 + y.length - (c.i + 2) < 5 + y.length - c.i; omega
    · obtain ⟨z1, z2, z3⟩ := name_turn hx hi0 (by assumption) hd0 hp (by assumption)
      k_dflt (refine' ksw_end ⟨c.i + 1, ?ti3, c.d ++ Txt.item x c.i, ?td3⟩ (by assumption) (by assumption) (fun p hp => hp) trivial ?kk ?ks ?kp ?km)
      case kk => exact List.forall_mem_cons.mpr ⟨by with_unfolding_all exact rfl, List.forall_mem_cons.mpr ⟨by with_unfolding_all exact rfl, List.forall_mem_nil _⟩⟩
      case ks =>
        intro z h2 h3
        have n1 : z ≠ Str.ofString "i" := h2 _ (.head _)
        have n2 : z ≠ Str.ofString "dirname" := h2 _ (.tail _ (.head _))
        have n3 : z ≠ Str.ofString "c" := by simpa using h3
        simp only [kstB, if_neg n1, if_neg n2, if_neg n3, h3, Bool.false_eq_true, if_false]
      case kp => exact ⟨Nat.le_trans hi0 (Nat.le_add_right _ _), z1, z2, z3⟩
      case km => show 5 + y.length - (c.i + 1) < 5 + y.length - c.i; omega
    · rw [name_end (by assumption) hp]
      exact hret _ _ _ (by assumption) (by assumption)
end
end Mine
end

section
open PySem PySem.W PyProof.Rows PySem.Calls PySem.Spec
set_option Elab.async false
set_option pp.deepTerms false
set_option pp.deepTerms.threshold 6
namespace Mine
local macro_rules | `(tactic| walk_at "PAD0") => `(tactic| fail)
local macro_rules | `(tactic| walk_at "PAD1") => `(tactic| fail)
local macro_rules | `(tactic| walk_at "PAD2") => `(tactic| fail)
local macro_rules | `(tactic| walk_at "PAD3") => `(tactic| fail)
local macro_rules | `(tactic| walk_at "PAD4") => `(tactic| fail)
local macro_rules | `(tactic| walk_at "PAD5") => `(tactic| fail)
local macro_rules | `(tactic| walk_at "PAD6") => `(tactic| fail)
local macro_rules | `(tactic| walk_at "PAD7") => `(tactic| fail)
local macro_rules | `(tactic| walk_at "PAD8") => `(tactic| fail)
local macro_rules | `(tactic| walk_at "PAD9") => `(tactic| fail)
theorem pre_cps (x : Str) : (Str.ofString "257 \"" ++ x).cps.toList = preS ++ x.cps.toList := by
  have : (Str.ofString "257 \"").cps = #[50, 53, 55, 32, 34] := by decide +kernel
  show ((Str.ofString "257 \"").cps ++ x.cps).toList = _
  rw [this, Array.toList_append]; rfl
theorem slice_pre (x : Str) : (Txt.slice (Str.ofString "257 \"" ++ x) none (some 3) != Str.ofString "257") = false := by
  have h := slice_closes_to (x := Str.ofString "257 \"" ++ x) (j := 3) ⟨by decide, by rw [pre_cps, List.length_append]; show (3 : Int) ≤ ((5 + _ : Nat) : Int); omega⟩
  rw [beq_iff_eq.mp h, pre_cps]
  have : Str.ofString "257" = ⟨#[50, 53, 55]⟩ := by decide +kernel
  rw [this]
  show (!(_ == _)) = false
  simp [preS]
theorem slice_pre2 (x : Str) : (Txt.slice (Str.ofString "257 \"" ++ x) (some 3) (some 5) != Str.ofString " \"") = false := by
  have h := slice_closes (x := Str.ofString "257 \"" ++ x) (i := 3) (j := 5) ⟨by decide, by decide, by rw [pre_cps, List.length_append]; show (5 : Int) ≤ ((5 + _ : Nat) : Int); omega⟩
  rw [beq_iff_eq.mp h, pre_cps]
  have : Str.ofString " \"" = ⟨#[32, 34]⟩ := by decide +kernel
  rw [this]
  show (!(_ == _)) = false
  simp [preS]
local macro_rules | `(tactic| walk_at "call ref") => `(tactic| (k_here; k_dflt (refine' p257_use _ ?k1 ?k2 ?k3 ?k4 ?k5 ?kK ?kd ?ku ?kx ?ky ?kp1 ?kp2 ?kR; (case k1 => k_asm); (case k2 => k_asm); (case k3 => k_asm); (case k4 => k_asm); (case k5 => k_asm); (case kK => exact rfl); (case kd => ktr_room); (case ku => ktr_units); (case kx => exact pre_cps _); (case ky => (rw [Array.length_toList]; assumption)); (case kp1 => exact slice_pre _); (case kp2 => exact slice_pre2 _)); intro t9 h9 tk9 F9 N9; (try dsimp only); (try k_fold)))
section
variable {w : World} {pT : Program} {lT : List Str} {mean : ExcName → Option Value} {mg mb : Str → Option Value} {dp un : Nat} {gd : Option (List Code)} {cn : Str} {cs : Scope} {a : Addr} {ccd : Value} {cl : List (Str × Addr)} {outer : List Env} {A₀ : Around} {base h₀ : Heap} {L : Addr} {m : Str → Option Value} {news : List (Addr × Obj)} {s : Shared} {Q E : Value → Shared → Prop}
set_option maxRecDepth 100000 in
set_option maxHeartbeats 8000000 in
theorem name_use {x : Str} {t : Tok} (B : Below A₀ base outer h₀) (F : Fr h₀ L s.heap m) (X : (K w.params).In h₀) (N : News h₀ L s.heap news) (T : Top pT lT mean mg mb h₀) (hk : cs.kind = .function)
    (hd : dp + 8 < recursionLimit) (hu : un + 100 < cLine) (hx : x.cps.size < 1000)
    (hret : ∀ (t : Tok) (h' : Heap) (tk' : Nat), Fr h₀ L h' m → News h₀ L h' news → Q (.str ⟨(nameL x.cps.toList).toArray⟩ t) { s with heap := h', toks := tk' }) :
    wpAny (model PySem.Challenge.rw_tr0009_01.prog w) (ktrTop dp un gd cn cs L a ccd cl outer) (call (.ref 139) [.str x t]) Q E s := by
  have hfill : PySem.Challenge.rw_tr0009_01.prog = PySem.Challenge.rw_tr0009_01.prog ∧ K = K := by k_fill; exact ⟨rfl, rfl⟩
  clear hfill
  have hxl : x.length < 1000 := hx
  refine wpAny_call ?_
  k_dflt cell_enter
  k_steps
  all_goals cb_end hret
end
end Mine
end

section
open PySem PySem.W PyProof.Rows PySem.Calls PySem.Spec
set_option Elab.async false
namespace Mine
/-- values that are texts of one sign each -/
inductive SignsAre : List Value → List Nat → Prop where
  | nil : SignsAre [] []
  | cons (c : Nat) (t : Tok) {vs cs} : SignsAre vs cs → SignsAre (.str ⟨#[c]⟩ t :: vs) (c :: cs)
theorem SignsAre.length {vs : List Value} {cs : List Nat} (h : SignsAre vs cs) : vs.length = cs.length := by
  induction h with
  | nil => rfl
  | cons c t _ ih => rw [List.length_cons, List.length_cons, ih]
theorem SignsAre.of_get : ∀ {cs : List Nat} {vs : List Value}, vs.length = cs.length → (∀ (i : Nat) (v : Value), vs[i]? = some v → ∃ (c : Nat) (u : Tok), cs[i]? = some c ∧ v = Value.str ⟨#[c]⟩ u) → SignsAre vs cs
  | [], [], _, _ => .nil
  | [], _ :: _, h, _ => by cases h
  | _ :: _, [], h, _ => by cases h
  | c :: cs, v :: vs, h, g => by
    obtain ⟨c', u, e, rfl⟩ := g 0 v rfl
    cases e
    exact .cons _ _ (SignsAre.of_get (by simpa using h) fun i v hv => g (i + 1) v hv)
theorem SignsAre.snoc {vs : List Value} {cs : List Nat} {c : Nat} (h : SignsAre vs (cs ++ [c])) : ∃ vs' t, vs = vs' ++ [.str ⟨#[c]⟩ t] ∧ SignsAre vs' cs := by
  induction cs generalizing vs with
  | nil =>
    cases h with
    | cons c t h => cases h; exact ⟨[], t, rfl, .nil⟩
  | cons b r ih =>
    cases h with
    | cons c t h =>
      obtain ⟨vs', t', rfl, h'⟩ := ih h
      exact ⟨_ :: vs', t', rfl, .cons _ _ h'⟩
theorem rev_cps (x : Str) (u : Tok) : (Txt.sliceBy x none none (-1, u)).cps.toList = x.cps.toList.reverse := by
  rw [step_rev_list]
  apply List.ext_getElem
  · simp [Str.length]
  · intro i h1 h2
    have hi : i < x.cps.size := by simpa using h2
    simp only [List.getElem_map, List.getElem_range, List.getElem_reverse, Str.length]
    rw [Array.getD, dif_pos (by omega)]
    simp
theorem allLt_ne {d x : Nat} : ∀ {l : List (Addr × Obj)}, AllLt d l → @LE.le Nat _ d x → ∀ p ∈ l, p.1 ≠ x
  | [], _, _ => fun _ h => nomatch h
  | _ :: _, h, hx => fun p hp => by
    rcases List.mem_cons.mp hp with rfl | hp
    · exact Nat.ne_of_lt (Nat.lt_of_lt_of_le h.1 hx)
    · exact allLt_ne h.2 hx p hp
section
variable {prog : Program} {w : World} {A : Around} {E : Value → Shared → Prop} {s : Shared} {h₀ : Heap} {L : Addr} {m : Str → Option Value} {news : List (Addr × Obj)} {Q : Value → Shared → Prop}
theorem list_strN {x : Str} {t : Tok} (hh : A.handled = none) (F : Fr h₀ L s.heap m) (N : News h₀ L s.heap news) (hn : x.cps.size ≤ sizeLine)
    (hQ : ∀ D h' tk vs n, Fr h₀ L h' m → News h₀ L h' ((D, { cls := .type "list", data := .seq vs.toArray n }) :: news) → (∀ p ∈ news, p.1 < D) → SignsAre vs x.cps.toList → Q (.ref D) { s with heap := h', toks := tk }) :
    wpAny (model prog w) A (call (.type "list") [.str x t]) Q E s := by
  refine call_list_str hh x t (hn := hn) fun h' tk acc' c' hk hS' hacc => ?_
  refine hQ _ h' tk acc'.toList c' (F.keeps hk) (fun p hp => ?_) (fun p hp => Heap.lt_size (N p hp).1) (SignsAre.of_get (by simp [hacc.1]) fun i v hv => ?_)
  · rcases List.mem_cons.mp hp with rfl | hp
    · refine ⟨by simpa using hS', Nat.ne_of_gt F.ns.lt, ?_⟩
      cases e : h₀.get? s.heap.objs.size with
      | none => rfl
      | some o => exact absurd (Heap.lt_size (F.keep _ _ e)) (Nat.lt_irrefl _)
    · exact ⟨hk _ _ (N p hp).1, (N p hp).2⟩
  · obtain ⟨c, u, hc, rfl⟩ := hacc.2 i v (by simpa using hv)
    exact ⟨c, u, by rw [Array.getElem?_toList]; exact hc, rfl⟩
end
end Mine
end

section
open PySem PySem.W PyProof.Rows PySem.Calls PySem.Spec
open PySem.Sem (wp)
open PySem.Builtin PySem.Builtin.ObjectAttr
set_option Elab.async false
namespace Mine
theorem fa_lk_set : Slot "function" "__setattr__" "object.__setattr__" := .of (owner := "object") (n := "__setattr__") (by rw [typeLookup_type, builtinLookup_eq_fast]; kernel_rfl) (by decide +kernel) (by decide +kernel) (by decide +kernel)
    (by first | exact .inl (by decide +kernel) | exact .inr (by decide +kernel)) (by rw [isSubtype_type]; kernel_rfl)
theorem fa_ga : typeLookup (.type "function") "__getattribute__" = pure (some (.builtin "object.__getattribute__")) := by rw [typeLookup_type, builtinLookup_eq_fast]; kernel_rfl
theorem fa_slot_ga : Slot "function" "__getattribute__" "object.__getattribute__" := .of (owner := "object") (n := "__getattribute__") (by rw [typeLookup_type, builtinLookup_eq_fast]; kernel_rfl) (by decide +kernel) (by decide +kernel) (by decide +kernel)
    (by first | exact .inl (by decide +kernel) | exact .inr (by decide +kernel)) (by rw [isSubtype_type]; kernel_rfl)
theorem fa_gattr : typeLookup (.type "function") "__getattr__" = pure none := by rw [typeLookup_type, builtinLookup_eq_fast]; kernel_rfl
theorem fa_read : typeLookup (.type "function") "read" = pure none := by rw [typeLookup_type, builtinLookup_eq_fast]; kernel_rfl
theorem fa_mro : mroOf (.type "function") = pure [.type "function", .type "object"] := by kernel_rfl
theorem fa_passes (self : Value) : refuseLoop self "__setattr__" [.type "function", .type "object"] = pure () := by kernel_rfl
theorem fa_hasdict : typeHasDict (.type "function") = true := by decide +kernel
section
variable {prog : Program} {w : World} {A : Around} {E : Value → Shared → Prop} {s : Shared} {h₀ : Heap} {L f : Addr} {m : Str → Option Value} {v : Value} {of : Obj} {pre post : List (Addr × Obj)}

theorem fun_set {Q : Unit → Shared → Prop} {fd : FuncData} (F : Fr h₀ L s.heap m) (N : News h₀ L s.heap (pre ++ (f, ⟨.type "function", none, .func fd, #[]⟩) :: post)) (h1 : ∀ p ∈ pre, p.1 ≠ f) (h2 : ∀ p ∈ post, p.1 ≠ f)
    (h : ∀ d hv tk h' tk', Fr h₀ L h' m → News h₀ L h' ((d, dictOf [⟨hv, .str "read" tk, v⟩] 1) :: (pre ++ (f, ⟨.type "function", some d, .func fd, #[]⟩) :: post)) → (∀ q ∈ (pre ++ (f, (⟨.type "function", none, .func fd, #[]⟩ : Obj)) :: post), q.1 < d) → Q () { s with heap := h', toks := tk' }) :
    wpAny (model prog w) A (setAttr (.ref f) "read" v) Q E s := by
  have hx := (N (f, ⟨.type "function", none, .func fd, #[]⟩) (by simp)).1
  obtain ⟨hh, g, d, t, os⟩ := s
  dsimp only at F N hx
  have TI : ∀ tk, (Shared.mk hh g d tk os).TypeIs (.ref f) "function" := fun tk => ⟨_, hx, rfl⟩
  refine wpAny_bind (wpAny_mkText (wpAny_bind (wpAny_bind (wpAny_specialOf (T := "function") ⟨_, hx, rfl⟩ fa_lk_set.lookup (wpAny_holding ?_)))))
  rw [fa_lk_set.bind]
  refine wpAny_bind (wpAny_pure (wpAny_bind (wpAny_call (codeAny_call_builtin fa_lk_set.plain PySem.F.store_object.entry (fa_lk_set.check _ _ _ _ _ _ _ _ ⟨_, hx, rfl⟩ (PySem.F.store_object.args _ _ _) ?_)))))
  show wpAny _ _ (Builtin.«object.__setattr__» ⟨[.ref f, .str "read" t, v], []⟩) _ _ (Shared.mk hh g d (t + 1) os)
  rw [osa_eq, refuse_eq]
  have L0 : ∀ {A Q E tk}, Q (.type "function") (Shared.mk hh g d tk os) → wpAny (model prog w) A (typeOf (.ref f)) Q E (Shared.mk hh g d tk os) := fun q => wpAny_typeOf (T := "function") ⟨_, hx, rfl⟩ q
  refine wpAny_bind (wpAny_bind (L0 ?_))
  rw [fa_mro]
  refine wpAny_bind (wpAny_pure ?_)
  rw [fa_passes]
  refine wpAny_pure (wpAny_bind (L0 ?_))
  rw [fa_read]
  refine wpAny_bind (wpAny_pure (wpAny_bind (wpAny_pure ?_)))
  show wpAny _ _ (storeInOwnDict (.ref f) (.type "function") _ _ v false) _ _ _
  unfold storeInOwnDict
  refine wpAny_bind (wpAny_pure ?_)
  refine wpAny_bind ?_
  show wpAny _ _ (instanceDict f true) _ _ _
  unfold instanceDict
  refine wpAny_bind (wpAny_loadPart hx ?_)
  rw [fa_hasdict]
  refine wpAny_bind (wpAny_alloc' ?_)
  have e0 : hh.objs.size ≠ f := Nat.ne_of_gt (Heap.lt_size hx)
  have P : Fr h₀ L (hh.push (dictOf [] 0)) m ∧ News h₀ L (hh.push (dictOf [] 0)) (((hh.objs.size, dictOf [] 0) :: pre) ++ (f, ⟨.type "function", none, .func fd, #[]⟩) :: post) := by
    refine ⟨⟨F.ns.push _, fun b o e => Heap.get?_push_of_some _ (F.keep b o e), F.above⟩, fun q hq => ?_⟩
    rcases List.mem_cons.mp hq with rfl | hq
    · exact ⟨Heap.get?_push_size _ rfl, Nat.ne_of_gt F.ns.lt, Heap.get?_none_of_le (Nat.le_trans F.above (Nat.le_of_lt F.ns.lt))⟩
    · exact ⟨Heap.get?_push_of_some _ (N q hq).1, (N q hq).2⟩
  refine wpAny_bind (wpAny_update' (o := ⟨.type "function", none, .func fd, #[]⟩) (P.2 (f, ⟨.type "function", none, .func fd, #[]⟩) (by simp)).1 ?_)
  have hlt : ∀ q ∈ (pre ++ (f, (⟨.type "function", none, .func fd, #[]⟩ : Obj)) :: post), q.1 < hh.objs.size := fun q hq => Heap.lt_size (N q hq).1
  obtain ⟨F1, N1⟩ := news_upd (f := fun o => { o with dict := some hh.objs.size }) (o' := ⟨.type "function", some hh.objs.size, .func fd, #[]⟩) P.1 P.2 (by intro p hp; rcases List.mem_cons.mp hp with rfl | hp; exact e0; exact h1 p hp) h2 rfl rfl
  refine wpAny_pure ?_
  show wpAny _ _ (storeInDict hh.objs.size (.str "read" t) "read" v) _ _ _
  unfold storeInDict newKeyGuard
  refine wpAny_bind (wpAny_pure (wpAny_bind ?_))
  unfold nsSet
  have D := (N1 (hh.objs.size, dictOf [] 0) (by simp)).1
  refine wpAny_bind (wpAny_bind (wpAny_askSetting (wpAny_pure (wpAny_bind (wpAny_mkText (wpAny_bind (wpAny_loadPart D ?_)))))))
  dsimp only
  rw [aRefKeyMayBeTheName_at, show ((!(([] : List DictEntry).toArray).any (·.key.isStr "read")) && (([] : List DictEntry).toArray).any (·.refKey)) = false by decide +kernel]
  obtain ⟨F2, N2⟩ := news_upd (pre := []) (f := Obj.putName "read" (PyData.keyHash w.params "read") (.str "read" (t + 1)) v) F1 N1 (fun _ h => nomatch h) (by
    intro p hp e
    rcases List.mem_append.mp hp with hp | hp
    · exact absurd e (Nat.ne_of_lt (hlt p (List.mem_append_left _ hp)))
    · rcases List.mem_cons.mp hp with rfl | hp
      · exact e0 e.symm
      · exact absurd e (Nat.ne_of_lt (hlt p (List.mem_append_right _ (.tail _ hp))))) (putName_dict "read" (PyData.keyHash w.params "read") (.str "read" (t + 1)) v [] 0) rfl
  refine wpAny_updatePart D ?_
  have D2 := (N2 (hh.objs.size, _) (.head _)).1
  refine wpAny_bind (wpAny_lookBehind D2 (pastItsLine_dict (by show 1 ≤ sizeLine + 1; omega)) ?_)
  refine wpAny_pure (wpAny_pure (wpAny_pure ?_))
  exact h _ _ _ _ _ F2 N2 hlt

theorem fun_setF {Q : Unit → Shared → Prop} {fd : FuncData} {news : List (Addr × Obj)} {g : Obj → List (Addr × Obj)} (F : Fr h₀ L s.heap m) (N : News h₀ L s.heap news) (U : UpdF f ⟨.type "function", none, .func fd, #[]⟩ news g)
    (h : ∀ d hv tk h' tk', Fr h₀ L h' m → News h₀ L h' ((d, dictOf [⟨hv, .str "read" tk, v⟩] 1) :: g ⟨.type "function", some d, .func fd, #[]⟩) → (∀ q ∈ news, q.1 < d) → Q () { s with heap := h', toks := tk' }) :
    wpAny (model prog w) A (setAttr (.ref f) "read" v) Q E s := by
  obtain ⟨pre, post, rfl, hg, h1, h2⟩ := U.split
  refine fun_set F N h1 h2 fun d hv tk h' tk' F' N' l => h d hv tk h' tk' F' (by rw [hg]; exact N') l

theorem fun_get {Q : Value → Shared → Prop} {fd : FuncData} {d : Addr} {es : List DictEntry} {n : Nat} {expr : Bool} (hx : s.heap.get? f = some ⟨.type "function", some d, .func fd, #[]⟩) (hd : s.heap.get? d = some (dictOf es n)) (hl : getL "read" es = some (some v)) (hv : handedIn v = true)
    (h : Q v { s with toks := s.toks + 1 }) : wpAny (model prog w) A (getAttr (.ref f) "read" expr) Q E s := by
  unfold getAttr getAttrBy
  have L0 : ∀ {A Q E s'}, s'.heap = s.heap → Q (.type "function") s' → wpAny (model prog w) A (typeOf (.ref f)) Q E s' := fun e q => wpAny_typeOf (T := "function") ⟨_, by rw [e]; exact hx, rfl⟩ q
  refine wpAny_bind (wpAny_mkText (wpAny_holding (wpAny_bind (L0 rfl ?_))))
  rw [fa_ga]
  refine wpAny_bind (wpAny_pure ?_)
  show wpAny _ _ (getAttrByItsOwn (.ref f) (.str "read" s.toks) (.type "function") (.builtin "object.__getattribute__") true expr) _ _ _
  unfold getAttrByItsOwn
  refine wpAny_bind (wpAny_pure (wpAny_bind (wpAny_attempt (wpAny_holding ?_))))
  have ec : callGetattribute (.ref f) (.str "read" s.toks) (.builtin "object.__getattribute__") expr = boundAndCalled (.builtin "object.__getattribute__") (.ref f) (.str "read" s.toks) := by
    unfold callGetattribute; rw [show onTheHeap (.builtin "object.__getattribute__") = false from rfl, Bool.and_false]; rfl
  rw [ec]
  unfold boundAndCalled
  rw [fa_slot_ga.bind]
  refine wpAny_bind (wpAny_pure (wpAny_call (codeAny_call_builtin fa_slot_ga.plain F.entry_object_getattribute (fa_slot_ga.check _ _ _ _ _ _ _ _ ⟨_, hx, rfl⟩ (F.args_object_getattribute_2 _ _) ?_))))
  show wpAny _ _ (Builtin.«object.__getattribute__» ⟨[.ref f, .str "read" s.toks], []⟩) _ _ _
  unfold Builtin.«object.__getattribute__»
  refine wpAny_bind (wpAny_pure (wpAny_bind (wpAny_pure (wpAny_bind (L0 rfl (wpAny_bind ?_))))))
  unfold find
  rw [fa_read]
  refine wpAny_bind (wpAny_pure (wpAny_bind (wpAny_pure (wpAny_bind (wpAny_pure ?_)))))
  show wpAny _ _ (ownThenClass (.ref f) "read" none none) _ _ _
  unfold ownThenClass
  refine wpAny_bind (wpAny_bind (wpAny_bind (wpAny_loadPart hx (wpAny_bind (wpAny_loadPart hx (wpAny_pure ?_))))))
  refine wpAny_bind (wpAny_loadPart hd ?_)
  rw [nsLook_of (o := dictOf es n) (r := some v) hl]
  refine wpAny_pure (wpAny_bind (wpAny_rule (wpAny_pure (wpAny_pure ?_))))
  show wpAny _ _ (handedOut v) _ _ _
  rw [handedOut_of hv]; exact wpAny_pure h
theorem fun_meth {Q : Value × List Value → Shared → Prop} {pl : Sem Bool} {fd : FuncData} {d : Addr} {es : List DictEntry} {n : Nat} (hx : s.heap.get? f = some ⟨.type "function", some d, .func fd, #[]⟩) (hd : s.heap.get? d = some (dictOf es n)) (hl : getL "read" es = some (some v)) (hv : handedIn v = true)
    (h : Q (v, []) { s with toks := s.toks + 1 }) : wpAny (model prog w) A (getMethod (.ref f) "read" pl) Q E s := by
  have hcan := PySem.F.canon_object_ga
  have L0 : ∀ {A Q E}, Q (.type "function") s → wpAny (model prog w) A (typeOf (.ref f)) Q E s := fun q => wpAny_typeOf (T := "function") ⟨_, hx, rfl⟩ q
  unfold getMethod specialOf
  refine wpAny_bind (wpAny_bind (L0 ?_))
  rw [fa_ga]
  refine wpAny_pure ?_
  dsimp only
  rw [hcan, if_neg (by decide)]
  refine wpAny_bind (wpAny_bind (L0 ?_))
  rw [fa_gattr]
  refine wpAny_pure (wpAny_bind (wpAny_bind (L0 ?_)))
  rw [fa_read]
  refine wpAny_pure (wpAny_bind (fun_get hx hd hl hv (wpAny_pure h)))
end
end Mine
end

section
open PySem PySem.W PyProof.Rows PySem.Calls PySem.Spec
set_option Elab.async false
namespace Mine
def lamsIn : List Stmt → List (Arguments × Expr × Scope)
  | [] => []
  | .Assign _ (.Lambda p b sc _) _ :: r => (p, b, sc) :: lamsIn r
  | _ :: r => lamsIn r
def bodyAt (K : Frag) (a : Addr) : List Stmt := match K.lookup a with
  | some ⟨_, _, .func fd, _⟩ => (match fd.body with | .stmts b => b | _ => [])
  | _ => []
noncomputable def lam2 (P : Params) : Arguments × Expr × Scope := match lamsIn (bodyAt (K P) 125) with
  | [_, l] => l
  | _ => (⟨[], [], none, [], [], none, []⟩, .Constant .none 0 ⟨0,0,0,0⟩, ⟨.function, [], false, false, []⟩)
abbrev qlam : Str := "_law_stream.<locals>.<lambda>"
noncomputable abbrev rdObj (P : Params) (ce : Addr) (pm : Value) (cB : Addr) (ctB : Value) : Obj := kla_obj "<lambda>" qlam (lam2 P).1 (lam2 P).2.1 (lam2 P).2.2 [("signs", ce)] pm cB ctB
abbrev tabFull (cA cB : Addr) : Obj := tabObj (#[] ++ #[rawInt 79, rawInt 13, .ref cA] ++ #[rawInt 80, rawInt 18, .ref cB])
abbrev listO (vs : List Value) (n : Nat) : Obj := { cls := .type "list", data := .seq vs.toArray n }
/-- the table of _law_stream's code: empty, or with both lambdas' codes -/
inductive TabLed : List (Addr × Obj) → Prop
  | fresh : TabLed [(120, tabObj #[])]
  | full {cA cB : Addr} {oA oB : Obj} {vsA vsB : Array Value} {tA tB : Tok} (dA : oA.data = .fields vsA) (gA : vsA[1]? = some (.str qlam tA)) (dB : oB.data = .fields vsB) (gB : vsB[1]? = some (.str qlam tB)) : TabLed [(cB, oB), (cA, oA), (120, tabFull cA cB)]
def Dis (tl news : List (Addr × Obj)) : Prop := ∀ p ∈ tl, ∀ q ∈ news, p.1 ≠ q.1
theorem Dis.c120 {tl news : List (Addr × Obj)} (h : Dis tl news) (T : TabLed tl) : ∀ p ∈ news, p.1 ≠ 120 := by
  intro p hp
  cases T
  · exact (h _ (.head _) p hp).symm
  · exact (h (120, _) (.tail _ (.tail _ (.head _))) p hp).symm
theorem allLt_all {d : Nat} : ∀ {l : List (Addr × Obj)}, AllLt d l → ∀ p ∈ l, @LT.lt Nat _ p.1 d
  | [], _, _, h => nomatch h
  | _ :: _, h, p, hp => by
    rcases List.mem_cons.mp hp with rfl | hp
    · exact h.1
    · exact allLt_all h.2 p hp
abbrev StrmRet (w : World) (x : Str) (news : List (Addr × Obj)) (h₀ : Heap) (L : Addr) (m : Str → Option Value) (s : Shared) (Q : Value → Shared → Prop) : Prop :=
  ∀ (tl' : List (Addr × Obj)) (f d : Addr) (hv : Int) (tk : Tok) (f2 ce li : Addr) (oce : Obj) (vs : List Value) (n : Nat) (fd : FuncData) (pm : Value) (cB : Addr) (oB : Obj) (vsB : Array Value) (tB : Tok) (ctB : Value) (h' : Heap) (tk' : Nat),
      Fr h₀ L h' m → News h₀ L h' ((d, dictOf [⟨hv, .str "read" tk, .ref f2⟩] 1) :: (f2, rdObj w.params ce pm cB ctB) :: (f, ⟨.type "function", some d, .func fd, #[]⟩) :: (ce, oce) :: (li, listO vs n) :: (tl' ++ news)) →
      oce.data = .cell (some (.ref li)) → SignsAre vs x.cps.toList.reverse → TabLed tl' → Dis tl' news → (cB, oB) ∈ tl' → oB.data = .fields vsB → vsB[1]? = some (.str qlam tB) →
      d ≠ li → f2 ≠ li → f ≠ li → ce ≠ li → (∀ p ∈ tl' ++ news, p.1 ≠ li) → Q (.ref f) { s with heap := h', toks := tk' }
section
variable {w : World} {x : Str} {news : List (Addr × Obj)} {h₀ : Heap} {L : Addr} {m : Str → Option Value} {s : Shared} {Q : Value → Shared → Prop} {f d : Addr} {hv : Int} {tk u : Tok} {f2 ce li : Addr} {oce : Obj} {vs : List Value} {n : Nat} {fd : FuncData} {pm : Value} {cA cB : Addr} {oA oB : Obj} {vsA vsB : Array Value} {tA tB : Tok} {ctB : Value} {h' : Heap} {tk' : Nat}
theorem strm_end1 (hret : StrmRet w x news h₀ L m s Q) (h120 : ∀ p ∈ news, p.1 ≠ 120) (F : Fr h₀ L h' m) (N : News h₀ L h' ((d, dictOf [⟨hv, .str "read" tk, .ref f2⟩] 1) :: (f2, rdObj w.params ce pm cB ctB) :: (cB, oB) :: (f, ⟨.type "function", some d, .func fd, #[]⟩) :: (cA, oA) :: (li, listO vs n) :: (ce, oce) :: (120, tabFull cA cB) :: news))
    (hc : oce.data = .cell (some (.ref li))) (hs : SignsAre vs (Txt.sliceBy x none none (-1, u)).cps.toList)
    (dA : oA.data = .fields vsA) (gA : vsA[1]? = some (.str qlam tA)) (dB : oB.data = .fields vsB) (gB : vsB[1]? = some (.str qlam tB))
    (l0 : @LT.lt Nat _ ce li ∧ @LT.lt Nat _ 120 li ∧ AllLt li news) (l1 : @LT.lt Nat _ li cA ∧ @LT.lt Nat _ ce cA ∧ @LT.lt Nat _ 120 cA ∧ AllLt cA news) (l2 : @LT.lt Nat _ cA f)
    (l3 : @LT.lt Nat _ f cB ∧ @LT.lt Nat _ cA cB ∧ @LT.lt Nat _ li cB ∧ @LT.lt Nat _ ce cB ∧ @LT.lt Nat _ 120 cB ∧ AllLt cB news) (l4 : @LT.lt Nat _ cB f2)
    (l5 : @LT.lt Nat _ f2 d) : Q (.ref f) { s with heap := h', toks := tk' } := by
  obtain ⟨a1, a2, a3⟩ := l0
  obtain ⟨b1, b2, b3, b4⟩ := l1
  obtain ⟨c1, c2, c3, c4, c5, c6⟩ := l3
  rw [rev_cps] at hs
  refine hret [(cB, oB), (cA, oA), (120, tabFull cA cB)] f d hv tk f2 ce li oce vs n fd pm cB oB vsB tB ctB h' tk' F (cb_drop N fun p hp => ?_) hc hs (.full dA gA dB gB) ?_ (.head _) dB gB ?_ ?_ ?_ ?_ ?_
  · simp only [List.mem_cons, List.mem_append, List.not_mem_nil, or_false] at hp ⊢
    rcases hp with h | h | h | h | h | (h | h | h) | h <;> simp [h]
  · intro p hp q hq
    simp only [List.mem_cons, List.not_mem_nil, or_false] at hp
    rcases hp with rfl | rfl | rfl
    · exact Nat.ne_of_gt (allLt_all c6 q hq)
    · exact Nat.ne_of_gt (allLt_all b4 q hq)
    · exact (h120 q hq).symm
  · exact Nat.ne_of_gt (by omega)
  · exact Nat.ne_of_gt (by omega)
  · exact Nat.ne_of_gt (by omega)
  · exact Nat.ne_of_lt (by omega)
  · intro p hp
    rcases List.mem_append.mp hp with hp | hp
    · simp only [List.mem_cons, List.not_mem_nil, or_false] at hp
      rcases hp with rfl | rfl | rfl
      · exact Nat.ne_of_gt (by omega)
      · exact Nat.ne_of_gt (by omega)
      · exact Nat.ne_of_lt (by omega)
    · exact Nat.ne_of_lt (allLt_all a3 p hp)
theorem strm_end2 (hret : StrmRet w x news h₀ L m s Q) (D : Dis [(cB, oB), (cA, oA), (120, tabFull cA cB)] news) (F : Fr h₀ L h' m) (N : News h₀ L h' ((d, dictOf [⟨hv, .str "read" tk, .ref f2⟩] 1) :: (f2, rdObj w.params ce pm cB ctB) :: (f, ⟨.type "function", some d, .func fd, #[]⟩) :: (li, listO vs n) :: (ce, oce) :: (cB, oB) :: (cA, oA) :: (120, tabFull cA cB) :: news))
    (hc : oce.data = .cell (some (.ref li))) (hs : SignsAre vs (Txt.sliceBy x none none (-1, u)).cps.toList)
    (dA : oA.data = .fields vsA) (gA : vsA[1]? = some (.str qlam tA)) (dB : oB.data = .fields vsB) (gB : vsB[1]? = some (.str qlam tB))
    (l0 : @LT.lt Nat _ ce li ∧ @LT.lt Nat _ cB li ∧ @LT.lt Nat _ cA li ∧ @LT.lt Nat _ 120 li ∧ AllLt li news)
    (l2 : @LT.lt Nat _ li f ∧ @LT.lt Nat _ ce f ∧ @LT.lt Nat _ cB f ∧ @LT.lt Nat _ cA f ∧ @LT.lt Nat _ 120 f ∧ AllLt f news)
    (l3 : @LT.lt Nat _ f f2 ∧ @LT.lt Nat _ li f2 ∧ @LT.lt Nat _ ce f2 ∧ @LT.lt Nat _ cB f2 ∧ @LT.lt Nat _ cA f2 ∧ @LT.lt Nat _ 120 f2 ∧ AllLt f2 news)
    (l5 : @LT.lt Nat _ f2 d ∧ @LT.lt Nat _ f d ∧ @LT.lt Nat _ li d ∧ @LT.lt Nat _ ce d ∧ @LT.lt Nat _ cB d ∧ @LT.lt Nat _ cA d ∧ @LT.lt Nat _ 120 d ∧ AllLt d news) : Q (.ref f) { s with heap := h', toks := tk' } := by
  obtain ⟨a1, a2, a3, a4, a5⟩ := l0
  rw [rev_cps] at hs
  refine hret [(cB, oB), (cA, oA), (120, tabFull cA cB)] f d hv tk f2 ce li oce vs n fd pm cB oB vsB tB ctB h' tk' F (cb_drop N fun p hp => ?_) hc hs (.full dA gA dB gB) D (.head _) dB gB ?_ ?_ ?_ ?_ ?_
  · simp only [List.mem_cons, List.mem_append, List.not_mem_nil, or_false] at hp ⊢
    rcases hp with h | h | h | h | h | (h | h | h) | h <;> simp [h]
  · exact Nat.ne_of_gt (by omega)
  · exact Nat.ne_of_gt (by omega)
  · exact Nat.ne_of_gt (by omega)
  · exact Nat.ne_of_lt (by omega)
  · intro p hp
    rcases List.mem_append.mp hp with hp | hp
    · simp only [List.mem_cons, List.not_mem_nil, or_false] at hp
      rcases hp with rfl | rfl | rfl
      · exact Nat.ne_of_lt (by omega)
      · exact Nat.ne_of_lt (by omega)
      · exact Nat.ne_of_lt (by omega)
    · exact Nat.ne_of_lt (allLt_all a5 p hp)
end
end Mine
end

section
open PySem PySem.W PyProof.Rows PySem.Calls PySem.Spec
set_option Elab.async false
set_option pp.deepTerms false
set_option pp.deepTerms.threshold 8
namespace Mine
local macro_rules | `(tactic| walk_at "PAD0") => `(tactic| fail)
local macro_rules | `(tactic| walk_at "PAD1") => `(tactic| fail)
local macro_rules | `(tactic| walk_at "PAD2") => `(tactic| fail)
local macro_rules | `(tactic| walk_at "PAD3") => `(tactic| fail)
local macro_rules | `(tactic| walk_at "PAD4") => `(tactic| fail)
local macro_rules | `(tactic| walk_at "PAD5") => `(tactic| fail)
local macro_rules | `(tactic| walk_at "PAD6") => `(tactic| fail)
local macro_rules | `(tactic| walk_at "PAD7") => `(tactic| fail)
local macro_rules | `(tactic| walk_at "PAD8") => `(tactic| fail)
local macro_rules | `(tactic| walk_at "PAD9") => `(tactic| fail)
local macro_rules | `(tactic| walk_at "PAD10") => `(tactic| fail)
local macro_rules | `(tactic| walk_at "PAD11") => `(tactic| fail)
local macro_rules | `(tactic| walk_at "ENTERC") => `(tactic| (refine' code_defC ?k1 ?k2 ?k3 ?k4 ?k5 ?kA ?kF ?kK ?k6 ?k7 ?k8 ?k9 ?kB ?kD ?_ ?c2 ?c3 ?c4; (case kA => exact rfl); (case kF => exact rfl); (case kK => assumption); (case k1 => k_asm); (case k2 => k_asm); (case k3 => k_asm); (case k4 => k_asm); (case k5 => k_asm); (case k6 => k_is); (case k7 => k_is); (case k8 => ktr_room); (case k9 => first | exact BindsTo.of_eq rfl | exact binds_K (by k_in) rfl (by k_is) rfl rfl rfl | fail "k_enter: no rule for these arguments"); (case kB => exact rfl); (case kD => decide +kernel); (case c2 => exact rfl); (case c3 => exact rfl); (case c4 => exact rfl); k_whole; intro g' L' h' tk' cells' FG' F' N' Y' B' X' T' l1; (k_lt l1); (first | (obtain ⟨lt1, lt2, lt3, hL⟩ := l1) | (obtain ⟨lt1, hL⟩ := l1)); k_cells Y'; (try simp only [List.cons_append, List.nil_append] at N'); (try dsimp only); (try k_lift B'); (try k_fold)))
local macro_rules | `(tactic| k_all) => `(tactic| assumption)
local macro_rules | `(tactic| k_all) => `(tactic| (refine' allLt_ne ?hq1 ?hq2; (case hq1 => with_reducible assumption); (case hq2 => ((try dsimp only); omega))))
local macro_rules | `(tactic| walk_at "S") => `(tactic| first | (k_unfold; (try dsimp only)) | walk1 | (dsimp only; walk1))
theorem rev_size {x : Str} {u : Tok} (h : x.cps.size < 1000) : (Txt.sliceBy x none none (-1, u)).cps.size ≤ sizeLine := by
  have h1 : (Txt.sliceBy x none none (-1, u)).cps.size = x.cps.size := step_rev_len x u
  rw [h1, sizeLine_eq]; omega
local macro_rules | `(tactic| walk_at "call type:list") => `(tactic| (k_here; k_dflt (refine' list_strN ?a1 ?a2 ?a3 ?a4 ?_; (case a1 => exact rfl); (case a2 => k_asm); (case a3 => k_asm); (case a4 => exact rev_size (by assumption))); intro d' h' tk' vs' n' F' N' l1 hs'; (try k_lt l1)))
local macro_rules | `(tactic| walk_at "setAttr ref") => `(tactic| (k_here; k_dflt (refine' fun_setF ?a1 ?a2 ?a3 ?_; (case a1 => k_asm); (case a2 => k_asm); (case a3 => k_updF)); intro d' hv' kt' h' tk' F' N' l1; (try dsimp only at N'); (try k_lt l1)))
section
variable {w : World} {pT : Program} {lT : List Str} {mean : ExcName → Option Value} {mg mb : Str → Option Value} {dp un : Nat} {gd : Option (List Code)} {cn : Str} {cs : Scope} {a : Addr} {ccd : Value} {cl : List (Str × Addr)} {outer : List Env} {A₀ : Around} {base h₀ : Heap} {L : Addr} {m : Str → Option Value} {news : List (Addr × Obj)} {s : Shared} {Q E : Value → Shared → Prop}
set_option maxRecDepth 100000 in
set_option maxHeartbeats 8000000 in
theorem stream_use {x : Str} {t : Tok} {tl : List (Addr × Obj)} (B : Below A₀ base outer h₀) (F : Fr h₀ L s.heap m) (X : (K w.params).In h₀) (N : News h₀ L s.heap (tl ++ news)) (T : Top pT lT mean mg mb h₀) (C : CodeHd base 124 120) (TL : TabLed tl) (D : Dis tl news) (hk : cs.kind = .function)
    (hd : dp + 8 < recursionLimit) (hu : un + 100 < cLine) (hx : x.cps.size < 1000)
    (hret : StrmRet w x news h₀ L m s Q) :
    wpAny (model PySem.Challenge.rw_tr0009_01.prog w) (ktrTop dp un gd cn cs L a ccd cl outer) (call (.ref 125) [.str x t]) Q E s := by
  have hfill : PySem.Challenge.rw_tr0009_01.prog = PySem.Challenge.rw_tr0009_01.prog ∧ K = K := by k_fill; exact ⟨rfl, rfl⟩
  clear hfill
  have hxl : x.length < 1000 := hx
  have h120 := D.c120 TL
  cases TL with
  | fresh =>
    simp only [List.cons_append, List.nil_append] at N
    refine wpAny_call ?_
    k_dflt (walk_at "ENTERC")
    k_steps
    rename_i kF kN _ _
    exact strm_end1 hret h120 kF kN (by assumption) (by assumption) (by assumption) (by assumption) (by assumption) (by assumption) (by assumption) (by assumption) (by assumption) (by assumption) (by assumption) (And.left (by assumption))
  | full dA gA dB gB =>
    simp only [List.cons_append, List.nil_append] at N
    have hA : ∀ p ∈ news, p.1 ≠ 120 := h120
    refine wpAny_call ?_
    k_dflt (walk_at "ENTERC")
    k_steps
    rename_i kF kN _ _
    exact strm_end2 hret D kF kN (by assumption) (by assumption) (by assumption) (by assumption) (by assumption) (by assumption) (by assumption) (by assumption) (by assumption) (by assumption)
end
end Mine
end

section
open PySem PySem.W PyProof.Rows PySem.Calls PySem.Spec PyProof.V
set_option Elab.async false
namespace Mine
/-- values that are texts -/
inductive TextsAre : List Value → List Str → Prop where
  | nil : TextsAre [] []
  | cons (x : Str) (t : Tok) {vs xs} : TextsAre vs xs → TextsAre (.str x t :: vs) (x :: xs)
theorem TextsAre.length {vs : List Value} {xs : List Str} (h : TextsAre vs xs) : vs.length = xs.length := by
  induction h with
  | nil => rfl
  | cons c t _ ih => rw [List.length_cons, List.length_cons, ih]
theorem TextsAre.snoc {vs : List Value} {xs : List Str} (h : TextsAre vs xs) (x : Str) (t : Tok) : TextsAre (vs ++ [.str x t]) (xs ++ [x]) := by
  induction h with
  | nil => exact .cons x t .nil
  | cons y u _ ih => exact .cons y u ih
theorem SignsAre.texts {vs : List Value} {cs : List Nat} (h : SignsAre vs cs) : TextsAre vs (cs.map fun c => (⟨#[c]⟩ : Str)) := by
  induction h with
  | nil => exact .nil
  | cons c t _ ih => exact .cons _ t ih
theorem TextsAre.carried : ∀ {vs : List Value} {xs : List Str}, TextsAre vs xs → CarriedAll vs (xs.map PyData.str)
  | _, _, .nil => .nil
  | _, _, .cons _ t r => .cons (.str _ t) (TextsAre.carried r)
def OkAll (xs : List Str) : Prop := ∀ x ∈ xs, PyData.strOk x = true
theorem tx_canLayAll0 : ∀ xs : List Str, OkAll xs → PyData.canLayAll0 (xs.map PyData.str) = true
  | [], _ => rfl
  | x :: r, h => by simp [PyData.canLayAll0, PyData.canLay0, h x (.head _), tx_canLayAll0 r fun y hy => h y (.tail _ hy)]
theorem tx_depthAll : ∀ xs : List Str, PyData.depthAll (xs.map PyData.str) = 0
  | [] => rfl
  | _ :: r => by simp [PyData.depthAll, PyData.depth, tx_depthAll r]
theorem tx_shaped (xs : List Str) (h : OkAll xs) : SeqAt.shaped (.list (xs.map PyData.str)) = true := by
  simp [SeqAt.shaped, PyData.canLay0, PyData.depth, tx_canLayAll0 xs h, tx_depthAll]
theorem tx_sameAll : ∀ xs ys : List Str, PySem.Spec.sameAll (xs.map PyData.str) (ys.map PyData.str) = (xs == ys)
  | [], [] => by simp [PySem.Spec.sameAll]
  | [], _ :: _ => by simp [PySem.Spec.sameAll]
  | _ :: _, [] => by simp [PySem.Spec.sameAll]
  | a :: r, b :: t => by
    simp only [List.map_cons, PySem.Spec.sameAll, PySem.Spec.same, tx_sameAll r t]
    rfl
theorem tx_same (xs ys : List Str) : PySem.Spec.same (.list (xs.map PyData.str)) (.list (ys.map PyData.str)) = (xs == ys) := by
  simp only [PySem.Spec.same]; exact tx_sameAll xs ys
section
variable {prog : Program} {w : World} {A : Around} {E : Value → Shared → Prop} {s : Shared} {a b : Addr} {vs us : List Value} {xs ys : List Str} {Q : Value → Shared → Prop}
theorem eq_texts (ha : s.heap.IsList a vs.toArray) (hb : s.heap.IsList b us.toArray) (hi : TextsAre vs xs) (hj : TextsAre us ys) (ox : OkAll xs) (oy : OkAll ys) (hu : A.units + 64 < cLine) (h : Q (.bool (xs == ys)) s) :
    wpAny (model prog w) A (compareOp .Eq (.ref a) (.ref b)) Q E s :=
  eq_dataH_same (reads_newData ha hi.carried) (reads_newData hb hj.carried) (tx_shaped _ ox) (tx_shaped _ oy) hu (SeqAt.noMix_of_shape (.list .str) rfl _ _ (list_map_has fun _ => rfl) (list_map_has fun _ => rfl)) (by rw [tx_same]; exact h)
theorem ne_texts (ha : s.heap.IsList a vs.toArray) (hb : s.heap.IsList b us.toArray) (hi : TextsAre vs xs) (hj : TextsAre us ys) (ox : OkAll xs) (oy : OkAll ys) (hu : A.units + 64 < cLine) (h : Q (.bool (!(xs == ys))) s) :
    wpAny (model prog w) A (compareOp .NotEq (.ref a) (.ref b)) Q E s :=
  ne_dataH_same (reads_newData ha hi.carried) (reads_newData hb hj.carried) (tx_shaped _ ox) (tx_shaped _ oy) hu (SeqAt.noMix_of_shape (.list .str) rfl _ _ (list_map_has fun _ => rfl) (list_map_has fun _ => rfl)) (by rw [tx_same]; exact h)
end
end Mine
end

section
open PySem PySem.W PyProof.Rows PySem.Calls PySem.Spec
set_option Elab.async false
set_option pp.deepTerms false
set_option pp.deepTerms.threshold 8
namespace Mine
local macro_rules | `(tactic| walk_at "PAD0") => `(tactic| fail)
local macro_rules | `(tactic| walk_at "PAD1") => `(tactic| fail)
local macro_rules | `(tactic| walk_at "PAD2") => `(tactic| fail)
local macro_rules | `(tactic| walk_at "PAD3") => `(tactic| fail)
local macro_rules | `(tactic| walk_at "PAD4") => `(tactic| fail)
local macro_rules | `(tactic| walk_at "PAD5") => `(tactic| fail)
local macro_rules | `(tactic| walk_at "PAD6") => `(tactic| fail)
local macro_rules | `(tactic| walk_at "PAD7") => `(tactic| fail)
local macro_rules | `(tactic| walk_at "PAD8") => `(tactic| fail)
local macro_rules | `(tactic| walk_at "PAD9") => `(tactic| fail)
local macro_rules | `(tactic| walk_at "PAD10") => `(tactic| fail)
local macro_rules | `(tactic| walk_at "PAD11") => `(tactic| fail)
local macro_rules | `(tactic| walk_at "PAD12") => `(tactic| fail)
local macro_rules | `(tactic| walk_at "PAD13") => `(tactic| fail)
local macro_rules | `(tactic| walk_at "PAD14") => `(tactic| fail)
local macro_rules | `(tactic| walk_at "PAD15") => `(tactic| fail)
local macro_rules | `(tactic| walk_at "PAD16") => `(tactic| fail)
local macro_rules | `(tactic| k_all) => `(tactic| assumption)
local macro_rules | `(tactic| walk_at "ENTERL") => `(tactic| (refine' kla_code ?k1 ?k2 ?k3 ?k4 ?k5 ?kA ?kF ?kK ?k6 ?k7 ?k8 ?k9 ?kB ?_ ?c2 ?c3 ?c4 ?c5; (case kA => exact rfl); (case kF => exact rfl); (case kK => assumption); (case k1 => k_asm); (case k2 => k_asm); (case k3 => k_asm); (case k4 => k_asm); (case k5 => k_asm); (case k6 => (refine .tail _ (.tail _ ?hm); assumption)); (case k7 => assumption); (case k8 => ktr_room); (case k9 => exact rfl); (case c5 => decide); (case kB => exact locs rfl); (case c2 => exact rfl); (case c3 => exact rfl); (case c4 => exact rfl); k_whole; intro g' L' h' FG' F' N' B' X' T'; (try dsimp only); (try k_lift B'); (try k_fold)))
local macro_rules | `(tactic| walk_at "S") => `(tactic| first | (k_unfold; (try dsimp only)) | walk1 | (dsimp only; walk1))
def headS : List Nat → Str
  | [] => ""
  | c :: _ => ⟨#[c]⟩
theorem okNil : OkAll [] := fun _ h => nomatch h
theorem okSigns {cs : List Nat} (h : ∀ c ∈ cs, c < 0x110000) : OkAll (cs.map fun c => (⟨#[c]⟩ : Str)) := by
  intro x hx
  obtain ⟨c, hc, rfl⟩ := List.mem_map.mp hx
  simp [PyData.strOk, h c hc]
theorem nil_texts {v : Str} {r : List Str} : ((v :: r : List Str) == []) = false := rfl
theorem sg_ne (a : List Nat) (c : Nat) : (!((a ++ [c]).map (fun c => (⟨#[c]⟩ : Str)) == [])) = true := by cases a <;> rfl
theorem last_some (p : List Value) (y : Value) : kl_last (p ++ [y]).toArray.toList = some (p, y) := by
  rw [List.toList_toArray]; exact kpa_last y p
local macro_rules | `(tactic| walk_at "compareOp NotEq ref ref") => `(tactic| (k_here; k_dflt (refine' ne_texts ?a1 ?a2 ?a3 ?a4 ?a5 ?a6 ?a7 ?_; (case a1 => is_list); (case a2 => is_list); (case a3 => first | exact TextsAre.nil | exact SignsAre.texts (by assumption)); (case a4 => exact TextsAre.nil); (case a5 => first | exact okNil | exact okSigns (by assumption)); (case a6 => exact okNil); (case a7 => ktr_units))))
local macro_rules | `(tactic| walk_at "call builtin:list.pop") => `(tactic| (k_here; k_dflt (refine' kl_pop ?F ?N ?e ?U ?z ?_; (case F => k_asm); (case N => k_asm); (case e => exact last_some _ _); (case U => k_upd); (case z => assumption)); (intro h7 F7 N7; (try dsimp only [List.nil_append, List.cons_append] at N7))))
section
variable {w : World} {pT : Program} {lT : List Str} {mean : ExcName → Option Value} {mg mb : Str → Option Value} {dp un : Nat} {gd : Option (List Code)} {cn : Str} {cs : Scope} {a : Addr} {ccd : Value} {cl : List (Str × Addr)} {outer : List Env} {A₀ : Around} {base h₀ : Heap} {L : Addr} {m : Str → Option Value} {news : List (Addr × Obj)} {s : Shared} {Q E : Value → Shared → Prop}
set_option maxRecDepth 100000 in
set_option maxHeartbeats 8000000 in
theorem read_use {u : Tok} {f2 ce li cB : Addr} {oce oB : Obj} {pm ctB : Value} {vsB : Array Value} {tB : Tok} {vs : List Value} {n : Nat} {rest : List Nat} (B : Below A₀ base outer h₀) (F : Fr h₀ L s.heap m) (X : (K w.params).In h₀) (N : News h₀ L s.heap ((li, listO vs n) :: (ce, oce) :: news)) (T : Top pT lT mean mg mb h₀) (C : CodeHd base 124 120)
    (hli : ∀ p ∈ news, p.1 ≠ li) (hcl : ce ≠ li) (h2 : (f2, rdObj w.params ce pm cB ctB) ∈ news) (dce : oce.data = .cell (some (.ref li))) (hcB : (cB, oB) ∈ news) (dB : oB.data = .fields vsB) (gB : vsB[1]? = some (.str qlam tB)) (hs : SignsAre vs rest.reverse) (hok : ∀ c ∈ rest, c < 0x110000) (hlen : rest.length < 1000) (hk : cs.kind = .function)
    (hd : dp + 3 < recursionLimit) (hu : un + 100 < cLine)
    (hret : ∀ (t : Tok) (vs' : List Value) (n' : Nat) (h' : Heap) (tk' : Nat), Fr h₀ L h' m → News h₀ L h' ((li, listO vs' n') :: (ce, oce) :: news) → SignsAre vs' rest.tail.reverse → Q (.str (headS rest) t) { s with heap := h', toks := tk' }) :
    wpAny (model PySem.Challenge.rw_tr0009_01.prog w) (ktrTop dp un gd cn cs L a ccd cl outer) (call (.ref f2) [.int 1 u]) Q E s := by
  have hfill : PySem.Challenge.rw_tr0009_01.prog = PySem.Challenge.rw_tr0009_01.prog ∧ K = K := by k_fill; exact ⟨rfl, rfl⟩
  clear hfill
  have e2 := (rfl : lam2 w.params = lam2 w.params)
  conv at e2 => rhs; whnf
  unfold rdObj at h2
  rw [e2] at h2
  dsimp only at h2
  have hok' : ∀ c ∈ rest.reverse, c < 0x110000 := fun c hc => hok c (List.mem_reverse.mp hc)
  have hall : ∀ p ∈ (ce, oce) :: news, p.1 ≠ li := by
    intro p hp
    rcases List.mem_cons.mp hp with rfl | hp
    · exact hcl
    · exact hli p hp
  have hrec : s.heap.CodeRec (.ref cB) qlam := codeRec_news N (.tail _ (.tail _ hcB)) dB gB
  cases rest with
  | nil =>
    cases hs
    refine wpAny_call ?_
    k_dflt (walk_at "ENTERL")
    iterate 12 walk_at "S"
    rename_i kF kN _ _
    exact hret _ _ _ _ _ kF (cb_drop kN fun p hp => List.mem_cons_of_mem _ hp) .nil
  | cons c r =>
    rw [List.reverse_cons] at hs hok'
    have hzl : vs.length ≤ sizeLine := by rw [hs.length]; simp at hlen ⊢; rw [sizeLine_eq]; omega
    obtain ⟨vs', t0, rfl, hs'⟩ := hs.snoc
    refine wpAny_call ?_
    k_dflt (walk_at "ENTERL")
    iterate 6 walk_at "S"
    walk_at "S"
    rw [sg_ne]
    iterate 6 walk_at "S"
    refine' kl_pop (its := (vs' ++ [Value.str ⟨#[c]⟩ t0]).toArray) (p := vs') (y := Value.str ⟨#[c]⟩ t0) ?F ?N ?e ?U ?z ?_
    case F => k_asm
    case N => k_asm
    case e => exact last_some _ _
    case U => k_upd
    case z => exact hzl
    intro h7 F7 N7
    iterate 2 walk_at "S"
    rename_i kF kN _ _
    exact hret _ _ _ _ _ kF (cb_drop kN fun p hp => List.mem_cons_of_mem _ hp) hs' 
end
end Mine
end

section
open PySem PySem.W PyProof.Rows PySem.Calls PySem.Spec
open PySem.Builtin
set_option Elab.async false
namespace Mine
theorem ci_slot_next : Slot "callable_iterator" "__next__" "callable_iterator.__next__" := .of (owner := "callable_iterator") (n := "__next__") (by rw [typeLookup_type, builtinLookup_eq_fast]; kernel_rfl) (by decide +kernel) (by decide +kernel) (by decide +kernel)
    (by first | exact .inl (by decide +kernel) | exact .inr (by decide +kernel)) (by rw [isSubtype_type]; kernel_rfl)
theorem ci_slot_iter : Slot "callable_iterator" "__iter__" "callable_iterator.__iter__" := .of (owner := "callable_iterator") (n := "__iter__") (by rw [typeLookup_type, builtinLookup_eq_fast]; kernel_rfl) (by decide +kernel) (by decide +kernel) (by decide +kernel)
    (by first | exact .inl (by decide +kernel) | exact .inr (by decide +kernel)) (by rw [isSubtype_type]; kernel_rfl)
theorem ci_entry_next : entryFor table "callable_iterator.__next__" = some Builtin.«callable_iterator.__next__» := entryFor_of_tree (by kernel_rfl)
theorem ci_args_next (a : Value) : argsOk "callable_iterator.__next__" ⟨[a], []⟩ := by unfold argsOk; kernel_rfl
abbrev citObj (q : Addr) (tk : Tok) : Obj := { cls := .type "callable_iterator", data := .fields #[.ref q, .str "" tk, .bool false] }
abbrev citEnd : Obj := { cls := .type "callable_iterator", data := .fields #[.none, .none, .bool true] }
section
variable {M : Model} {prog : Program} {w : World} {A : Around} {E : Value → Shared → Prop} {s : Shared} {it q g x : Addr} {tk : Tok} {fd : FuncData}
theorem wpAny_callBorrowed {f : Value} {pos : List Value} {Q : Value → Shared → Prop}
    (hc : codeAny M A (.call f ⟨pos, []⟩) (fun r s' => match r with | .ok (.ret v) => Q v s' | .ok _ => False | .error e => E e s') s) :
    wpAny M A (callBorrowed f pos) Q E s := fun Γ p hΓ => by
  unfold callBorrowed
  rw [Sem.wp_call]
  refine wpCode_mono (fun r s' h => ?_) (hc _ p rfl (hΓ.enter _ none p (by intro x; cases x)))
  rcases r with e | (v | _ | _ | _)
  · exact h
  all_goals first | exact h | exact h.elim
theorem wpAny_raiseStop {α : Type} {Q : α → Shared → Prop} (hh : A.handled = none) (h : ∀ h' e, (∀ b o, s.heap.get? b = some o → h'.get? b = some o) → Shared.TypeIs { s with heap := h' } e "StopIteration" → E e { s with heap := h' }) :
    wpAny M A (SmallTypes.stopIteration : Sem α) Q E s := by
  unfold SmallTypes.stopIteration
  refine wpAny_bind ?_
  simp only [newExc, newTuple]
  refine wpAny_bind (wpAny_newObj_type ?_ (by size_fits))
  refine wpAny_bind (m := firstArgMember _ _) (wpAny_of_eq (a := Value.none) (by first | rfl | (simp only [firstArgMember]; rfl)) ?_)
  refine wpAny_newObj_type ?_ (by size_fits)
  simp only [raiseNew]
  refine wpAny_bind (wpAny_handled ?_)
  rw [hh]
  refine wpAny_bind (wpAny_pure (wpAny_throw ?_))
  exact h _ _ (fun b o e => Heap.get?_push_of_some _ (Heap.get?_push_of_some _ e)) ⟨_, Heap.get?_push_size _ rfl, rfl⟩
theorem cit_borrows {Q : Bool → Shared → Prop} (hq : s.heap.get? q = some (methodObj (.ref g) (.ref x))) (hg : ∃ o fd, s.heap.get? g = some o ∧ o.data = .func fd) (h : Q true s) : wpAny M A (borrowsExactly (.ref q)) Q E s := by
  obtain ⟨o, fd, hg, hf⟩ := hg
  unfold borrowsExactly
  refine wpAny_bind (wpAny_load hq ?_)
  dsimp only
  rw [if_pos (by decide)]
  refine wpAny_bind (wpAny_load hg ?_)
  rw [hf]
  exact wpAny_pure h

theorem cit_next {Q : Option Value → Shared → Prop} (hh : A.handled = none) (hi : s.heap.get? it = some (citObj q tk)) (hq : s.heap.get? q = some (methodObj (.ref g) (.ref x))) (hg : ∃ o fd, s.heap.get? g = some o ∧ o.data = .func fd)
    (h : codeAny (model prog w) A.in1 (.call (.ref g) ⟨[.ref x], []⟩) (fun r s' => match r with | .ok (.ret v) => ∃ y t, v = .str y t ∧ s'.heap.get? it = some (citObj q tk) ∧ s'.heap.get? q = some (methodObj (.ref g) (.ref x)) ∧ (∃ o fd, s'.heap.get? g = some o ∧ o.data = .func fd) ∧
      if y = "" then (∀ h' tk', Heap.ExtBut it s'.heap h' → h'.get? it = some citEnd → Q none { s' with heap := h', toks := tk' }) else Q (some v) s' | .ok _ => False | .error _ => False) s) :
    wpAny (model prog w) A (pyNext (.ref it)) Q E s := by
  unfold pyNext
  refine wpAny_bind (wpAny_attempt (wpAny_callSpecial?_slot (name := Str.ofString "__next__") (T := "callable_iterator") ⟨_, hi, rfl⟩ ci_slot_next
    (wpAny_call_entry ci_slot_next ⟨_, hi, rfl⟩ ci_entry_next ?_ (ci_args_next _))))
  unfold Builtin.«callable_iterator.__next__»
  refine wpAny_bind (wpAny_pure ?_)
  refine wpAny_bind (wpAny_field hi rfl (x := .bool false) rfl ?_)
  rw [if_neg (by decide)]
  refine wpAny_bind (wpAny_field hi rfl (x := .ref q) rfl ?_)
  refine wpAny_bind (wpAny_attempt ?_)
  unfold callOutOfASlot
  refine wpAny_bind (cit_borrows hq hg ?_)
  rw [if_pos rfl]
  refine wpAny_callBorrowed ?_
  refine method_call hq (codeAny_mono h fun r s' z => ?_)
  rcases r with e | (v | _ | _ | _) <;> try exact z.elim
  obtain ⟨y, t, rfl, hi', hq', hg', z⟩ := z
  dsimp only
  refine wpAny_bind (wpAny_field hi' rfl (x := .bool false) rfl ?_)
  rw [if_neg (by decide)]
  refine wpAny_bind (wpAny_field hi' rfl (x := .str "" tk) rfl ?_)
  refine wpAny_bind (wpAny_holding (eqBool_str ?_))
  by_cases hy : y = ""
  · subst hy
    rw [if_neg (by decide)]
    rw [if_pos rfl] at z
    refine wpAny_bind (wpAny_rule (wpAny_bind ?_))
    show wpAny _ _ (field (.ref it) 0 >>= fun a => slotLetsGo "callable_iterator.__next__" a _ >>= fun _ => setField (.ref it) 0 .none >>= fun _ => setField (.ref it) 1 .none >>= fun _ => setField (.ref it) 2 (.bool true)) _ _ _
    refine wpAny_bind (wpAny_field hi' rfl (x := .ref q) rfl (wpAny_bind ?_))
    unfold slotLetsGo
    refine wpAny_bind (cit_borrows hq' hg' ?_)
    rw [if_pos rfl]
    refine wpAny_pure ?_
    refine wpAny_bind (wpAny_setField_rec hi' (by simp) fun h1 e1 b1 => ?_)
    refine wpAny_bind (wpAny_setField_rec e1 (by simp) fun h2 e2 b2 => ?_)
    refine wpAny_setField_rec e2 (by simp) fun h3 e3 b3 => ?_
    refine wpAny_raiseStop hh fun h4 e k4 T => ?_
    refine wpAny_bind (wpAny_isInstance T isSubtype_stop ?_)
    rw [if_pos rfl]
    refine wpAny_pure (z _ _ ?_ ?_)
    · intro b o hb e
      exact k4 _ _ (((b3.2 b hb).trans ((b2.2 b hb).trans (b1.2 b hb))).trans e)
    · exact k4 _ _ e3
  · rw [if_pos (by simp [Ne.symm hy])]
    rw [if_neg hy] at z
    exact wpAny_pure ⟨_, rfl, wpAny_pure z⟩

theorem cit_over {Q : Option Value → Shared → Prop} (hh : A.handled = none) (hi : s.heap.get? it = some citEnd)
    (h : ∀ h', (∀ b o, s.heap.get? b = some o → h'.get? b = some o) → Q none { s with heap := h' }) :
    wpAny (model prog w) A (pyNext (.ref it)) Q E s := by
  unfold pyNext
  refine wpAny_bind (wpAny_attempt (wpAny_callSpecial?_slot (name := Str.ofString "__next__") (T := "callable_iterator") ⟨_, hi, rfl⟩ ci_slot_next
    (wpAny_call_entry ci_slot_next ⟨_, hi, rfl⟩ ci_entry_next ?_ (ci_args_next _))))
  unfold Builtin.«callable_iterator.__next__»
  refine wpAny_bind (wpAny_pure ?_)
  refine wpAny_bind (wpAny_field hi rfl (x := .bool true) rfl ?_)
  rw [if_pos (by decide)]
  refine wpAny_bind (wpAny_rule (wpAny_bind ?_))
  refine wpAny_raiseStop hh fun h4 e k4 T => ?_
  refine wpAny_bind (wpAny_isInstance T isSubtype_stop ?_)
  rw [if_pos rfl]
  exact wpAny_pure (h _ k4)

theorem ci_entry_iter : entryFor table "callable_iterator.__iter__" = some Builtin.«dict_keyiterator.__iter__» :=
  entryFor_alias (id' := "dict_keyiterator.__iter__") (by kernel_rfl) (by decide +kernel) (by decide +kernel) (by kernel_rfl)
theorem ci_args_iter (a : Value) : argsOk "callable_iterator.__iter__" ⟨[a], []⟩ := by unfold argsOk; kernel_rfl
theorem cit_iter {o : Obj} {Q : Value → Shared → Prop} (hi : s.heap.get? it = some o) (hc : o.cls = .type "callable_iterator") (h : Q (.ref it) s) : wpAny (model prog w) A (pyIter (.ref it)) Q E s := by
  refine wpAny_pyIter_slot (T := "callable_iterator") ⟨_, hi, hc⟩ ci_slot_iter (wpAny_call_entry ci_slot_iter ⟨_, hi, hc⟩ ci_entry_iter ?_ (ci_args_iter _))
  unfold Builtin.«dict_keyiterator.__iter__»
  refine wpAny_bind (wpAny_pure ?_)
  exact wpAny_pure ⟨_, rfl, "callable_iterator", _, ⟨_, hi, hc⟩, ci_slot_next.lookup, h⟩
theorem ci_mcall : typeLookup (.type "method") "__call__" = pure (some (.builtin "method.__call__")) := by rw [typeLookup_type, builtinLookup_eq_fast]; kernel_rfl
theorem ci_entry_mk : entryFor table "iter" = some Builtin.«iter» := entryFor_of_tree (by kernel_rfl)
theorem cit_make {u : Tok} {Q : Value → Shared → Prop} (hq : s.heap.get? q = some (methodObj (.ref g) (.ref x)))
    (h : Q (.ref s.heap.objs.size) { s with heap := s.heap.push (citObj q u) }) : wpAny (model prog w) A (call (.builtin "iter") [.ref q, .str "" u]) Q E s := by
  refine wpAny_call (codeAny_call_builtin (by decide +kernel) ci_entry_mk (wpAny_of_eq (a := ()) (by first | rfl | kernel_rfl!) ?_))
  unfold Builtin.«iter»
  refine wpAny_bind (m := someArgs "iter" 1 2 _) (wpAny_of_eq (a := [Value.ref q, Value.str "" u]) (by first | rfl | kernel_rfl!) ?_)
  refine wpAny_bind (wpAny_specialOf (T := "method") ⟨_, hq, rfl⟩ ci_mcall ?_)
  rw [if_neg (by decide)]
  refine wpAny_bind (wpAny_rule (wpAny_bind (wpAny_newObj_type (wpAny_pure h) (by size_fits))))
end
end Mine
end

section
open PySem PySem.W PyProof.Rows PySem.Calls PySem.Spec
set_option Elab.async false
set_option pp.deepTerms false
set_option pp.deepTerms.threshold 8
namespace Mine
local macro_rules | `(tactic| walk_at "PAD0") => `(tactic| fail)
local macro_rules | `(tactic| walk_at "PAD1") => `(tactic| fail)
local macro_rules | `(tactic| walk_at "PAD2") => `(tactic| fail)
local macro_rules | `(tactic| walk_at "PAD3") => `(tactic| fail)
local macro_rules | `(tactic| walk_at "PAD4") => `(tactic| fail)
local macro_rules | `(tactic| walk_at "PAD5") => `(tactic| fail)
local macro_rules | `(tactic| walk_at "PAD6") => `(tactic| fail)
local macro_rules | `(tactic| walk_at "PAD7") => `(tactic| fail)
local macro_rules | `(tactic| walk_at "PAD8") => `(tactic| fail)
local macro_rules | `(tactic| walk_at "PAD9") => `(tactic| fail)
local macro_rules | `(tactic| walk_at "PAD10") => `(tactic| fail)
local macro_rules | `(tactic| walk_at "PAD11") => `(tactic| fail)
local macro_rules | `(tactic| walk_at "PAD12") => `(tactic| fail)
local macro_rules | `(tactic| walk_at "PAD13") => `(tactic| fail)
local macro_rules | `(tactic| walk_at "PAD14") => `(tactic| fail)
local macro_rules | `(tactic| walk_at "PAD15") => `(tactic| fail)
local macro_rules | `(tactic| walk_at "PAD16") => `(tactic| fail)
local macro_rules | `(tactic| walk_at "PAD17") => `(tactic| fail)
local macro_rules | `(tactic| walk_at "PAD18") => `(tactic| fail)
local macro_rules | `(tactic| walk_at "PAD19") => `(tactic| fail)
local macro_rules | `(tactic| walk_at "PAD20") => `(tactic| fail)
local macro_rules | `(tactic| walk_at "PAD21") => `(tactic| fail)
/-- the parts of a reader in a ledger -/
structure Rdr (w : World) (led : List (Addr × Obj)) (li ce f d f2 : Addr) : Prop where
  f : ∃ fd, (f, (⟨.type "function", some d, .func fd, #[]⟩ : Obj)) ∈ led
  d : ∃ hv tk, (d, dictOf [⟨hv, .str "read" tk, .ref f2⟩] 1) ∈ led
  r : ∃ pm cB ctB oB vsB tB oce, (f2, rdObj w.params ce pm cB ctB) ∈ led ∧ (ce, oce) ∈ led ∧ oce.data = .cell (some (.ref li)) ∧ (cB, oB) ∈ led ∧ oB.data = .fields vsB ∧ vsB[1]? = some (.str qlam tB)
section
variable {w : World} {pT : Program} {lT : List Str} {mean : ExcName → Option Value} {mg mb : Str → Option Value} {dp un : Nat} {gd : Option (List Code)} {cn : Str} {cs : Scope} {a : Addr} {ccd : Value} {cl : List (Str × Addr)} {outer : List Env} {A₀ : Around} {base h₀ : Heap} {L : Addr} {m : Str → Option Value} {led : List (Addr × Obj)} {g : Obj → List (Addr × Obj)} {s : Shared} {Q E : Value → Shared → Prop}
theorem read_useF {u : Tok} {f d f2 ce li : Addr} {vs : List Value} {n : Nat} {rest : List Nat} (B : Below A₀ base outer h₀) (F : Fr h₀ L s.heap m) (X : (K w.params).In h₀) (N : News h₀ L s.heap led) (T : Top pT lT mean mg mb h₀) (C : CodeHd base 124 120)
    (R : Rdr w led li ce f d f2) (U : UpdF li (listO vs n) led g) (hs : SignsAre vs rest.reverse) (hok : ∀ c ∈ rest, c < 0x110000) (hlen : rest.length < 1000) (hk : cs.kind = .function)
    (hd : dp + 3 < recursionLimit) (hu : un + 100 < cLine)
    (hret : ∀ (t : Tok) (vs' : List Value) (n' : Nat) (h' : Heap) (tk' : Nat), Fr h₀ L h' m → News h₀ L h' (g (listO vs' n')) → SignsAre vs' rest.tail.reverse → Q (.str (headS rest) t) { s with heap := h', toks := tk' }) :
    wpAny (model PySem.Challenge.rw_tr0009_01.prog w) (ktrTop dp un gd cn cs L a ccd cl outer) (call (.ref f2) [.int 1 u]) Q E s := by
  obtain ⟨pre, post, rfl, hg, h1, h2⟩ := U.split
  obtain ⟨pm, cB, ctB, oB, vsB, tB, oce, m1, m2, dce, m3, dB, gB⟩ := R.r
  have hm : ∀ {b : Addr} {o : Obj}, (b, o) ∈ pre ++ (li, listO vs n) :: post → o.data ≠ (listO vs n).data → (b, o) ∈ pre ++ post := by
    intro b o h hne
    rcases List.mem_append.mp h with h | h
    · exact List.mem_append_left _ h
    · rcases List.mem_cons.mp h with h | h
      · cases h; exact absurd rfl hne
      · exact List.mem_append_right _ h
  have hne : ∀ p ∈ pre ++ post, p.1 ≠ li := by
    intro p hp
    rcases List.mem_append.mp hp with hp | hp
    · exact h1 p hp
    · exact h2 p hp
  have m2' := hm m2 (by rw [dce]; intro h; cases h)
  refine read_use (n := n) (news := pre ++ post) B F X (cb_drop N ?_) T C hne (hne _ m2') (hm m1 (by intro h; cases h)) dce (hm m3 (by rw [dB]; intro h; cases h)) dB gB hs hok hlen hk hd hu fun t vs' n' h' tk' F' N' hs' => hret t vs' n' h' tk' F' (cb_drop N' ?_) hs'
  · intro p hp
    rcases List.mem_cons.mp hp with rfl | hp
    · simp
    · rcases List.mem_cons.mp hp with rfl | hp
      · exact m2
      · rcases List.mem_append.mp hp with hp | hp
        · exact List.mem_append_left _ hp
        · exact List.mem_append_right _ (.tail _ hp)
  · intro p hp
    rw [hg] at hp
    rcases List.mem_append.mp hp with hp | hp
    · exact .tail _ (.tail _ (List.mem_append_left _ hp))
    · rcases List.mem_cons.mp hp with rfl | hp
      · exact .head _
      · exact .tail _ (.tail _ (List.mem_append_right _ hp))
theorem in1_top : (ktrTop dp un gd cn cs L a ccd cl outer).in1 = ktrTop dp (un + 1) gd cn cs L a ccd cl outer := rfl
end
local macro_rules | `(tactic| k_all) => `(tactic| assumption)
local macro_rules | `(tactic| k_mem) => `(tactic| assumption)
local macro_rules | `(tactic| k_updF) => `(tactic| assumption)
local macro_rules | `(tactic| walk_at "S") => `(tactic| first | (k_unfold; (try dsimp only)) | walk1 | (dsimp only; walk1))
local macro_rules | `(tactic| walk_at "getMethod ref") => `(tactic| (k_here; k_dflt (refine' fun_meth ?h1 ?h2 ?h3 ?h4 ?_; (case h1 => (refine News.get (by k_asm) ?hq1; assumption)); (case h2 => (refine News.get (by k_asm) ?hq2; assumption)); (case h3 => exact rfl); (case h4 => exact rfl))))
local macro_rules | `(tactic| walk_at "call ref") => `(tactic| (k_here; k_dflt (refine' read_useF ?k1 ?k2 ?k3 ?k4 ?k5 ?k6 ?kR ?kU ?ks ?ko ?kl ?kK ?kd ?ku ?_; (case k1 => k_asm); (case k2 => k_asm); (case k3 => k_asm); (case k4 => k_asm); (case k5 => k_asm); (case k6 => kn_code); (case kR => assumption); (case kU => assumption); (case ks => assumption); (case ko => assumption); (case kl => assumption); (case kK => exact rfl); (case kd => ktr_room); (case ku => ktr_units); intro t9 vs9 n9 h9 tk9 F9 N9 hs9; (try dsimp only); (try k_fold))))
abbrev lexInst (dx : Addr) : Obj := ⟨.ref 109, some dx, .plain, #[]⟩
abbrev lexDict (h1 h2 h3 h4 : Int) (k1 k2 k3 k4 t1 t3 : Tok) (f pb : Addr) : Obj := dictOf [⟨h1, .str "lineno" k1, .int 1 t1⟩, ⟨h2, .str "instream" k2, .ref f⟩, ⟨h3, .str "whitespace" k3, .str "\n\t\r " t3⟩, ⟨h4, .str "pushback" k4, .ref pb⟩] 4
theorem headS_nl : ∀ {rest : List Nat}, (∀ c ∈ rest, c ≠ 10) → (headS rest == ("\n" : Str)) = false
  | [], _ => rfl
  | c :: _, h => by
    have hc := h c (.head _)
    rw [beq_eq_false_iff_ne]
    intro e
    have : (#[c] : Array Nat) = #[10] := congrArg Str.cps e
    simp at this
    exact hc this
section
variable {w : World} {pT : Program} {lT : List Str} {mean : ExcName → Option Value} {mg mb : Str → Option Value} {dp un : Nat} {gd : Option (List Code)} {cn : Str} {cs : Scope} {a : Addr} {ccd : Value} {cl : List (Str × Addr)} {outer : List Env} {A₀ : Around} {base h₀ : Heap} {L : Addr} {m : Str → Option Value} {led : List (Addr × Obj)} {g : Obj → List (Addr × Obj)} {s : Shared} {Q E : Value → Shared → Prop}
set_option maxRecDepth 100000 in
set_option maxHeartbeats 8000000 in
theorem rc_code {R : Result → Shared → Prop} {x dx f d f2 ce li pb : Addr} {h1 h2 h3 h4 : Int} {k1 k2 k3 k4 t1 t3 : Tok} {vs : List Value} {n : Nat} {rest : List Nat} (B : Below A₀ base outer h₀) (F : Fr h₀ L s.heap m) (X : (K w.params).In h₀) (N : News h₀ L s.heap led) (T : Top pT lT mean mg mb h₀) (C : CodeHd base 124 120)
    (hx : (x, lexInst dx) ∈ led) (hdx : (dx, lexDict h1 h2 h3 h4 k1 k2 k3 k4 t1 t3 f pb) ∈ led) (RD : Rdr w led li ce f d f2) (U : UpdF li (listO vs n) led g) (hs : SignsAre vs rest.reverse) (hok : ∀ c ∈ rest, c < 0x110000) (hnl : ∀ c ∈ rest, c ≠ 10) (hlen : rest.length < 1000) (hk : cs.kind = .function)
    (hd : dp + 5 < recursionLimit) (hu : un + 150 < cLine)
    (hret : ∀ (t : Tok) (vs' : List Value) (n' : Nat) (h' : Heap) (tk' : Nat), Fr h₀ L h' m → News h₀ L h' (g (listO vs' n')) → SignsAre vs' rest.tail.reverse → R (.ok (.ret (.str (headS rest) t))) { s with heap := h', toks := tk' }) :
    codeAny (model PySem.Challenge.rw_tr0009_01.prog w) (ktrTop dp un gd cn cs L a ccd cl outer) (.call (.ref 92) ⟨[.ref x], []⟩) R s := by
  have hfill : PySem.Challenge.rw_tr0009_01.prog = PySem.Challenge.rw_tr0009_01.prog ∧ K = K := by k_fill; exact ⟨rfl, rfl⟩
  clear hfill
  obtain ⟨fd, hf⟩ := RD.f
  obtain ⟨hv, tk0, hdd⟩ := RD.d
  obtain ⟨pm, cB, ctB, oB, vsB, tB, oce, m1, _⟩ := id RD.r
  k_dflt cell_enter
  iterate 24 walk_at "S"
  rw [headS_nl hnl]
  iterate 8 walk_at "S"
  rename_i kF kN _ _
  exact hret _ _ _ _ _ kF kN (by assumption)
end
end Mine
end

section
open PySem PySem.W PyProof.Rows PySem.Calls PySem.Spec
set_option Elab.async false
set_option pp.deepTerms false
set_option pp.deepTerms.threshold 8
namespace Mine
theorem fr_eq {g : Heap} {L : Addr} {h : Heap} {m m' : Str → Option Value} (F : Fr g L h m) (e : ∀ y, m y = m' y) : Fr g L h m' := (funext e : m = m') ▸ F
theorem fr_but {g : Heap} {L it : Addr} {h h' : Heap} {m : Str → Option Value} (F : Fr g L h m) (k : Heap.ExtBut it h h') (h1 : L ≠ it) (h2 : g.get? it = none) : Fr g L h' m :=
  ⟨F.ns.extBut k h1, fun b o e => k b o (fun q => by rw [q, h2] at e; cases e) (F.keep b o e), F.above⟩
theorem Rdr.mono {w : World} {l l' : List (Addr × Obj)} {li ce f d f2 : Addr} (R : Rdr w l li ce f d f2) (h : ∀ p ∈ l, p ∈ l') : Rdr w l' li ce f d f2 := by
  obtain ⟨⟨fd, a⟩, ⟨hv, tk, b⟩, pm, cB, ctB, oB, vsB, tB, oce, m1, m2, d1, m3, d2, d3⟩ := R
  exact ⟨⟨fd, h _ a⟩, ⟨hv, tk, h _ b⟩, pm, cB, ctB, oB, vsB, tB, oce, h _ m1, h _ m2, d1, h _ m3, d2, d3⟩
theorem k92 (P : Params) : ∃ o fd, (K P).lookup 92 = some o ∧ o.data = .func fd := ⟨_, _, rfl, rfl⟩
abbrev tkLed (x it q : Addr) (tkq : Tok) (li : Addr) (vs : List Value) (n : Nat) (rest : List (Addr × Obj)) : List (Addr × Obj) := (it, citObj q tkq) :: (q, methodObj (.ref 92) (.ref x)) :: (li, listO vs n) :: rest
abbrev Good (c : Nat) : Prop := c < 0x110000 ∧ c ≠ 9 ∧ c ≠ 10 ∧ c ≠ 13 ∧ c ≠ 32 ∧ c ≠ 34
section
variable {w : World} {pT : Program} {lT : List Str} {mean : ExcName → Option Value} {mg mb : Str → Option Value} {dp un : Nat} {gd : Option (List Code)} {cn : Str} {cs : Scope} {a : Addr} {ccd : Value} {cl : List (Str × Addr)} {outer : List Env} {A₀ : Around} {base h₀ : Heap} {L : Addr} {m : Str → Option Value} {rest : List (Addr × Obj)} {s : Shared} {E : Value → Shared → Prop}
theorem next_use {Q : Option Value → Shared → Prop} {x dx f d f2 ce li pb it q : Addr} {tkq : Tok} {h1 h2 h3 h4 : Int} {k1 k2 k3 k4 t1 t3 : Tok} {vs : List Value} {n : Nat} {txt : List Nat} (B : Below A₀ base outer h₀) (F : Fr h₀ L s.heap m) (X : (K w.params).In h₀) (N : News h₀ L s.heap (tkLed x it q tkq li vs n rest)) (T : Top pT lT mean mg mb h₀) (C : CodeHd base 124 120)
    (hx : (x, lexInst dx) ∈ rest) (hdx : (dx, lexDict h1 h2 h3 h4 k1 k2 k3 k4 t1 t3 f pb) ∈ rest) (RD : Rdr w rest li ce f d f2) (hne : ∀ p ∈ rest, p.1 ≠ li) (hit : ∀ p ∈ rest, p.1 ≠ it) (hil : it ≠ li) (hql : q ≠ li) (hs : SignsAre vs txt.reverse) (hok : ∀ c ∈ txt, Good c) (hlen : txt.length < 1000) (hk : cs.kind = .function)
    (hd : dp + 5 < recursionLimit) (hu : un + 160 < cLine)
    (hnil : txt = [] → ∀ h' tk', Fr h₀ L h' m → News h₀ L h' ((it, citEnd) :: rest) → Q none { s with heap := h', toks := tk' })
    (hcons : ∀ c r, txt = c :: r → ∀ t vs' n' h' tk', Fr h₀ L h' m → News h₀ L h' (tkLed x it q tkq li vs' n' rest) → SignsAre vs' r.reverse → Q (some (.str ⟨#[c]⟩ t)) { s with heap := h', toks := tk' }) :
    wpAny (model PySem.Challenge.rw_tr0009_01.prog w) (ktrTop dp un gd cn cs L a ccd cl outer) (pyNext (.ref it)) Q E s := by
  obtain ⟨o92, fd92, e92, d92⟩ := k92 w.params
  have I := N (it, citObj q tkq) (.head _)
  refine cit_next rfl I.1 (N (q, methodObj (.ref 92) (.ref x)) (.tail _ (.head _))).1 ⟨o92, fd92, F.keep _ _ (X _ _ e92), d92⟩ ?_
  refine rc_code (g := fun o' => (it, citObj q tkq) :: (q, methodObj (.ref 92) (.ref x)) :: (li, o') :: rest) B F X N T C (.tail _ (.tail _ (.tail _ hx))) (.tail _ (.tail _ (.tail _ hdx))) (RD.mono fun p hp => .tail _ (.tail _ (.tail _ hp))) (.tail hil (.tail hql (.head hne))) hs (fun c hc => (hok c hc).1) (fun c hc => (hok c hc).2.2.1) hlen hk hd (by show un + 1 + 150 < cLine; omega) fun t vs' n' h' tk' F' N' hs' => ?_
  refine ⟨_, _, rfl, (N' _ (.head _)).1, (N' _ (.tail _ (.head _))).1, ⟨o92, fd92, F'.keep _ _ (X _ _ e92), d92⟩, ?_⟩
  cases txt with
  | nil =>
    rw [if_pos (show headS [] = "" from rfl)]
    intro h2 tk2 k2 e2
    refine hnil rfl h2 tk2 (fr_but F' k2 I.2.1.symm I.2.2) fun p hp => ?_
    rcases List.mem_cons.mp hp with rfl | hp
    · exact ⟨e2, I.2⟩
    · have np := N' p (.tail _ (.tail _ (.tail _ hp)))
      exact ⟨k2 _ _ (hit p hp) np.1, np.2⟩
  | cons c r =>
    rw [if_neg (by intro e; have : (#[c] : Array Nat) = #[] := congrArg Str.cps e; simp at this)]
    exact hcons c r rfl t vs' n' h' tk' F' N' hs'
end
end Mine
end

section
open PySem PySem.W PyProof.Rows PySem.Calls PySem.Spec
set_option Elab.async false
set_option pp.deepTerms false
set_option pp.deepTerms.threshold 8
namespace Mine
local macro_rules | `(tactic| walk_at "PAD0") => `(tactic| fail)
local macro_rules | `(tactic| walk_at "PAD1") => `(tactic| fail)
local macro_rules | `(tactic| walk_at "PAD2") => `(tactic| fail)
local macro_rules | `(tactic| walk_at "PAD3") => `(tactic| fail)
local macro_rules | `(tactic| walk_at "PAD4") => `(tactic| fail)
local macro_rules | `(tactic| walk_at "PAD5") => `(tactic| fail)
local macro_rules | `(tactic| walk_at "PAD6") => `(tactic| fail)
local macro_rules | `(tactic| walk_at "PAD7") => `(tactic| fail)
local macro_rules | `(tactic| walk_at "PAD8") => `(tactic| fail)
local macro_rules | `(tactic| walk_at "PAD9") => `(tactic| fail)
local macro_rules | `(tactic| walk_at "PAD10") => `(tactic| fail)
local macro_rules | `(tactic| walk_at "PAD11") => `(tactic| fail)
local macro_rules | `(tactic| walk_at "PAD12") => `(tactic| fail)
local macro_rules | `(tactic| walk_at "PAD13") => `(tactic| fail)
local macro_rules | `(tactic| walk_at "PAD14") => `(tactic| fail)
local macro_rules | `(tactic| walk_at "PAD15") => `(tactic| fail)
local macro_rules | `(tactic| walk_at "PAD16") => `(tactic| fail)
local macro_rules | `(tactic| walk_at "PAD17") => `(tactic| fail)
local macro_rules | `(tactic| walk_at "PAD18") => `(tactic| fail)
local macro_rules | `(tactic| walk_at "PAD19") => `(tactic| fail)
local macro_rules | `(tactic| walk_at "PAD20") => `(tactic| fail)
local macro_rules | `(tactic| walk_at "PAD21") => `(tactic| fail)
local macro_rules | `(tactic| walk_at "PAD22") => `(tactic| fail)
local macro_rules | `(tactic| walk_at "PAD23") => `(tactic| fail)
local macro_rules | `(tactic| walk_at "PAD24") => `(tactic| fail)
local macro_rules | `(tactic| walk_at "PAD25") => `(tactic| fail)
/-- what the lexer reads of a text without blanks and quotes -/
def wordL : List Nat → List Nat
  | [] => []
  | c :: r => if c = 92 then (match r with | [] => [] | d :: r' => d :: wordL r') else c :: wordL r
theorem wordL_bs (r : List Nat) : wordL (92 :: r) = (headS r).cps.toList ++ wordL r.tail := by
  cases r with
  | nil => rfl
  | cons d r' => rfl
theorem wordL_ne {c : Nat} (r : List Nat) (h : c ≠ 92) : wordL (c :: r) = c :: wordL r := by
  rw [wordL.eq_def]; simp [h]
theorem wordL_len : ∀ (n : Nat) (l : List Nat), l.length ≤ n → (wordL l).length ≤ l.length
  | _, [], _ => by simp [wordL]
  | 0, _ :: _, h => by simp at h
  | n + 1, c :: r, h => by
    have hr : r.length ≤ n := by simpa using h
    by_cases hc : c = 92
    · subst hc
      cases r with
      | nil => simp [wordL]
      | cons d r' =>
        have := wordL_len n r' (by simp at hr; omega)
        rw [wordL_bs]
        simp [headS]
        omega
    · have := wordL_len n r hr
      rw [wordL_ne r hc]
      simp
      omega
theorem ws_not {c : Nat} (h : Good c) : (!(Builtin.Str.occurrences ("\n\t\r " : Str) ⟨#[c]⟩ 0 ("\n\t\r " : Str).length 1).isEmpty) = false := by
  rw [PySem.StrLaws.found_one]
  obtain ⟨_, h9, h10, h13, h32, _⟩ := h
  have e : ("\n\t\r " : Str).cps.toList = [10, 9, 13, 32] := by decide +kernel
  rw [e]
  simp [h9, h10, h13, h32]
theorem sg_not {c k : Nat} {y : Str} (hy : y = ⟨#[k]⟩) (h : c ≠ k) : ((⟨#[c]⟩ : Str) == y) = false := by
  rw [beq_eq_false_iff_ne, hy]
  intro e
  have : (#[c] : Array Nat) = #[k] := congrArg Str.cps e
  simp at this
  exact h this
theorem app_cps (a b : Str) : (a ++ b).cps.toList = a.cps.toList ++ b.cps.toList := by
  show (a.cps ++ b.cps).toList = _
  simp
theorem app_nil (b : Str) : (("" : Str) ++ b).cps.toList = b.cps.toList := by rw [app_cps]; rfl
theorem headS_len : ∀ r : List Nat, (headS r).length ≤ 1
  | [] => by decide
  | _ :: _ => Nat.le_refl 1
theorem sg_bs : ((⟨#[92]⟩ : Str) == ("\\" : Str)) = true := by decide +kernel
theorem bs_is : ("\\" : Str) = ⟨#[92]⟩ := by decide +kernel
theorem qt_is : ("\"" : Str) = ⟨#[34]⟩ := by decide +kernel
local macro_rules | `(tactic| k_all) => `(tactic| assumption)
local macro_rules | `(tactic| k_mem) => `(tactic| first | assumption | exact List.Mem.head _ | (refine' List.Mem.tail _ ?_; k_mem))
local macro_rules | `(tactic| walk_at "S") => `(tactic| first | (k_unfold; (try dsimp only)) | walk1 | (dsimp only; walk1))
section
variable {prog : Program} {w : World} {A : Around} {E : Value → Shared → Prop} {s : Shared} {h₀ : Heap} {L : Addr} {m : Str → Option Value} {led : List (Addr × Obj)}
theorem cit_makeK {q g x : Addr} {u : Tok} {Q : Value → Shared → Prop} (F : Fr h₀ L s.heap m) (N : News h₀ L s.heap led) (hq : (q, methodObj (.ref g) (.ref x)) ∈ led)
    (h : ∀ it h', Fr h₀ L h' m → News h₀ L h' ((it, citObj q u) :: led) → (∀ p ∈ led, p.1 < it) → Q (.ref it) { s with heap := h' }) :
    wpAny (model prog w) A (call (.builtin "iter") [.ref q, .str "" u]) Q E s :=
  cit_make (N _ hq).1 (h _ _ (F.push _) (News.push F N _ rfl) fun p hp => Heap.lt_size (N p hp).1)
end
local macro_rules | `(tactic| walk_at "call builtin:iter") => `(tactic| (k_here; k_dflt (refine' cit_makeK ?k1 ?k2 ?k3 ?_; (case k1 => k_asm); (case k2 => k_asm); (case k3 => exact List.Mem.head _)); intro it9 h9 F9 N9 l9; (k_lt l9)))
local macro_rules | `(tactic| walk_at "truthy ref") => `(tactic| (k_here; k_dflt (refine' wpAny_truthy_list (items := #[]) ?a ?b ?_; (case a => exact News.isList (by k_asm) (by k_mem)); (case b => decide +kernel))))
abbrev tkFrame (x it : Addr) (acc : Str) (t : Tok) (cv : Option Value) : Str → Option Value := fun y => if y = "ch" then cv else if y = "token" then some (.str acc t) else if y = "fiter" then some (.ref it) else if y = "self" then some (.ref x) else none
theorem fr_tok {g : Heap} {L : Addr} {h : Heap} {x it : Addr} {acc acc0 : Str} {t t0 : Tok} {cv0 : Option Value} {mm : Str → Option Value} (F : Fr g L h (fun y => if y = "token" then some (.str acc t) else mm y)) (hm : ∀ y : Str, y ≠ "token" → y ≠ "ch" → mm y = tkFrame x it acc0 t0 cv0 y) : Fr g L h (tkFrame x it acc t (mm "ch")) :=
  fr_eq F fun y => by
    unfold tkFrame
    by_cases e2 : y = "ch"
    · subst e2; rw [if_neg (by decide), if_pos rfl]
    · by_cases e1 : y = "token"
      · subst e1; rw [if_pos rfl, if_neg (by decide), if_pos rfl]
      · rw [if_neg e1, if_neg e2, if_neg e1, hm y e1 e2]
        unfold tkFrame
        rw [if_neg e2, if_neg e1]
section
variable {w : World} {pT : Program} {lT : List Str} {mean : ExcName → Option Value} {mg mb : Str → Option Value} {dp un : Nat} {gd : Option (List Code)} {cn : Str} {cs : Scope} {a : Addr} {ccd : Value} {cl : List (Str × Addr)} {outer : List Env} {A₀ : Around} {base h₀ : Heap} {L : Addr} {m : Str → Option Value} {rest : List (Addr × Obj)} {s : Shared} {Q E : Value → Shared → Prop}
set_option maxRecDepth 100000 in
set_option maxHeartbeats 8000000 in
theorem gt_use {x dx f d f2 ce li pb : Addr} {h1 h2 h3 h4 : Int} {k1 k2 k3 k4 t1 t3 : Tok} {vs : List Value} {n n0 : Nat} {txt : List Nat} (B : Below A₀ base outer h₀) (F : Fr h₀ L s.heap m) (X : (K w.params).In h₀) (N : News h₀ L s.heap ((li, listO vs n) :: rest)) (T : Top pT lT mean mg mb h₀) (C : CodeHd base 124 120)
    (hx : (x, lexInst dx) ∈ rest) (hdx : (dx, lexDict h1 h2 h3 h4 k1 k2 k3 k4 t1 t3 f pb) ∈ rest) (hpb : (pb, listO [] n0) ∈ rest) (RD : Rdr w rest li ce f d f2) (hne : ∀ p ∈ rest, p.1 ≠ li) (hs : SignsAre vs txt.reverse) (hok : ∀ c ∈ txt, Good c) (hlen : txt.length < 1000) (hk : cs.kind = .function)
    (hd : dp + 10 < recursionLimit) (hu : un + 200 < cLine)
    (hret : ∀ (t : Tok) (h' : Heap) (tk' : Nat), Fr h₀ L h' m → News h₀ L h' rest → Q (.str ⟨(wordL txt).toArray⟩ t) { s with heap := h', toks := tk' }) :
    wpAny (model PySem.Challenge.rw_tr0009_01.prog w) (ktrTop dp un gd cn cs L a ccd cl outer) (call (.ref 99) [.ref x]) Q E s := by
  have hfill : PySem.Challenge.rw_tr0009_01.prog = PySem.Challenge.rw_tr0009_01.prog ∧ K = K := by k_fill; exact ⟨rfl, rfl⟩
  clear hfill
  refine wpAny_call ?_
  k_dflt cell_enter
  iterate 27 walk_at "S"
  refine' cit_makeK ?k1 ?k2 ?k3 ?_
  case k1 => k_asm
  case k2 => k_asm
  case k3 => exact List.Mem.head _
  intro it h9 F9 N9 l9
  (k_lt l9)
  iterate 3 walk_at "S"
  rename_i gg LL hh0 FG BB XX TT tk1 tk0 h2x q hq lq h10 F10 N10
  have hit : ∀ p ∈ rest, p.1 ≠ it := fun p hp => Nat.ne_of_lt (allLt_all l9.2.2 p hp)
  have hil : it ≠ li := Nat.ne_of_gt l9.2.1
  have hql : q ≠ li := Nat.ne_of_gt lq.1
  have F11 : Fr gg LL h10 (tkFrame x it "" tk0 none) := fr_eq F10 fun y => by
    unfold tkFrame
    by_cases e1 : y = "fiter" <;> by_cases e2 : y = "token" <;> by_cases e3 : y = "ch" <;> by_cases e4 : y = "self" <;> first | (subst e1; first | (cases e2; done) | (cases e3; done) | (cases e4; done) | rfl) | (subst e2; first | (cases e3; done) | (cases e4; done) | rfl) | (subst e3; first | (cases e4; done) | rfl) | (subst e4; rfl) | (rw [if_neg e1, if_neg e2, if_neg e3, if_neg e2, if_neg e1, if_neg e4]; show List.lookup y [("self", Value.ref x)] = none; rw [List.lookup, beq_eq_false_iff_ne.mpr e4]; rfl)
  obtain ⟨tkq, N11⟩ : ∃ tkq, News gg LL h10 (tkLed x it q tkq li vs n rest) := ⟨_, N10⟩
  clear F10 N10
  refine wpAny_For ?_
  iterate 1 walk_at "S"
  refine cit_iter (N11 _ (.head _)).1 rfl ?_
  refine codeAny_forLoop (fun k s' => (k = 1 ∧ s' = (Shared.mk h10 s.gens s.drawn tk s.os)) ∨ (k = 0 ∧ ∃ h tk' t cv, s' = (Shared.mk h s.gens s.drawn tk' s.os) ∧ Fr gg LL h (tkFrame x it ⟨(wordL txt).toArray⟩ t cv) ∧ News gg LL h ((it, citEnd) :: rest))) ?_ 1 (.inl ⟨rfl, rfl⟩)
  intro k s1 hI
  rcases hI with ⟨rfl, rfl⟩ | ⟨rfl, h, tk', t, cv, rfl, FF, NN⟩
  · refine next_use BB F11 XX N11 TT C hx hdx RD hne hit hil hql hs hok hlen rfl (by ktr_room) (by ktr_units) ?_ ?_
    · intro et h5 tk5 F5 N5
      subst et
      (try dsimp only)
      iterate 5 walk_at "S"
      rename_i kF kN _ _
      exact hret _ _ _ kF (cb_drop kN fun p hp => .tail _ hp)
    · intro c r et t5 vs5 n5 h5 tk5 F5 N5 hs5
      subst et
      iterate 11 walk_at "S"
      rw [ws_not (hok c (.head _))]
      iterate 10 walk_at "S"
      rw [sg_not qt_is (hok c (.head _)).2.2.2.2.2]
      iterate 9 walk_at "S"
      obtain ⟨W, hW⟩ : ∃ W, wordL (c :: r) = W := ⟨_, rfl⟩
      have hcl : W.length < 1000 := hW ▸ Nat.lt_of_le_of_lt (wordL_len _ _ (Nat.le_refl _)) hlen
      by_cases hc : c = 92
      case' pos =>
        subst hc
        rw [sg_bs]
        iterate 9 walk_at "S"
        refine' wpAny_call (rc_code (n := n5) (led := tkLed x it q tkq li vs5 n5 rest) (g := fun o' => (it, citObj q tkq) :: (q, methodObj (.ref 92) (.ref x)) :: (li, o') :: rest) BB ?kF XX ?kN TT C (.tail _ (.tail _ (.tail _ hx))) (.tail _ (.tail _ (.tail _ hdx))) (RD.mono fun p hp => .tail _ (.tail _ (.tail _ hp))) (.tail hil (.tail hql (.head hne))) hs5 (fun c hc => (hok c (.tail _ hc)).1) (fun c hc => (hok c (.tail _ hc)).2.2.1) (by simp at hlen; omega) rfl (by ktr_room) (by ktr_units) ?_)
        case kF => k_asm
        case kN => k_asm
        intro t6 vs6 n6 h6 tk6 F6 N6 hs6
        have hl6 := headS_len r
        (try dsimp only)
        iterate 10 walk_at "S"
        rename_i hX FX NX
        have HJ : ∃ rr acc t cv vs n, Fr gg LL hX (tkFrame x it acc t cv) ∧ News gg LL hX (tkLed x it q tkq li vs n rest) ∧ SignsAre vs rr.reverse ∧ (∀ c ∈ rr, Good c) ∧ rr.length < 1000 ∧ acc.cps.toList ++ wordL rr = W :=
          ⟨r.tail, _, _, _, vs6, n6, fr_tok (acc0 := "") (t0 := tk0) (cv0 := none) FX (fun y _ h2 => by simp [h2]), NX, hs6, fun c hc => hok c (.tail _ (List.mem_of_mem_tail hc)), by simp only [List.length_cons] at hlen; rw [List.length_tail]; omega, by rw [← hW, wordL_bs, app_nil]⟩
        clear FX NX
      case' neg =>
        rw [sg_not bs_is hc]
        have hl6 : (⟨#[c]⟩ : Str).length ≤ 1 := Nat.le_refl 1
        iterate 11 walk_at "S"
        rename_i hX FX NX
        have HJ : ∃ rr acc t cv vs n, Fr gg LL hX (tkFrame x it acc t cv) ∧ News gg LL hX (tkLed x it q tkq li vs n rest) ∧ SignsAre vs rr.reverse ∧ (∀ c ∈ rr, Good c) ∧ rr.length < 1000 ∧ acc.cps.toList ++ wordL rr = W :=
          ⟨r, _, _, _, vs5, n5, fr_tok (acc0 := "") (t0 := tk0) (cv0 := none) FX (fun y _ h2 => by simp [h2]), NX, hs5, fun c hc => hok c (.tail _ hc), by simp at hlen; omega, by rw [← hW, wordL_ne _ hc, app_nil]; rfl⟩
        clear FX NX
      all_goals
        obtain ⟨rr, acc, t, cv, vs7, n7, FJ, NJ, hsJ, hgJ, hlJ, hwJ⟩ := HJ
        refine wpAny_For ?_
        iterate 1 walk_at "S"
        refine cit_iter (NJ _ (.head _)).1 rfl ?_
        refine codeAny_forLoop (fun k s' => ∃ rr acc vs n h tk t cv, k = rr.length ∧ s' = (Shared.mk h s.gens s.drawn tk s.os) ∧ Fr gg LL h (tkFrame x it acc t cv) ∧ News gg LL h (tkLed x it q tkq li vs n rest) ∧ SignsAre vs rr.reverse ∧ (∀ c ∈ rr, Good c) ∧ rr.length < 1000 ∧ acc.cps.toList ++ wordL rr = W) ?_ rr.length ⟨rr, acc, vs7, n7, _, _, t, cv, rfl, rfl, FJ, NJ, hsJ, hgJ, hlJ, hwJ⟩
        clear FJ NJ hsJ hgJ hlJ hwJ
        intro k s1 hI
        obtain ⟨rr, acc, vs, n, hI, tkI, t, cv, rfl, rfl, FI, NI, hsI, hgI, hlI, hwI⟩ := hI
        have hal : acc.length < 1000 := Nat.lt_of_le_of_lt (by rw [← hwI, List.length_append]; show acc.cps.size ≤ _; rw [← Array.length_toList]; omega) hcl
        refine next_use BB FI XX NI TT C hx hdx RD hne hit hil hql hsI hgI hlI rfl (by ktr_room) (by ktr_units) ?_ ?_
        · intro et h5 tk5 F5 N5
          subst et
          (try dsimp only)
          iterate 3 walk_at "S"
          exact ⟨0, Nat.zero_lt_one, .inr ⟨rfl, _, _, t, cv, rfl, fr_eq F5 fun y => by rw [hW, ← hwI]; simp [wordL], N5⟩⟩
        · intro d r' et t5 vs5 n5 h5 tk5 F5 N5 hs5
          subst et
          iterate 11 walk_at "S"
          rw [ws_not (hgI d (.head _))]
          iterate 10 walk_at "S"
          by_cases hd92 : d = 92
          · subst hd92
            rw [sg_bs]
            iterate 8 walk_at "S"
            refine' wpAny_call (rc_code (n := n5) (led := tkLed x it q tkq li vs5 n5 rest) (g := fun o' => (it, citObj q tkq) :: (q, methodObj (.ref 92) (.ref x)) :: (li, o') :: rest) BB ?kF XX ?kN TT C (.tail _ (.tail _ (.tail _ hx))) (.tail _ (.tail _ (.tail _ hdx))) (RD.mono fun p hp => .tail _ (.tail _ (.tail _ hp))) (.tail hil (.tail hql (.head hne))) hs5 (fun c hc => (hgI c (.tail _ hc)).1) (fun c hc => (hgI c (.tail _ hc)).2.2.1) (by simp at hlI; omega) rfl (by ktr_room) (by ktr_units) ?_)
            case kF => k_asm
            case kN => k_asm
            intro t6 vs6 n6 h6 tk6 F6 N6 hs6
            have hl6 := headS_len r'
            (try dsimp only)
            iterate 10 walk_at "S"
            rename_i hX FX NX
            walk_at "S"
            exact ⟨r'.tail.length, by rw [List.length_tail, List.length_cons]; omega, r'.tail, acc ++ headS r', vs6, n6, hX, _, _, _, rfl, rfl, fr_tok (acc0 := acc) (t0 := t) (cv0 := cv) FX (fun y _ h2 => by simp [h2]), NX, hs6, fun c hc => hgI c (.tail _ (List.mem_of_mem_tail hc)), by simp only [List.length_cons] at hlI; rw [List.length_tail]; omega, by rw [app_cps, List.append_assoc, ← wordL_bs]; exact hwI⟩
          · rw [sg_not bs_is hd92]
            have hl6 : (⟨#[d]⟩ : Str).length ≤ 1 := Nat.le_refl 1
            iterate 10 walk_at "S"
            rename_i hX FX NX
            walk_at "S"
            exact ⟨r'.length, Nat.lt_succ_self _, r', acc ++ ⟨#[d]⟩, vs5, n5, hX, _, _, _, rfl, rfl, fr_tok (acc0 := acc) (t0 := t) (cv0 := cv) FX (fun y _ h2 => by simp [h2]), NX, hs5, fun c hc => hgI c (.tail _ hc), by simp only [List.length_cons] at hlI; omega, by rw [app_cps, List.append_assoc]; rw [wordL_ne r' hd92] at hwI; exact hwI⟩
  · refine cit_over rfl (NN _ (.head _)).1 fun h' hk => ?_
    have FF' := FF.keeps hk
    have NN' : News gg LL h' ((it, citEnd) :: rest) := fun p hp => ⟨hk _ _ (NN p hp).1, (NN p hp).2⟩
    clear FF NN
    (try dsimp only)
    iterate 5 walk_at "S"
    rename_i kF kN _ _
    exact hret _ _ _ kF (cb_drop kN fun p hp => .tail _ hp)
end
end Mine
end

section
open PySem PySem.W PyProof.Rows PySem.Calls PySem.Spec
set_option Elab.async false
set_option pp.deepTerms false
set_option pp.deepTerms.threshold 8
namespace Mine
local macro_rules | `(tactic| walk_at "PAD0") => `(tactic| fail)
local macro_rules | `(tactic| walk_at "PAD1") => `(tactic| fail)
local macro_rules | `(tactic| walk_at "PAD2") => `(tactic| fail)
local macro_rules | `(tactic| walk_at "PAD3") => `(tactic| fail)
local macro_rules | `(tactic| walk_at "PAD4") => `(tactic| fail)
local macro_rules | `(tactic| walk_at "PAD5") => `(tactic| fail)
local macro_rules | `(tactic| walk_at "PAD6") => `(tactic| fail)
local macro_rules | `(tactic| walk_at "PAD7") => `(tactic| fail)
local macro_rules | `(tactic| walk_at "PAD8") => `(tactic| fail)
local macro_rules | `(tactic| walk_at "PAD9") => `(tactic| fail)
local macro_rules | `(tactic| walk_at "PAD10") => `(tactic| fail)
local macro_rules | `(tactic| walk_at "PAD11") => `(tactic| fail)
local macro_rules | `(tactic| walk_at "PAD12") => `(tactic| fail)
local macro_rules | `(tactic| walk_at "PAD13") => `(tactic| fail)
local macro_rules | `(tactic| walk_at "PAD14") => `(tactic| fail)
local macro_rules | `(tactic| walk_at "PAD15") => `(tactic| fail)
local macro_rules | `(tactic| walk_at "PAD16") => `(tactic| fail)
local macro_rules | `(tactic| walk_at "PAD17") => `(tactic| fail)
local macro_rules | `(tactic| walk_at "PAD18") => `(tactic| fail)
local macro_rules | `(tactic| walk_at "PAD19") => `(tactic| fail)
local macro_rules | `(tactic| walk_at "PAD20") => `(tactic| fail)
local macro_rules | `(tactic| walk_at "PAD21") => `(tactic| fail)
local macro_rules | `(tactic| walk_at "PAD22") => `(tactic| fail)
local macro_rules | `(tactic| walk_at "PAD23") => `(tactic| fail)
local macro_rules | `(tactic| walk_at "PAD24") => `(tactic| fail)
local macro_rules | `(tactic| walk_at "PAD25") => `(tactic| fail)
local macro_rules | `(tactic| walk_at "PAD26") => `(tactic| fail)
local macro_rules | `(tactic| walk_at "PAD27") => `(tactic| fail)
local macro_rules | `(tactic| walk_at "PAD28") => `(tactic| fail)
local macro_rules | `(tactic| walk_at "PAD29") => `(tactic| fail)
local macro_rules | `(tactic| walk_at "S") => `(tactic| first | (k_unfold; (try dsimp only)) | walk1 | (dsimp only; walk1))
local macro_rules | `(tactic| k_all) => `(tactic| assumption)
local macro_rules | `(tactic| k_all) => `(tactic| (refine' allLt_ne ?hq1 ?hq2; (case hq1 => with_reducible assumption); (case hq2 => ((try dsimp only); omega))))
local macro_rules | `(tactic| walk_at "ENTERD") => `(tactic| (refine' code_def ?k1 ?k2 ?k3 ?k4 ?k5 ?kA ?kF ?kK ?k6 ?k7 ?k8 ?k9 ?kB ?_ ?c2 ?c3 ?c4 ?c5; (case kA => exact rfl); (case kF => exact rfl); (case kK => exact rfl); (case k1 => k_asm); (case k2 => k_asm); (case k3 => k_asm); (case k4 => k_asm); (case k5 => k_asm); (case k6 => k_is); (case k7 => k_is); (case k8 => ktr_room); (case k9 => exact BindsTo.of_eq rfl); (case c5 => decide); (case kB => exact locs rfl); (case c2 => exact rfl); (case c3 => exact rfl); (case c4 => exact rfl); k_whole; intro g' L' h' FG' F' N' B' X' T'; (try dsimp only); (try k_fold)))
local macro_rules | `(tactic| k_mem) => `(tactic| first | assumption | exact List.Mem.head _ | (refine' List.Mem.tail _ ?_; k_mem))
theorem news_front {h₀ h : Heap} {L li : Addr} {o : Obj} {l1 l2 : List (Addr × Obj)} (N : News h₀ L h (l1 ++ (li, o) :: l2)) : News h₀ L h ((li, o) :: (l1 ++ l2)) := cb_drop N fun p hp => by
  rcases List.mem_cons.mp hp with rfl | hp
  · simp
  · rcases List.mem_append.mp hp with hp | hp
    · exact List.mem_append_left _ hp
    · exact List.mem_append_right _ (.tail _ hp)
section
variable {w : World} {pT : Program} {lT : List Str} {mean : ExcName → Option Value} {mg mb : Str → Option Value} {dp un : Nat} {gd : Option (List Code)} {cn : Str} {cs : Scope} {a : Addr} {ccd : Value} {cl : List (Str × Addr)} {outer : List Env} {A₀ : Around} {base h₀ : Heap} {L : Addr} {m : Str → Option Value} {news : List (Addr × Obj)} {s : Shared} {Q E : Value → Shared → Prop}
set_option maxRecDepth 100000 in
set_option maxHeartbeats 8000000 in
theorem word_use {x : Str} {t : Tok} {tl : List (Addr × Obj)} (B : Below A₀ base outer h₀) (F : Fr h₀ L s.heap m) (X : (K w.params).In h₀) (N : News h₀ L s.heap (tl ++ news)) (T : Top pT lT mean mg mb h₀) (C : CodeHd base 124 120) (TL : TabLed tl) (D : Dis tl news) (hk : cs.kind = .function)
    (hd : dp + 20 < recursionLimit) (hu : un + 300 < cLine) (hx : x.cps.size < 1000) (hg : ∀ c ∈ x.cps.toList, Good c)
    (hret : ∀ (tl' : List (Addr × Obj)) (t : Tok) (h' : Heap) (tk' : Nat), Fr h₀ L h' m → News h₀ L h' (tl' ++ news) → TabLed tl' → Dis tl' news → Q (.str ⟨(wordL x.cps.toList).toArray⟩ t) { s with heap := h', toks := tk' }) :
    wpAny (model PySem.Challenge.rw_tr0009_01.prog w) (ktrTop dp un gd cn cs L a ccd cl outer) (call (.ref 132) [.str x t]) Q E s := by
  have hfill : PySem.Challenge.rw_tr0009_01.prog = PySem.Challenge.rw_tr0009_01.prog ∧ K = K := by k_fill; exact ⟨rfl, rfl⟩
  clear hfill
  refine wpAny_call ?_
  k_dflt cell_enter
  iterate 15 walk_at "S"
  refine' stream_use ?k1 ?k2 ?k3 ?k4 ?k5 C TL D ?kK ?kd ?ku hx ?_
  case k1 => k_asm
  case k2 => k_asm
  case k3 => k_asm
  case k4 => k_asm
  case k5 => k_asm
  case kK => exact rfl
  case kd => ktr_room
  case ku => ktr_units
  intro tl9 f9 d9 hv9 tk9 f29 ce9 li9 oce9 vs9 n9 fd9 pm9 cB9 oB9 vsB9 tB9 ctB9 h9 tk99 F9 N9 dc9 hs9 TL9 D9 m9 dB9 gB9 e1 e2 e3 e4 e5
  (try dsimp only)
  (try k_fold)
  generalize hrst : tl9 ++ news = rst at N9 e5
  iterate 3 walk_at "S"
  refine' call_cls ?k1 ?k2 ?k3 ?k4 ?k5 ?k6 ?_
  case k1 => k_asm
  case k2 => k_asm
  case k3 => k_asm
  case k4 => k_is
  case k5 => k_is
  case k6 => k_is
  k_whole
  intro xx xd h10 F10 N10 l10 l11
  (k_lt l10)
  (k_lt2 l11)
  k_dflt (walk_at "ENTERD")
  iterate 29 walk_at "S"
  rename_i kF kN _ _
  have NF := news_front (l1 := [_, _, _, _, _, _, _]) kN
  simp only [List.cons_append, List.nil_append] at NF
  have m9' : (cB9, oB9) ∈ rst := hrst ▸ List.mem_append_left _ m9
  refine' gt_use ?k1 ?k2 ?k3 NF ?k5 C ?hx ?hdx ?hpb ⟨⟨fd9, ?a1⟩, ⟨hv9, tk9, ?a2⟩, pm9, cB9, ctB9, oB9, vsB9, tB9, oce9, ?a3, ?a4, dc9, ?a5, dB9, gB9⟩ ?hne hs9 hg ?hlen ?kK ?kd ?ku ?_
  case k1 => k_asm
  case k2 => k_asm
  case k3 => k_asm
  case k5 => k_asm
  case hx => k_mem
  case hdx => k_mem
  case hpb => k_mem
  case a1 => k_mem
  case a2 => k_mem
  case a3 => k_mem
  case a4 => k_mem
  case a5 => k_mem
  case hne =>
    refine List.forall_mem_cons.mpr ⟨Nat.ne_of_gt (by omega), List.forall_mem_cons.mpr ⟨Nat.ne_of_gt (by omega), List.forall_mem_cons.mpr ⟨Nat.ne_of_gt (by omega), List.forall_mem_cons.mpr ⟨e1, List.forall_mem_cons.mpr ⟨e2, List.forall_mem_cons.mpr ⟨e3, List.forall_mem_cons.mpr ⟨e4, e5⟩⟩⟩⟩⟩⟩⟩
  case hlen => simpa using hx
  case kK => exact rfl
  case kd => ktr_room
  case ku => ktr_units
  intro t6 h6 tk6 F6 N6
  (try dsimp only)
  iterate 2 walk_at "S"
  rename_i kF kN _ _
  exact hret tl9 _ _ _ kF (cb_drop kN fun p hp => by rw [hrst] at hp; simp [hp]) TL9 D9
end
end Mine
end

section
open PySem PySem.W PyProof.Rows PySem.Calls PySem.Spec
set_option Elab.async false
set_option pp.deepTerms false
set_option pp.deepTerms.threshold 8
namespace Mine
local macro_rules | `(tactic| walk_at "PAD0") => `(tactic| fail)
local macro_rules | `(tactic| walk_at "PAD1") => `(tactic| fail)
local macro_rules | `(tactic| walk_at "PAD2") => `(tactic| fail)
local macro_rules | `(tactic| walk_at "PAD3") => `(tactic| fail)
local macro_rules | `(tactic| walk_at "PAD4") => `(tactic| fail)
local macro_rules | `(tactic| walk_at "PAD5") => `(tactic| fail)
local macro_rules | `(tactic| walk_at "PAD6") => `(tactic| fail)
local macro_rules | `(tactic| walk_at "PAD7") => `(tactic| fail)
local macro_rules | `(tactic| walk_at "PAD8") => `(tactic| fail)
local macro_rules | `(tactic| walk_at "PAD9") => `(tactic| fail)
local macro_rules | `(tactic| walk_at "PAD10") => `(tactic| fail)
local macro_rules | `(tactic| walk_at "PAD11") => `(tactic| fail)
local macro_rules | `(tactic| walk_at "PAD12") => `(tactic| fail)
local macro_rules | `(tactic| walk_at "PAD13") => `(tactic| fail)
local macro_rules | `(tactic| walk_at "PAD14") => `(tactic| fail)
local macro_rules | `(tactic| walk_at "PAD15") => `(tactic| fail)
local macro_rules | `(tactic| walk_at "PAD16") => `(tactic| fail)
local macro_rules | `(tactic| walk_at "PAD17") => `(tactic| fail)
local macro_rules | `(tactic| walk_at "PAD18") => `(tactic| fail)
local macro_rules | `(tactic| walk_at "PAD19") => `(tactic| fail)
local macro_rules | `(tactic| walk_at "PAD20") => `(tactic| fail)
local macro_rules | `(tactic| walk_at "PAD21") => `(tactic| fail)
local macro_rules | `(tactic| walk_at "PAD22") => `(tactic| fail)
local macro_rules | `(tactic| walk_at "PAD23") => `(tactic| fail)
local macro_rules | `(tactic| walk_at "PAD24") => `(tactic| fail)
local macro_rules | `(tactic| walk_at "PAD25") => `(tactic| fail)
local macro_rules | `(tactic| walk_at "PAD26") => `(tactic| fail)
local macro_rules | `(tactic| walk_at "PAD27") => `(tactic| fail)
local macro_rules | `(tactic| walk_at "PAD28") => `(tactic| fail)
local macro_rules | `(tactic| walk_at "PAD29") => `(tactic| fail)
local macro_rules | `(tactic| walk_at "PAD30") => `(tactic| fail)
local macro_rules | `(tactic| walk_at "PAD31") => `(tactic| fail)
local macro_rules | `(tactic| walk_at "PAD32") => `(tactic| fail)
def readL (rd : List Nat → List Nat) : Nat → List Nat → List Str
  | 0, _ => []
  | n + 1, x => ⟨(bareL (rd x)).toArray⟩ :: readL rd n (rd x)
abbrev Tabs (news led : List (Addr × Obj)) : Prop := ∃ tl, led = tl ++ news ∧ TabLed tl ∧ Dis tl news
theorem wordL_sub : ∀ (n : Nat) (l : List Nat), l.length ≤ n → ∀ c ∈ wordL l, c ∈ l
  | _, [], _, c, h => by simp [wordL] at h
  | 0, _ :: _, h, _, _ => by simp at h
  | n + 1, d :: r, h, c, hc => by
    have hr : r.length ≤ n := by simpa using h
    by_cases hd : d = 92
    · subst hd
      cases r with
      | nil => simp [wordL] at hc
      | cons e r' =>
        rw [wordL_bs] at hc
        simp only [headS, List.tail_cons] at hc
        rcases List.mem_append.mp hc with hc | hc
        · have : c = e := by simpa using hc
          rw [this]; simp
        · have := wordL_sub n r' (by simp at hr; omega) c hc
          simp [this]
    · rw [wordL_ne r hd] at hc
      rcases List.mem_cons.mp hc with hc | hc
      · rw [hc]; exact .head _
      · exact .tail _ (wordL_sub n r hr c hc)
theorem read4 {rd : List Nat → List Nat} {x y1 y2 y3 y4 : Str} {t1 t2 t3 t4 : Tok} (h1 : y1.cps.toList = rd x.cps.toList) (h2 : y2.cps.toList = rd y1.cps.toList) (h3 : y3.cps.toList = rd y2.cps.toList) (h4 : y4.cps.toList = rd y3.cps.toList) :
    TextsAre [.str ⟨(bareL y1.cps.toList).toArray⟩ t1, .str ⟨(bareL y2.cps.toList).toArray⟩ t2, .str ⟨(bareL y3.cps.toList).toArray⟩ t3, .str ⟨(bareL y4.cps.toList).toArray⟩ t4] (readL rd 4 x.cps.toList) := by
  rw [readL, ← h1, readL, ← h2, readL, ← h3, readL, ← h4, readL]
  exact .cons _ _ (.cons _ _ (.cons _ _ (.cons _ _ .nil)))
local macro_rules | `(tactic| walk_at "S") => `(tactic| first | (k_unfold; (try dsimp only)) | walk1 | (dsimp only; walk1))
local macro_rules | `(tactic| k_all) => `(tactic| assumption)
section
variable {w : World} {pT : Program} {lT : List Str} {mean : ExcName → Option Value} {mg mb : Str → Option Value} {dp un : Nat} {gd : Option (List Code)} {cn : Str} {cs : Scope} {a : Addr} {ccd : Value} {cl : List (Str × Addr)} {outer : List Env} {A₀ : Around} {base h₀ : Heap} {L : Addr} {m : Str → Option Value} {news : List (Addr × Obj)} {s : Shared} {Q E : Value → Shared → Prop}
theorem wordP {x : Str} {t : Tok} {a1 a2 : Addr} {o1 o2 : Obj} {led : List (Addr × Obj)} (B : Below A₀ base outer h₀) (F : Fr h₀ L s.heap m) (X : (K w.params).In h₀) (N : News h₀ L s.heap ((a1, o1) :: (a2, o2) :: led)) (T : Top pT lT mean mg mb h₀) (C : CodeHd base 124 120) (H : Tabs news led) (n1 : ∀ p ∈ led, p.1 ≠ a1) (n2 : ∀ p ∈ led, p.1 ≠ a2) (hk : cs.kind = .function)
    (hd : dp + 20 < recursionLimit) (hu : un + 300 < cLine) (hx : x.cps.size < 1000) (hg : ∀ c ∈ x.cps.toList, Good c)
    (hret : ∀ (led' : List (Addr × Obj)) (y : Str) (t : Tok) (h' : Heap) (tk' : Nat), Fr h₀ L h' m → News h₀ L h' ((a1, o1) :: (a2, o2) :: led') → Tabs news led' → (∀ p ∈ led', p.1 ≠ a1) → (∀ p ∈ led', p.1 ≠ a2) → y.cps.toList = wordL x.cps.toList → y.cps.size < 1000 → (∀ c ∈ y.cps.toList, Good c) → Q (.str y t) { s with heap := h', toks := tk' }) :
    wpAny (model PySem.Challenge.rw_tr0009_01.prog w) (ktrTop dp un gd cn cs L a ccd cl outer) (call (.ref 132) [.str x t]) Q E s := by
  obtain ⟨tl, rfl, TL, D⟩ := H
  refine word_use (news := (a1, o1) :: (a2, o2) :: news) B F X (cb_drop N fun p hp => ?_) T C TL ?_ hk hd hu hx hg fun tl' t h' tk' F' N' TL' D' => ?_
  · rcases List.mem_append.mp hp with hp | hp
    · exact .tail _ (.tail _ (List.mem_append_left _ hp))
    · rcases List.mem_cons.mp hp with rfl | hp
      · exact .head _
      · rcases List.mem_cons.mp hp with rfl | hp
        · exact .tail _ (.head _)
        · exact .tail _ (.tail _ (List.mem_append_right _ hp))
  · intro p hp q hq
    rcases List.mem_cons.mp hq with rfl | hq
    · exact n1 p (List.mem_append_left _ hp)
    · rcases List.mem_cons.mp hq with rfl | hq
      · exact n2 p (List.mem_append_left _ hp)
      · exact D p hp q hq
  · have hl : (wordL x.cps.toList).length ≤ x.cps.size := by
      have := wordL_len _ _ (Nat.le_refl x.cps.toList.length)
      rwa [Array.length_toList] at this
    refine hret (tl' ++ news) _ t h' tk' F' (cb_drop N' fun p hp => ?_) ⟨tl', rfl, TL', fun p hp q hq => D' p hp q (.tail _ (.tail _ hq))⟩ (fun p hp => ?_) (fun p hp => ?_) rfl (Nat.lt_of_le_of_lt (by simpa using hl) hx) (fun c hc => hg c (wordL_sub _ _ (Nat.le_refl _) c (by simpa using hc)))
    · rcases List.mem_cons.mp hp with rfl | hp
      · exact List.mem_append_right _ (.head _)
      · rcases List.mem_cons.mp hp with rfl | hp
        · exact List.mem_append_right _ (.tail _ (.head _))
        · rcases List.mem_append.mp hp with hp | hp
          · exact List.mem_append_left _ hp
          · exact List.mem_append_right _ (.tail _ (.tail _ hp))
    · rcases List.mem_append.mp hp with hp | hp
      · exact D' p hp (a1, o1) (.head _)
      · exact n1 p (List.mem_append_right _ hp)
    · rcases List.mem_append.mp hp with hp | hp
      · exact D' p hp (a2, o2) (.tail _ (.head _))
      · exact n2 p (List.mem_append_right _ hp)
local macro_rules | `(tactic| walk_at "call ref") => `(tactic| (k_here; first | (k_dflt (refine' bare_use ?k1 ?k2 ?k3 ?k4 ?k5 ?kK ?kd ?ku ?kx ?_; (case k1 => k_asm); (case k2 => k_asm); (case k3 => k_asm); (case k4 => k_asm); (case k5 => k_asm); (case kK => exact rfl); (case kd => ktr_room); (case ku => ktr_units); (case kx => assumption)); intro t9 h9 tk9 F9 N9; (try dsimp only); (try k_fold)) | (k_dflt (refine' wordP ?k1 ?k2 ?k3 ?k4 ?k5 ?kC ?kH ?kn1 ?kn2 ?kK ?kd ?ku ?kx ?kg ?_; (case k1 => k_asm); (case k2 => k_asm); (case k3 => k_asm); (case k4 => k_asm); (case k5 => k_asm); (case kC => kn_code); (case kH => assumption); (case kn1 => assumption); (case kn2 => assumption); (case kK => exact rfl); (case kd => ktr_room); (case ku => ktr_units); (case kx => assumption); (case kg => assumption)); intro led9 y9 t9 h9 tk9 F9 N9 H9 n19 n29 hy9 hs9 hg9; (try dsimp only); (try k_fold))))
local macro_rules | `(tactic| walk_at "UnrEnd") => `(tactic| (refine' UnrEnd.intro ?u1 ?u2 _ (fun _ h => h) ?u3 ?_; (case u2 => assumption); (case u1 => assumption); (case u3 => (refine List.forall_mem_cons.mpr ⟨?_, by assumption⟩; k_ne))))
set_option maxRecDepth 100000 in
set_option maxHeartbeats 8000000 in
theorem rdw_use {x : Str} {t : Tok} {led : List (Addr × Obj)} (B : Below A₀ base outer h₀) (F : Fr h₀ L s.heap m) (X : (K w.params).In h₀) (N : News h₀ L s.heap led) (T : Top pT lT mean mg mb h₀) (C : CodeHd base 124 120) (H : Tabs news led) (hk : cs.kind = .function)
    (hd : dp + 25 < recursionLimit) (hu : un + 400 < cLine) (hx : x.cps.size < 1000) (hg : ∀ c ∈ x.cps.toList, Good c)
    (hret : ∀ (led' : List (Addr × Obj)) (d : Addr) (vs : List Value) (n : Nat) (h' : Heap) (tk' : Nat), Fr h₀ L h' m → News h₀ L h' ((d, W.listOf vs.toArray n) :: led') → (∀ p ∈ led', p.1 ≠ d) → Tabs news led' → TextsAre vs (readL wordL 4 x.cps.toList) → Q (.ref d) { s with heap := h', toks := tk' }) :
    wpAny (model PySem.Challenge.rw_tr0009_01.prog w) (ktrTop dp un gd cn cs L a ccd cl outer) (call (.ref 146) [.str x t, .ref 132]) Q E s := by
  have hfill : PySem.Challenge.rw_tr0009_01.prog = PySem.Challenge.rw_tr0009_01.prog ∧ K = K := by k_fill; exact ⟨rfl, rfl⟩
  clear hfill
  refine wpAny_call ?_
  k_dflt cell_enter
  iterate 26 walk_at "S"
  rename_i l0 hA lA hB FB NB hC tkC ta ua va aA aB ii lB tt hD tkD FD ND
  have n2 : ∀ p ∈ led, p.1 ≠ l0 := fun p hp => Nat.ne_of_lt (lA p hp)
  have n1 : ∀ p ∈ led, p.1 ≠ ii := fun p hp => Nat.ne_of_lt (allLt_all lB.2 p hp)
  repeat walk_at "S"
  rename_i kF kN _ _
  refine hret _ l0 [_, _, _, _] _ _ _ kF kN (by assumption) (by assumption) ?_
  exact read4 (by assumption) (by assumption) (by assumption) (by assumption)
end
end Mine
end

section
open PySem PySem.W PyProof.Rows PySem.Calls PySem.Spec
set_option Elab.async false
set_option pp.deepTerms false
set_option pp.deepTerms.threshold 8
namespace Mine
local macro_rules | `(tactic| walk_at "PAD0") => `(tactic| fail)
local macro_rules | `(tactic| walk_at "PAD1") => `(tactic| fail)
local macro_rules | `(tactic| walk_at "PAD2") => `(tactic| fail)
local macro_rules | `(tactic| walk_at "PAD3") => `(tactic| fail)
local macro_rules | `(tactic| walk_at "PAD4") => `(tactic| fail)
local macro_rules | `(tactic| walk_at "PAD5") => `(tactic| fail)
local macro_rules | `(tactic| walk_at "PAD6") => `(tactic| fail)
local macro_rules | `(tactic| walk_at "PAD7") => `(tactic| fail)
local macro_rules | `(tactic| walk_at "PAD8") => `(tactic| fail)
local macro_rules | `(tactic| walk_at "PAD9") => `(tactic| fail)
local macro_rules | `(tactic| walk_at "PAD10") => `(tactic| fail)
local macro_rules | `(tactic| walk_at "PAD11") => `(tactic| fail)
local macro_rules | `(tactic| walk_at "PAD12") => `(tactic| fail)
local macro_rules | `(tactic| walk_at "PAD13") => `(tactic| fail)
local macro_rules | `(tactic| walk_at "PAD14") => `(tactic| fail)
local macro_rules | `(tactic| walk_at "PAD15") => `(tactic| fail)
local macro_rules | `(tactic| walk_at "PAD16") => `(tactic| fail)
local macro_rules | `(tactic| walk_at "PAD17") => `(tactic| fail)
local macro_rules | `(tactic| walk_at "PAD18") => `(tactic| fail)
local macro_rules | `(tactic| walk_at "PAD19") => `(tactic| fail)
local macro_rules | `(tactic| walk_at "PAD20") => `(tactic| fail)
local macro_rules | `(tactic| walk_at "PAD21") => `(tactic| fail)
local macro_rules | `(tactic| walk_at "PAD22") => `(tactic| fail)
local macro_rules | `(tactic| walk_at "PAD23") => `(tactic| fail)
local macro_rules | `(tactic| walk_at "PAD24") => `(tactic| fail)
local macro_rules | `(tactic| walk_at "PAD25") => `(tactic| fail)
local macro_rules | `(tactic| walk_at "PAD26") => `(tactic| fail)
local macro_rules | `(tactic| walk_at "PAD27") => `(tactic| fail)
local macro_rules | `(tactic| walk_at "PAD28") => `(tactic| fail)
local macro_rules | `(tactic| walk_at "PAD29") => `(tactic| fail)
local macro_rules | `(tactic| walk_at "PAD30") => `(tactic| fail)
local macro_rules | `(tactic| walk_at "PAD31") => `(tactic| fail)
local macro_rules | `(tactic| walk_at "PAD32") => `(tactic| fail)
local macro_rules | `(tactic| walk_at "PAD33") => `(tactic| fail)
local macro_rules | `(tactic| walk_at "PAD34") => `(tactic| fail)
local macro_rules | `(tactic| walk_at "PAD35") => `(tactic| fail)
local macro_rules | `(tactic| walk_at "PAD36") => `(tactic| fail)
theorem nameL_len : ∀ (n : Nat) (l : List Nat), l.length ≤ n → (nameL l).length ≤ l.length
  | _, [], _ => by simp [nameL]
  | 0, _ :: _, h => by simp at h
  | n + 1, c :: r, h => by
    have hr : r.length ≤ n := by simpa using h
    by_cases hc : c = 34
    · subst hc
      cases r with
      | nil => simp [nameL]
      | cons d r' =>
        by_cases hd : d = 34
        · subst hd
          have := nameL_len n r' (by simp at hr; omega)
          rw [nameL_quote_two]
          simp
          omega
        · rw [nameL_quote_other hd]; simp
    · have := nameL_len n r hr
      rw [nameL_other hc]
      simp
      omega
local macro_rules | `(tactic| walk_at "S") => `(tactic| first | (k_unfold; (try dsimp only)) | walk1 | (dsimp only; walk1))
local macro_rules | `(tactic| k_all) => `(tactic| assumption)
section
variable {w : World} {pT : Program} {lT : List Str} {mean : ExcName → Option Value} {mg mb : Str → Option Value} {dp un : Nat} {gd : Option (List Code)} {cn : Str} {cs : Scope} {a : Addr} {ccd : Value} {cl : List (Str × Addr)} {outer : List Env} {A₀ : Around} {base h₀ : Heap} {L : Addr} {m : Str → Option Value} {led : List (Addr × Obj)} {s : Shared} {Q E : Value → Shared → Prop}
theorem nameP {x : Str} {t : Tok} (B : Below A₀ base outer h₀) (F : Fr h₀ L s.heap m) (X : (K w.params).In h₀) (N : News h₀ L s.heap led) (T : Top pT lT mean mg mb h₀) (hk : cs.kind = .function)
    (hd : dp + 8 < recursionLimit) (hu : un + 100 < cLine) (hx : x.cps.size < 1000)
    (hret : ∀ (y : Str) (t : Tok) (h' : Heap) (tk' : Nat), Fr h₀ L h' m → News h₀ L h' led → y.cps.toList = nameL x.cps.toList → y.cps.size < 1000 → Q (.str y t) { s with heap := h', toks := tk' }) :
    wpAny (model PySem.Challenge.rw_tr0009_01.prog w) (ktrTop dp un gd cn cs L a ccd cl outer) (call (.ref 139) [.str x t]) Q E s := by
  refine name_use B F X N T hk hd hu hx fun t' h' tk' F' N' => hret _ _ _ _ F' N' rfl ?_
  have := nameL_len _ _ (Nat.le_refl x.cps.toList.length)
  rw [Array.length_toList] at this
  exact Nat.lt_of_le_of_lt (by simpa using this) hx
local macro_rules | `(tactic| walk_at "call ref") => `(tactic| (k_here; first | (k_dflt (refine' bare_use ?k1 ?k2 ?k3 ?k4 ?k5 ?kK ?kd ?ku ?kx ?_; (case k1 => k_asm); (case k2 => k_asm); (case k3 => k_asm); (case k4 => k_asm); (case k5 => k_asm); (case kK => exact rfl); (case kd => ktr_room); (case ku => ktr_units); (case kx => assumption)); intro t9 h9 tk9 F9 N9; (try dsimp only); (try k_fold)) | (k_dflt (refine' nameP ?k1 ?k2 ?k3 ?k4 ?k5 ?kK ?kd ?ku ?kx ?_; (case k1 => k_asm); (case k2 => k_asm); (case k3 => k_asm); (case k4 => k_asm); (case k5 => k_asm); (case kK => exact rfl); (case kd => ktr_room); (case ku => ktr_units); (case kx => assumption)); intro y9 t9 h9 tk9 F9 N9 hy9 hs9; (try dsimp only); (try k_fold))))
local macro_rules | `(tactic| walk_at "UnrEnd") => `(tactic| (refine' UnrEnd.intro ?u1 ?u2 _ (fun _ h => h) ?u3 ?_; (case u2 => assumption); (case u1 => assumption); (case u3 => (refine List.forall_mem_cons.mpr ⟨?_, by assumption⟩; k_ne))))
set_option maxRecDepth 100000 in
set_option maxHeartbeats 8000000 in
theorem rdn_use {x : Str} {t : Tok} (B : Below A₀ base outer h₀) (F : Fr h₀ L s.heap m) (X : (K w.params).In h₀) (N : News h₀ L s.heap led) (T : Top pT lT mean mg mb h₀) (hk : cs.kind = .function)
    (hd : dp + 25 < recursionLimit) (hu : un + 400 < cLine) (hx : x.cps.size < 1000)
    (hret : ∀ (d : Addr) (vs : List Value) (n : Nat) (h' : Heap) (tk' : Nat), Fr h₀ L h' m → News h₀ L h' ((d, W.listOf vs.toArray n) :: led) → (∀ p ∈ led, p.1 ≠ d) → TextsAre vs (readL nameL 4 x.cps.toList) → Q (.ref d) { s with heap := h', toks := tk' }) :
    wpAny (model PySem.Challenge.rw_tr0009_01.prog w) (ktrTop dp un gd cn cs L a ccd cl outer) (call (.ref 146) [.str x t, .ref 139]) Q E s := by
  have hfill : PySem.Challenge.rw_tr0009_01.prog = PySem.Challenge.rw_tr0009_01.prog ∧ K = K := by k_fill; exact ⟨rfl, rfl⟩
  clear hfill
  refine wpAny_call ?_
  k_dflt cell_enter
  iterate 26 walk_at "S"
  rename_i l0 hA lA hB FB NB hC tkC ta ua va aA aB ii lB tt hD tkD FD ND
  have n2 : ∀ p ∈ led, p.1 ≠ l0 := fun p hp => Nat.ne_of_lt (lA p hp)
  have n1 : ∀ p ∈ led, p.1 ≠ ii := fun p hp => Nat.ne_of_lt (allLt_all lB.2 p hp)
  repeat walk_at "S"
  rename_i kF kN _ _
  refine hret l0 [_, _, _, _] _ _ _ kF kN (by assumption) ?_
  exact read4 (by assumption) (by assumption) (by assumption) (by assumption)
end
end Mine
end

section
open PySem PySem.W PyProof.Rows PySem.Calls PySem.Spec
set_option Elab.async false
namespace Mine
section
variable {prog : Program} {w : World} {A : Around} {E : Value → Shared → Prop} {s : Shared} {env : Env} {h₀ : Heap} {x : Str} {body : List Stmt} {Q : Flow → Shared → Prop}
theorem rangeRest_inv {I : Addr} {a : Int} {n : Nat} {m₀ : Str → Option Value} {news₀ : List (Addr × Obj)} (Inv : Nat → (Str → Option Value) → List (Addr × Obj) → Prop) (h0 : Inv 0 m₀ news₀)
    (step : ∀ i, i < n → ∀ m news, Inv i m news → ∀ t h tk, Fr h₀ env.locals h (fun y => if y = x then some (.int (a + (i : Int)) t) else m y) →
      News h₀ env.locals h ((I, itR (a + ((i + 1 : Nat) : Int)) ((n : Int) - ((i + 1 : Nat) : Int))) :: news) →
      wpAny (model prog w) A (execs body env) (UnrPost h₀ env.locals { s with heap := h, toks := tk } I (itR (a + ((i + 1 : Nat) : Int)) ((n : Int) - ((i + 1 : Nat) : Int))) (Inv (i + 1)) Q) E { s with heap := h, toks := tk })
    (last : ∀ m news, Inv n m news → ∀ h tk, Fr h₀ env.locals h m → News h₀ env.locals h news → Q .next { s with heap := h, toks := tk }) :
    RangeRest prog w A E h₀ env x body Q s I a n n 0 m₀ news₀ := by
  have key : ∀ (k i : Nat), i + k = n → ∀ m news, Inv i m news → RangeRest prog w A E h₀ env x body Q s I a n k i m news := by
    intro k
    induction k with
    | zero =>
      intro i e m news hI
      have e' : i = n := e
      subst e'
      exact RangeRest.zero (last m news hI)
    | succ k ih =>
      intro i e m news hI
      refine RangeRest.succ fun t h tk F N => wpAny_mono (step i (by omega) m news hI t h tk F N) (fun f s₂ p => ?_) fun _ _ e => e
      have up : UnrEnd h₀ env.locals { s with heap := h, toks := tk } I (itR (a + ((i + 1 : Nat) : Int)) ((n : Int) - ((i + 1 : Nat) : Int))) (Inv (i + 1)) s₂ →
          UnrEnd h₀ env.locals { s with heap := h, toks := tk } I (itR (a + ((i + 1 : Nat) : Int)) ((n : Int) - ((i + 1 : Nat) : Int))) (RangeRest prog w A E h₀ env x body Q s I a n k (i + 1)) s₂ := by
        rintro ⟨h', tk', m', news', e1, F', N', o, r⟩
        exact ⟨h', tk', m', news', e1, F', N', o, ih (i + 1) (by omega) m' news' r⟩
      cases f with
      | ret v => exact p
      | brk => exact p
      | next => exact up p
      | cont => exact up p
  exact key n 0 (by omega) m₀ news₀ h0
end
def ones4 (n : Nat) : Nat := n % 2 + n / 2 % 2 + n / 4 % 2 + n / 8 % 2
def lineC (q mm i c : Nat) : List Nat := List.replicate i q ++ c :: List.replicate (mm - i) q
/-- subset sums of the powers of two of a number, as the law makes them -/
def sumsL (mm : Nat) : List Int := [1, 2, 4, 8].foldl (fun l p => if mm &&& p ≠ 0 then l ++ l.map (fun one : Int => (p : Int) + one) else l) [0]
/-- the sums of the leading powers -/
def headsL (mm : Nat) : List Int := [8, 4, 2, 1].foldl (fun l p => if mm &&& p ≠ 0 then l ++ [l.getLast?.getD 0 + (p : Int)] else l) [0]
def freeL (mm n : Nat) : List Int := ((List.range n).map Int.ofNat).filter fun p => (sumsL mm).contains p
def strtL (mm n : Nat) : List Int := ((List.range n).map Int.ofNat).filter fun p => (headsL mm).contains p
theorem freeL_all : ∀ mm, mm < 10 → freeL mm (mm + 1) = sumsL mm := by decide +kernel
theorem strtL_all : ∀ mm, mm < 10 → strtL mm (mm + 1) = headsL mm := by decide +kernel
theorem freeL_succ (mm i : Nat) : freeL mm (i + 1) = freeL mm i ++ (if (sumsL mm).contains (i : Int) then [(i : Int)] else []) := by
  unfold freeL
  rw [List.range_succ, List.map_append, List.filter_append]
  simp [List.filter_cons]
theorem strtL_succ (mm i : Nat) : strtL mm (i + 1) = strtL mm i ++ (if (headsL mm).contains (i : Int) then [(i : Int)] else []) := by
  unfold strtL
  rw [List.range_succ, List.map_append, List.filter_append]
  simp [List.filter_cons]
/-- readings as lists of lists -/
def readLL (rd : List Nat → List Nat) : Nat → List Nat → List (List Nat)
  | 0, _ => []
  | n + 1, x => bareL (rd x) :: readLL rd n (rd x)
theorem readL_eq (rd : List Nat → List Nat) : ∀ (n : Nat) (x : List Nat), readL rd n x = (readLL rd n x).map fun l => (⟨l.toArray⟩ : Str)
  | 0, _ => rfl
  | n + 1, x => by rw [readL, readLL, readL_eq rd n (rd x)]; rfl
theorem strs_beq (xs ys : List (List Nat)) : ((xs.map fun l => (⟨l.toArray⟩ : Str)) == ys.map fun l => (⟨l.toArray⟩ : Str)) = (xs == ys) := by
  rw [Bool.eq_iff_iff]
  simp only [beq_iff_eq]
  constructor
  · intro h
    have inj : Function.Injective fun l : List Nat => (⟨l.toArray⟩ : Str) := by
      intro a b e
      have := congrArg (fun s : Str => s.cps.toList) e
      simpa using this
    exact (List.map_inj_right inj).mp h
  · rintro rfl; rfl
def okAt (mm i c : Nat) : Bool :=
  bareL (lineC 92 mm i c) == List.replicate mm 92 &&
  (readLL wordL 4 (lineC 92 mm i c)).flatten == List.replicate (mm - ones4 i - ones4 (mm - i)) 92 &&
  decide (ones4 i + ones4 (mm - i) ≤ mm) &&
  ((readLL wordL 4 (lineC 92 mm i c) == readLL wordL 4 (List.replicate mm 92)) == (sumsL mm).contains (i : Int)) &&
  ((readLL nameL 4 (lineC 34 mm i c) == readLL nameL 4 (List.replicate mm 34)) == (headsL mm).contains (i : Int))
def okMany (mm : Nat) : Bool := (List.range (mm + 1)).all fun i => b1List.all fun c => okAt mm i c
theorem ok0 : okMany 0 = true := by decide +kernel
theorem ok1 : okMany 1 = true := by decide +kernel
theorem ok2 : okMany 2 = true := by decide +kernel
theorem ok3 : okMany 3 = true := by decide +kernel
theorem ok4 : okMany 4 = true := by decide +kernel
theorem ok5 : okMany 5 = true := by decide +kernel
theorem ok6 : okMany 6 = true := by decide +kernel
theorem ok7 : okMany 7 = true := by decide +kernel
theorem ok8 : okMany 8 = true := by decide +kernel
theorem ok9 : okMany 9 = true := by decide +kernel
theorem okMany_all : ∀ mm, mm < 10 → okMany mm = true
  | 0, _ => ok0
  | 1, _ => ok1
  | 2, _ => ok2
  | 3, _ => ok3
  | 4, _ => ok4
  | 5, _ => ok5
  | 6, _ => ok6
  | 7, _ => ok7
  | 8, _ => ok8
  | 9, _ => ok9
  | n + 10, h => absurd h (by omega)
theorem ok_at {mm i c : Nat} (hm : mm < 10) (hi : i ≤ mm) (hc : c ∈ b1List) : bareL (lineC 92 mm i c) = List.replicate mm 92 ∧
    (readLL wordL 4 (lineC 92 mm i c)).flatten = List.replicate (mm - ones4 i - ones4 (mm - i)) 92 ∧ ones4 i + ones4 (mm - i) ≤ mm ∧
    (readLL wordL 4 (lineC 92 mm i c) == readLL wordL 4 (List.replicate mm 92)) = (sumsL mm).contains (i : Int) ∧
    (readLL nameL 4 (lineC 34 mm i c) == readLL nameL 4 (List.replicate mm 34)) = (headsL mm).contains (i : Int) := by
  have h := okMany_all mm hm
  unfold okMany at h
  have h1 := List.all_eq_true.mp h i (List.mem_range.mpr (by omega))
  have h2 := List.all_eq_true.mp h1 c hc
  unfold okAt at h2
  simp only [Bool.and_eq_true, decide_eq_true_eq] at h2
  obtain ⟨⟨⟨⟨a, b⟩, c⟩, d⟩, e⟩ := h2
  exact ⟨eq_of_beq a, eq_of_beq b, c, eq_of_beq d, eq_of_beq e⟩
theorem halves_s : ∀ mm, mm < 10 → readLL wordL 4 (List.replicate mm 92) = [mm / 2, mm / 4, mm / 8, mm / 16].map fun h => List.replicate h 92 := by decide +kernel
theorem halves_m : ∀ mm, mm < 10 → readLL nameL 4 (List.replicate mm 34) = [mm / 2, mm / 4, mm / 8, mm / 16].map fun h => List.replicate h 34 := by decide +kernel
theorem TextsAre.strs {vs : List Value} {xs : List Str} (h : TextsAre vs xs) : StrsAre vs xs := by
  induction h with
  | nil => exact .nil
  | cons c t _ ih => exact .cons _ t ih
theorem fold_mk : ∀ (l : List (List Nat)) (acc : Array Nat), (l.map fun x => (⟨x.toArray⟩ : Str)).foldl (fun acc p => acc ++ (Str.ofString "").cps ++ p.cps) acc = acc ++ l.flatten.toArray
  | [], acc => by simp
  | x :: r, acc => by
    have e : (Str.ofString "").cps = #[] := rfl
    rw [List.map_cons, List.foldl_cons, fold_mk r, e, List.flatten_cons]
    simp
theorem join_nil (l : List (List Nat)) : Txt.join (Str.ofString "") (l.map fun x => (⟨x.toArray⟩ : Str)) = ⟨l.flatten.toArray⟩ := by
  show Builtin.Str.glued _ _ = _
  unfold Builtin.Str.glued
  cases l with
  | nil => rfl
  | cons a r =>
    show Str.mk (((r.map fun x => (⟨x.toArray⟩ : Str))).foldl (fun acc p => acc ++ (Str.ofString "").cps ++ p.cps) a.toArray) = _
    rw [fold_mk]
    simp
theorem wt_mk (l : List (List Nat)) : ((l.map fun x => (⟨x.toArray⟩ : Str)).map (·.length)).sum = l.flatten.length := by
  induction l with
  | nil => rfl
  | cons a r ih =>
    rw [List.map_cons, List.map_cons, List.sum_cons, ih, List.flatten_cons, List.length_append]
    rfl
theorem readLL_len (rd : List Nat → List Nat) : ∀ (n : Nat) (x : List Nat), (readLL rd n x).length = n
  | 0, _ => rfl
  | n + 1, x => by rw [readLL, List.length_cons, readLL_len rd n]
theorem onesI_nat (n : Nat) : onesI (n : Int) = (ones4 n : Int) := by unfold onesI ones4; push_cast; rfl
section
variable {prog : Program} {w : World} {A : Around} {E : Value → Shared → Prop} {s : Shared} {t : Tok} {Q : Value → Shared → Prop}
theorem join_readings {D : Addr} {vs : List Value} {rd : List Nat → List Nat} {x : List Nat} {k : Nat} (hl : s.heap.IsList D vs.toArray) (hi : TextsAre vs (readL rd 4 x)) (hf : (readLL rd 4 x).flatten = List.replicate k 92) (hk : k < 1000)
    (h : ∀ t' tk, Q (.str ⟨(List.replicate k 92).toArray⟩ t') { s with toks := tk }) : wpAny (model prog w) A (call (.builtin "str.join") [.str (Str.ofString "") t, .ref D]) Q E s := by
  rw [readL_eq] at hi
  refine join_listW hl hi.strs (by decide) ?_ ?_
  · rw [wt_mk, hf, List.length_map, readLL_len, List.length_replicate]; omega
  · rw [join_nil, hf]; exact h
theorem eq_readings {a b : Addr} {vs us : List Value} {rd : List Nat → List Nat} {x y : List Nat} (ha : s.heap.IsList a vs.toArray) (hb : s.heap.IsList b us.toArray) (hi : TextsAre vs (readL rd 4 x)) (hj : TextsAre us (readL rd 4 y)) (ox : OkAll (readL rd 4 x)) (oy : OkAll (readL rd 4 y)) (hu : A.units + 64 < cLine)
    (h : Q (.bool (readLL rd 4 x == readLL rd 4 y)) s) : wpAny (model prog w) A (compareOp .Eq (.ref a) (.ref b)) Q E s := by
  refine eq_texts ha hb hi hj ox oy hu ?_
  rw [readL_eq, readL_eq, strs_beq]
  exact h
end
theorem nameL_sub : ∀ (n : Nat) (l : List Nat), l.length ≤ n → ∀ c ∈ nameL l, c ∈ l
  | _, [], _, c, h => by simp [nameL] at h
  | 0, _ :: _, h, _, _ => by simp at h
  | n + 1, d :: r, h, c, hc => by
    have hr : r.length ≤ n := by simpa using h
    by_cases hd : d = 34
    · subst hd
      cases r with
      | nil => simp [nameL] at hc
      | cons e r' =>
        by_cases he : e = 34
        · subst he
          rw [nameL_quote_two] at hc
          rcases List.mem_cons.mp hc with hc | hc
          · rw [hc]; exact .head _
          · exact .tail _ (.tail _ (nameL_sub n r' (by simp at hr; omega) c hc))
        · rw [nameL_quote_other he] at hc; simp at hc
    · rw [nameL_other hd] at hc
      rcases List.mem_cons.mp hc with hc | hc
      · rw [hc]; exact .head _
      · exact .tail _ (nameL_sub n r hr c hc)
theorem okAll_read {rd : List Nat → List Nat} (sub : ∀ x, ∀ c ∈ rd x, c ∈ x) : ∀ (n : Nat) (x : List Nat), (∀ c ∈ x, c < 0x110000) → OkAll (readL rd n x)
  | 0, _, _ => fun _ h => nomatch h
  | n + 1, x, h => by
    have h1 : ∀ c ∈ rd x, c < 0x110000 := fun c hc => h c (sub x c hc)
    intro y hy
    rw [readL] at hy
    rcases List.mem_cons.mp hy with rfl | hy
    · have : ∀ c ∈ bareL (rd x), c < 0x110000 := fun c hc => h1 c (List.mem_filter.mp hc).1
      unfold PyData.strOk
      simpa [Array.all_eq_true', List.all_eq_true] using this
    · exact okAll_read sub n (rd x) h1 y hy
theorem okAll_w (x : List Nat) (h : ∀ c ∈ x, c < 0x110000) : OkAll (readL wordL 4 x) := okAll_read (fun x => wordL_sub _ x (Nat.le_refl _)) 4 x h
theorem okAll_n (x : List Nat) (h : ∀ c ∈ x, c < 0x110000) : OkAll (readL nameL 4 x) := okAll_read (fun x => nameL_sub _ x (Nat.le_refl _)) 4 x h
theorem line_small {q mm i c : Nat} (hq : q < 0x110000) (hc : c ∈ b1List) : ∀ d ∈ lineC q mm i c, d < 0x110000 := by
  intro d hd
  unfold lineC at hd
  rcases List.mem_append.mp hd with hd | hd
  · rw [(List.mem_replicate.mp hd).2]; exact hq
  · rcases List.mem_cons.mp hd with rfl | hd
    · exact (by decide +kernel : ∀ c ∈ b1List, c < 0x110000) d hc
    · rw [(List.mem_replicate.mp hd).2]; exact hq
theorem rep_small {q n : Nat} (hq : q < 0x110000) : ∀ d ∈ List.replicate n q, d < 0x110000 := fun d hd => (List.mem_replicate.mp hd).2 ▸ hq
section
variable {prog : Program} {w : World} {A : Around} {E : Value → Shared → Prop} {s : Shared} {h₀ : Heap} {L : Addr} {m : Str → Option Value} {news news' : List (Addr × Obj)} {Q : Value → Shared → Prop}
theorem append_ints {D : Addr} {vF : List Value} {nF : Nat} {zs : List Int} {x : Int} {t : Tok} (F : Fr h₀ L s.heap m) (N : News h₀ L s.heap news) (hI : IntsAre vF zs) (hz : zs.length ≤ 1000) (U : Upd D (W.listOf vF.toArray nF) (W.listOf (vF ++ [Value.int x t]).toArray (nF + 1)) news news')
    (h : ∀ h', Fr h₀ L h' m → News h₀ L h' news' → Q .none { s with heap := h' }) : wpAny (model prog w) A (call (.builtin "list.append") [.ref D, .int x t]) Q E s := by
  have ep : (vF ++ [Value.int x t]).toArray = vF.toArray.push (.int x t) := by simp
  rw [ep] at U
  refine append_K F N U h ?_
  rw [List.size_toArray, hI.length, sizeLine_eq]; omega
end
theorem freeL_len (mm i : Nat) : (freeL mm i).length ≤ i := by
  unfold freeL
  refine Nat.le_trans (List.length_filter_le _ _) ?_
  rw [List.length_map, List.length_range]; omega
theorem strtL_len (mm i : Nat) : (strtL mm i).length ≤ i := by
  unfold strtL
  refine Nat.le_trans (List.length_filter_le _ _) ?_
  rw [List.length_map, List.length_range]; omega
def swapL (c d : Nat) (l : List Nat) : List Nat := l.map fun k => if k = c then d else k
theorem swap_free (c d : Nat) (l : List Nat) (h : c ∉ l) : swapL c d l = l := by
  unfold swapL
  conv => rhs; rw [← List.map_id l]
  refine List.map_congr_left fun k hk => ?_
  show (if k = c then d else k) = k
  exact if_neg fun (e : k = c) => h (e ▸ hk)
theorem swap_join (c d : Nat) : ∀ parts : List Str, (∀ p ∈ parts, c ∉ p.cps.toList) → swapL c d (Str.join ⟨#[c]⟩ parts).cps.toList = (Str.join ⟨#[d]⟩ parts).cps.toList
  | [], _ => rfl
  | [p], h => swap_free c d _ (h p (List.mem_singleton.mpr rfl))
  | p :: q :: r, h => by
    have ih := swap_join c d (q :: r) fun a ha => h a (List.mem_cons_of_mem _ ha)
    have e1 : swapL c d p.cps.toList = p.cps.toList := swap_free c d _ (h p (List.mem_cons_self ..))
    show swapL c d (p ++ ⟨#[c]⟩ ++ Str.join ⟨#[c]⟩ (q :: r)).cps.toList = (p ++ ⟨#[d]⟩ ++ Str.join ⟨#[d]⟩ (q :: r)).cps.toList
    unfold swapL at ih e1 ⊢
    simp only [Str.cps_append, Array.toList_append, List.map_append]
    rw [ih, e1]
    simp
theorem replace_swap (x : Str) (c d : Nat) : (Txt.replace x ⟨#[c]⟩ ⟨#[d]⟩).cps.toList = swapL c d x.cps.toList := by
  rw [StrLaws.replace_one, ← swap_join c d _ (StrLaws.split_free x c), StrLaws.join_split]
theorem line_swap {mm i c : Nat} (hc : c ∈ b1List) : swapL 92 34 (lineC 92 mm i c) = lineC 34 mm i c := by
  have hne : c ≠ 92 := (by decide +kernel : ∀ c ∈ b1List, c ≠ 92) c hc
  unfold swapL lineC
  simp [hne]
theorem bs_dq_ne : (("\\" : Str) == ("\"" : Str)) = false := by decide +kernel
theorem replaced {x : Str} {mm i c : Nat} (h : x.cps.toList = lineC 92 mm i c) (hc : c ∈ b1List) : (Txt.replace x "\\" "\"").cps.toList = lineC 34 mm i c := by
  have e1 : ("\\" : Str) = ⟨#[92]⟩ := bs_is
  have e2 : ("\"" : Str) = ⟨#[34]⟩ := by decide +kernel
  rw [e1, e2, replace_swap, h, line_swap hc]
theorem line_size' {q mm i c : Nat} {x : Str} (h : x.cps.toList = lineC q mm i c) (hm : mm < 10) (hi : i ≤ mm) : x.cps.size < 1000 := by
  rw [← Array.length_toList, h]
  simp [lineC]
  omega
theorem mono2T {M : Model} {A : Around} {α : Type} {m : Sem α} {Q Q' : α → Shared → Prop} {E : Value → Shared → Prop} {s : Shared} (n : Nat) (hn : n ≤ s.toks) (h : wpAny M A m Q E s) (k : ∀ a s', n ≤ s'.toks → Q a s' → Q' a s') : wpAny M A m Q' E s :=
  wpAny_with_toks hn (wpAny_mono h (fun a s' q t => k a s' t q) fun _ _ e _ => e)
section
variable {prog : Program} {w : World} {A : Around} {E : Value → Shared → Prop} {s : Shared} {env : Env} {h₀ : Heap} {target : Expr} {body : List Stmt} {Q : Flow → Shared → Prop}
theorem unrPostW_mono {L : Addr} {s₁ : Shared} {its : List (Addr × Obj)} {r r' : (Str → Option Value) → List (Addr × Obj) → Prop} {f : Flow} {s₂ : Shared} (k : ∀ m n, r m n → r' m n) (p : UnrPostW h₀ L s₁ its r Q f s₂) : UnrPostW h₀ L s₁ its r' Q f s₂ := by
  have up : UnrEndW h₀ L s₁ its r s₂ → UnrEndW h₀ L s₁ its r' s₂ := by
    rintro ⟨h', tk, m', news', e1, F', N', o, x⟩
    exact ⟨h', tk, m', news', e1, F', N', o, k _ _ x⟩
  cases f with
  | ret v => exact p
  | brk => exact p
  | next => exact up p
  | cont => exact up p
theorem itemsRest_inv {I : Addr} {cls : String} {keep : List (Addr × Obj)} (Inv : List Value → (Str → Option Value) → List (Addr × Obj) → Prop)
    (step : ∀ v r m news, Inv (v :: r) m news → ∀ h tk (o : Obj), o.cls = .type cls → Fr h₀ env.locals h m → News h₀ env.locals h ((I, o) :: news) →
      wpAny (model prog w) A (assign target env v) (fun _ s₂ => wpAny (model prog w) A (execs body env) (UnrPostW h₀ env.locals { s with heap := h, toks := tk } [(I, o)] (fun m' n' => SubL keep n' ∧ Inv r m' n') Q) E s₂) E { s with heap := h, toks := tk })
    (last : ∀ m news, Inv [] m news → ∀ h tk, Fr h₀ env.locals h m → News h₀ env.locals h news → Q .next { s with heap := h, toks := tk }) :
    ∀ (vs : List Value) (m : Str → Option Value) (news : List (Addr × Obj)), Inv vs m news → ItemsRest prog w A E h₀ env target body Q s [(I, cls)] keep (vs.map .val) m news
  | [], m, news, h => ItemsRest.zero (last m news h)
  | v :: r, m, news, hI => by
    refine ItemsRest.val fun h tk F => ?_
    intro o ho N
    refine wpAny_mono (step v r m news hI h tk o ho F N) (fun _ s₂ p => wpAny_mono p (fun f s₃ q => unrPostW_mono (fun m' n' x => ⟨x.1, itemsRest_inv Inv step last r m' n' x.2⟩) q) fun _ _ e => e) fun _ _ e => e
end
def stepS (mm : Nat) (l : List Int) (p : Nat) : List Int := if mm &&& p ≠ 0 then l ++ l.map (fun one : Int => (p : Int) + one) else l
theorem stepS_len (mm p : Nat) (l : List Int) : (stepS mm l p).length ≤ 2 * l.length := by
  unfold stepS
  split
  · rw [List.length_append, List.length_map]; omega
  · omega
def stepH (mm : Nat) (l : List Int) (p : Nat) : List Int := if mm &&& p ≠ 0 then l ++ [l.getLast?.getD 0 + (p : Int)] else l
theorem TabLed.has {tl : List (Addr × Obj)} (h : TabLed tl) : ∃ arr, (120, tabObj arr) ∈ tl := by
  cases h with
  | fresh => exact ⟨_, .head _⟩
  | full _ _ _ _ => exact ⟨_, .tail _ (.tail _ (.head _))⟩
theorem bitAnd_nat (a b : Nat) : Builtin.bitAnd (a : Int) (b : Int) = ((a &&& b : Nat) : Int) := rfl
end Mine
end

section
open PySem PySem.W PyProof.Rows PySem.Calls PySem.Spec
open PyProof.Rows.LCg
set_option Elab.async false
set_option maxHeartbeats 2000000
namespace Mine
section
variable {prog : Program} {w : World} {A : Around} {E : Value → Shared → Prop} {s : Shared} {h₀ : Heap} {L : Addr} {m : Str → Option Value} {env : Env}
/-- the tuple stands in the ledger -/
def TupIn (ax : Addr) (its : Array Value) (news : List (Addr × Obj)) : Prop := ∃ o, (ax, o) ∈ news ∧ o.cls = .type "tuple" ∧ ∃ n, o.data = .seq its n
theorem TupIn.at {h : Heap} {ax : Addr} {its : Array Value} {news : List (Addr × Obj)} (x : TupIn ax its news) (N : News h₀ L h news) : h.IsTuple ax its := by
  obtain ⟨o, hm, r⟩ := x
  exact ⟨o, (N _ hm).1, r⟩
theorem tup_st {ax I : Addr} {its : Array Value} : ∀ i (h h' : Heap) (o : Obj) (nw : List (Addr × Obj)), (h.IsTupleIter I ax i ∧ h.IsTuple ax its) → h.get? I = some o → h'.get? I = some o → (∀ b o, h₀.get? b = some o → h'.get? b = some o) → News h₀ L h' nw → TupIn ax its nw → (h'.IsTupleIter I ax i ∧ h'.IsTuple ax its) :=
  fun i h h' o nw st e e' _ N S => ⟨by obtain ⟨o', q, r⟩ := st.1; rw [e] at q; cases q; exact ⟨o, e', r⟩, S.at N⟩
/-- a comprehension over a tuple: what is asked of it -/
def SrcTup (prog : Program) (w : World) (A : Around) (h₀ : Heap) (L : Addr) (m : Str → Option Value) (env : Env) (elt : Expr) (x : Str) (scope : Scope) (cl : List (Str × Addr)) (Fin : Shared → List Value → List (Addr × Obj) → Prop) (xv : Value) (s₁ : Shared) : Prop :=
  ∃ ax its news, xv = .ref ax ∧ A.handled = none ∧ Fr h₀ L s₁.heap m ∧ News h₀ L s₁.heap news ∧ TupIn ax its news ∧ its.size ≤ sizeLine ∧
    ∀ s₂ : Shared, (∃ h, s₂ = { s₁ with heap := h }) → CompRest prog w A h₀ L m env elt x scope cl s₂ (TupIn ax its) (fun i v => its[i]? = some v) (Fin s₂) its.size 0 [] news
theorem Assign_ListComp_T {elt iter : Expr} {x y : Str} {px py : Pos} {scope : Scope} {cl : List (Str × Addr)} {pos spos : Pos} {Q : Flow → Shared → Prop} (F₀ : Fr h₀ L s.heap m) (hLe : env.locals = L)
    (hsw : swapsWith (.ListComp elt [⟨.Name x px, iter, [], 0⟩] scope pos) (some (.Name y py)) spos.line env = pure true)
    (hclos : closureFor scope env = pure cl) (hcell : ∀ z ∈ scope.names, z.2 ≠ .cell) (hkind : scope.kind = .function)
    (hnames : ∀ z ∈ scope.names, z.2 = .local → scope.names.lookup z.1 = some .local) (hx : scope.names.lookup x = some .local)
    (hy : env.kindOf y = some .local) (hp : (env.scope.kind == .class || (env.scope.kind == .module && env.locals != env.globals)) = false)
    (h : wpAny (model prog w) A (eval iter env) (SrcTup prog w A h₀ L m env elt x scope cl (fun s₂ => FinA h₀ L m s₂ y Q)) E s)
    (hs : ∀ x, foldedSetIterable iter env x = pure x := by intro _; rfl) :
    wpAny (model prog w) A (exec (.Assign [.Name y py] (.ListComp elt [⟨.Name x px, iter, [], 0⟩] scope pos) spos) env) Q E s := by
  subst hLe
  rw [exec_Assign_Name_used _ _ _ _ hsw]
  refine wpAny_bind (wpAny_standAt (wpAny_bind ?_))
  show wpAny _ A (do let _ ← comprehension (.ListComp elt [⟨.Name x px, iter, [], 0⟩] scope pos) scope env _ (newList []) false (eval iter env) (some (assign (.Name y py) env))) _ _ s
  refine wpAny_bind (wpAny_mono (wpAny_comprehension_free (use := some (assign (.Name y py) env)) (Q := fun _ s' => Q .next s') rfl hs hclos hkind hnames
    (wpAny_mono h (fun xv s₁ h₁ => ?_) fun _ _ e => e)) (fun _ s' hq => wpAny_pure (wpAny_pure hq)) fun _ _ e => e)
  obtain ⟨ax, its, news, rfl, hh, F, N, S, hsz, R⟩ := h₁
  have hl := S.at N
  have hlt : ax < s₁.heap.objs.size := by obtain ⟨_, e, _⟩ := hl; exact Heap.lt_size e
  refine wpAny_pyIter_tuple hl ?_
  have up : ∀ b o, s₁.heap.get? b = some o → (s₁.heap.push { cls := .type "tuple_iterator", data := .fields #[.ref ax, .int 0 0] }).get? b = some o := fun b o e => Heap.get?_push_of_some _ e
  refine block_U (Walks.tuple hh s₁.heap.objs.size ax (Nat.ne_of_lt hlt) its) hsz (fun i h st => by obtain ⟨o, e, _⟩ := st.1; exact ⟨o, e⟩) tup_st hcell hkind hx ⟨⟨_, Heap.get?_push_size _ rfl, rfl, rfl⟩, hl.at fun o e => up _ _ e⟩ (fun b hb => ?_)
    (F.keeps up) (N.grown up) (Nat.ne_of_lt F.ns.lt) (next_is_new F) (fun p hp => Nat.ne_of_lt (Heap.lt_size (N p hp).1)) S (R _ ⟨_, rfl⟩) ?_
  · show b < (s₁.heap.push _).objs.size
    rw [Heap.size_push]
    rcases List.mem_cons.mp hb with rfl | hb
    · exact Nat.lt_succ_self _
    · rw [List.mem_singleton.mp hb]; exact Nat.lt_succ_of_lt hlt
  · intro D C h' tk m' ys news' F' N' o1 hn hC₀ hD₀ hCL hDL hCD offC fin
    show wpAny _ A (assign (.Name y py) env (.ref D)) _ _ _
    refine wpAny_assign_Name (wpAny_storeName_local hy F'.ns (fun h₂ hn₂ hs₂ => ?_) hp)
    have hL₀ : h₀.get? env.locals = none := Heap.get?_none_of_le F'.above
    have F₂ : Fr h₀ env.locals h₂ (fun z => if z = y then some (.ref D) else m z) := ⟨hn₂, fun b o e => hs₂.extBut b o (fun q => by rw [q, hL₀] at e; cases e) (F'.keep b o e), F'.above⟩
    refine ⟨m', hn.sameBut hs₂ hCL, fun h'' hs'' => fin D h'' _ (F₂.change hs'' hCL hC₀) (fun p hp => ?_) o1⟩
    have z : h₂.get? p.1 = some p.2 := hs₂.extBut _ _ (N' p hp).2.1 (N' p hp).1
    refine ⟨hs''.extBut _ _ ?_ z, (N' p hp).2⟩
    rcases List.mem_cons.mp hp with rfl | hp
    · exact Ne.symm hCD
    · exact offC p hp
theorem tup_src {elt : Expr} {x : Str} {scope : Scope} {cl : List (Str × Addr)} {Fin : Shared → List Value → List (Addr × Obj) → Prop} {ax : Addr} {vs : List Value} {k : Nat} {news : List (Addr × Obj)} {s₁ : Shared} {ks : List Int} (g : Int → Int)
    (hh : A.handled = none) (F : Fr h₀ L s₁.heap m) (N : News h₀ L s₁.heap news) (hm : (ax, ({ cls := .type "tuple", data := .seq vs.toArray k } : Obj)) ∈ news) (hsz : vs.toArray.size ≤ sizeLine) (hi : IntsAre vs ks)
    (turn : ∀ (gg : Heap), ∀ k t I oI C oC D m₂ ys h tk (E' : Value → Shared → Prop), k ∈ ks → LCg.NsObj oC m₂ → m₂ x = some (.int k t) → Fr h₀ L h m → News h₀ L h ((I, oI) :: (C, oC) :: (D, LCg.lst ys) :: news) → LCg.Off3 I C D news → ((@Ne Nat I C) ∧ (@Ne Nat I D) ∧ (@Ne Nat C D)) →
      wpAny (model prog w) A (eval elt (compEnvC scope cl C env)) (LCg.CompEnd h₀ L m { s₁ with heap := h, toks := tk } I oI C oC D (LCg.lst ys) (TupIn ax vs.toArray) (fun y news' => KCfEl news (g k) y news')) E' { s₁ with heap := h, toks := tk })
    (fin : ∀ gg : Heap, ∀ ys, IntsAre ys (ks.map g) → Fin { s₁ with heap := gg } ys news) : SrcTup prog w A h₀ L m env elt x scope cl Fin (.ref ax) s₁ := by
  refine ⟨ax, vs.toArray, news, rfl, hh, F, N, ⟨_, hm, rfl, _, rfl⟩, hsz, ?_⟩
  rintro s₂ ⟨gg, rfl⟩
  refine kcf_rest (ks := ks) g (by rw [List.size_toArray]; exact hi.length.symm) (fun i v _ hv => ?_) (fun k t I oI C oC D m₂ ys h tk E' hk hC hx F' N' off ne _ => turn gg k t I oI C oC D m₂ ys h tk E' hk hC hx F' N' off ne) (fin gg)
  obtain ⟨k, t, e, hk⟩ := IntsAre.at hi i v (by simpa using hv)
  exact ⟨k, t, hk, e⟩
def KCsEl (news : List (Addr × Obj)) (r : Str) (y : Value) (news' : List (Addr × Obj)) : Prop := news' = news ∧ ∃ t : Tok, y = .str r t
theorem kcs_rest {elt : Expr} {x : Str} {scope : Scope} {cl : List (Str × Addr)} {S : List (Addr × Obj) → Prop} {P : Nat → Value → Prop} {Fin : List Value → List (Addr × Obj) → Prop} {news : List (Addr × Obj)} {n : Nat} {ks : List Int} (g : Int → Str) (hks : ks.length = n) (hP : ∀ i v, i < n → P i v → ∃ k t, ks[i]? = some k ∧ v = .int k t)
    (turn : ∀ k t I oI C oC D m₂ ys h tk (E' : Value → Shared → Prop), k ∈ ks → LCg.NsObj oC m₂ → m₂ x = some (.int k t) → Fr h₀ L h m → News h₀ L h ((I, oI) :: (C, oC) :: (D, LCg.lst ys) :: news) → LCg.Off3 I C D news → ((@Ne Nat I C) ∧ (@Ne Nat I D) ∧ (@Ne Nat C D)) →
      wpAny (model prog w) A (eval elt (compEnvC scope cl C env)) (LCg.CompEnd h₀ L m { s with heap := h, toks := tk } I oI C oC D (LCg.lst ys) S (fun y news' => KCsEl news (g k) y news')) E' { s with heap := h, toks := tk })
    (fin : ∀ ys, TextsAre ys (ks.map g) → Fin ys news) : LCg.CompRest prog w A h₀ L m env elt x scope cl s S P Fin n 0 [] news := by
  have key : ∀ (j i : Nat) (ys : List Value), i + j = n → TextsAre ys ((ks.take i).map g) → LCg.CompRest prog w A h₀ L m env elt x scope cl s S P Fin j i ys news := by
    intro j
    induction j with
    | zero =>
      intro i ys hi hy
      have e : i = ks.length := by omega
      subst e
      rw [List.take_length] at hy
      exact LCg.CompRest.zero (fin ys hy)
    | succ j ih =>
      intro i ys hi hy
      refine LCg.CompRest.succ ?_
      intro v I oI C oC D m₂ h tk E' hv hC hx F N off ne
      obtain ⟨k, t, hk, hv'⟩ := hP i v (by omega) hv
      rw [hv'] at hx
      refine wpAny_mono (turn k t I oI C oC D m₂ ys h tk E' (List.mem_of_getElem? hk) hC hx F N off ne) (fun y s₂ hq => ?_) fun _ _ e => e
      obtain ⟨h', tk', nw, e, F', N', off', hS, hn, t', hy'⟩ := hq
      rw [hn] at N' off' hS
      refine ⟨h', tk', news, e, F', N', off', hS, ?_⟩
      rw [hy']
      refine ih (i + 1) _ (by omega) ?_
      rw [List.take_add_one, hk]
      simpa using TextsAre.snoc hy (g k) t'
  exact key n 0 [] (by omega) (by simp only [List.take_zero, List.map_nil]; exact .nil)
theorem texts_src {elt : Expr} {x : Str} {scope : Scope} {cl : List (Str × Addr)} {Fin : Shared → List Value → List (Addr × Obj) → Prop} {ax : Addr} {vs : List Value} {k : Nat} {news : List (Addr × Obj)} {s₁ : Shared} {ks : List Int} (g : Int → Str)
    (hh : A.handled = none) (F : Fr h₀ L s₁.heap m) (N : News h₀ L s₁.heap news) (hm : (ax, ({ cls := .type "list", data := .seq vs.toArray k } : Obj)) ∈ news) (hsz : vs.toArray.size ≤ sizeLine) (hi : IntsAre vs ks)
    (turn : ∀ (gg : Heap), ∀ k t I oI C oC D m₂ ys h tk (E' : Value → Shared → Prop), k ∈ ks → LCg.NsObj oC m₂ → m₂ x = some (.int k t) → Fr h₀ L h m → News h₀ L h ((I, oI) :: (C, oC) :: (D, LCg.lst ys) :: news) → LCg.Off3 I C D news → ((@Ne Nat I C) ∧ (@Ne Nat I D) ∧ (@Ne Nat C D)) →
      wpAny (model prog w) A (eval elt (compEnvC scope cl C env)) (LCg.CompEnd h₀ L m { s₁ with heap := h, toks := tk } I oI C oC D (LCg.lst ys) (SrcAt h₀ ax vs.toArray) (fun y news' => KCsEl news (g k) y news')) E' { s₁ with heap := h, toks := tk })
    (fin : ∀ gg : Heap, ∀ ys, TextsAre ys (ks.map g) → Fin { s₁ with heap := gg } ys news) : CompSrc prog w A h₀ L m env elt x scope cl Fin (.ref ax) s₁ := by
  refine CompSrc.ledger hh F N hm hsz fun gg => ?_
  refine kcs_rest (ks := ks) g (by rw [List.size_toArray]; exact hi.length.symm) (fun i v _ hv => ?_) (fun k t I oI C oC D m₂ ys h tk E' hk hC hx F' N' off ne => turn gg k t I oI C oC D m₂ ys h tk E' hk hC hx F' N' off ne) (fin gg)
  obtain ⟨k, t, e, hk⟩ := IntsAre.at hi i v (by simpa using hv)
  exact ⟨k, t, hk, e⟩
end
theorem mul_bs' {x : Str} {c : Nat} (hx : x = ⟨#[c]⟩) (mm : Nat) : Txt.mul x (mm : Int) = ⟨(List.replicate mm c).toArray⟩ := by
  have h : (Txt.mul x (mm : Int)).cps.toList = List.replicate mm c := by rw [hx, PyProof.Rows.mul_one_list]; rfl
  rw [← h]
theorem halves_txt {q : Str} {c : Nat} (hq : q = ⟨#[c]⟩) (mm : Nat) : ([((mm / 2 : Nat) : Int), ((mm / 4 : Nat) : Int), ((mm / 8 : Nat) : Int), ((mm / 16 : Nat) : Int)].map fun k => Txt.mul q k) = ([mm / 2, mm / 4, mm / 8, mm / 16].map fun h => List.replicate h c).map fun l => (⟨l.toArray⟩ : Str) := by
  simp only [List.map_cons, List.map_nil, mul_bs' hq]
theorem strOk_list {l : List Nat} (h : ∀ c ∈ l, c < 0x110000) : PyData.strOk (⟨l.toArray⟩ : Str) = true := by
  unfold PyData.strOk
  simpa [Array.all_eq_true', List.all_eq_true] using h
theorem okAll_halves {c : Nat} (hc : c < 0x110000) (hs : List Nat) : OkAll ((hs.map fun h => List.replicate h c).map fun l => (⟨l.toArray⟩ : Str)) := by
  intro y hy
  obtain ⟨l, hl, rfl⟩ := List.mem_map.mp hy
  obtain ⟨n, _, rfl⟩ := List.mem_map.mp hl
  exact strOk_list fun d hd => (List.mem_replicate.mp hd).2 ▸ hc
section
variable {prog : Program} {w : World} {A : Around} {E : Value → Shared → Prop} {s : Shared} {Q : Value → Shared → Prop}
theorem ne_halves {a b : Addr} {vs us : List Value} {rd : List Nat → List Nat} {x : List Nat} {q : Str} {c mm : Nat} (ha : s.heap.IsList a vs.toArray) (hb : s.heap.IsList b us.toArray) (hi : TextsAre vs (readL rd 4 x)) (hq : q = ⟨#[c]⟩) (hc : c < 0x110000)
    (hj : TextsAre us ([((mm / 2 : Nat) : Int), ((mm / 4 : Nat) : Int), ((mm / 8 : Nat) : Int), ((mm / 16 : Nat) : Int)].map fun k => Txt.mul q k))
    (he : readLL rd 4 x = [mm / 2, mm / 4, mm / 8, mm / 16].map fun h => List.replicate h c) (hu : A.units + 64 < cLine) (h : Q (.bool false) s) :
    wpAny (model prog w) A (compareOp .NotEq (.ref a) (.ref b)) Q E s := by
  rw [halves_txt hq] at hj
  rw [readL_eq, he] at hi
  refine ne_texts ha hb hi hj (okAll_halves hc _) (okAll_halves hc _) hu ?_
  rw [beq_self_eq_true]
  exact h
end
def pairD (mm : Nat) : PyData := .tuple [.list ((sumsL mm).map PyData.int), .list ((headsL mm).map PyData.int)]
theorem pair_ok : ∀ mm, mm < 10 → SeqAt.shaped (pairD mm) = true ∧ SeqAt.noMix (pairD mm) (pairD mm) = true ∧ PySem.Spec.same (pairD mm) (pairD mm) = true := by decide +kernel
theorem ints_carried : ∀ {vs : List Value} {zs : List Int}, IntsAre vs zs → CarriedAll vs (zs.map PyData.int)
  | _, _, .nil => .nil
  | _, _, .cons _ t r => .cons (.int _ t) (ints_carried r)
section
variable {prog : Program} {w : World} {A : Around} {E : Value → Shared → Prop} {s : Shared} {Q : Value → Shared → Prop}
theorem eq_pairs {T1 T2 a b c d : Addr} {o1 o2 : Obj} {n1 n2 : Nat} {va vb vc vd : List Value} {mm : Nat} (hm : mm < 10) (h1 : s.heap.get? T1 = some o1) (k1 : o1.cls = .type "tuple") (d1 : o1.data = .seq #[.ref a, .ref b] n1) (h2 : s.heap.get? T2 = some o2) (k2 : o2.cls = .type "tuple") (d2 : o2.data = .seq #[.ref c, .ref d] n2)
    (ha : s.heap.IsList a va.toArray) (hb : s.heap.IsList b vb.toArray) (hc : s.heap.IsList c vc.toArray) (hd : s.heap.IsList d vd.toArray)
    (ia : IntsAre va (sumsL mm)) (ib : IntsAre vb (headsL mm)) (ic : IntsAre vc (sumsL mm)) (id : IntsAre vd (headsL mm)) (hu : A.units + 64 < cLine) (h : Q (.bool true) s) :
    wpAny (model prog w) A (compareOp .Eq (.ref T1) (.ref T2)) Q E s := by
  obtain ⟨p1, p2, p3⟩ := pair_ok mm hm
  have ra : Reads s.heap (.ref T1) (pairD mm) _ := .tuple h1 k1 d1 (.cons (reads_newData ha (ints_carried ia)) (.cons (reads_newData hb (ints_carried ib)) .nil))
  have rb : Reads s.heap (.ref T2) (pairD mm) _ := .tuple h2 k2 d2 (.cons (reads_newData hc (ints_carried ic)) (.cons (reads_newData hd (ints_carried id)) .nil))
  refine eq_dataH_same ra rb p1 p1 hu p2 ?_
  rw [p3]; exact h
end
end Mine
end

section
open PySem PySem.W PyProof.Rows PySem.Calls PySem.Spec
set_option Elab.async false
set_option pp.deepTerms false
set_option pp.deepTerms.threshold 8
namespace Mine
local macro_rules | `(tactic| walk_at "PAD0") => `(tactic| fail)
local macro_rules | `(tactic| walk_at "PAD1") => `(tactic| fail)
local macro_rules | `(tactic| walk_at "PAD2") => `(tactic| fail)
local macro_rules | `(tactic| walk_at "PAD3") => `(tactic| fail)
local macro_rules | `(tactic| walk_at "PAD4") => `(tactic| fail)
local macro_rules | `(tactic| walk_at "PAD5") => `(tactic| fail)
local macro_rules | `(tactic| walk_at "PAD6") => `(tactic| fail)
local macro_rules | `(tactic| walk_at "PAD7") => `(tactic| fail)
local macro_rules | `(tactic| walk_at "PAD8") => `(tactic| fail)
local macro_rules | `(tactic| walk_at "PAD9") => `(tactic| fail)
local macro_rules | `(tactic| walk_at "PAD10") => `(tactic| fail)
local macro_rules | `(tactic| walk_at "PAD11") => `(tactic| fail)
local macro_rules | `(tactic| walk_at "PAD12") => `(tactic| fail)
local macro_rules | `(tactic| walk_at "PAD13") => `(tactic| fail)
local macro_rules | `(tactic| walk_at "PAD14") => `(tactic| fail)
local macro_rules | `(tactic| walk_at "PAD15") => `(tactic| fail)
local macro_rules | `(tactic| walk_at "PAD16") => `(tactic| fail)
local macro_rules | `(tactic| walk_at "PAD17") => `(tactic| fail)
local macro_rules | `(tactic| walk_at "PAD18") => `(tactic| fail)
local macro_rules | `(tactic| walk_at "PAD19") => `(tactic| fail)
local macro_rules | `(tactic| walk_at "PAD20") => `(tactic| fail)
local macro_rules | `(tactic| walk_at "PAD21") => `(tactic| fail)
local macro_rules | `(tactic| walk_at "PAD22") => `(tactic| fail)
local macro_rules | `(tactic| walk_at "PAD23") => `(tactic| fail)
local macro_rules | `(tactic| walk_at "PAD24") => `(tactic| fail)
local macro_rules | `(tactic| walk_at "PAD25") => `(tactic| fail)
local macro_rules | `(tactic| walk_at "PAD26") => `(tactic| fail)
local macro_rules | `(tactic| walk_at "PAD27") => `(tactic| fail)
local macro_rules | `(tactic| walk_at "PAD28") => `(tactic| fail)
local macro_rules | `(tactic| walk_at "PAD29") => `(tactic| fail)
local macro_rules | `(tactic| walk_at "PAD30") => `(tactic| fail)
local macro_rules | `(tactic| walk_at "PAD31") => `(tactic| fail)
local macro_rules | `(tactic| walk_at "PAD32") => `(tactic| fail)
local macro_rules | `(tactic| walk_at "PAD33") => `(tactic| fail)
local macro_rules | `(tactic| walk_at "PAD34") => `(tactic| fail)
local macro_rules | `(tactic| walk_at "PAD35") => `(tactic| fail)
local macro_rules | `(tactic| walk_at "PAD36") => `(tactic| fail)
local macro_rules | `(tactic| walk_at "PAD37") => `(tactic| fail)
local macro_rules | `(tactic| walk_at "PAD38") => `(tactic| fail)
local macro_rules | `(tactic| walk_at "PAD39") => `(tactic| fail)
local macro_rules | `(tactic| walk_at "PAD40") => `(tactic| fail)
local macro_rules | `(tactic| walk_at "S") => `(tactic| first | (k_unfold; (try dsimp only)) | walk1 | (dsimp only; walk1))
theorem fmod10 (n : Int) : n.fmod 10 = n % 10 := Int.fmod_eq_emod_of_nonneg n (by decide)
theorem int_eq {a b : Int} {t : Tok} (h : a = b) : Value.int a t = Value.int b t := h ▸ rfl
theorem fm10 (n : Int) : n.fmod 10 = ((n % 10).toNat : Int) := by rw [fmod10]; omega
abbrev frMap {g : Heap} {L : Addr} {h : Heap} {m : Str → Option Value} (_ : Fr g L h m) : Str → Option Value := m
abbrev lawFr (sl : Addr) : Str → Option Value := fun y => if y = "script" then some (.ref sl) else none
theorem wpAny_cut {M : Model} {A : Around} {m : Sem Flow} {Q : Flow → Shared → Prop} {E : Value → Shared → Prop} {s : Shared} {P : Shared → Prop} (fin : ∀ s', P s' → Q (.ret (.bool true)) s') (h : wpAny M A m (fun f s' => f = .ret (.bool true) ∧ P s') (fun _ _ => False) s) : wpAny M A m Q E s :=
  wpAny_mono h (fun f s' p => p.1 ▸ fin s' p.2) fun _ _ e => e.elim
def LawEnd (g : Heap) (L : Addr) (s1 : Shared) (s' : Shared) : Prop := ∃ (h : Heap) (tk : Nat) (m : Str → Option Value) (led : List (Addr × Obj)) (arr : Array Value), s' = Shared.mk h s1.gens s1.drawn tk s1.os ∧ Fr g L h m ∧ News g L h led ∧ (120, tabObj arr) ∈ led
theorem mono2 {M : Model} {A : Around} {α : Type} {m : Sem α} {Q Q' : α → Shared → Prop} {E : Value → Shared → Prop} {s : Shared} (h : wpAny M A m Q E s) (k : ∀ a s', Q a s' → Q' a s') : wpAny M A m Q' E s := wpAny_mono h k fun _ _ e => e
theorem bindL_none {k : Str → Option NameKind} {v : Value} {y : Str} (e : y ≠ "script") : bindL k [("script", v)] (fun _ => none) y = none := by
  by_cases h : k "script" = some .local <;> simp [bindL, h, e]
abbrev lawFr1 (sl U : Addr) : Str → Option Value := fun y => if y = "unseen" then some (.ref U) else lawFr sl y
theorem mul_bs {x : Str} {c : Nat} (hx : x = ⟨#[c]⟩) (mm : Nat) : (Txt.mul x (mm : Int)).cps.toList = List.replicate mm c := by
  rw [hx, mul_one_list]; rfl
theorem rep_good {x : Str} {c mm : Nat} (h : x.cps.toList = List.replicate mm c) (hm : mm < 10) : x.cps.size < 1000 := by
  rw [← Array.length_toList, h, List.length_replicate]; omega
theorem good92 {x : Str} {mm : Nat} (h : x.cps.toList = List.replicate mm 92) : ∀ c ∈ x.cps.toList, Good c := by
  intro c hc
  rw [h] at hc
  rw [(List.mem_replicate.mp hc).2]
  decide
def StL (g : Heap) (L : Addr) (mF : Str → Option Value) (led : List (Addr × Obj)) (s1 : Shared) (P : List Value → Prop) (v : Value) (s' : Shared) : Prop :=
  ∃ (U : Addr) (us : List Value) (n : Nat) (h : Heap) (tk : Nat), v = Value.ref U ∧ s' = Shared.mk h s1.gens s1.drawn tk s1.os ∧ Fr g L h mF ∧ News g L h ((U, W.listOf us.toArray n) :: led) ∧ (∀ p ∈ led, p.1 < U) ∧ P us
abbrev lawFrL (sl U WW dS dM lF lT : Addr) (o1 o2 o3 o4 : Option Value) : Str → Option Value := fun y => if y = "late" then o4 else if y = "text" then o3 else if y = "sign" then o2 else if y = "place" then o1 else
  if y = "straight" then some (.ref lT) else if y = "free" then some (.ref lF) else if y = "marks" then some (.ref dM) else if y = "strokes" then some (.ref dS) else if y = "which" then some (.ref WW) else lawFr1 sl U y
theorem lawFrL_ini (sl U WW dS dM lF lT : Addr) (y : Str) : (if y = "straight" then some (Value.ref lT) else if y = "free" then some (.ref lF) else if y = "marks" then some (.ref dM) else if y = "strokes" then some (.ref dS) else if y = "which" then some (.ref WW) else lawFr1 sl U y) = lawFrL sl U WW dS dM lF lT none none none none y := by
  by_cases e4 : y = "late"
  · subst e4; rfl
  by_cases e3 : y = "text"
  · subst e3; rfl
  by_cases e2 : y = "sign"
  · subst e2; rfl
  by_cases e1 : y = "place"
  · subst e1; rfl
  unfold lawFrL
  rw [if_neg e4, if_neg e3, if_neg e2, if_neg e1]
theorem lawFrL_turn (sl U WW dS dM lF lT : Addr) {o1 o2 o3 o4 p1 p2 p3 p4 : Option Value} (y : Str) : (if y = "late" then p4 else if y = "text" then p3 else if y = "sign" then p2 else if y = "place" then p1 else lawFrL sl U WW dS dM lF lT o1 o2 o3 o4 y) = lawFrL sl U WW dS dM lF lT p1 p2 p3 p4 y := by
  by_cases e4 : y = "late"
  · subst e4; rfl
  by_cases e3 : y = "text"
  · subst e3; rfl
  by_cases e2 : y = "sign"
  · subst e2; rfl
  by_cases e1 : y = "place"
  · subst e1; rfl
  unfold lawFrL
  simp only [if_neg e4, if_neg e3, if_neg e2, if_neg e1]
def DisA (tl : List (Addr × Obj)) (as : List Addr) : Prop := ∀ p ∈ tl, ∀ q ∈ as, p.1 ≠ q
theorem disA_cons {tl : List (Addr × Obj)} {d : Addr} {as : List Addr} (h : ∀ p ∈ tl, p.1 ≠ d) (k : DisA tl as) : DisA tl (d :: as) := fun p hp => List.forall_mem_cons.mpr ⟨h p hp, k p hp⟩
theorem disA_of {tl news : List (Addr × Obj)} (D : Dis tl news) : DisA tl (news.map Prod.fst) := fun p hp q hq => by
  obtain ⟨r, hr, rfl⟩ := List.mem_map.mp hq
  exact D p hp r hr
theorem dis_of {tl news : List (Addr × Obj)} (D : DisA tl (news.map Prod.fst)) : Dis tl news := fun p hp q hq => D p hp q.1 (List.mem_map_of_mem hq)
def LoopInv (mm : Nat) (sl U WW dS dM lF lT I L : Addr) (fx : List (Addr × Obj)) (i : Nat) (m : Str → Option Value) (news : List (Addr × Obj)) : Prop :=
  ∃ (o1 o2 o3 o4 : Option Value) (tl : List (Addr × Obj)) (vF vT : List Value) (nF nT : Nat), (∀ y, m y = lawFrL sl U WW dS dM lF lT o1 o2 o3 o4 y) ∧ news = (lT, W.listOf vT.toArray nT) :: (lF, W.listOf vF.toArray nF) :: (fx ++ tl) ∧
    TabLed tl ∧ DisA tl (I :: lT :: lF :: fx.map Prod.fst) ∧ IntsAre vF (freeL mm i) ∧ IntsAre vT (strtL mm i)
theorem range_sm {mm : Nat} (h : mm < 10) : Builtin.Range.small 0 ((mm : Int) + 1) 1 = true := by
  have := (by decide +kernel : ∀ m : Fin 10, Builtin.Range.small 0 ((m.val : Int) + 1) 1 = true) ⟨mm, h⟩
  exact this
theorem range_sz {mm : Nat} (h : mm < 10) : Builtin.Range.rangeSize 0 ((mm : Int) + 1) 1 = ((mm + 1 : Nat) : Int) := by
  have := (by decide +kernel : ∀ m : Fin 10, Builtin.Range.rangeSize 0 ((m.val : Int) + 1) 1 = ((m.val + 1 : Nat) : Int)) ⟨mm, h⟩
  exact this
theorem sign_at (z : Int) : ∃ c ∈ b1List, (List.map Int.ofNat b1List).getD (z.fmod 27).toNat 0 = (c : Int) := by
  have h : (z.fmod 27).toNat < b1List.length := by
    have h1 : z.fmod 27 = z % 27 := Int.fmod_eq_emod_of_nonneg z (by decide)
    have h2 : b1List.length = 27 := by decide +kernel
    rw [h1, h2]; omega
  refine ⟨b1List[(z.fmod 27).toNat], List.getElem_mem _, ?_⟩
  rw [List.getD_eq_getElem?_getD, List.getElem?_map, List.getElem?_eq_getElem h]
  rfl
theorem sign_le {c : Nat} (h : c ∈ b1List) : (c : Int) ≤ 1114111 := by
  have := (by decide +kernel : ∀ c ∈ b1List, c ≤ 1114111) c h
  omega
theorem str_app (a b : Str) : (a ++ b).cps.toList = a.cps.toList ++ b.cps.toList := Array.toList_append
theorem line_is {q : Str} {k mm i c : Nat} {x : Str} (hq : q = ⟨#[k]⟩) (hi : i ≤ mm) (e : x = Txt.mul q (i : Int) ++ ⟨#[c]⟩ ++ Txt.mul q ((mm : Int) - (i : Int))) : x.cps.toList = lineC k mm i c := by
  have e1 : (mm : Int) - (i : Int) = ((mm - i : Nat) : Int) := by omega
  rw [e, e1, str_app, str_app, mul_bs hq, mul_bs hq]
  simp [lineC]
theorem line_size {mm i c : Nat} {x : Str} (h : x.cps.toList = lineC 92 mm i c) (hm : mm < 10) (hi : i ≤ mm) : x.cps.size < 1000 := by
  rw [← Array.length_toList, h]
  simp [lineC]
  omega
theorem line_good {mm i c : Nat} {x : Str} (h : x.cps.toList = lineC 92 mm i c) (hc : c ∈ b1List) : ∀ d ∈ x.cps.toList, Good d := by
  intro d hd
  rw [h] at hd
  unfold lineC at hd
  rcases List.mem_append.mp hd with hd | hd
  · rw [(List.mem_replicate.mp hd).2]; decide
  · rcases List.mem_cons.mp hd with rfl | hd
    · exact (by decide +kernel : ∀ c ∈ b1List, Good c) d hc
    · rw [(List.mem_replicate.mp hd).2]; decide
local macro_rules | `(tactic| walk_at "SC") => `(tactic| ((fail_if_success (with_reducible show wpAny _ _ (call (Value.ref _) _) _ _ _)); walk_at "S"))
theorem str_of {x : Str} {l : List Nat} (h : x.cps.toList = l) : x = ⟨l.toArray⟩ := by
  rw [← h]
abbrev nwOf {g : Heap} {L : Addr} {h : Heap} {l : List (Addr × Obj)} (_ : News g L h l) : List (Addr × Obj) := l
def PostW (g : Heap) (L : Addr) (m : Str → Option Value) (fx : List (Addr × Obj)) (s1 : Shared) (ys : List Str) (v : Value) (s' : Shared) : Prop :=
  ∃ (tl : List (Addr × Obj)) (d : Addr) (vs : List Value) (n : Nat) (h : Heap) (tk : Nat), v = .ref d ∧ s' = Shared.mk h s1.gens s1.drawn tk s1.os ∧ Fr g L h m ∧ News g L h ((d, W.listOf vs.toArray n) :: (fx ++ tl)) ∧ TLg.AllNe d fx ∧ TabLed tl ∧ Dis tl ((d, W.listOf vs.toArray n) :: fx) ∧ TextsAre vs ys
def PostN (g : Heap) (L : Addr) (m : Str → Option Value) (led : List (Addr × Obj)) (s1 : Shared) (ys : List Str) (v : Value) (s' : Shared) : Prop :=
  ∃ (d : Addr) (vs : List Value) (n : Nat) (h : Heap) (tk : Nat), v = .ref d ∧ s' = Shared.mk h s1.gens s1.drawn tk s1.os ∧ Fr g L h m ∧ News g L h ((d, W.listOf vs.toArray n) :: led) ∧ (∀ p ∈ led, p.1 ≠ d) ∧ TextsAre vs ys
def PostB (g : Heap) (L : Addr) (m : Str → Option Value) (led : List (Addr × Obj)) (s1 : Shared) (b : Bool) (b' : Bool) (s' : Shared) : Prop :=
  b' = b ∧ ∃ (h : Heap) (tk : Nat), s' = Shared.mk h s1.gens s1.drawn tk s1.os ∧ Fr g L h m ∧ News g L h led
def PostV (g : Heap) (L : Addr) (m : Str → Option Value) (led : List (Addr × Obj)) (s1 : Shared) (P : Value → Prop) (v : Value) (s' : Shared) : Prop :=
  P v ∧ ∃ (h : Heap) (tk : Nat), s' = Shared.mk h s1.gens s1.drawn tk s1.os ∧ Fr g L h m ∧ News g L h led
def SumInv (mm : Nat) (mB : Str → Option Value) (L I T lT lF dM dS : Addr) (tO oT oF oDM oDS oM o120 : Obj) (goal : List Int) (rest : List Value) (m : Str → Option Value) (news : List (Addr × Obj)) : Prop :=
  ∃ (ps : List Nat) (S : Addr) (vs : List Value) (n : Nat) (zs : List Int) (oP : Obj), IntsAre rest (ps.map fun p : Nat => (p : Int)) ∧ (∀ p ∈ ps, p ≤ 8) ∧ IntsAre vs zs ∧ zs.length * 2 ^ ps.length ≤ 16 ∧ ps.foldl (stepS mm) zs = goal ∧ (∀ y, m y = if y = "sums" then some (.ref S) else mB y) ∧ (∃ v₀ : Option Value, oP.data = .cell v₀) ∧
    news = [(T, tO), (S, W.listOf vs.toArray n), (lT, oT), (lF, oF), (dM, oDM), (dS, oDS), (L + 1 + 1, oP), (L + 1, oM), (120, o120)] ∧
    (@Ne Nat S I ∧ @Ne Nat S T ∧ @Ne Nat S lT ∧ @Ne Nat S lF ∧ @Ne Nat S dM ∧ @Ne Nat S dS ∧ @Ne Nat S (L + 1 + 1) ∧ @Ne Nat S (L + 1) ∧ @Ne Nat S 120)
theorem bit_ne (mm p : Nat) : (Builtin.bitAnd (mm : Int) (p : Int) != 0) = decide (mm &&& p ≠ 0) := by
  rw [bitAnd_nat]
  by_cases h : mm &&& p = 0
  · simp [h]
  · have h2 : ((mm &&& p : Nat) : Int) ≠ 0 := by omega
    simp only [h, not_false_eq_true, ne_eq, decide_true, bne_iff_ne]
    exact h2
theorem sums_dup (a b : Option Value) (c : Str → Option Value) (y : Str) : (if y = "sums" then a else if y = "sums" then b else c y) = if y = "sums" then a else c y := by
  by_cases h : y = "sums" <;> simp [h]
theorem subL_all : ∀ {l all : List (Addr × Obj)}, (∀ p ∈ l, p ∈ all) → SubL l all
  | [], _, _ => trivial
  | _ :: _, _, h => ⟨h _ (.head _), subL_all fun p hp => h p (.tail _ hp)⟩
theorem subL_tail (p : Addr × Obj) {l : List (Addr × Obj)} : SubL l (p :: l) := subL_all fun _ hq => .tail _ hq
theorem len_step {mm p : Nat} {zs : List Int} {ps : List Nat} (h : zs.length * 2 ^ (p :: ps).length ≤ 16) : (stepS mm zs p).length * 2 ^ ps.length ≤ 16 := by
  have h1 := Nat.mul_le_mul_right (2 ^ ps.length) (stepS_len mm p zs)
  have h2 : 2 * zs.length * 2 ^ ps.length = zs.length * 2 ^ (p :: ps).length := by
    rw [List.length_cons, Nat.pow_succ, Nat.mul_comm 2 zs.length, Nat.mul_assoc, Nat.mul_comm 2]
  omega
theorem stepH_pos {mm p : Nat} {zs : List Int} (h : 1 ≤ zs.length) : 1 ≤ (stepH mm zs p).length := by
  unfold stepH
  split
  · rw [List.length_append]; omega
  · exact h
theorem len_stepH {mm p : Nat} {zs : List Int} {ps : List Nat} (h : zs.length + (p :: ps).length ≤ 16) : (stepH mm zs p).length + ps.length ≤ 16 := by
  rw [List.length_cons] at h
  unfold stepH
  split
  · rw [List.length_append, List.length_singleton]; omega
  · omega
theorem push_eq (hs : List Value) (x : Value) : (hs ++ [x]).toArray = hs.toArray.push x := by simp
theorem last_eq {zs : List Int} (h : 1 ≤ zs.length) : zs.getD (-1 + (zs.length : Int)).toNat 0 = zs.getLast?.getD 0 := by
  have e : (-1 + (zs.length : Int)).toNat = zs.length - 1 := by omega
  rw [e, List.getD_eq_getElem?_getD, List.getLast?_eq_getElem?]
theorem halves_i : ∀ mm : Nat, mm < 10 → List.map (fun k : Int => (mm : Int).fdiv (2 ^ k.toNat)) [1, 2, 3, 4] = [((mm / 2 : Nat) : Int), ((mm / 4 : Nat) : Int), ((mm / 8 : Nat) : Int), ((mm / 16 : Nat) : Int)] := by decide +kernel
theorem half_b {mm : Nat} {k : Int} (hm : mm < 10) (h : k ∈ [((mm / 2 : Nat) : Int), ((mm / 4 : Nat) : Int), ((mm / 8 : Nat) : Int), ((mm / 16 : Nat) : Int)]) : 0 ≤ k ∧ k ≤ 9 := by
  simp only [List.mem_cons, List.not_mem_nil, or_false] at h
  omega
theorem size_4 {vs : List Value} {a b c d : Int} (h : IntsAre vs [a, b, c, d]) : vs.toArray.size ≤ sizeLine := by
  rw [List.size_toArray, h.length, sizeLine_eq]; show 4 ≤ 16777216; decide
theorem len_16 {zs : List Int} {k : Nat} (h : zs.length * 2 ^ k ≤ 16) : zs.length ≤ 16 := by
  have h1 : 1 ≤ 2 ^ k := Nat.one_le_two_pow
  have h2 := Nat.mul_le_mul_left zs.length h1
  omega
theorem len_16v {vs : List Value} {zs : List Int} (h : IntsAre vs zs) (k : zs.length ≤ 16) : vs.length ≤ 16 := by rw [h.length]; exact k
abbrev tObj {g : Heap} {L : Addr} {h : Heap} {p q : Addr × Obj} {l : List (Addr × Obj)} (_ : News g L h (p :: q :: l)) : Obj := q.2
def PostS (g : Heap) (L : Addr) (mF : Addr → Str → Option Value) (led : Addr → List Value → Nat → List (Addr × Obj)) (off : Addr → Prop) (s1 : Shared) (zs : List Int) (f : Flow) (s' : Shared) : Prop :=
  f = .next ∧ ∃ (S : Addr) (vs : List Value) (n : Nat) (h : Heap) (tk : Nat), s' = Shared.mk h s1.gens s1.drawn tk s1.os ∧ Fr g L h (mF S) ∧ News g L h (led S vs n) ∧ IntsAre vs zs ∧ off S
def HeadInv (mm : Nat) (mB : Str → Option Value) (led : List Value → Nat → Obj → List (Addr × Obj)) (goal : List Int) (rest : List Value) (m : Str → Option Value) (news : List (Addr × Obj)) : Prop :=
  ∃ (ps : List Nat) (vs : List Value) (n : Nat) (zs : List Int) (oP : Obj), IntsAre rest (ps.map fun p : Nat => (p : Int)) ∧ (∀ p ∈ ps, p ≤ 8) ∧ IntsAre vs zs ∧ 1 ≤ zs.length ∧ zs.length + ps.length ≤ 16 ∧ ps.foldl (stepH mm) zs = goal ∧ (∀ y, m y = mB y) ∧ (∃ v₀ : Option Value, oP.data = .cell v₀) ∧ news = led vs n oP
def PostF (g : Heap) (L : Addr) (m : Str → Option Value) (led : List Value → Nat → List (Addr × Obj)) (s1 : Shared) (zs : List Int) (f : Flow) (s' : Shared) : Prop :=
  f = .next ∧ ∃ (vF : List Value) (nF : Nat) (h : Heap) (tk : Nat), s' = Shared.mk h s1.gens s1.drawn tk s1.os ∧ Fr g L h m ∧ News g L h (led vF nF) ∧ IntsAre vF zs
local macro_rules | `(tactic| walk_at "SN") => `(tactic| ((fail_if_success (with_reducible show wpAny _ _ (eval (Expr.BinOp _ _ _ _) _) _ _ _)); walk_at "S"))
local macro_rules | `(tactic| walk_at "SL") => `(tactic| ((fail_if_success (with_reducible show wpAny _ _ (eval (Expr.ListComp _ _ _ _) _) _ _ _)); walk_at "S"))
local macro_rules | `(tactic| walk_at "SR") => `(tactic| ((fail_if_success (with_reducible show wpAny _ _ (compareOp _ _ _) _ _ _)); walk_at "S"))
local macro_rules | `(tactic| walk_at "SE") => `(tactic| ((fail_if_success (with_reducible show wpAny _ _ (eval (Expr.Call _ _ _ _) _) _ _ _)); walk_at "S"))
local macro_rules | `(tactic| walk_at "ST") => `(tactic| ((fail_if_success (with_reducible show wpAny _ _ (isTrue _ _ _) _ _ _)); walk_at "S"))
theorem dq_is : Str.ofString "\"" = ⟨#[34]⟩ := by rfl
local macro_rules | `(tactic| walk_at "SX") => `(tactic| ((fail_if_success (with_reducible show wpAny _ _ (pyIter (Value.ref _)) _ _ _)); walk_at "S"))
local macro_rules | `(tactic| k_all) => `(tactic| assumption)
local macro_rules | `(tactic| k_all) => `(tactic| (refine' allLt_ne ?hq1 ?hq2; (case hq1 => with_reducible assumption); (case hq2 => ((try dsimp only); omega))))
theorem dis_ne {tl news : List (Addr × Obj)} {d : Addr} {o : Obj} (D : Dis tl news) (m : (d, o) ∈ news) : ∀ p ∈ tl, p.1 ≠ d := fun p hp => D p hp _ m
local macro_rules | `(tactic| k_all) => `(tactic| (refine' dis_ne ?hq1 ?hq2; (case hq1 => assumption); (case hq2 => k_mem)))
section
variable {w : World} {pT : Program} {lT : List Str} {mean : ExcName → Option Value} {mg mb : Str → Option Value} {dp un : Nat} {gd : Option (List Code)} {cn : Str} {cs : Scope} {a : Addr} {ccd : Value} {cl : List (Str × Addr)} {outer : List Env} {A₀ : Around} {base h₀ : Heap} {L : Addr} {m : Str → Option Value} {s : Shared} {Q E : Value → Shared → Prop}
theorem rdwL {x : Str} {t : Tok} (news : List (Addr × Obj)) {tl : List (Addr × Obj)} (B : Below A₀ base outer h₀) (F : Fr h₀ L s.heap m) (X : (K w.params).In h₀) (N : News h₀ L s.heap (news ++ tl)) (T : Top pT lT mean mg mb h₀) (C : CodeHd base 124 120) (TL : TabLed tl) (D : Dis tl news) (hk : cs.kind = .function)
    (hd : dp + 25 < recursionLimit) (hu : un + 400 < cLine) (hx : x.cps.size < 1000) (hg : ∀ c ∈ x.cps.toList, Good c)
    (hret : ∀ (tl' : List (Addr × Obj)) (d : Addr) (vs : List Value) (n : Nat) (h' : Heap) (tk' : Nat), Fr h₀ L h' m → News h₀ L h' ((d, W.listOf vs.toArray n) :: (news ++ tl')) → TLg.AllNe d news → TabLed tl' → Dis tl' ((d, W.listOf vs.toArray n) :: news) → TextsAre vs (readL wordL 4 x.cps.toList) → Q (.ref d) { s with heap := h', toks := tk' }) :
    wpAny (model PySem.Challenge.rw_tr0009_01.prog w) (ktrTop dp un gd cn cs L a ccd cl outer) (call (.ref 146) [.str x t, .ref 132]) Q E s := by
  refine rdw_use (news := news) (led := tl ++ news) B F X (cb_drop N fun p hp => ?_) T C ⟨tl, rfl, TL, D⟩ hk hd hu hx hg ?_
  · rcases List.mem_append.mp hp with hp | hp
    · exact List.mem_append_right _ hp
    · exact List.mem_append_left _ hp
  · rintro led' d vs n h' tk' F' N' nd ⟨tl', rfl, TL', D'⟩ hT
    refine hret tl' d vs n h' tk' F' (cb_drop N' fun p hp => ?_) (TLgL.allNe_of fun p hp => nd p (List.mem_append_right _ hp)) TL' (fun p hp q hq => ?_) hT
    · rcases List.mem_cons.mp hp with rfl | hp
      · exact .head _
      · refine .tail _ ?_
        rcases List.mem_append.mp hp with hp | hp
        · exact List.mem_append_right _ hp
        · exact List.mem_append_left _ hp
    · rcases List.mem_cons.mp hq with rfl | hq
      · exact nd p (List.mem_append_left _ hp)
      · exact D' p hp q hq
end
set_option maxRecDepth 100000 in
set_option maxHeartbeats 8000000 in
theorem t : PySem.Challenge.rw_tr0009_01.Holds := by
  w_on
  o_law
  refine PySem.W.holds_open (q := Mine.q) (loose := [PySem.Str.ofString "b1_set"]) (Xt := fun s => xlAt Mine.q [] s && recOk (RowW.records PySem.Challenge.rw_tr0009_01.row.toRowW) s) (XP := XL Mine.q []) (Yf := Hook.obs (kHook Mine.K Mine.as Mine.as_eq)) (Ya := Hook.val (kHook Mine.K Mine.as Mine.as_eq)) (YP := Hook.says (kHook Mine.K Mine.as Mine.as_eq)) (N := 4238) Mine.left (Hook.of (kHook Mine.K Mine.as Mine.as_eq)) (Hook.keeps (kHook Mine.K Mine.as Mine.as_eq)) (fun s e => xl_of s (Bool.and_eq_true_iff.mp e).1) XL.keeps (by rfl) (by rfl) (by rfl) (fun s e => recFacts_of (Bool.and_eq_true_iff.mp e).2) (by rfl) (by first | assumption | decide +kernel) (by decide +kernel) ⟨rfl, rfl, rfl, rfl, rfl, by decide +kernel⟩ ?hw ?hc
  (case hw => w_witness2)
  rename_i said9
  clear said9
  k_go0
  rename_i w s0 s1 mg mb GR YY fa ob pm cd doc ho hcd hg Xm Vm T0 BT TE TW scr hs0 hl0 hL1 hr0 hl2 w4 w3 sl vs w0 hLs ras wll rds hI hrw hc1 hc2 hDf hh tkk oA oB cA cB cAre XX TT BB FF NN lt
  clear hs0 hl0 hL1 hr0 hl2 ras wll rds hrw hDf
  refine wpAny_cut (P := LawEnd (ghostOf s1.heap [(124, 120)]) s1.heap.objs.size s1) ?fin ?main
  case fin =>
    rintro s' ⟨h', tk', m', led, arr, rfl, F', N', hm⟩
    refine ⟨?_, ?_⟩
    · exact ⟨.inl ⟨_, _, _, rfl, fun _ => rfl, (.bool true), (by first | (with_unfolding_all rfl) | kernel_rfl | (simp [OpenLaw.row]; done) | decide), fun h => by first | (cases h; done) | exact ⟨List.nodup_nil, fun _ h => nomatch h⟩⟩, F'.keep, rfl, hg⟩
    · exact ⟨GrownAt.of N' hm, trivial⟩
  have FF0 : Fr (ghostOf s1.heap [(124, 120)]) s1.heap.objs.size hh (lawFr sl) := fr_eq FF fun y => by
    by_cases e1 : y = "script"
    · subst e1; exact rfl
    · unfold lawFr
      rw [if_neg e1]
      exact bindL_none e1
  clear FF
  iterate 2 walk_at "S"
  refine mono2 (Q := fun v s' => ∃ (mm : Nat) (t : Tok) (h9 : Heap) (tk9 : Nat), v = Value.int mm t ∧ mm < 10 ∧ s' = Shared.mk h9 s1.gens s1.drawn tk9 s1.os ∧ Fr (ghostOf s1.heap [(124, 120)]) s1.heap.objs.size h9 (lawFr sl) ∧ News (ghostOf s1.heap [(124, 120)]) s1.heap.objs.size h9 [(s1.heap.objs.size + 1 + 1, oA), (s1.heap.objs.size + 1, oB), (120, tabObj #[])]) ?_ ?_
  · cases hI with
    | nil =>
      iterate 10 walk_at "S"
      refine ⟨6, _, _, _, rfl, by decide, rfl, by assumption, cb_drop (by assumption) (fun p hp => .tail _ hp)⟩
    | cons n t hI' =>
      iterate 8 walk_at "S"
      rw [if_pos (by simp)]
      iterate 7 walk_at "S"
      refine ⟨(n % 10).toNat, _, _, _, int_eq (fm10 n), by omega, rfl, by assumption, cb_drop (by assumption) (fun p hp => .tail _ hp)⟩
  · rintro v s' ⟨mm, tm, h9, tk9, rfl, hmm, rfl, F9, N9⟩
    clear FF0 NN
    iterate 3 walk_at "S"
    rename_i hM oM FM NM dM
    refine mono2 (Q := StL (ghostOf s1.heap [(124, 120)]) s1.heap.objs.size (lawFr sl) [(s1.heap.objs.size + 1 + 1, oA), (s1.heap.objs.size + 1, oM), (120, tabObj #[])] s1 (fun us => IntsAre us (b1List.map Int.ofNat))) ?_ ?_
    · iterate 26 walk_at "S"
      k_dflt (refine LCg.ListComp_U (F₀ := by k_asm) (by with_unfolding_all rfl) (by decide) (by rfl) (by decide) (by rfl) ?_)
      iterate 7 walk_at "S"
      k_dflt (refine LCg.CompSrc.range (by rfl) (by k_asm) (by k_asm) (by assumption) (by first | decide | rfl) (by first | rfl | decide) (by first | size_fits | exact Nat.le_of_ble_eq_true rfl) ?_)
      intro g9
      with_unfolding_all (change @LCg.CompRest _ _ _ _ _ _ _ _ _ _ _ _ _ _ _ 16 _ _ _)
      iterate 99 walk_at "S"
      rename_i FD ND lD
      refine' ⟨_, _, _, _, _, rfl, rfl, FD, ?nn, ?oo, ?ii⟩
      case nn => refine' cb_drop ND ?cbS; (case cbS => kcj_all)
      case oo => exact List.forall_mem_cons.mpr ⟨by show @LT.lt Nat instLTNat _ _; dsimp only; omega, List.forall_mem_cons.mpr ⟨by show @LT.lt Nat instLTNat _ _; dsimp only; omega, List.forall_mem_cons.mpr ⟨by show @LT.lt Nat instLTNat _ _; dsimp only; omega, List.forall_mem_nil _⟩⟩⟩
      case ii => repeat (first | exact IntsAre.nil | refine IntsAre.cons _ _ ?_)
    · rintro v s' ⟨U, us, nU, hU, tkU, rfl, rfl, FU, NU, lU, hIU⟩
      clear FM NM
      iterate 3 walk_at "S"
      refine mono2 (Q := StL (ghostOf s1.heap [(124, 120)]) s1.heap.objs.size (lawFr1 sl U) [(U, W.listOf us.toArray nU), (s1.heap.objs.size + 1 + 1, oA), (s1.heap.objs.size + 1, oM), (120, tabObj #[])] s1 (fun ws => ∃ wl, IntsAre ws wl ∧ 10 ≤ wl.length)) ?_ ?_
      · iterate 34 walk_at "S"
        rename_i DW wsW hhW FW NW hIW lW
        refine' ⟨DW, wsW, _, _, _, rfl, rfl, FW, ?nn, ?oo, _, hIW, ?ll⟩
        case nn => refine' cb_drop NW ?cbS; (case cbS => kcj_all)
        case oo => exact List.forall_mem_cons.mpr ⟨by show @LT.lt Nat instLTNat _ _; dsimp only; omega, List.forall_mem_cons.mpr ⟨by show @LT.lt Nat instLTNat _ _; dsimp only; omega, List.forall_mem_cons.mpr ⟨by show @LT.lt Nat instLTNat _ _; dsimp only; omega, List.forall_mem_cons.mpr ⟨by show @LT.lt Nat instLTNat _ _; dsimp only; omega, List.forall_mem_nil _⟩⟩⟩⟩
        case ll => rw [List.length_append]; exact Nat.le_add_left 10 _
      · rintro v s' ⟨WW, ws, nW, hW, tkW, rfl, rfl, FW, NW, lW, wl, hIW, hlW⟩
        repeat walk_at "SE"
        rename_i hQ FQ NQ
        have hmul := mul_bs bs_is mm
        refine mono2 (Q := PostW (ghostOf s1.heap [(124, 120)]) s1.heap.objs.size (frMap FQ) [(WW, W.listOf ws.toArray nW), (U, W.listOf us.toArray nU), (s1.heap.objs.size + 1 + 1, oA), (s1.heap.objs.size + 1, oM)] s1 (readL wordL 4 (List.replicate mm 92))) ?_ ?_
        · walk_at "S"
          repeat walk_at "SC"
          refine' rdwL [(WW, W.listOf ws.toArray nW), (U, W.listOf us.toArray nU), (s1.heap.objs.size + 1 + 1, oA), (s1.heap.objs.size + 1, oM)] ?k1 ?k2 ?k3 ?k4 ?k5 ?kC .fresh ?kH ?kK ?kd ?ku ?kx ?kg ?_
          case k1 => k_asm
          case k2 => k_asm
          case k3 => k_asm
          case k4 => refine' cb_drop ?cbN ?cbS; (case cbN => assumption); (case cbS => kcj_all)
          case k5 => k_asm
          case kC => kn_code
          case kH =>
            intro p hp q hq
            have h1 : 120 < WW := lW (120, tabObj #[]) (by simp)
            have h2 : 120 < U := lU (120, tabObj #[]) (by simp)
            rcases List.mem_singleton.mp hp with rfl
            simp only [List.mem_cons, List.not_mem_nil, or_false] at hq
            rcases hq with rfl | rfl | rfl | rfl
            · exact Nat.ne_of_lt h1
            · exact Nat.ne_of_lt h2
            · exact Nat.ne_of_lt (by omega)
            · exact Nat.ne_of_lt (by omega)
          case kK => exact rfl
          case kd => ktr_room
          case ku => ktr_units
          case kx => exact rep_good hmul hmm
          case kg => exact good92 hmul
          intro tl1 dS vS nS hS tkS FS NS nS1 TL1 D1 hTS
          rw [hmul] at hTS
          exact ⟨tl1, dS, vS, nS, hS, _, rfl, rfl, FS, NS, nS1, TL1, D1, hTS⟩
        rintro v s' ⟨tl1, dS, vS, nS, hS, tkS, rfl, rfl, FS, NS, nS1, TL1, D1, hTS⟩
        dsimp only [frMap] at FS
        (try dsimp only)
        simp only [List.cons_append, List.nil_append] at NS
        simp only [TLg.AllNe, and_true] at nS1
        clear FQ NQ
        repeat walk_at "SE"
        rename_i hQ FQ NQ
        refine mono2 (Q := PostN (ghostOf s1.heap [(124, 120)]) s1.heap.objs.size (frMap FQ) (nwOf NQ) s1 (readL nameL 4 (List.replicate mm 34))) ?_ ?_
        · walk_at "S"
          repeat walk_at "SC"
          have hmulq := mul_bs dq_is mm
          refine' rdn_use ?k1 ?k2 ?k3 ?k4 ?k5 ?kK ?kd ?ku ?kx ?_
          case k1 => k_asm
          case k2 => k_asm
          case k3 => k_asm
          case k4 => k_asm
          case k5 => k_asm
          case kK => exact rfl
          case kd => ktr_room
          case ku => ktr_units
          case kx => exact rep_good hmulq hmm
          intro dM vM nM hM2 tkM FM NM nM1 hTM
          rw [hmulq] at hTM
          exact ⟨dM, vM, nM, hM2, _, rfl, rfl, FM, NM, nM1, hTM⟩
        rintro v s' ⟨dM, vM, nM, hM2, tkM, rfl, rfl, FM, NM, nM1, hTM⟩
        dsimp only [frMap] at FM
        dsimp only [nwOf] at NM nM1
        have nM2 := TLgL.allNe_of nM1
        have nMt : ∀ p ∈ tl1, p.1 ≠ dM := fun p hp => nM1 p (.tail _ (.tail _ (.tail _ (.tail _ (.tail _ hp)))))
        simp only [TLg.AllNe] at nM2
        clear nM1 FQ NQ
        (try dsimp only)
        iterate 22 walk_at "S"
        repeat walk_at "SX"
        rename_i hF1 tkF1 lF hF2 lFo hF3 tkF3 lT hT2 lTo hT3 FT NT hR tkR t1R u1R v1R RG FR NR up
        clear FT NT up
        have FL : Fr (ghostOf s1.heap [(124, 120)]) s1.heap.objs.size hR (lawFrL sl U WW dS dM lF lT none none none none) := fr_eq FR (lawFrL_ini sl U WW dS dM lF lT)
        clear FR
        with_unfolding_all refine iter_rangeUnr (n := mm + 1) (by rfl) RG (range_sm hmm) (range_sz hmm) FL NR ?_
        intro I lI
        k_lt lI
        refine' rangeRest_inv (LoopInv mm sl U WW dS dM lF lT I s1.heap.objs.size [(dM, W.listOf vM.toArray nM), (dS, W.listOf vS.toArray nS), (WW, W.listOf ws.toArray nW), (U, W.listOf us.toArray nU), (s1.heap.objs.size + 1 + 1, oA), (s1.heap.objs.size + 1, oM)]) ?ini ?step ?last
        case ini =>
          refine ⟨none, none, none, none, tl1, [], [], 0, 0, fun _ => rfl, rfl, TL1, ?_, .nil, .nil⟩
          have hT9 : AllLt lT tl1 := lTo.2.2.2.2.2.2.2
          have hF9 : AllLt lF tl1 := lFo.2.2.2.2.2.2
          have hI9 : AllLt I tl1 := lI.2.2.2.2.2.2.2.2
          refine disA_cons (fun p hp => Nat.ne_of_lt (allLt_all hI9 p hp)) (disA_cons (fun p hp => Nat.ne_of_lt (allLt_all hT9 p hp)) (disA_cons (fun p hp => Nat.ne_of_lt (allLt_all hF9 p hp)) (disA_cons nMt ?_)))
          exact disA_of D1
        case step =>
          rintro i hi m news ⟨o1, o2, o3, o4, tl, vF, vT, nF, nT, em, rfl, TL, DA, hIF, hIT⟩ tP hP tkP FP NP
          have FP0 : Fr (ghostOf s1.heap [(124, 120)]) s1.heap.objs.size hP (fun y => if y = "place" then some (.int (i : Int) tP) else lawFrL sl U WW dS dM lF lT o1 o2 o3 o4 y) := fr_eq FP (fun y => by rw [em y, Int.zero_add])
          have NP0 : News (ghostOf s1.heap [(124, 120)]) s1.heap.objs.size hP ((I, itR (0 + ↑(i + 1)) (↑(mm + 1) - ↑(i + 1))) :: (lT, W.listOf vT.toArray nT) :: (lF, W.listOf vF.toArray nF) :: (dM, W.listOf vM.toArray nM) :: (dS, W.listOf vS.toArray nS) :: (WW, W.listOf ws.toArray nW) :: (U, W.listOf us.toArray nU) :: (s1.heap.objs.size + 1 + 1, oA) :: (s1.heap.objs.size + 1, oM) :: tl) := NP
          clear FP em NP FL NR RG
          have hlW1 : (i : Int) < wl.length := by omega
          have hi0 : (0 : Int) ≤ i := by omega
          (try dsimp only)
          repeat walk_at "SE"
          refine mono2 (Q := fun v s' => 1 ≤ s'.toks ∧ PostV (ghostOf s1.heap [(124, 120)]) s1.heap.objs.size (frMap FP0) (nwOf NP0) s1 (fun v => ∃ (c : Nat) (t : Tok), v = .str ⟨#[c]⟩ t ∧ c ∈ b1List) v s') ?_ ?_
          · iterate 15 walk_at "S"
            obtain ⟨c, hcB, hcE⟩ := sign_at (wl.getD (i : Int).toNat 0)
            rw [hcE]
            refine chr_of_range (Int.natCast_nonneg c) (sign_le hcB) ?_
            rw [Int.toNat_natCast]
            exact ⟨Nat.le_add_left 1 _, ⟨c, _, rfl, hcB⟩, _, _, rfl, FP0, NP0⟩
          rintro v s' ⟨ht1, ⟨c, tC, rfl, hcB⟩, hC, tkC, rfl, FC, NC⟩
          replace ht1 : 1 ≤ tkC := ht1
          dsimp only [frMap] at FC
          dsimp only [nwOf] at NC
          clear FP0 NP0
          (try dsimp only)
          refine wpAny_with_toks (n := 1) ht1 ?_
          walk_at "S"
          intro ht1b
          dsimp only at ht1b ⊢
          generalize tkC + 1 = tk7 at ht1b ⊢
          repeat walk_at "SN"
          rename_i hC2 FC2 NC2
          refine mono2T 1 ht1b (Q := PostV (ghostOf s1.heap [(124, 120)]) s1.heap.objs.size (frMap FC2) (nwOf NC2) s1 (fun v => ∃ (x : Str) (t : Tok), v = .str x t ∧ x.cps.toList = lineC 92 mm i c)) ?_ ?_
          · iterate 16 walk_at "S"
            have hxl := line_is (x := Txt.mul (Str.ofString "\\") (i : Int) ++ ⟨#[c]⟩ ++ Txt.mul (Str.ofString "\\") ((mm : Int) - (i : Int))) bs_is (Nat.le_of_lt_succ hi) rfl
            exact ⟨⟨_, _, rfl, hxl⟩, _, _, rfl, FC2, NC2⟩
          rintro v s' ht2 ⟨⟨tx, tX, rfl, hxl⟩, hX, tkX, rfl, FX, NX⟩
          replace ht2 : 1 ≤ tkX := ht2
          dsimp only [frMap] at FX
          dsimp only [nwOf] at NX
          clear FC2 NC2
          (try dsimp only)
          refine wpAny_with_toks (n := 1) ht2 ?_
          walk_at "S"
          intro ht2b
          dsimp only at ht2b ⊢
          generalize tkX + 1 = tk7 at ht2b ⊢
          have hok := ok_at hmm (Nat.le_of_lt_succ hi) hcB
          obtain ⟨hok1, hok2, hok3, hok4, hok5⟩ := hok
          have hxs : tx.cps.size < 1000 := line_size hxl hmm (Nat.le_of_lt_succ hi)
          have hxg : ∀ ch ∈ tx.cps.toList, Good ch := line_good hxl hcB
          have hms : Txt.mul (Str.ofString "\\") (mm : Int) = ⟨(List.replicate mm 92).toArray⟩ := str_of hmul
          repeat walk_at "ST"
          rename_i hX2 FX2 NX2
          refine mono2T 1 ht2b (Q := PostB (ghostOf s1.heap [(124, 120)]) s1.heap.objs.size (frMap FX2) (nwOf NX2) s1 false) ?_ ?_
          · walk_at "S"
            repeat walk_at "SC"
            refine' bare_use ?k1 ?k2 ?k3 ?k4 ?k5 ?kK ?kd ?ku hxs ?_
            case k1 => k_asm
            case k2 => k_asm
            case k3 => k_asm
            case k4 => k_asm
            case k5 => k_asm
            case kK => exact rfl
            case kd => ktr_room
            case ku => ktr_units
            intro tB1 hB1 tkB1 FB1 NB1
            (try dsimp only)
            rw [hxl, hok1]
            iterate 6 walk_at "S"
            exact ⟨by rw [hms]; simp, _, _, rfl, FB1, NB1⟩
          rintro b s' ht3 ⟨rfl, hB, tkB, rfl, FB, NB⟩
          replace ht3 : 1 ≤ tkB := ht3
          dsimp only [frMap] at FB
          dsimp only [nwOf] at NB
          clear FX2 NX2
          (try dsimp only)
          rw [if_neg Bool.false_ne_true]
          repeat walk_at "SE"
          refine mono2T 1 ht3 (Q := PostW (ghostOf s1.heap [(124, 120)]) s1.heap.objs.size (frMap FB) [(I, itR (0 + ↑(i + 1)) (↑(mm + 1) - ↑(i + 1))), (lT, W.listOf vT.toArray nT), (lF, W.listOf vF.toArray nF), (dM, W.listOf vM.toArray nM), (dS, W.listOf vS.toArray nS), (WW, W.listOf ws.toArray nW), (U, W.listOf us.toArray nU), (s1.heap.objs.size + 1 + 1, oA), (s1.heap.objs.size + 1, oM)] s1 (readL wordL 4 (lineC 92 mm i c))) ?_ ?_
          · walk_at "S"
            repeat walk_at "SC"
            refine' rdwL [(I, itR (0 + ↑(i + 1)) (↑(mm + 1) - ↑(i + 1))), (lT, W.listOf vT.toArray nT), (lF, W.listOf vF.toArray nF), (dM, W.listOf vM.toArray nM), (dS, W.listOf vS.toArray nS), (WW, W.listOf ws.toArray nW), (U, W.listOf us.toArray nU), (s1.heap.objs.size + 1 + 1, oA), (s1.heap.objs.size + 1, oM)] ?k1 ?k2 ?k3 ?k4 ?k5 ?kC TL ?kH ?kK ?kd ?ku hxs hxg ?_
            case k1 => k_asm
            case k2 => k_asm
            case k3 => k_asm
            case k4 => k_asm
            case k5 => k_asm
            case kC => kn_code
            case kH => exact dis_of DA
            case kK => exact rfl
            case kd => ktr_room
            case ku => ktr_units
            intro tl2 dL vL nL hL tkL FL2 NL2 nL2 TL2 D2 hTL
            rw [hxl] at hTL
            exact ⟨tl2, dL, vL, nL, hL, _, rfl, rfl, FL2, NL2, nL2, TL2, D2, hTL⟩
          rintro v s' ht4 ⟨tl2, dL, vL, nL, hL, tkL, rfl, rfl, FL2, NL2, nL2, TL2, D2, hTL⟩
          replace ht4 : 1 ≤ tkL := ht4
          dsimp only [frMap] at FL2
          simp only [TLg.AllNe, and_true] at nL2
          simp only [List.cons_append, List.nil_append] at NL2
          (try dsimp only)
          clear DA TL NB FB
          refine wpAny_with_toks (n := 1) ht4 ?_
          walk_at "S"
          intro ht4b
          dsimp only at ht4b ⊢
          generalize tkL + 1 = tk7 at ht4b ⊢
          repeat walk_at "ST"
          rename_i hL3 FL3 NL3
          refine mono2T 1 ht4b (Q := PostB (ghostOf s1.heap [(124, 120)]) s1.heap.objs.size (frMap FL3) (nwOf NL3) s1 false) ?_ ?_
          · iterate 8 walk_at "S"
            k_dflt (refine join_readings (News.isList (by k_asm) (by k_mem)) hTL hok2 (by omega) ?_)
            intro tJ tkJ
            (try dsimp only)
            repeat walk_at "SC"
            refine' ones_use ?k1 ?k2 ?k3 ?k4 ?k5 ?kK ?kd ?ku ?kn ?_
            case k1 => k_asm
            case k2 => k_asm
            case k3 => k_asm
            case k4 => k_asm
            case k5 => k_asm
            case kK => exact rfl
            case kd => ktr_room
            case ku => ktr_units
            case kn => exact ⟨by omega, by omega⟩
            intro tO1 hO1 tkO1 FO1 NO1
            (try dsimp only)
            walk_at "S"
            repeat walk_at "SC"
            refine' ones_use ?k1 ?k2 ?k3 ?k4 ?k5 ?kK ?kd ?ku ?kn ?_
            case k1 => k_asm
            case k2 => k_asm
            case k3 => k_asm
            case k4 => k_asm
            case k5 => k_asm
            case kK => exact rfl
            case kd => ktr_room
            case ku => ktr_units
            case kn => exact ⟨by omega, by omega⟩
            intro tO2 hO2 tkO2 FO2 NO2
            (try dsimp only)
            have hnum : (mm : Int) - onesI (i : Int) - onesI ((mm : Int) - (i : Int)) = ((mm - ones4 i - ones4 (mm - i) : Nat) : Int) := by
              have e1 : (mm : Int) - (i : Int) = ((mm - i : Nat) : Int) := by omega
              rw [e1, onesI_nat, onesI_nat]; omega
            have hms2 : Txt.mul (Str.ofString "\\") ((mm : Int) - onesI (i : Int) - onesI ((mm : Int) - (i : Int))) = ⟨(List.replicate (mm - ones4 i - ones4 (mm - i)) 92).toArray⟩ := by
              rw [hnum]; exact str_of (mul_bs bs_is _)
            iterate 4 walk_at "S"
            exact ⟨by rw [hms2]; simp, _, _, rfl, FO2, NO2⟩
          rintro b s' ht5 ⟨rfl, hB, tkB, rfl, FB, NB⟩
          replace ht5 : 1 ≤ tkB := ht5
          dsimp only [frMap] at FB
          dsimp only [nwOf] at NB
          clear FL3 NL3
          (try dsimp only)
          rw [if_neg Bool.false_ne_true]
          iterate 2 walk_at "S"
          refine mono2T 1 ht5 (Q := PostF (ghostOf s1.heap [(124, 120)]) s1.heap.objs.size (frMap FB) (fun vF nF => (dL, W.listOf vL.toArray nL) :: (I, itR (0 + ↑(i + 1)) (↑(mm + 1) - ↑(i + 1))) :: (lT, W.listOf vT.toArray nT) :: (lF, W.listOf vF.toArray nF) :: (dM, W.listOf vM.toArray nM) :: (dS, W.listOf vS.toArray nS) :: (WW, W.listOf ws.toArray nW) :: (U, W.listOf us.toArray nU) :: (s1.heap.objs.size + 1 + 1, oA) :: (s1.heap.objs.size + 1, oM) :: tl2) s1 (freeL mm (i + 1))) ?_ ?_
          · repeat walk_at "ST"
            refine mono2 (Q := PostB (ghostOf s1.heap [(124, 120)]) s1.heap.objs.size (frMap FB) (nwOf NB) s1 ((sumsL mm).contains (i : Int))) ?_ ?_
            · iterate 3 walk_at "S"
              k_dflt (refine eq_readings (News.isList (by k_asm) (by k_mem)) (News.isList (by k_asm) (by k_mem)) hTL hTS (okAll_w _ (line_small (by decide) hcB)) (okAll_w _ (rep_small (by decide))) (by ktr_units) ?_)
              (try dsimp only)
              walk_at "S"
              exact ⟨hok4, _, _, rfl, FB, NB⟩
            · rintro b s' ⟨rfl, hB3, tkB3, rfl, FB3, NB3⟩
              dsimp only [frMap] at FB3
              dsimp only [nwOf] at NB3
              (try dsimp only)
              rw [freeL_succ]
              by_cases hb : (sumsL mm).contains (i : Int) = true
              · rw [if_pos hb]
                rw [if_pos hb]
                iterate 9 walk_at "S"
                refine' append_ints ?k1 ?k2 hIF (Nat.le_trans (freeL_len mm i) (by omega)) ?k3 ?_
                case k1 => k_asm
                case k2 => k_asm
                case k3 => k_upd
                intro hA FA NA
                (try dsimp only)
                repeat walk_at "S"
                exact ⟨rfl, _, _, _, _, rfl, FA, NA, IntsAre.append hIF (.cons _ _ .nil)⟩
              · rw [if_neg hb]
                rw [if_neg hb]
                walk_at "S"
                rw [List.append_nil]
                exact ⟨rfl, _, _, _, _, rfl, FB3, NB3, hIF⟩
          rintro f s' ht6 ⟨rfl, vF2, nF2, hG, tkG, rfl, FG, NG, hIF2⟩
          replace ht6 : 1 ≤ tkG := ht6
          dsimp only [frMap] at FG
          (try dsimp only)
          clear NB FB
          iterate 1 walk_at "S"
          refine mono2 (Q := PostF (ghostOf s1.heap [(124, 120)]) s1.heap.objs.size (frMap FG) (fun vT nT => (dL, W.listOf vL.toArray nL) :: (I, itR (0 + ↑(i + 1)) (↑(mm + 1) - ↑(i + 1))) :: (lT, W.listOf vT.toArray nT) :: (lF, W.listOf vF2.toArray nF2) :: (dM, W.listOf vM.toArray nM) :: (dS, W.listOf vS.toArray nS) :: (WW, W.listOf ws.toArray nW) :: (U, W.listOf us.toArray nU) :: (s1.heap.objs.size + 1 + 1, oA) :: (s1.heap.objs.size + 1, oM) :: tl2) s1 (strtL mm (i + 1))) ?_ ?_
          · repeat walk_at "ST"
            refine mono2 (Q := PostB (ghostOf s1.heap [(124, 120)]) s1.heap.objs.size (frMap FG) ((dL, W.listOf vL.toArray nL) :: (I, itR (0 + ↑(i + 1)) (↑(mm + 1) - ↑(i + 1))) :: (lT, W.listOf vT.toArray nT) :: (lF, W.listOf vF2.toArray nF2) :: (dM, W.listOf vM.toArray nM) :: (dS, W.listOf vS.toArray nS) :: (WW, W.listOf ws.toArray nW) :: (U, W.listOf us.toArray nU) :: (s1.heap.objs.size + 1 + 1, oA) :: (s1.heap.objs.size + 1, oM) :: tl2) s1 ((headsL mm).contains (i : Int))) ?_ ?_
            · iterate 14 walk_at "S"
              have u1 : tkG ≠ 0 := by omega
              have u2 : tkG + 1 ≠ 0 := by omega
              have u3 : tkG ≠ tkG + 1 := by omega
              refine SC.replaceW u1 u2 u3 bs_dq_ne ?hxlen (by decide) ?_
              case hxlen => exact Nat.le_of_lt (Nat.lt_of_lt_of_le hxs (by decide))
              intro tR2 tkR2
              (try dsimp only)
              have hrx := replaced hxl hcB
              have hrs := line_size' hrx hmm (Nat.le_of_lt_succ hi)
              repeat walk_at "SC"
              refine' rdn_use ?k1 ?k2 ?k3 ?k4 ?k5 ?kK ?kd ?ku ?kx ?_
              case k1 => k_asm
              case k2 => k_asm
              case k3 => k_asm
              case k4 => k_asm
              case k5 => k_asm
              case kK => exact rfl
              case kd => ktr_room
              case ku => ktr_units
              case kx => exact hrs
              intro dN vN nN hN tkN FN NN nN1 hTN
              rw [hrx] at hTN
              (try dsimp only)
              iterate 1 walk_at "S"
              k_dflt (refine eq_readings (News.isList (by k_asm) (by k_mem)) (News.isList (by k_asm) (by k_mem)) hTN hTM (okAll_n _ (line_small (by decide) hcB)) (okAll_n _ (rep_small (by decide))) (by ktr_units) ?_)
              (try dsimp only)
              walk_at "S"
              exact ⟨hok5, _, _, rfl, FN, cb_drop NN (fun p hp => .tail _ hp)⟩
            · rintro b s' ⟨rfl, hB3, tkB3, rfl, FB3, NB3⟩
              dsimp only [frMap] at FB3
              (try dsimp only)
              rw [strtL_succ]
              by_cases hb : (headsL mm).contains (i : Int) = true
              · rw [if_pos hb]
                rw [if_pos hb]
                iterate 9 walk_at "S"
                refine' append_ints ?k1 ?k2 hIT (Nat.le_trans (strtL_len mm i) (by omega)) ?k3 ?_
                case k1 => k_asm
                case k2 => k_asm
                case k3 => k_upd
                intro hA FA NA
                (try dsimp only)
                repeat walk_at "S"
                exact ⟨rfl, _, _, _, _, rfl, FA, NA, IntsAre.append hIT (.cons _ _ .nil)⟩
              · rw [if_neg hb]
                rw [if_neg hb]
                walk_at "S"
                rw [List.append_nil]
                exact ⟨rfl, _, _, _, _, rfl, FB3, NB3, hIT⟩
          rintro f s' ⟨rfl, vT2, nT2, hH, tkH, rfl, FH, NH, hIT2⟩
          dsimp only [frMap] at FH
          (try dsimp only)
          iterate 1 walk_at "S"
          show UnrEnd _ _ _ _ _ _ _
          refine UnrEnd.intro FH NH ((lT, W.listOf vT2.toArray nT2) :: (lF, W.listOf vF2.toArray nF2) :: ([(dM, W.listOf vM.toArray nM), (dS, W.listOf vS.toArray nS), (WW, W.listOf ws.toArray nW), (U, W.listOf us.toArray nU), (s1.heap.objs.size + 1 + 1, oA), (s1.heap.objs.size + 1, oM)] ++ tl2)) (fun p hp => .tail _ hp) ?_ ?_
          · simp only [List.cons_append, List.nil_append]
            have k1 : lT ≠ I := Nat.ne_of_lt lI.1
            have k2 : lF ≠ I := Nat.ne_of_lt lI.2.1
            have k3 : dM ≠ I := Nat.ne_of_lt lI.2.2.1
            have k4 : dS ≠ I := Nat.ne_of_lt lI.2.2.2.1
            have k5 : WW ≠ I := Nat.ne_of_lt lI.2.2.2.2.1
            have k6 : U ≠ I := Nat.ne_of_lt lI.2.2.2.2.2.1
            have k7 : s1.heap.objs.size + 1 + 1 ≠ I := by omega
            have k8 : s1.heap.objs.size + 1 ≠ I := by omega
            exact List.forall_mem_cons.mpr ⟨k1, List.forall_mem_cons.mpr ⟨k2, List.forall_mem_cons.mpr ⟨k3, List.forall_mem_cons.mpr ⟨k4, List.forall_mem_cons.mpr ⟨k5, List.forall_mem_cons.mpr ⟨k6, List.forall_mem_cons.mpr ⟨k7, List.forall_mem_cons.mpr ⟨k8, fun p hp => D2 p hp _ (.tail _ (.head _))⟩⟩⟩⟩⟩⟩⟩⟩
          · exact ⟨_, _, _, _, tl2, vF2, vT2, nF2, nT2, lawFrL_turn sl U WW dS dM lF lT, rfl, TL2, fun p hp q hq => disA_of D2 p hp q (.tail _ hq), hIF2, hIT2⟩
        case last =>
          rintro m news ⟨o1, o2, o3, o4, tl, vF, vT, nF, nT, em, rfl, TL, DA, hIF, hIT⟩ hE tkE FE NE
          have FE0 : Fr (ghostOf s1.heap [(124, 120)]) s1.heap.objs.size hE (lawFrL sl U WW dS dM lF lT o1 o2 o3 o4) := fr_eq FE em
          obtain ⟨arr, harr⟩ := TL.has
          have NE0 : News (ghostOf s1.heap [(124, 120)]) s1.heap.objs.size hE [(lT, W.listOf vT.toArray nT), (lF, W.listOf vF.toArray nF), (dM, W.listOf vM.toArray nM), (dS, W.listOf vS.toArray nS), (s1.heap.objs.size + 1 + 1, oA), (s1.heap.objs.size + 1, oM), (120, tabObj arr)] := cb_drop NE (List.forall_mem_cons.mpr ⟨.head _, List.forall_mem_cons.mpr ⟨.tail _ (.head _), List.forall_mem_cons.mpr ⟨.tail _ (.tail _ (.head _)), List.forall_mem_cons.mpr ⟨.tail _ (.tail _ (.tail _ (.head _))), List.forall_mem_cons.mpr ⟨.tail _ (.tail _ (.tail _ (.tail _ (.tail _ (.tail _ (.head _)))))), List.forall_mem_cons.mpr ⟨.tail _ (.tail _ (.tail _ (.tail _ (.tail _ (.tail _ (.tail _ (.head _))))))), List.forall_mem_cons.mpr ⟨.tail _ (.tail _ (.tail _ (.tail _ (.tail _ (.tail _ (.tail _ (.tail _ (harr)))))))), List.forall_mem_nil _⟩⟩⟩⟩⟩⟩⟩)
          have q1 : @Ne Nat 120 (lT) := DA _ harr _ (.tail _ (.head _))
          have q2 : @Ne Nat 120 (lF) := DA _ harr _ (.tail _ (.tail _ (.head _)))
          have q3 : @Ne Nat 120 (dM) := DA _ harr _ (.tail _ (.tail _ (.tail _ (.head _))))
          have q4 : @Ne Nat 120 (dS) := DA _ harr _ (.tail _ (.tail _ (.tail _ (.tail _ (.head _)))))
          have q7 : @Ne Nat 120 (s1.heap.objs.size + 1 + 1) := DA _ harr _ (.tail _ (.tail _ (.tail _ (.tail _ (.tail _ (.tail _ (.tail _ (.head _))))))))
          have q8 : @Ne Nat 120 (s1.heap.objs.size + 1) := DA _ harr _ (.tail _ (.tail _ (.tail _ (.tail _ (.tail _ (.tail _ (.tail _ (.tail _ (.head _)))))))))
          clear FE em NE FL NR RG DA harr TL
          rw [freeL_all mm hmm] at hIF
          rw [strtL_all mm hmm] at hIT
          (try dsimp only)
          iterate 23 walk_at "S"
          rename_i hS0 S0 hS1 S0o hS2 T hS3 NS3 To I2 I2o
          refine' itemsRest_inv (keep := [(T, ?tO)]) (SumInv mm (lawFrL sl U WW dS dM lF lT o1 o2 o3 o4) s1.heap.objs.size I2 T lT lF dM dS ?tO (W.listOf vT.toArray nT) (W.listOf vF.toArray nF) (W.listOf vM.toArray nM) (W.listOf vS.toArray nS) oM (tabObj arr) (sumsL mm)) ?step ?last _ _ _ ?ini
          case ini =>
            refine ⟨[1, 2, 4, 8], S0, _, 0, [0], oA, ?_, by decide, .cons _ _ .nil, by decide, rfl, fun _ => rfl, ⟨_, cA⟩, rfl, ?_⟩
            · exact .cons _ _ (.cons _ _ (.cons _ _ (.cons _ _ .nil)))
            · refine ⟨?_, ?_, ?_, ?_, ?_, ?_, ?_, ?_, ?_⟩ <;> omega
          case step =>
            rintro v r m news ⟨ps, S, vs, n, zs, oP, hr, hp8, hz, hl, hf, em, ⟨v0, hP0⟩, rfl, nS0⟩ h tk o ho F N
            cases ps with
            | nil => cases hr
            | cons p ps =>
            cases hr with
            | cons _ tp hr =>
            have F0 : Fr (ghostOf s1.heap [(124, 120)]) s1.heap.objs.size h (fun y => if y = "sums" then some (.ref S) else lawFrL sl U WW dS dM lF lT o1 o2 o3 o4 y) := fr_eq F em
            have N0 : News (ghostOf s1.heap [(124, 120)]) s1.heap.objs.size h _ := N
            clear F N em NS3
            (try dsimp only)
            iterate 4 walk_at "S"
            rename_i hP1 oP1 FP1 NP1 dP1
            have hpp : p ≤ 8 := hp8 p (.head _)
            have hzl : zs.length ≤ 16 := len_16 hl
            have hzv : vs.length ≤ 16 := len_16v hz hzl
            refine mono2 (Q := PostS (ghostOf s1.heap [(124, 120)]) s1.heap.objs.size (fun S y => if y = "sums" then some (.ref S) else lawFrL sl U WW dS dM lF lT o1 o2 o3 o4 y) (fun S' vs' n' => [(I2, o), (T, tObj NP1), (S', W.listOf vs'.toArray n'), (lT, W.listOf vT.toArray nT), (lF, W.listOf vF.toArray nF), (dM, W.listOf vM.toArray nM), (dS, W.listOf vS.toArray nS), (s1.heap.objs.size + 1 + 1, oP1), (s1.heap.objs.size + 1, oM), (120, tabObj arr)]) (fun S => @Ne Nat S I2 ∧ @Ne Nat S T ∧ @Ne Nat S lT ∧ @Ne Nat S lF ∧ @Ne Nat S dM ∧ @Ne Nat S dS ∧ @Ne Nat S (s1.heap.objs.size + 1 + 1) ∧ @Ne Nat S (s1.heap.objs.size + 1) ∧ @Ne Nat S 120) s1 (stepS mm zs p)) ?_ ?_
            · repeat walk_at "ST"
              refine mono2 (Q := PostB (ghostOf s1.heap [(124, 120)]) s1.heap.objs.size (frMap FP1) (nwOf NP1) s1 (decide (mm &&& p ≠ 0))) ?_ ?_
              · iterate 8 walk_at "S"
                exact ⟨bit_ne mm p, _, _, rfl, FP1, NP1⟩
              · rintro b s' ⟨rfl, hB3, tkB3, rfl, FB3, NB3⟩
                dsimp only [frMap] at FB3
                dsimp only [nwOf] at NB3
                (try dsimp only)
                unfold stepS
                by_cases hb : mm &&& p ≠ 0
                · rw [if_pos (decide_eq_true hb)]
                  rw [if_pos hb]
                  iterate 18 walk_at "S"
                  repeat walk_at "S"
                  rename_i D2 ws2 hD3 hI2 lD2 hD4 FD2 ND2
                  refine' ⟨rfl, D2, ws2, _, _, _, rfl, fr_eq FD2 (sums_dup _ _ _), ?nn, hI2, ?oo⟩
                  case nn => refine' cb_drop ND2 ?cbS; (case cbS => kcj_all)
                  case oo => refine ⟨?_, ?_, ?_, ?_, ?_, ?_, ?_, ?_, ?_⟩ <;> omega
                · rw [if_neg (by simpa using hb)]
                  rw [if_neg hb]
                  walk_at "S"
                  exact ⟨rfl, _, _, _, _, _, rfl, FB3, NB3, hz, nS0⟩
            · rintro f s' ⟨rfl, S2, vs2, n2, hG, tkG, rfl, FG, NG, hz2, nS2⟩
              dsimp only [tObj] at NG
              (try dsimp only)
              walk_at "S"
              show UnrEndW _ _ _ _ _ _
              refine UnrEndW.intro FG NG _ ⟨.head _, trivial⟩ (subL_tail (I2, o)) ?_ ⟨⟨.head _, trivial⟩, ps, S2, vs2, n2, stepS mm zs p, oP1, hr, fun q hq => hp8 q (.tail _ hq), hz2, len_step hl, hf, fun _ => rfl, ⟨_, dP1⟩, rfl, nS2⟩
              exact ⟨⟨.inl (Nat.ne_of_lt I2o.1), trivial⟩, ⟨.inl nS2.1, trivial⟩, ⟨.inl (Nat.ne_of_lt I2o.2.2.1), trivial⟩, ⟨.inl (Nat.ne_of_lt I2o.2.2.2.1), trivial⟩, ⟨.inl (Nat.ne_of_lt I2o.2.2.2.2.1), trivial⟩, ⟨.inl (Nat.ne_of_lt I2o.2.2.2.2.2.1), trivial⟩, ⟨.inl (Nat.ne_of_lt I2o.2.2.2.2.2.2.1), trivial⟩, ⟨.inl (Nat.ne_of_lt I2o.2.2.2.2.2.2.2.1), trivial⟩, ⟨.inl (Nat.ne_of_lt I2o.2.2.2.2.2.2.2.2), trivial⟩, trivial⟩
          case last =>
            rintro m news ⟨ps, S, vs, n, zs, oP, hr, hp8, hz, hl, hf, em, ⟨v0, hP0⟩, rfl, nS0⟩ h tk F N
            cases ps with
            | cons p ps => cases hr
            | nil =>
            have hf' : zs = sumsL mm := hf
            subst hf'
            have F0 : Fr (ghostOf s1.heap [(124, 120)]) s1.heap.objs.size h (fun y => if y = "sums" then some (.ref S) else lawFrL sl U WW dS dM lF lT o1 o2 o3 o4 y) := fr_eq F em
            have N0 : News (ghostOf s1.heap [(124, 120)]) s1.heap.objs.size h [(S, W.listOf vs.toArray n), (lT, W.listOf vT.toArray nT), (lF, W.listOf vF.toArray nF), (dM, W.listOf vM.toArray nM), (dS, W.listOf vS.toArray nS), (s1.heap.objs.size + 1 + 1, oP), (s1.heap.objs.size + 1, oM), (120, tabObj arr)] := cb_drop N (fun p hp => .tail _ hp)
            clear F N em NS3 hr hf hp8 hl
            (try dsimp only)
            iterate 23 walk_at "S"
            rename_i H hH1 Ho hH2 T2 hT2 NT2 T2o I3 I3o
            refine' itemsRest_inv (keep := [(T2, ?tO2)]) (HeadInv mm (fun y => if y = "heads" then some (.ref H) else if y = "sums" then some (.ref S) else lawFrL sl U WW dS dM lF lT o1 o2 o3 o4 y) (fun vs' n' oP' => [(T2, ?tO2), (H, W.listOf vs'.toArray n'), (S, W.listOf vs.toArray n), (lT, W.listOf vT.toArray nT), (lF, W.listOf vF.toArray nF), (dM, W.listOf vM.toArray nM), (dS, W.listOf vS.toArray nS), (s1.heap.objs.size + 1 + 1, oP'), (s1.heap.objs.size + 1, oM), (120, tabObj arr)]) (headsL mm)) ?step ?last _ _ _ ?ini
            case ini =>
              refine ⟨[8, 4, 2, 1], _, 0, [0], oP, ?_, by decide, .cons _ _ .nil, by decide, by decide, rfl, fun _ => rfl, ⟨_, hP0⟩, rfl⟩
              exact .cons _ _ (.cons _ _ (.cons _ _ (.cons _ _ .nil)))
            case step =>
              rintro v r m news ⟨ps, hs, hn, zs, oP1, hr, hp8, hzh, hz1, hl, hf, em, ⟨v1, hP1⟩, rfl⟩ h tk o ho F N
              cases ps with
              | nil => cases hr
              | cons p ps =>
              cases hr with
              | cons _ tp hr =>
              have F0 := fr_eq F em
              have N0 : News (ghostOf s1.heap [(124, 120)]) s1.heap.objs.size h _ := N
              clear F N em NT2
              (try dsimp only)
              iterate 4 walk_at "S"
              rename_i hP2 oP2 FP2 NP2 dP2
              have hpp : p ≤ 8 := hp8 p (.head _)
              have hzl : zs.length ≤ 16 := by omega
              have hzv : hs.length = zs.length := hzh.length
              refine mono2 (Q := PostF (ghostOf s1.heap [(124, 120)]) s1.heap.objs.size (frMap FP2) (fun vs' n' => (I3, o) :: [(T2, tObj NP2), (H, W.listOf vs'.toArray n'), (S, W.listOf vs.toArray n), (lT, W.listOf vT.toArray nT), (lF, W.listOf vF.toArray nF), (dM, W.listOf vM.toArray nM), (dS, W.listOf vS.toArray nS), (s1.heap.objs.size + 1 + 1, oP2), (s1.heap.objs.size + 1, oM), (120, tabObj arr)]) s1 (stepH mm zs p)) ?_ ?_
              · repeat walk_at "ST"
                refine mono2 (Q := PostB (ghostOf s1.heap [(124, 120)]) s1.heap.objs.size (frMap FP2) (nwOf NP2) s1 (decide (mm &&& p ≠ 0))) ?_ ?_
                · iterate 8 walk_at "S"
                  exact ⟨bit_ne mm p, _, _, rfl, FP2, NP2⟩
                · rintro b s' ⟨rfl, hB3, tkB3, rfl, FB3, NB3⟩
                  dsimp only [frMap] at FB3
                  dsimp only [nwOf] at NB3
                  (try dsimp only)
                  unfold stepH
                  by_cases hb : mm &&& p ≠ 0
                  · rw [if_pos (decide_eq_true hb)]
                    rw [if_pos hb]
                    iterate 18 walk_at "S"
                    repeat walk_at "S"
                    rename_i hA2 FA2 NA2
                    rw [← push_eq] at NA2
                    rw [← last_eq hz1]
                    exact ⟨rfl, _, _, _, _, rfl, FA2, NA2, IntsAre.append hzh (.cons _ _ .nil)⟩
                  · rw [if_neg (by simpa using hb)]
                    rw [if_neg hb]
                    walk_at "S"
                    exact ⟨rfl, _, _, _, _, rfl, FB3, NB3, hzh⟩
              · rintro f s' ⟨rfl, vs2, n2, hG, tkG, rfl, FG, NG, hz2⟩
                dsimp only [tObj] at NG
                dsimp only [frMap] at FG
                (try dsimp only)
                walk_at "S"
                show UnrEndW _ _ _ _ _ _
                refine UnrEndW.intro FG NG _ ⟨.head _, trivial⟩ (subL_tail (I3, o)) ?_ ⟨⟨.head _, trivial⟩, ps, vs2, n2, stepH mm zs p, oP2, hr, fun q hq => hp8 q (.tail _ hq), hz2, stepH_pos hz1, len_stepH hl, hf, fun _ => rfl, ⟨_, dP2⟩, rfl⟩
                exact ⟨⟨.inl (Nat.ne_of_lt I3o.1), trivial⟩, ⟨.inl (Nat.ne_of_lt I3o.2.1), trivial⟩, ⟨.inl (Nat.ne_of_lt I3o.2.2.1), trivial⟩, ⟨.inl (Nat.ne_of_lt I3o.2.2.2.1), trivial⟩, ⟨.inl (Nat.ne_of_lt I3o.2.2.2.2.1), trivial⟩, ⟨.inl (Nat.ne_of_lt I3o.2.2.2.2.2.1), trivial⟩, ⟨.inl (Nat.ne_of_lt I3o.2.2.2.2.2.2.1), trivial⟩, ⟨.inl (Nat.ne_of_lt I3o.2.2.2.2.2.2.2.1), trivial⟩, ⟨.inl (Nat.ne_of_lt I3o.2.2.2.2.2.2.2.2.1), trivial⟩, ⟨.inl (Nat.ne_of_lt I3o.2.2.2.2.2.2.2.2.2), trivial⟩, trivial⟩
            case last =>
              rintro m news ⟨ps, hs, hn, zs, oP1, hr, hp8, hzh, hz1, hl, hf, em, ⟨v1, hP1⟩, rfl⟩ h tk F N
              cases ps with
              | cons p ps => cases hr
              | nil =>
              have hf' : zs = headsL mm := hf
              subst hf'
              have F0 := fr_eq F em
              have N0 : News (ghostOf s1.heap [(124, 120)]) s1.heap.objs.size h [(H, W.listOf hs.toArray hn), (S, W.listOf vs.toArray n), (lT, W.listOf vT.toArray nT), (lF, W.listOf vF.toArray nF), (dM, W.listOf vM.toArray nM), (dS, W.listOf vS.toArray nS), (s1.heap.objs.size + 1 + 1, oP1), (s1.heap.objs.size + 1, oM), (120, tabObj arr)] := cb_drop N (fun p hp => .tail _ hp)
              clear F N em NT2 hr hf hp8 hl
              (try dsimp only)
              walk_at "S"
              k_dflt (refine Assign_ListComp_T (F₀ := by k_asm) (by rfl) (by with_unfolding_all rfl) (by with_unfolding_all rfl) (by decide) (by rfl) (by decide) (by rfl) (by rfl) (by rfl) ?_)
              iterate 11 walk_at "S"
              k_dflt (refine' tup_src (ks := [1, 2, 3, 4]) (fun k => (mm : Int).fdiv (2 ^ k.toNat)) ?k1 ?k2 ?k3 ?k4 ?k5 ?k6 ?k7 ?k8)
              case k1 => rfl
              case k2 => k_asm
              case k3 => k_asm
              case k4 => k_mem
              case k5 => size_fits
              case k6 => exact .cons _ _ (.cons _ _ (.cons _ _ (.cons _ _ .nil)))
              case k7 =>
                intro gg k t I5 oI5 C5 oC5 D5 m5 ys5 h5 tk5 E5 hk5 hC5 hx5 F5 N5 off5 ne5
                have hkb : 1 ≤ k ∧ k ≤ 4 := by
                  simp only [List.mem_cons, List.not_mem_nil, or_false] at hk5
                  omega
                iterate 4 walk_at "S"
                exact LCg.CompEnd.intro F5 N5 _ (fun p hp => hp) off5 ⟨_, .head _, rfl, _, rfl⟩ ⟨rfl, _, rfl⟩
              case k8 =>
                intro gg ys5 hy5
                rw [halves_i mm hmm] at hy5
                iterate 3 walk_at "S"
                repeat walk_at "ST"
                walk_at "S"
                rename_i D6 h6 F6 N6 o6
                refine mono2 (Q := PostB (ghostOf s1.heap [(124, 120)]) s1.heap.objs.size (frMap F6) (nwOf N6) s1 false) ?_ ?_
                · repeat walk_at "SL"
                  k_dflt (refine LCg.ListComp_U (F₀ := by k_asm) (by with_unfolding_all rfl) (by decide) (by rfl) (by decide) (by rfl) ?_)
                  iterate 1 walk_at "S"
                  k_dflt (refine' texts_src (fun k => Txt.mul (Str.ofString "\\") k) ?k1 ?k2 ?k3 ?k4 ?k5 hy5 ?k7 ?k8)
                  case k1 => rfl
                  case k2 => k_asm
                  case k3 => k_asm
                  case k4 => k_mem
                  case k5 => exact size_4 hy5
                  case k7 =>
                    intro gg k t I6 oI6 C6 oC6 D6 m6 ys6 h6 tk6 E6 hk6 hC6 hx6 F6 N6 off6 ne6
                    have hkb : 0 ≤ k ∧ k ≤ 9 := half_b hmm hk6
                    iterate 4 walk_at "S"
                    exact LCg.CompEnd.intro F6 N6 _ (fun p hp => hp) off6 (.inr ⟨_, by k_mem, rfl, _, rfl⟩) ⟨rfl, _, rfl⟩
                  case k8 =>
                    intro gg ys6 hy6
                    iterate 1 walk_at "S"
                    rename_i D7 h7 tk7 F7 N7 o7
                    k_dflt (refine ne_halves (News.isList (by k_asm) (by k_mem)) (News.isList (by k_asm) (by k_mem)) hTS bs_is (by decide) hy6 (halves_s mm hmm) (by ktr_units) ?_)
                    (try dsimp only)
                    walk_at "S"
                    exact ⟨rfl, _, _, rfl, F7, cb_drop N7 (fun p hp => .tail _ hp)⟩
                rintro b s' ⟨rfl, hB, tkB, rfl, FB, NB⟩
                dsimp only [frMap] at FB
                dsimp only [nwOf] at NB
                clear F6 N6
                (try dsimp only)
                rw [if_neg Bool.false_ne_true]
                refine mono2 (Q := PostB (ghostOf s1.heap [(124, 120)]) s1.heap.objs.size (frMap FB) (nwOf NB) s1 false) ?_ ?_
                · repeat walk_at "SL"
                  k_dflt (refine LCg.ListComp_U (F₀ := by k_asm) (by with_unfolding_all rfl) (by decide) (by rfl) (by decide) (by rfl) ?_)
                  iterate 1 walk_at "S"
                  k_dflt (refine' texts_src (fun k => Txt.mul (Str.ofString "\"") k) ?k1 ?k2 ?k3 ?k4 ?k5 hy5 ?k7 ?k8)
                  case k1 => rfl
                  case k2 => k_asm
                  case k3 => k_asm
                  case k4 => k_mem
                  case k5 => exact size_4 hy5
                  case k7 =>
                    intro gg k t I6 oI6 C6 oC6 D6 m6 ys6 h6 tk6 E6 hk6 hC6 hx6 F6 N6 off6 ne6
                    have hkb : 0 ≤ k ∧ k ≤ 9 := half_b hmm hk6
                    iterate 4 walk_at "S"
                    exact LCg.CompEnd.intro F6 N6 _ (fun p hp => hp) off6 (.inr ⟨_, by k_mem, rfl, _, rfl⟩) ⟨rfl, _, rfl⟩
                  case k8 =>
                    intro gg ys6 hy6
                    iterate 1 walk_at "S"
                    rename_i D7 h7 tk7 F7 N7 o7
                    k_dflt (refine ne_halves (News.isList (by k_asm) (by k_mem)) (News.isList (by k_asm) (by k_mem)) hTM dq_is (by decide) hy6 (halves_m mm hmm) (by ktr_units) ?_)
                    (try dsimp only)
                    walk_at "S"
                    iterate 2 walk_at "S"
                    exact ⟨rfl, _, _, rfl, F7, cb_drop N7 (fun p hp => .tail _ hp)⟩
                rintro b s' ⟨rfl, hC, tkC, rfl, FC, NC⟩
                dsimp only [frMap] at FC
                dsimp only [nwOf] at NC
                clear FB NB
                (try dsimp only)
                rw [if_neg Bool.false_ne_true]
                repeat walk_at "SR"
                rename_i X1 hX1 X1o X2 hX2 FX2 NX2 X2o
                k_dflt (refine' eq_pairs hmm ?m1 ?c1 ?d1 ?m2 ?c2 ?d2 (News.isList NX2 (by k_mem)) (News.isList NX2 (by k_mem)) (News.isList NX2 (by k_mem)) (News.isList NX2 (by k_mem)) hIF hIT hz hzh (by ktr_units) ?_)
                case m1 => refine' (NX2 (_, _) ?mm1).1; (case mm1 => k_mem)
                case c1 => rfl
                case d1 => rfl
                case m2 => refine' (NX2 (_, _) ?mm2).1; (case mm2 => k_mem)
                case c2 => rfl
                case d2 => rfl
                exact ⟨rfl, _, _, _, _, arr, rfl, FX2, NX2, by k_mem⟩
end Mine
end
theorem PySem.Challenge.cw_tr0009_01_holds : PySem.Challenge.rw_tr0009_01.Holds := by
  exact Mine.t
